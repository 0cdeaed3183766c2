import PyProof.Rows.All
import Wide.All
import OpenK.AllK
import Wide.FinOn
import PySem.Challenge.RW_ny0304_03
set_option Elab.async false
set_option linter.all false
set_option maxRecDepth 1000000
set_option maxHeartbeats 8000000
set_option compiler.extract_closed false
namespace Mine
open PySem PySem.W PyProof.Rows
/-- what a value says -/
inductive MV where
  | none
  | bool (b : Bool)
  | int (i : Int)
  | str (s : Str)
  | list (xs : List MV)
  | tuple (xs : List MV)
  | obj (v : Value)
  | deq
  deriving Inhabited
/-- an empty deque -/
noncomputable def DeqAt (h : Heap) (p : Addr) : Prop := ∃ o n t, h.get? p = some o ∧ o.cls = .type "collections.deque" ∧ o.data = .fields #[.none, .int n t]
mutual
noncomputable def VIn (h : Heap) (O : List Addr) : MV → Value → Prop
  | .none, v => v = .none
  | .bool b, v => v = .bool b
  | .int i, v => ∃ t, v = .int i t
  | .str x, v => ∃ t, v = .str x t
  | .list xs, v => ∃ a vs, v = .ref a ∧ a ∉ O ∧ h.IsList a vs.toArray ∧ VIns h O xs vs
  | .tuple xs, v => ∃ a vs, v = .ref a ∧ a ∉ O ∧ h.IsTuple a vs.toArray ∧ VIns h O xs vs
  | .obj u, v => v = u
  | .deq, v => ∃ p, v = .ref p ∧ DeqAt h p
noncomputable def VIns (h : Heap) (O : List Addr) : List MV → List Value → Prop
  | [], vs => vs = []
  | x :: xs, vs => ∃ v r, vs = v :: r ∧ VIn h O x v ∧ VIns h O xs r
end
/-- but for the slots of the frames S all is kept -/
noncomputable def KS (S : List Addr) (h h' : Heap) : Prop := ∀ b o, h.get? b = some o → (b ∉ S → h'.get? b = some o) ∧ ∃ o', h'.get? b = some o' ∧ o'.data = o.data ∧ o'.cls = o.cls ∧ o'.dict = o.dict
theorem KS.refl {S : List Addr} (h : Heap) : KS S h h := fun b o e => ⟨fun _ => e, o, e, rfl, rfl, rfl⟩
theorem KS.trans {S : List Addr} {h₁ h₂ h₃ : Heap} (x : KS S h₁ h₂) (y : KS S h₂ h₃) : KS S h₁ h₃ := fun b o e => by
  obtain ⟨x1, o', e', d1, d2, d3⟩ := x b o e
  obtain ⟨y1, o'', e'', f1, f2, f3⟩ := y b o' e'
  refine ⟨fun hb => ?_, o'', e'', f1.trans d1, f2.trans d2, f3.trans d3⟩
  exact (y b o (x1 hb)).1 hb
theorem KS.of_keep {S : List Addr} {h h' : Heap} (k : ∀ b o, h.get? b = some o → h'.get? b = some o) : KS S h h' := fun b o e => ⟨fun _ => k b o e, o, k b o e, rfl, rfl, rfl⟩
theorem KS.keep {h h' : Heap} (x : KS [] h h') : ∀ b o, h.get? b = some o → h'.get? b = some o := fun b o e => (x b o e).1 (by simp)
theorem KS.mono {S S' : List Addr} {h h' : Heap} (x : KS S h h') (hs : ∀ a ∈ S, a ∈ S') : KS S' h h' := fun b o e => ⟨fun hb => (x b o e).1 fun q => hb (hs b q), (x b o e).2⟩
theorem KS.isList {S : List Addr} {h h' : Heap} (x : KS S h h') {a : Addr} {its : Array Value} (y : h.IsList a its) : h'.IsList a its := by
  obtain ⟨o, e, c, n, d⟩ := y
  obtain ⟨_, o', e', d1, d2, d3⟩ := x a o e
  exact ⟨o', e', d2.trans c, n, d1.trans d⟩
theorem KS.isTuple {S : List Addr} {h h' : Heap} (x : KS S h h') {a : Addr} {its : Array Value} (y : h.IsTuple a its) : h'.IsTuple a its := by
  obtain ⟨o, e, c, n, d⟩ := y
  obtain ⟨_, o', e', d1, d2, d3⟩ := x a o e
  exact ⟨o', e', d2.trans c, n, d1.trans d⟩
theorem KS.ns {S : List Addr} {h h' : Heap} (x : KS S h h') {a : Addr} {m : Str → Option Value} (y : h.Ns a m) : h'.Ns a m := by
  obtain ⟨o, es, ep, e, d, r⟩ := y
  obtain ⟨_, o', e', d1, d2, d3⟩ := x a o e
  exact ⟨o', es, ep, e', d1.trans d, r⟩
theorem KS.isCell {S : List Addr} {h h' : Heap} (x : KS S h h') {a : Addr} {v : Option Value} (y : h.IsCell a v) : h'.IsCell a v := by
  obtain ⟨o, e, d⟩ := y
  obtain ⟨_, o', e', d1, d2, d3⟩ := x a o e
  exact ⟨o', e', d1.trans d⟩
theorem KS.deq {S : List Addr} {h h' : Heap} (x : KS S h h') {p : Addr} (y : DeqAt h p) : DeqAt h' p := by
  obtain ⟨o, n, t, e, c, d⟩ := y
  obtain ⟨_, o', e', d1, d2, d3⟩ := x p o e
  exact ⟨o', n, t, e', d2.trans c, d1.trans d⟩
mutual
theorem VIn.to {h h' : Heap} {O O' : List Addr} (hl : ∀ a its, a ∉ O → h.IsList a its → h'.IsList a its ∧ a ∉ O') (ht : ∀ a its, a ∉ O → h.IsTuple a its → h'.IsTuple a its ∧ a ∉ O') (hq : ∀ p, DeqAt h p → DeqAt h' p) : ∀ {m : MV} {v : Value}, VIn h O m v → VIn h' O' m v
  | .none, _, x => x
  | .bool _, _, x => x
  | .int _, _, x => x
  | .str _, _, x => x
  | .list xs, v, x => by
    obtain ⟨a, vs, e, n, l, r⟩ := x
    exact ⟨a, vs, e, (hl a _ n l).2, (hl a _ n l).1, VIns.to hl ht hq r⟩
  | .tuple xs, v, x => by
    obtain ⟨a, vs, e, n, l, r⟩ := x
    exact ⟨a, vs, e, (ht a _ n l).2, (ht a _ n l).1, VIns.to hl ht hq r⟩
  | .obj _, _, x => x
  | .deq, _, x => let ⟨p, e, d⟩ := x; ⟨p, e, hq p d⟩
theorem VIns.to {h h' : Heap} {O O' : List Addr} (hl : ∀ a its, a ∉ O → h.IsList a its → h'.IsList a its ∧ a ∉ O') (ht : ∀ a its, a ∉ O → h.IsTuple a its → h'.IsTuple a its ∧ a ∉ O') (hq : ∀ p, DeqAt h p → DeqAt h' p) : ∀ {ms : List MV} {vs : List Value}, VIns h O ms vs → VIns h' O' ms vs
  | [], _, x => x
  | m :: ms, vs, x => by
    obtain ⟨v, r, e, a, b⟩ := x
    exact ⟨v, r, e, VIn.to hl ht hq a, VIns.to hl ht hq b⟩
end
theorem VIn.ks {S O : List Addr} {h h' : Heap} (k : KS S h h') {m : MV} {v : Value} (x : VIn h O m v) : VIn h' O m v := x.to (fun _ _ n l => ⟨k.isList l, n⟩) (fun _ _ n l => ⟨k.isTuple l, n⟩) (fun _ d => k.deq d)
theorem VIns.ks {S O : List Addr} {h h' : Heap} (k : KS S h h') {m : List MV} {v : List Value} (x : VIns h O m v) : VIns h' O m v := x.to (fun _ _ n l => ⟨k.isList l, n⟩) (fun _ _ n l => ⟨k.isTuple l, n⟩) (fun _ d => k.deq d)
theorem IsList.some {h : Heap} {a : Addr} {its : Array Value} (x : h.IsList a its) : ∃ o, h.get? a = some o := let ⟨o, e, _⟩ := x; ⟨o, e⟩
theorem VIn.more {O O' : List Addr} {h : Heap} (k : ∀ a ∈ O', a ∈ O ∨ h.get? a = Option.none) {m : MV} {v : Value} (x : VIn h O m v) : VIn h O' m v :=
  x.to (fun a _ n l => ⟨l, fun q => by
      rcases k a q with q | q
      · exact n q
      · obtain ⟨o, e, _⟩ := l; rw [q] at e; cases e⟩)
    (fun a _ n l => ⟨l, fun q => by
      rcases k a q with q | q
      · exact n q
      · obtain ⟨o, e, _⟩ := l; rw [q] at e; cases e⟩) (fun _ d => d)
theorem VIns.more {O O' : List Addr} {h : Heap} (k : ∀ a ∈ O', a ∈ O ∨ h.get? a = Option.none) {m : List MV} {v : List Value} (x : VIns h O m v) : VIns h O' m v :=
  x.to (fun a _ n l => ⟨l, fun q => by
      rcases k a q with q | q
      · exact n q
      · obtain ⟨o, e, _⟩ := l; rw [q] at e; cases e⟩)
    (fun a _ n l => ⟨l, fun q => by
      rcases k a q with q | q
      · exact n q
      · obtain ⟨o, e, _⟩ := l; rw [q] at e; cases e⟩) (fun _ d => d)
theorem VIns.length {h : Heap} {O : List Addr} : ∀ {ms : List MV} {vs : List Value}, VIns h O ms vs → vs.length = ms.length
  | [], _, x => by rw [show _ = [] from x]; rfl
  | m :: ms, vs, x => by
    obtain ⟨v, r, e, a, b⟩ := x
    rw [e, List.length_cons, List.length_cons, VIns.length b]
theorem VIns.get {h : Heap} {O : List Addr} : ∀ {ms : List MV} {vs : List Value}, VIns h O ms vs → ∀ {i : Nat} {m : MV}, ms[i]? = some m → ∃ v, vs[i]? = some v ∧ VIn h O m v
  | [], _, x, i, m, e => by simp at e
  | m :: ms, vs, x, i, m', e => by
    obtain ⟨v, r, rfl, a, b⟩ := x
    cases i with
    | zero => simp at e; subst e; exact ⟨v, rfl, a⟩
    | succ i => simp at e; simpa using VIns.get b e
theorem VIns.append {h : Heap} {O : List Addr} : ∀ {ms ms' : List MV} {vs vs' : List Value}, VIns h O ms vs → VIns h O ms' vs' → VIns h O (ms ++ ms') (vs ++ vs')
  | [], _, vs, _, x, y => by rw [show vs = [] from x]; exact y
  | m :: ms, ms', vs, vs', x, y => by
    obtain ⟨v, r, rfl, a, b⟩ := x
    exact ⟨v, r ++ vs', rfl, a, VIns.append b y⟩
theorem VIns.one {h : Heap} {O : List Addr} {m : MV} {v : Value} (x : VIn h O m v) : VIns h O [m] [v] := ⟨v, [], rfl, x, rfl⟩
/-- but for the slots of the frames S and the objects B all is kept -/
noncomputable def KM (S B : List Addr) (h h' : Heap) : Prop := ∀ b o, h.get? b = some o → b ∉ B → (b ∉ S → h'.get? b = some o) ∧ ∃ o', h'.get? b = some o' ∧ o'.data = o.data ∧ o'.cls = o.cls ∧ o'.dict = o.dict
theorem KS.km {S B : List Addr} {h h' : Heap} (x : KS S h h') : KM S B h h' := fun b o e _ => x b o e
theorem KM.ks {S : List Addr} {h h' : Heap} (x : KM S [] h h') : KS S h h' := fun b o e => x b o e (by simp)
theorem KM.trans {S B : List Addr} {h₁ h₂ h₃ : Heap} (x : KM S B h₁ h₂) (y : KM S B h₂ h₃) : KM S B h₁ h₃ := fun b o e hB => by
  obtain ⟨x1, o', e', d1, d2, d3⟩ := x b o e hB
  obtain ⟨y1, o'', e'', f1, f2, f3⟩ := y b o' e' hB
  refine ⟨fun hb => ?_, o'', e'', f1.trans d1, f2.trans d2, f3.trans d3⟩
  exact (y b o (x1 hb) hB).1 hb
/-- what a value of no list says -/
noncomputable def ScV (h : Heap) : MV → Value → Prop
  | .none, v => v = .none
  | .bool b, v => v = .bool b
  | .int i, v => ∃ t, v = .int i t
  | .str x, v => ∃ t, v = .str x t
  | .obj u, v => v = u
  | .deq, v => ∃ p, v = .ref p ∧ DeqAt h p
  | _, _ => False
theorem ScV.vin {h : Heap} {O : List Addr} : ∀ {m : MV} {v : Value}, ScV h m v → VIn h O m v
  | .none, _, x => x
  | .bool _, _, x => x
  | .int _, _, x => x
  | .str _, _, x => x
  | .obj _, _, x => x
  | .deq, _, x => x
theorem ScV.to {h h' : Heap} (hq : ∀ p, DeqAt h p → DeqAt h' p) : ∀ {m : MV} {v : Value}, ScV h m v → ScV h' m v
  | .none, _, x => x
  | .bool _, _, x => x
  | .int _, _, x => x
  | .str _, _, x => x
  | .obj _, _, x => x
  | .deq, _, x => let ⟨p, e, d⟩ := x; ⟨p, e, hq p d⟩
/-- an object's fields -/
noncomputable def fget : List (Str × MV) → Str → Option MV
  | [], _ => none
  | (y, m) :: r, x => if y = x then some m else fget r x
noncomputable def fput : List (Str × MV) → Str → MV → List (Str × MV)
  | [], x, m => [(x, m)]
  | (y, c) :: r, x, m => if y = x then (x, m) :: r else (y, c) :: fput r x m
theorem fget_fput (fs : List (Str × MV)) (x y : Str) (m : MV) : fget (fput fs x m) y = if x = y then some m else fget fs y := by
  induction fs with
  | nil => simp [fput, fget]
  | cons p r ih =>
    obtain ⟨z, c⟩ := p
    by_cases hz : z = x
    · subst hz; by_cases hy : z = y <;> simp [fput, fget, hy]
    · by_cases hy : z = y
      · subst hy; simp [fput, fget, hz, Ne.symm hz]
      · simp [fput, fget, hz, hy, ih]
noncomputable def Flds (h : Heap) (fs : List (Str × MV)) (mA : Str → Option Value) : Prop := ∀ x, match fget fs x with | none => mA x = none | some m => ∃ v, mA x = some v ∧ ScV h m v
theorem Flds.to {h h' : Heap} {fs : List (Str × MV)} {mA : Str → Option Value} (hq : ∀ p, DeqAt h p → DeqAt h' p) (x : Flds h fs mA) : Flds h' fs mA := fun n => by
  have := x n
  cases e : fget fs n with
  | none => rw [e] at this; exact this
  | some m => rw [e] at this; obtain ⟨v, a, b⟩ := this; exact ⟨v, a, b.to hq⟩
/-- what a name holds: a value that stands, a list of the frame's own, or (a name of no frame's) an object with its fields -/
inductive Bd where
  | fz (m : MV)
  | own (a : Addr) (xs : List MV)
  | inst (a C d : Addr) (fs : List (Str × MV))
  deriving Inhabited
structure InstIs (h : Heap) (a C d : Addr) (fs : List (Str × MV)) : Prop where
  at_ : ∃ sl, h.get? a = some ⟨.ref C, some d, .plain, sl⟩
  ne : d ≠ a
  fl : ∃ mA, h.Ns1 d mA ∧ Flds h fs mA
noncomputable def BIn (h : Heap) (O : List Addr) : Bd → Value → Prop
  | .fz m, v => VIn h O m v
  | .own a xs, v => v = .ref a ∧ ∃ vs : List Value, h.PlainList a vs.toArray ∧ VIns h O xs vs
  | .inst a C d fs, v => v = .ref a ∧ InstIs h a C d fs
theorem KS.ns1 {S : List Addr} {h h' : Heap} (x : KS S h h') {a : Addr} {m : Str → Option Value} (y : h.Ns1 a m) : h'.Ns1 a m := by
  obtain ⟨o, es, ep, e, d, r⟩ := y
  obtain ⟨_, o', e', d1, d2, d3⟩ := x a o e
  exact ⟨o', es, ep, e', d1.trans d, r⟩
theorem InstIs.ks {S : List Addr} {h h' : Heap} (k : KS S h h') {a C d : Addr} {fs : List (Str × MV)} (x : InstIs h a C d fs) : InstIs h' a C d fs := by
  obtain ⟨⟨sl, e⟩, n, mA, y, f⟩ := x
  obtain ⟨_, o', e', d1, d2, d3⟩ := k a _ e
  refine ⟨⟨o'.slots, ?_⟩, n, mA, k.ns1 y, f.to fun _ q => k.deq q⟩
  obtain ⟨c, di, da, sl'⟩ := o'
  cases d1; cases d2; cases d3
  exact e'
theorem DeqAt.off {h h' : Heap} {L p : Addr} {o : Obj} (e : h.get? L = some o) (hf : ∀ vs, o.data ≠ .fields vs) (hs : Heap.SameBut L h h') (x : DeqAt h p) : DeqAt h' p := by
  obtain ⟨o', n, t, e', c, d⟩ := x
  exact ⟨o', n, t, (hs.2 p (by rintro rfl; rw [e] at e'; cases e'; exact hf _ d)).trans e', c, d⟩
theorem InstIs.off {h h' : Heap} {L a C d : Addr} {fs : List (Str × MV)} {o : Obj} (eo : h.get? L = some o) (hf : ∀ vs, o.data ≠ .fields vs) (hs : Heap.SameBut L h h') (ha : a ≠ L) (hd : d ≠ L) (x : InstIs h a C d fs) : InstIs h' a C d fs := by
  obtain ⟨⟨sl, e⟩, n, mA, y, f⟩ := x
  exact ⟨⟨sl, (hs.2 a ha).trans e⟩, n, mA, y.sameBut hs hd, f.to fun _ q => q.off eo hf hs⟩
noncomputable abbrev St := List (Str × Bd)
noncomputable def sget : St → Str → Option Bd
  | [], _ => none
  | (y, b) :: r, x => if y = x then some b else sget r x
noncomputable def sput : St → Str → Bd → St
  | [], x, b => [(x, b)]
  | (y, c) :: r, x, b => if y = x then (x, b) :: r else (y, c) :: sput r x b
noncomputable def owned : St → List Addr
  | [] => []
  | (_, .own a _) :: r => a :: owned r
  | (_, .fz _) :: r => owned r
  | (_, .inst _ _ _ _) :: r => owned r
noncomputable def instA : St → List Addr
  | [] => []
  | (_, .inst a _ d _) :: r => a :: d :: instA r
  | (_, .fz _) :: r => instA r
  | (_, .own _ _) :: r => instA r
theorem sget_sput (σ : St) (x y : Str) (b : Bd) : sget (sput σ x b) y = if x = y then some b else sget σ y := by
  induction σ with
  | nil => simp [sput, sget]
  | cons p r ih =>
    obtain ⟨z, c⟩ := p
    by_cases hz : z = x
    · subst hz; by_cases hy : z = y <;> simp [sput, sget, hy]
    · by_cases hy : z = y
      · subst hy; simp [sput, sget, hz, Ne.symm hz]
      · simp [sput, sget, hz, hy, ih]
theorem owned_sput {σ : St} {x : Str} {m : MV} {a : Addr} (h : a ∈ owned (sput σ x (.fz m))) : a ∈ owned σ := by
  induction σ with
  | nil => simp [sput, owned] at h
  | cons p r ih =>
    obtain ⟨z, c⟩ := p
    by_cases hz : z = x
    · cases c <;> simp_all [sput, owned]
    · cases c <;> simp_all [sput, owned]
      rcases h with h | h
      · exact .inl h
      · exact .inr (ih h)
theorem owned_sput_own {σ : St} {x : Str} {xs : List MV} {a b : Addr} (h : b ∈ owned (sput σ x (.own a xs))) : b = a ∨ b ∈ owned σ := by
  induction σ with
  | nil => simp [sput, owned] at h; exact .inl h
  | cons p r ih =>
    obtain ⟨z, c⟩ := p
    by_cases hz : z = x
    · cases c <;> simp_all [sput, owned]
      rcases h with h | h
      · exact .inl h
      · exact .inr (.inr h)
    · cases c <;> simp_all [sput, owned]
      rcases h with h | h
      · exact .inr (.inl h)
      · rcases ih h with h | h
        · exact .inl h
        · exact .inr (.inr h)
theorem owned_mem {σ : St} {x : Str} {a : Addr} {xs : List MV} (h : sget σ x = some (.own a xs)) : a ∈ owned σ := by
  induction σ with
  | nil => simp [sget] at h
  | cons p r ih =>
    obtain ⟨z, c⟩ := p
    by_cases hz : z = x
    · simp [sget, hz] at h; subst h; simp [owned]
    · simp [sget, hz] at h
      cases c with
      | fz _ => simpa [owned] using ih h
      | own _ _ => simp [owned, ih h]
      | inst _ _ _ _ => simpa [owned] using ih h
theorem instA_mem {σ : St} {x : Str} {a C d : Addr} {fs : List (Str × MV)} (h : sget σ x = some (.inst a C d fs)) : a ∈ instA σ ∧ d ∈ instA σ := by
  induction σ with
  | nil => simp [sget] at h
  | cons p r ih =>
    obtain ⟨z, c⟩ := p
    by_cases hz : z = x
    · simp [sget, hz] at h; subst h; simp [instA]
    · simp [sget, hz] at h
      cases c with
      | fz _ => simpa [instA] using ih h
      | own _ _ => simpa [instA] using ih h
      | inst _ _ _ _ => simp [instA, ih h]
theorem instA_sub {x : Str} {m : MV} : ∀ {σ : St}, (instA (sput σ x (.fz m))).Sublist (instA σ)
  | [] => by simp [sput, instA]
  | (z, c) :: r => by
    by_cases hz : z = x
    · cases c with
      | inst a C d fs => simp only [sput, hz, if_true, instA]; exact ((List.Sublist.refl _).cons _).cons _
      | _ => simp [sput, hz, instA]
    · cases c with
      | inst a C d fs => simp only [sput, hz, if_false, instA]; exact (instA_sub.cons₂ _).cons₂ _
      | _ => simpa [sput, hz, instA] using instA_sub
end Mine
namespace Mine
open PySem PySem.W PyProof.Rows
/-- where code runs: the model, the stack around it, what the heap holds from the top on, whose frames' slots may turn -/
structure Gx where
  prog : Program
  w : World
  n₀ : Nat
  ok : Heap → Prop
  mono : ∀ h h', (∀ b o, b < n₀ → h.get? b = some o → h'.get? b = some o) → ok h → ok h'
  low : ∀ h, ok h → n₀ ≤ h.objs.size
  nolim : ∀ h, ok h → h.NoLimit
structure Cx where
  G : Gx
  A : Around
  hh : A.handled = none
  lvl : Nat
  hd : A.depth ≤ 301 + lvl
  hu : A.units ≤ 4 + 8 * lvl
  hl : lvl ≤ 100
  fs : List Env
  hfs : A.frames = some fs
  S : List Addr
  hS : ∀ a ∈ S, ∃ e ∈ fs, e.frame = some a
  O : List Addr
  mB : List Addr
  ro : Bool
noncomputable abbrev Cx.prog (C : Cx) : Program := C.G.prog
noncomputable abbrev Cx.w (C : Cx) : World := C.G.w
noncomputable abbrev Cx.n₀ (C : Cx) : Nat := C.G.n₀
noncomputable abbrev Cx.ok (C : Cx) : Heap → Prop := C.G.ok
theorem Cx.mono (C : Cx) : ∀ h h', (∀ b o, b < C.n₀ → h.get? b = some o → h'.get? b = some o) → C.ok h → C.ok h' := C.G.mono
noncomputable def Cx.M (C : Cx) : Model := model C.prog C.w
noncomputable def Cx.str (C : Cx) : Cx := { C with S := [], hS := fun _ h => nomatch h }
theorem Cx.room (C : Cx) : C.A.depth < recursionLimit := by have := C.hd; have := C.hl; unfold recursionLimit; omega
theorem Cx.units (C : Cx) : C.A.units < cLine := by have := C.hu; have := C.hl; unfold cLine; omega
noncomputable def FramesIn (n₀ : Nat) (h : Heap) (fs : List Env) : Prop := ∀ e ∈ fs, e.scope.kind ≠ .module ∧ ∃ L o, e.frame = some L ∧ n₀ ≤ L ∧ h.get? L = some o ∧ ∃ es ep, o.data = .dict es ep
theorem FramesIn.ks {n₀ : Nat} {h h' : Heap} {fs : List Env} {S : List Addr} (x : FramesIn n₀ h fs) (k : KS S h h') : FramesIn n₀ h' fs := fun e he => by
  obtain ⟨a, L, o, hf, hn, ho, es, ep, hd⟩ := x e he
  obtain ⟨_, o', e', d1, _⟩ := k L o ho
  exact ⟨a, L, o', hf, hn, e', es, ep, d1.trans hd⟩
noncomputable def VarIs (env : Env) (h : Heap) (x : Str) (P : Value → Prop) : Prop := match env.kindOf x with
  | some .local => ∃ m v, h.Ns env.locals m ∧ m x = some v ∧ P v
  | some .cell | some .free => ∃ c v, env.cells.lookup x = some c ∧ h.IsCell c (some v) ∧ P v
  | _ => ∃ v, P v
theorem VarIs.to {env : Env} {h h' : Heap} {x : Str} {P P' : Value → Prop} (y : VarIs env h x P) (hn : ∀ m, h.Ns env.locals m → h'.Ns env.locals m) (hc : ∀ c v, env.cells.lookup x = some c → h.IsCell c v → h'.IsCell c v) (hp : ∀ v, P v → P' v) : VarIs env h' x P' := by
  unfold VarIs at *
  split at y
  · obtain ⟨m, v, a, b, c⟩ := y; exact ⟨m, v, hn m a, b, hp v c⟩
  · obtain ⟨c, v, a, b, d⟩ := y; exact ⟨c, v, a, hc c _ a b, hp v d⟩
  · obtain ⟨c, v, a, b, d⟩ := y; exact ⟨c, v, a, hc c _ a b, hp v d⟩
  · obtain ⟨v, d⟩ := y; exact ⟨v, hp v d⟩
/-- the lists that no standing value bears: the frame's own, and those of the frames below -/
noncomputable def Cx.ex (C : Cx) (σ : St) : List Addr := owned σ ++ C.O
structure RelE (C : Cx) (env : Env) (σ : St) (h : Heap) : Prop where
  base : C.ok h
  fr : FramesIn C.n₀ h C.fs
  kind : env.scope.kind = .function
  glob : env.globals = mainGlobals ∧ env.builtins = builtinsNs
  vars : ∀ x b, sget σ x = some b → VarIs env h x (BIn h (C.ex σ) b)
  own : ∀ a ∈ owned σ, ∃ vs : Array Value, h.PlainList a vs
  outer : ∀ a ∈ C.O, ∃ vs : Array Value, h.PlainList a vs
  insN : ∀ b ∈ instA σ, C.n₀ ≤ b ∧ b ≠ env.locals ∧ ∀ e ∈ C.fs, e.frame ≠ some b
  insNd : (instA σ).Nodup
theorem KS.plain {S : List Addr} {h h' : Heap} (x : KS S h h') {a : Addr} {its : Array Value} (y : h.PlainList a its) (ha : a ∉ S) : h'.PlainList a its := by
  obtain ⟨n, e⟩ := y
  exact ⟨n, (x a _ e).1 ha⟩
theorem RelE.notS {C : Cx} {env : Env} {σ : St} {h : Heap} (R : RelE C env σ h) {a : Addr} {o : Obj} (e : h.get? a = some o) (hd : ∀ es ep, o.data ≠ .dict es ep) : a ∉ C.S := fun hs => by
  obtain ⟨ev, hm, hf⟩ := C.hS a hs
  obtain ⟨_, L, o', hf', _, ho, es, ep, hd'⟩ := R.fr ev hm
  rw [hf] at hf'
  cases hf'
  rw [e] at ho
  cases ho
  exact hd es ep hd'
theorem RelE.low {C : Cx} {env : Env} {σ : St} {h : Heap} (R : RelE C env σ h) {b : Addr} (hb : b < C.n₀) : b ∉ C.S := fun hs => by
  obtain ⟨ev, hm, hf⟩ := C.hS b hs
  obtain ⟨_, L, o', hf', hn, _⟩ := R.fr ev hm
  rw [hf] at hf'
  cases hf'
  exact absurd hb (Nat.not_lt.mpr hn)
theorem BIn.ks {S O : List Addr} {h h' : Heap} (k : KS S h h') {b : Bd} {v : Value} (hb : ∀ a xs, b = .own a xs → a ∉ S) (x : BIn h O b v) : BIn h' O b v := by
  cases b with
  | fz m => exact VIn.ks k x
  | own a xs =>
    obtain ⟨e, vs, p, r⟩ := x
    exact ⟨e, vs, k.plain p (hb a xs rfl), r.ks k⟩
  | inst a C d fs => exact ⟨x.1, x.2.ks k⟩
theorem RelE.ks {C : Cx} {env : Env} {σ : St} {h h' : Heap} (R : RelE C env σ h) (k : KS C.S h h') : RelE C env σ h' where
  base := C.mono h h' (fun b o hb e => (k b o e).1 (R.low hb)) R.base
  fr := R.fr.ks k
  kind := R.kind
  glob := R.glob
  vars := fun x b e => by
    have ho : ∀ a ∈ owned σ, a ∉ C.S := fun a ha => by
      obtain ⟨vs, n, q⟩ := R.own a ha
      exact R.notS q (fun es ep => by simp)
    refine (R.vars x b e).to (fun m y => k.ns y) (fun c v _ y => k.isCell y) fun v y => BIn.ks k ?_ y
    rintro a xs rfl
    exact ho a (owned_mem e)
  own := fun a ha => by
    obtain ⟨vs, n, q⟩ := R.own a ha
    exact ⟨vs, k.plain ⟨n, q⟩ (R.notS q (fun es ep => by simp))⟩
  outer := fun a ha => by
    obtain ⟨vs, n, q⟩ := R.outer a ha
    exact ⟨vs, k.plain ⟨n, q⟩ (R.notS q (fun es ep => by simp))⟩
  insN := R.insN
  insNd := R.insNd
theorem RelE.str {C : Cx} {env : Env} {σ : St} {h : Heap} (R : RelE C env σ h) : RelE C.str env σ h := ⟨R.base, R.fr, R.kind, R.glob, R.vars, R.own, R.outer, R.insN, R.insNd⟩
theorem RelE.ofStr {C : Cx} {env : Env} {σ : St} {h : Heap} (R : RelE C.str env σ h) : RelE C env σ h := ⟨R.base, R.fr, R.kind, R.glob, R.vars, R.own, R.outer, R.insN, R.insNd⟩
noncomputable def KSs (S : List Addr) (s s' : Shared) : Prop := ∃ h' tk, s' = { s with heap := h', toks := tk } ∧ KS S s.heap h'
theorem KSs.refl {S : List Addr} (s : Shared) : KSs S s s := ⟨s.heap, s.toks, rfl, .refl _⟩
theorem KSs.tok {S : List Addr} (s : Shared) (t : Nat) : KSs S s { s with toks := t } := ⟨s.heap, t, rfl, .refl _⟩
theorem KSs.trans {S : List Addr} {s₁ s₂ s₃ : Shared} (x : KSs S s₁ s₂) (y : KSs S s₂ s₃) : KSs S s₁ s₃ := by
  obtain ⟨h, t, rfl, k⟩ := x
  obtain ⟨h', t', rfl, k'⟩ := y
  exact ⟨h', t', rfl, k.trans k'⟩
theorem KSs.of_keeps {S : List Addr} {s s' : Shared} (k : Keeps s s') : KSs S s s' := by
  obtain ⟨h, t, rfl, k⟩ := k
  exact ⟨h, t, rfl, .of_keep k⟩
theorem KSs.keeps {s s' : Shared} (k : KSs [] s s') : Keeps s s' := by
  obtain ⟨h, t, rfl, k⟩ := k
  exact ⟨h, t, rfl, k.keep⟩
theorem KSs.ks {S : List Addr} {s s' : Shared} (x : KSs S s s') : KS S s.heap s'.heap := by obtain ⟨h, t, rfl, k⟩ := x; exact k
theorem KSs.mono {S S' : List Addr} {s s' : Shared} (x : KSs S s s') (hs : ∀ a ∈ S, a ∈ S') : KSs S' s s' := by obtain ⟨h, t, rfl, k⟩ := x; exact ⟨h, t, rfl, k.mono hs⟩
noncomputable abbrev F : Value → Shared → Prop := fun _ _ => False
/-- a value that may be a list of the frame's own (its items stand) -/
noncomputable def VT (h : Heap) (O : List Addr) : MV → Value → Prop
  | .list xs, v => ∃ a vs, v = .ref a ∧ h.IsList a (List.toArray vs) ∧ VIns h O xs vs
  | m, v => VIn h O m v
theorem VIn.t {h : Heap} {O : List Addr} {m : MV} {v : Value} (x : VIn h O m v) : VT h O m v := by
  cases m with
  | list xs => obtain ⟨a, vs, e, _, l, r⟩ := x; exact ⟨a, vs, e, l, r⟩
  | _ => exact x
theorem VT.ks {S O : List Addr} {h h' : Heap} (k : KS S h h') {m : MV} {v : Value} (x : VT h O m v) : VT h' O m v := by
  cases m with
  | list xs => obtain ⟨a, vs, e, l, r⟩ := x; exact ⟨a, vs, e, k.isList l, r.ks k⟩
  | _ => exact VIn.ks k x
noncomputable def Ev (C : Cx) (env : Env) (σ : St) (e : Expr) (m : MV) : Prop :=
  ∀ s, RelE C env σ s.heap → wpAny C.M C.A (eval e env) (fun v s' => KSs C.S s s' ∧ VIn s'.heap (C.ex σ) m v) F s
noncomputable def EvT (C : Cx) (env : Env) (σ : St) (e : Expr) (m : MV) : Prop :=
  ∀ s, RelE C env σ s.heap → wpAny C.M C.A (eval e env) (fun v s' => KSs C.S s s' ∧ VT s'.heap (C.ex σ) m v) F s
noncomputable def EvB (C : Cx) (env : Env) (σ : St) (e : Expr) (b : Bool) : Prop :=
  ∀ s, RelE C env σ s.heap → wpAny C.M C.A (isTrue e env (eval e env)) (fun v s' => KSs C.S s s' ∧ v = b) F s
theorem Ev.t {C : Cx} {env : Env} {σ : St} {e : Expr} {m : MV} (x : Ev C env σ e m) : EvT C env σ e m :=
  fun s R => wpAny_mono (x s R) (fun v s' h => ⟨h.1, h.2.t⟩) fun _ _ h => h
theorem Ev.ofStr {C : Cx} {env : Env} {σ : St} {e : Expr} {m : MV} (x : Ev C.str env σ e m) : Ev C env σ e m :=
  fun s R => wpAny_mono (x s R.str) (fun v s' h => ⟨h.1.mono (fun _ h => nomatch h), h.2⟩) fun _ _ h => h
section
variable {C : Cx} {env : Env} {σ : St}
theorem ev_name_local {x : Str} {m : MV} {p : Pos} (hb : sget σ x = some (.fz m)) (hk : env.kindOf x = some .local) (hd : (x == ("__debug__" : Str)) = false) : Ev C env σ (.Name x p) m := fun s R => by
  have hv := R.vars x _ hb
  unfold VarIs at hv
  rw [hk] at hv
  obtain ⟨mm, v, hn, hm, hp⟩ := hv
  exact wpAny_Name (wpAny_loadName_local R.kind hk hn hm ⟨.refl s, hp⟩) hd
theorem ev_name_cell {x : Str} {m : MV} {p : Pos} (hb : sget σ x = some (.fz m)) (hk : env.kindOf x = some .cell) (hd : (x == ("__debug__" : Str)) = false) : Ev C env σ (.Name x p) m := fun s R => by
  have hv := R.vars x _ hb
  unfold VarIs at hv
  rw [hk] at hv
  obtain ⟨c, v, hc, hm, hp⟩ := hv
  exact wpAny_Name (wpAny_loadName_cell R.kind hk hc hm ⟨.refl s, hp⟩) hd
theorem ev_name_free {x : Str} {m : MV} {p : Pos} (hb : sget σ x = some (.fz m)) (hk : env.kindOf x = some .free) (hd : (x == ("__debug__" : Str)) = false) (hc2 : (x == ("__classdict__" : Str)) = false) : Ev C env σ (.Name x p) m := fun s R => by
  have hv := R.vars x _ hb
  unfold VarIs at hv
  rw [hk] at hv
  obtain ⟨c, v, hc, hm, hp⟩ := hv
  exact wpAny_Name (wpAny_loadName_free R.kind hk hc hm ⟨.refl s, hp⟩ hc2) hd
theorem BIn.own_t {h : Heap} {O : List Addr} {a : Addr} {xs : List MV} {v : Value} (x : BIn h O (.own a xs) v) : VT h O (.list xs) v := by
  obtain ⟨rfl, vs, p, r⟩ := x
  exact ⟨a, vs, rfl, p.isList, r⟩
theorem evT_own_local {x : Str} {a : Addr} {xs : List MV} {p : Pos} (hb : sget σ x = some (.own a xs)) (hk : env.kindOf x = some .local) (hd : (x == ("__debug__" : Str)) = false) : EvT C env σ (.Name x p) (.list xs) := fun s R => by
  have hv := R.vars x _ hb
  unfold VarIs at hv
  rw [hk] at hv
  obtain ⟨mm, v, hn, hm, hp⟩ := hv
  exact wpAny_Name (wpAny_loadName_local R.kind hk hn hm ⟨.refl s, hp.own_t⟩) hd
theorem evT_own_cell {x : Str} {a : Addr} {xs : List MV} {p : Pos} (hb : sget σ x = some (.own a xs)) (hk : env.kindOf x = some .cell) (hd : (x == ("__debug__" : Str)) = false) : EvT C env σ (.Name x p) (.list xs) := fun s R => by
  have hv := R.vars x _ hb
  unfold VarIs at hv
  rw [hk] at hv
  obtain ⟨c, v, hc, hm, hp⟩ := hv
  exact wpAny_Name (wpAny_loadName_cell R.kind hk hc hm ⟨.refl s, hp.own_t⟩) hd
theorem ev_int {i : Int} {k : Nat} {p : Pos} : Ev C env σ (.Constant (.int i) k p) (.int i) := fun s R => wpAny_Constant_int ⟨.tok s _, _, rfl⟩
theorem ev_str {x : Str} {k : Nat} {p : Pos} : Ev C env σ (.Constant (.str x) k p) (.str x) := fun s R => Calls.Constant_str ⟨.tok s _, _, rfl⟩
theorem ev_none {k : Nat} {p : Pos} : Ev C env σ (.Constant .none k p) .none := fun s R => fun _ _ _ => ⟨.refl s, rfl⟩
theorem ev_bool {b : Bool} {k : Nat} {p : Pos} : Ev C env σ (.Constant (.bool b) k p) (.bool b) := fun s R => fun _ _ _ => ⟨.refl s, rfl⟩
/-- what a binary operation yields -/
noncomputable def Bin (C : Cx) (op : Operator) (a b r : MV) : Prop :=
  ∀ s O va vb, (∀ x ∈ O, ∃ o, s.heap.get? x = some o) → VT s.heap O a va → VT s.heap O b vb → wpAny C.M C.A (binaryOp op va vb) (fun v s' => KSs [] s s' ∧ VIn s'.heap O r v) F s
noncomputable def Cmp (C : Cx) (op : CmpOp) (a b : MV) (r : Bool) : Prop :=
  ∀ s O va vb, (∀ x ∈ O, ∃ o, s.heap.get? x = some o) → VT s.heap O a va → VT s.heap O b vb → wpAny C.M C.A (compareOp op va vb) (fun v s' => KSs [] s s' ∧ v = .bool r) F s
theorem RelE.exO {h : Heap} (R : RelE C env σ h) : ∀ x ∈ C.ex σ, ∃ o, h.get? x = some o := fun x hx => (List.mem_append.mp hx).elim (fun hx => let ⟨_, _, e⟩ := R.own x hx; ⟨_, e⟩) (fun hx => let ⟨_, _, e⟩ := R.outer x hx; ⟨_, e⟩)
theorem nil_sub {S : List Addr} : ∀ a ∈ ([] : List Addr), a ∈ S := fun _ h => nomatch h
theorem ev_binop {l r : Expr} {op : Operator} {p : Pos} {a b c : MV} (hl : EvT C env σ l a) (hr : EvT C env σ r b) (ho : Bin C op a b c) : Ev C env σ (.BinOp l op r p) c := fun s R => by
  refine wpAny_BinOp (wpAny_mono (hl s R) (fun va s₁ h₁ => ?_) fun _ _ h => h)
  obtain ⟨k₁, v₁⟩ := h₁
  refine wpAny_mono (hr s₁ (R.ks k₁.ks)) (fun vb s₂ h₂ => ?_) fun _ _ h => h
  obtain ⟨k₂, v₂⟩ := h₂
  refine wpAny_mono (ho s₂ _ va vb ((R.ks k₁.ks).ks k₂.ks).exO (v₁.ks k₂.ks) v₂) (fun v s₃ h₃ => ?_) fun _ _ h => h
  exact ⟨(k₁.trans k₂).trans (h₃.1.mono nil_sub), h₃.2⟩
theorem ev_cmp {l r : Expr} {op : CmpOp} {p : Pos} {a b : MV} {c : Bool} (hl : EvT C env σ l a) (hr : EvT C env σ r b) (ho : Cmp C op a b c) (hm : behindInMarks op r = false) : Ev C env σ (.Compare l [op] [r] p) (.bool c) := fun s R => by
  refine wpAny_Compare1 (wpAny_mono (hl s R) (fun va s₁ h₁ => ?_) fun _ _ h => h) hm
  obtain ⟨k₁, v₁⟩ := h₁
  refine wpAny_mono (hr s₁ (R.ks k₁.ks)) (fun vb s₂ h₂ => ?_) fun _ _ h => h
  obtain ⟨k₂, v₂⟩ := h₂
  refine wpAny_mono (ho s₂ _ va vb ((R.ks k₁.ks).ks k₂.ks).exO (v₁.ks k₂.ks) v₂) (fun v s₃ h₃ => ?_) fun _ _ h => h
  exact ⟨(k₁.trans k₂).trans (h₃.1.mono nil_sub), h₃.2⟩
theorem evB_cmp {l r : Expr} {op : CmpOp} {p : Pos} {a b : MV} {c : Bool} (hl : EvT C env σ l a) (hr : EvT C env σ r b) (ho : Cmp C op a b c) (hm : behindInMarks op r = false) : EvB C env σ (.Compare l [op] [r] p) c := fun s R => by
  refine wpAny_isTrue_Compare1 (wpAny_mono (hl s R) (fun va s₁ h₁ => ?_) fun _ _ h => h) hm
  obtain ⟨k₁, v₁⟩ := h₁
  refine wpAny_mono (hr s₁ (R.ks k₁.ks)) (fun vb s₂ h₂ => ?_) fun _ _ h => h
  obtain ⟨k₂, v₂⟩ := h₂
  refine wpAny_mono (ho s₂ _ va vb ((R.ks k₁.ks).ks k₂.ks).exO (v₁.ks k₂.ks) v₂) (fun v s₃ h₃ => ?_) fun _ _ h => h
  obtain ⟨k₃, rfl⟩ := h₃
  exact wpAny_truthy_bool ⟨(k₁.trans k₂).trans (k₃.mono nil_sub), rfl⟩
theorem add_int_ {a b : Int} : Bin C .Add (.int a) (.int b) (.int (a + b)) := fun s O va vb _ ha hb => by
  obtain ⟨t, rfl⟩ := ha; obtain ⟨u, rfl⟩ := hb
  exact add_int ⟨.tok s _, _, rfl⟩
theorem sub_int_ {a b : Int} : Bin C .Sub (.int a) (.int b) (.int (a - b)) := fun s O va vb _ ha hb => by
  obtain ⟨t, rfl⟩ := ha; obtain ⟨u, rfl⟩ := hb
  exact sub_int ⟨.tok s _, _, rfl⟩
theorem mul_int_ {a b : Int} (hm : IntMulOk a b) : Bin C .Mult (.int a) (.int b) (.int (a * b)) := fun s O va vb _ ha hb => by
  obtain ⟨t, rfl⟩ := ha; obtain ⟨u, rfl⟩ := hb
  exact PyProof.Rows.mul_int ⟨.tok s _, _, rfl⟩ hm
theorem mod_int_ {a b : Int} (h0 : b ≠ 0) : Bin C .Mod (.int a) (.int b) (.int (a.fmod b)) := fun s O va vb _ ha hb => by
  obtain ⟨t, rfl⟩ := ha; obtain ⟨u, rfl⟩ := hb
  exact mod_int' h0 ⟨.tok s _, _, rfl⟩
theorem div_int_ {a b : Int} (h0 : b ≠ 0) (hp : Builtin.divisionGoesByPylong a b = false) : Bin C .FloorDiv (.int a) (.int b) (.int (a.fdiv b)) := fun s O va vb _ ha hb => by
  obtain ⟨t, rfl⟩ := ha; obtain ⟨u, rfl⟩ := hb
  exact floordiv_int h0 ⟨.tok s _, _, rfl⟩ (.inl hp)
theorem pow_int_ {a n : Int} (h0 : 0 ≤ n) (h1 : n ≤ 1000000) (ha' : a.natAbs < 2 ^ 64) : Bin C .Pow (.int a) (.int n) (.int (a ^ n.toNat)) := fun s O va vb _ ha hb => by
  obtain ⟨t, rfl⟩ := ha; obtain ⟨u, rfl⟩ := hb
  exact pow_int_small h0 h1 ha' ⟨.tok s _, _, rfl⟩
theorem add_str_ {x y : Str} (hsz : x.length + y.length ≤ sizeLine) : Bin C .Add (.str x) (.str y) (.str (x ++ y)) := fun s O va vb _ ha hb => by
  obtain ⟨t, rfl⟩ := ha; obtain ⟨u, rfl⟩ := hb
  exact PyProof.Rows.add_str (fun t' tk => ⟨.tok s _, _, rfl⟩) hsz
theorem eq_int_ {a b : Int} : Cmp C .Eq (.int a) (.int b) (a == b) := fun s O va vb _ ha hb => by
  obtain ⟨t, rfl⟩ := ha; obtain ⟨u, rfl⟩ := hb
  exact eq_int ⟨.refl s, rfl⟩
theorem ne_int_ {a b : Int} : Cmp C .NotEq (.int a) (.int b) (a != b) := fun s O va vb _ ha hb => by
  obtain ⟨t, rfl⟩ := ha; obtain ⟨u, rfl⟩ := hb
  exact ne_int ⟨.refl s, rfl⟩
theorem lt_int_ {a b : Int} : Cmp C .Lt (.int a) (.int b) (decide (a < b)) := fun s O va vb _ ha hb => by
  obtain ⟨t, rfl⟩ := ha; obtain ⟨u, rfl⟩ := hb
  exact lt_int ⟨.refl s, rfl⟩
theorem gt_int_ {a b : Int} : Cmp C .Gt (.int a) (.int b) (decide (b < a)) := fun s O va vb _ ha hb => by
  obtain ⟨t, rfl⟩ := ha; obtain ⟨u, rfl⟩ := hb
  exact gt_int ⟨.refl s, rfl⟩
theorem eq_str_ {x y : Str} : Cmp C .Eq (.str x) (.str y) (x == y) := fun s O va vb _ ha hb => by
  obtain ⟨t, rfl⟩ := ha; obtain ⟨u, rfl⟩ := hb
  exact PyProof.Rows.eq_str ⟨.refl s, rfl⟩
end
end Mine
namespace Mine
open PySem PySem.W PyProof.Rows
theorem Ns.unique {h : Heap} {a : Addr} {m m' : Str → Option Value} (x : h.Ns a m) (y : h.Ns a m') : m = m' := by
  obtain ⟨o, es, ep, e, d, _, r⟩ := x
  obtain ⟨o', es', ep', e', d', _, r'⟩ := y
  rw [e] at e'; cases e'
  rw [d] at d'; cases d'
  funext n; rw [← r n, ← r' n]
structure Rel (C : Cx) (X : Heap) (env : Env) (σ : St) (h : Heap) : Prop extends RelE C env σ h where
  keepX : KM C.S C.mB X h
  ns : ∃ m, h.Ns env.locals m
  nsX : X.get? env.locals = none
  nsN : C.n₀ ≤ env.locals
  cells : ∀ x c, env.cells.lookup x = some c → (∃ v, h.IsCell c v) ∧ X.get? c = none ∧ C.n₀ ≤ c
  apart : env.cells.Pairwise fun x y => x.2 ≠ y.2
  ownX : ∀ a ∈ owned σ, X.get? a = none
  ownN : ∀ a ∈ owned σ, C.n₀ ≤ a
  ownNd : (owned σ).Nodup
  insX : C.ro = true ∨ ∀ b ∈ instA σ, b ∈ C.mB ∨ X.get? b = none
  outX : ∀ a ∈ C.O, ∃ o, X.get? a = some o
inductive FM where
  | next | brk | cont
  | ret (m : MV)
noncomputable def FRel (C : Cx) (h : Heap) (σ : St) : Flow → FM → Prop
  | .next, .next => True
  | .brk, .brk => True
  | .cont, .cont => True
  | .ret v, .ret m => VIn h (C.ex σ) m v
  | _, _ => False
noncomputable def Post (C : Cx) (X : Heap) (env : Env) (Q : FM → St → Prop) (s : Shared) (fl : Flow) (s' : Shared) : Prop :=
  ∃ h' tk, s' = { s with heap := h', toks := tk } ∧ ∃ fm σ', FRel C h' σ' fl fm ∧ Rel C X env σ' h' ∧ Q fm σ'
noncomputable def wpS (C : Cx) (env : Env) (st : Stmt) (σ : St) (Q : FM → St → Prop) : Prop :=
  ∀ X s, Rel C X env σ s.heap → wpAny C.M C.A (exec st env) (Post C X env Q s) F s
noncomputable def wpSs (C : Cx) (env : Env) (sts : List Stmt) (σ : St) (Q : FM → St → Prop) : Prop :=
  ∀ X s, Rel C X env σ s.heap → wpAny C.M C.A (execs sts env) (Post C X env Q s) F s
section
variable {C : Cx} {env : Env} {σ : St}
theorem Rel.ks {X h h' : Heap} (R : Rel C X env σ h) (k : KS C.S h h') : Rel C X env σ h' where
  toRelE := R.toRelE.ks k
  keepX := R.keepX.trans k.km
  ns := let ⟨m, y⟩ := R.ns; ⟨m, k.ns y⟩
  nsX := R.nsX
  nsN := R.nsN
  cells := fun x c hc => let ⟨⟨v, y⟩, a, b⟩ := R.cells x c hc; ⟨⟨v, k.isCell y⟩, a, b⟩
  apart := R.apart
  ownX := R.ownX
  ownN := R.ownN
  ownNd := R.ownNd
  insX := R.insX
  outX := R.outX
theorem isList_ne {h : Heap} {a L : Addr} {its : Array Value} {o : Obj} (x : h.IsList a its) (e : h.get? L = some o) (hd : ∀ xs n, o.data ≠ .seq xs n) : a ≠ L := by
  rintro rfl
  obtain ⟨o', e', _, n, d⟩ := x
  rw [e] at e'; cases e'
  exact hd _ _ d
theorem isTuple_ne {h : Heap} {a L : Addr} {its : Array Value} {o : Obj} (x : h.IsTuple a its) (e : h.get? L = some o) (hd : ∀ xs n, o.data ≠ .seq xs n) : a ≠ L := by
  rintro rfl
  obtain ⟨o', e', _, n, d⟩ := x
  rw [e] at e'; cases e'
  exact hd _ _ d
/-- one object that is no list and no tuple is changed: what values say stays -/
theorem VIn.off {h h' : Heap} {O O' : List Addr} {L : Addr} {o : Obj} (e : h.get? L = some o) (hd : ∀ xs n, o.data ≠ .seq xs n) (hf : ∀ vs, o.data ≠ .fields vs) (hs : Heap.SameBut L h h') (hO : ∀ a ∈ O', a ∈ O) {m : MV} {v : Value} (x : VIn h O m v) : VIn h' O' m v :=
  x.to (fun a _ n l => ⟨l.extBut hs.extBut (isList_ne l e hd), fun q => n (hO a q)⟩) (fun a _ n l => ⟨l.extBut hs.extBut (isTuple_ne l e hd), fun q => n (hO a q)⟩) (fun _ q => q.off e hf hs)
theorem VIns.off {h h' : Heap} {O O' : List Addr} {L : Addr} {o : Obj} (e : h.get? L = some o) (hd : ∀ xs n, o.data ≠ .seq xs n) (hf : ∀ vs, o.data ≠ .fields vs) (hs : Heap.SameBut L h h') (hO : ∀ a ∈ O', a ∈ O) {m : List MV} {v : List Value} (x : VIns h O m v) : VIns h' O' m v :=
  x.to (fun a _ n l => ⟨l.extBut hs.extBut (isList_ne l e hd), fun q => n (hO a q)⟩) (fun a _ n l => ⟨l.extBut hs.extBut (isTuple_ne l e hd), fun q => n (hO a q)⟩) (fun _ q => q.off e hf hs)
theorem plain_off {h h' : Heap} {L a : Addr} {o : Obj} {its : Array Value} (e : h.get? L = some o) (hd : ∀ xs n, o.data ≠ .seq xs n) (hs : Heap.SameBut L h h') (x : h.PlainList a its) : h'.PlainList a its :=
  x.extBut hs.extBut (isList_ne x.isList e hd)
theorem BIn.off {h h' : Heap} {O O' : List Addr} {L : Addr} {o : Obj} (e : h.get? L = some o) (hd : ∀ xs n, o.data ≠ .seq xs n) (hf : ∀ vs, o.data ≠ .fields vs) (hs : Heap.SameBut L h h') (hO : ∀ a ∈ O', a ∈ O) {b : Bd} (hI : ∀ a C d fs, b = .inst a C d fs → a ≠ L ∧ d ≠ L) {v : Value} (x : BIn h O b v) : BIn h' O' b v := by
  cases b with
  | inst a C d fs => exact ⟨x.1, x.2.off e hf hs (hI a C d fs rfl).1 (hI a C d fs rfl).2⟩
  | fz m => exact VIn.off e hd hf hs hO x
  | own a xs => obtain ⟨q, vs, p, r⟩ := x; exact ⟨q, vs, plain_off e hd hs p, r.off e hd hf hs hO⟩
theorem owned_nodup_fz {x : Str} {m : MV} : ∀ {σ : St}, (owned σ).Nodup → (owned (sput σ x (.fz m))).Nodup
  | [], _ => by simp [sput, owned]
  | (z, c) :: r, h => by
    by_cases hz : z = x
    · cases c <;> simp_all [sput, owned]
    · cases c with
      | fz _ => simp only [sput, hz, if_false, owned] at *; exact owned_nodup_fz h
      | inst _ _ _ _ => simp only [sput, hz, if_false, owned] at *; exact owned_nodup_fz h
      | own a xs =>
        simp only [sput, hz, if_false, owned, List.nodup_cons] at *
        exact ⟨fun q => h.1 (owned_sput q), owned_nodup_fz h.2⟩
theorem ok_off {h h' : Heap} {L : Addr} (hL : C.n₀ ≤ L) (hs : Heap.SameBut L h h') (x : C.ok h) : C.ok h' :=
  C.mono h h' (fun b o hb e => (hs.2 b (fun q => by subst q; exact absurd hb (Nat.not_lt.mpr hL))).trans e) x
theorem Rel.putLocal {X h h' : Heap} {x : Str} {m : MV} {v : Value} {mm : Str → Option Value} (R : Rel C X env σ h) (hk : env.kindOf x = some .local) (hn : h.Ns env.locals mm)
    (hn' : h'.Ns env.locals (fun y => if y = x then some v else mm y)) (hs : Heap.SameBut env.locals h h') (hv : VIn h (C.ex σ) m v) : Rel C X env (sput σ x (.fz m)) h' := by
  obtain ⟨o, es, ep, e, hd, _⟩ := id hn
  have hns : ∀ xs n, o.data ≠ .seq xs n := fun xs n q => by rw [hd] at q; cases q
  have hnf : ∀ vs, o.data ≠ .fields vs := fun vs q => by rw [hd] at q; cases q
  have hO : ∀ a ∈ owned (sput σ x (.fz m)), a ∈ owned σ := fun a ha => owned_sput ha
  have hE : ∀ a ∈ C.ex (sput σ x (.fz m)), a ∈ C.ex σ := fun a ha => List.mem_append.mpr ((List.mem_append.mp ha).imp (hO a) id)
  refine { base := ok_off R.nsN hs R.base, fr := ?_, kind := R.kind, glob := R.glob, vars := ?_, own := ?_, outer := ?_, insN := fun b hb => R.insN b (instA_sub.subset hb), insNd := R.insNd.sublist instA_sub, keepX := ?_, ns := ⟨_, hn'⟩, nsX := R.nsX, nsN := R.nsN, cells := ?_, apart := R.apart, ownX := fun a ha => R.ownX a (hO a ha), ownN := fun a ha => R.ownN a (hO a ha), ownNd := owned_nodup_fz R.ownNd, insX := R.insX.imp id fun q b hb => q b (instA_sub.subset hb), outX := R.outX }
  · intro ev hev
    obtain ⟨a, L, oL, hf, hN, ho, es', ep', hd'⟩ := R.fr ev hev
    by_cases hL : L = env.locals
    · subst hL
      obtain ⟨o2, es2, ep2, e2, d2, _⟩ := id hn'
      exact ⟨a, _, o2, hf, hN, e2, es2, ep2, d2⟩
    · exact ⟨a, L, oL, hf, hN, (hs.2 L hL).trans ho, es', ep', hd'⟩
  · intro y b hb
    rw [sget_sput] at hb
    by_cases hxy : x = y
    · subst hxy
      rw [if_pos rfl] at hb
      cases hb
      unfold VarIs
      rw [hk]
      exact ⟨_, v, hn', by simp, VIn.off e hns hnf hs hE hv⟩
    · rw [if_neg hxy] at hb
      have hy := R.vars y b hb
      have hI : ∀ a C d fs, b = .inst a C d fs → a ≠ env.locals ∧ d ≠ env.locals := fun a C' d fs q => by
        subst q; exact ⟨(R.insN a (instA_mem hb).1).2.1, (R.insN d (instA_mem hb).2).2.1⟩
      unfold VarIs at hy ⊢
      split at hy
      · obtain ⟨m2, v2, a1, a2, a3⟩ := hy
        obtain rfl := Ns.unique hn a1
        exact ⟨_, v2, hn', by rw [if_neg (Ne.symm hxy)]; exact a2, BIn.off e hns hnf hs hE hI a3⟩
      · obtain ⟨c, v2, a1, a2, a3⟩ := hy
        refine ⟨c, v2, a1, a2.sameBut hs ?_, BIn.off e hns hnf hs hE hI a3⟩
        rintro rfl
        obtain ⟨oc, ec, dc⟩ := a2
        rw [e] at ec; cases ec; rw [hd] at dc; cases dc
      · obtain ⟨c, v2, a1, a2, a3⟩ := hy
        refine ⟨c, v2, a1, a2.sameBut hs ?_, BIn.off e hns hnf hs hE hI a3⟩
        rintro rfl
        obtain ⟨oc, ec, dc⟩ := a2
        rw [e] at ec; cases ec; rw [hd] at dc; cases dc
      · obtain ⟨v2, a3⟩ := hy
        exact ⟨v2, BIn.off e hns hnf hs hE hI a3⟩
  · intro a ha
    obtain ⟨vs, p⟩ := R.own a (hO a ha)
    exact ⟨vs, plain_off e hns hs p⟩
  · intro a ha
    obtain ⟨vs, p⟩ := R.outer a ha
    exact ⟨vs, plain_off e hns hs p⟩
  · intro b o' eb hB
    have hbL : b ≠ env.locals := by rintro rfl; rw [R.nsX] at eb; cases eb
    obtain ⟨k1, o2, k2, k3⟩ := R.keepX b o' eb hB
    exact ⟨fun q => (hs.2 b hbL).trans (k1 q), o2, (hs.2 b hbL).trans k2, k3⟩
  · intro y c hc
    obtain ⟨⟨v2, a2⟩, a3, a4⟩ := R.cells y c hc
    refine ⟨⟨v2, a2.sameBut hs ?_⟩, a3, a4⟩
    rintro rfl
    obtain ⟨oc, ec, dc⟩ := a2
    rw [e] at ec; cases ec; rw [hd] at dc; cases dc
theorem Rel.putCell {X h h' : Heap} {x : Str} {m : MV} {v : Value} {c : Addr} {v₀ : Option Value} (R : Rel C X env σ h) (hk : env.kindOf x = some .cell) (hc : env.cells.lookup x = some c) (hn : h.IsCell c v₀)
    (hn' : h'.IsCell c (some v)) (hs : Heap.SameBut c h h') (hv : VIn h (C.ex σ) m v) : Rel C X env (sput σ x (.fz m)) h' := by
  obtain ⟨o, e, hd⟩ := id hn
  have hns : ∀ xs n, o.data ≠ .seq xs n := fun xs n q => by rw [hd] at q; cases q
  have hnf : ∀ vs, o.data ≠ .fields vs := fun vs q => by rw [hd] at q; cases q
  have hO : ∀ a ∈ owned (sput σ x (.fz m)), a ∈ owned σ := fun a ha => owned_sput ha
  have hE : ∀ a ∈ C.ex (sput σ x (.fz m)), a ∈ C.ex σ := fun a ha => List.mem_append.mpr ((List.mem_append.mp ha).imp (hO a) id)
  have hcm := mem_of_lookup hc
  obtain ⟨_, hcX, hcN⟩ := R.cells x c hc
  obtain ⟨mm, hL⟩ := R.ns
  have hcL : c ≠ env.locals := by
    rintro rfl
    obtain ⟨o2, es, ep, e2, d2, _⟩ := hL
    rw [e] at e2; cases e2; rw [hd] at d2; cases d2
  refine { base := ok_off hcN hs R.base, fr := ?_, kind := R.kind, glob := R.glob, vars := ?_, own := ?_, outer := ?_, insN := fun b hb => R.insN b (instA_sub.subset hb), insNd := R.insNd.sublist instA_sub, keepX := ?_, ns := ⟨mm, hL.sameBut hs (Ne.symm hcL)⟩, nsX := R.nsX, nsN := R.nsN, cells := ?_, apart := R.apart, ownX := fun a ha => R.ownX a (hO a ha), ownN := fun a ha => R.ownN a (hO a ha), ownNd := owned_nodup_fz R.ownNd, insX := R.insX.imp id fun q b hb => q b (instA_sub.subset hb), outX := R.outX }
  · intro ev hev
    obtain ⟨a, L, oL, hf, hN, ho, es', ep', hd'⟩ := R.fr ev hev
    have hL : L ≠ c := by rintro rfl; rw [e] at ho; cases ho; rw [hd] at hd'; cases hd'
    exact ⟨a, L, oL, hf, hN, (hs.2 L hL).trans ho, es', ep', hd'⟩
  · intro y b hb
    rw [sget_sput] at hb
    by_cases hxy : x = y
    · subst hxy
      rw [if_pos rfl] at hb
      cases hb
      unfold VarIs
      rw [hk]
      exact ⟨c, v, hc, hn', VIn.off e hns hnf hs hE hv⟩
    · rw [if_neg hxy] at hb
      have hy := R.vars y b hb
      have hI : ∀ {v}, BIn h (C.ex σ) b v → ∀ a C d fs, b = .inst a C d fs → a ≠ c ∧ d ≠ c := fun {v} x a C' d fs q => by
        subst q
        obtain ⟨_, ⟨sl, ea⟩, _, mA, ⟨od, es, ep, ed, dd, _⟩, _⟩ := x
        constructor
        · rintro rfl; rw [e] at ea; cases ea; cases hd
        · rintro rfl; rw [e] at ed; cases ed; rw [hd] at dd; cases dd
      unfold VarIs at hy ⊢
      have key : ∀ c2 v2, env.cells.lookup y = some c2 → h.IsCell c2 (some v2) → h'.IsCell c2 (some v2) := fun c2 v2 a1 a2 => a2.sameBut hs fun q => by
        subst q
        exact hxy (name_of_addr R.apart hcm (mem_of_lookup a1))
      split at hy
      · obtain ⟨m2, v2, a1, a2, a3⟩ := hy
        exact ⟨m2, v2, a1.sameBut hs (Ne.symm hcL), a2, BIn.off e hns hnf hs hE (hI a3) a3⟩
      · obtain ⟨c2, v2, a1, a2, a3⟩ := hy
        exact ⟨c2, v2, a1, key c2 v2 a1 a2, BIn.off e hns hnf hs hE (hI a3) a3⟩
      · obtain ⟨c2, v2, a1, a2, a3⟩ := hy
        exact ⟨c2, v2, a1, key c2 v2 a1 a2, BIn.off e hns hnf hs hE (hI a3) a3⟩
      · obtain ⟨v2, a3⟩ := hy
        exact ⟨v2, BIn.off e hns hnf hs hE (hI a3) a3⟩
  · intro a ha
    obtain ⟨vs, p⟩ := R.own a (hO a ha)
    exact ⟨vs, plain_off e hns hs p⟩
  · intro a ha
    obtain ⟨vs, p⟩ := R.outer a ha
    exact ⟨vs, plain_off e hns hs p⟩
  · intro b o' eb hB
    have hbL : b ≠ c := by rintro rfl; rw [hcX] at eb; cases eb
    obtain ⟨k1, o2, k2, k3⟩ := R.keepX b o' eb hB
    exact ⟨fun q => (hs.2 b hbL).trans (k1 q), o2, (hs.2 b hbL).trans k2, k3⟩
  · intro y c2 hc2
    obtain ⟨⟨v2, a2⟩, a3, a4⟩ := R.cells y c2 hc2
    by_cases q : c2 = c
    · subst q; exact ⟨⟨_, hn'⟩, a3, a4⟩
    · exact ⟨⟨v2, a2.sameBut hs q⟩, a3, a4⟩
/-- a name may be stored: a local, or a cell of the frame's own -/
noncomputable def Stores (env : Env) (x : Str) : Prop := env.kindOf x = some .local ∨ (env.kindOf x = some .cell ∧ ∃ c, env.cells.lookup x = some c)
theorem store_ {X : Heap} {x : Str} {m : MV} {v : Value} {s : Shared} {Q : Unit → Shared → Prop} {E : Value → Shared → Prop} (R : Rel C X env σ s.heap) (hx : Stores env x) (hv : VIn s.heap (C.ex σ) m v)
    (h : ∀ h' tk, Rel C X env (sput σ x (.fz m)) h' → Q () { s with heap := h', toks := tk }) : wpAny C.M C.A (storeName env x v) Q E s := by
  rcases hx with hk | ⟨hk, c, hc⟩
  · obtain ⟨mm, hn⟩ := R.ns
    refine wpAny_storeName_local hk hn (fun h' hn' hs => h h' _ (R.putLocal hk hn hn' hs hv)) (by rw [R.kind]; rfl)
  · obtain ⟨⟨v₀, hn⟩, _⟩ := R.cells x c hc
    exact wpAny_storeName_cell R.kind hk hc hn fun h' hn' hs => h h' _ (R.putCell hk hc hn hn' hs hv)
theorem wpSs_nil {Q : FM → St → Prop} (h : Q .next σ) : wpSs C env [] σ Q := fun X s R => wpAny_execs_nil ⟨s.heap, s.toks, rfl, .next, σ, trivial, R, h⟩
theorem wpSs_cons {st : Stmt} {sts : List Stmt} {Q : FM → St → Prop} (h : wpS C env st σ fun fm σ' => match fm with | .next => wpSs C env sts σ' Q | fm => Q fm σ') : wpSs C env (st :: sts) σ Q := fun X s R => by
  refine wpAny_execs_cons (wpAny_mono (h X s R) (fun fl s' p => ?_) fun _ _ h => h)
  obtain ⟨h', tk, rfl, fm, σ', fr, R', q⟩ := p
  cases fl with
  | next =>
    cases fm with
    | next =>
      refine wpAny_mono (q X _ R') (fun fl2 s2 p2 => ?_) fun _ _ h => h
      obtain ⟨h2, tk2, rfl, r⟩ := p2
      exact ⟨h2, tk2, rfl, r⟩
    | _ => exact fr.elim
  | brk => cases fm <;> first | exact fr.elim | exact ⟨h', tk, rfl, _, σ', fr, R', q⟩
  | cont => cases fm <;> first | exact fr.elim | exact ⟨h', tk, rfl, _, σ', fr, R', q⟩
  | ret v => cases fm <;> first | exact fr.elim | exact ⟨h', tk, rfl, _, σ', fr, R', q⟩
theorem wpS_assign {x : Str} {p' p : Pos} {e : Expr} {m : MV} {Q : FM → St → Prop} (he : Ev C env σ e m) (hx : Stores env x) (hs : swapsWith e (some (.Name x p')) p.line env = pure false)
    (h : Q .next (sput σ x (.fz m))) : wpS C env (.Assign [.Name x p'] e p) σ Q := fun X s R => by
  refine wpAny_Assign_Name (wpAny_mono (he s R.toRelE) (fun v s₁ h₁ => ?_) fun _ _ h => h) hs
  obtain ⟨⟨h1, tk1, rfl, k⟩, hv⟩ := h₁
  exact store_ (R.ks k) hx hv fun h' tk R' => ⟨h', tk, rfl, .next, _, trivial, R', h⟩
theorem wpS_if {t : Expr} {b : Bool} {body orelse : List Stmt} {p : Pos} {Q : FM → St → Prop} (ht : EvB C env σ t b) (h1 : b = true → wpSs C env body σ Q) (h2 : b = false → wpSs C env orelse σ Q) : wpS C env (.If t body orelse p) σ Q := fun X s R => by
  refine wpAny_If (wpAny_mono (ht s R.toRelE) (fun b' s₁ h₁ => ?_) fun _ _ h => h)
  obtain ⟨⟨h1', tk1, rfl, k⟩, rfl⟩ := h₁
  have fix : ∀ sts, wpSs C env sts σ Q → wpAny C.M C.A (execs sts env) (Post C X env Q s) F { s with heap := h1', toks := tk1 } := fun sts hq => by
    refine wpAny_mono (hq X _ (R.ks k)) (fun fl s2 p2 => ?_) fun _ _ h => h
    obtain ⟨h2, tk2, rfl, r⟩ := p2
    exact ⟨h2, tk2, rfl, r⟩
  cases b' with
  | true => exact fix _ (h1 rfl)
  | false => exact fix _ (h2 rfl)
theorem wpS_break {p : Pos} {Q : FM → St → Prop} (h : Q .brk σ) : wpS C env (.Break p) σ Q := fun X s R => fun _ _ _ => ⟨s.heap, s.toks, rfl, .brk, σ, trivial, R, h⟩
theorem wpS_continue {p : Pos} {Q : FM → St → Prop} (h : Q .cont σ) : wpS C env (.Continue p) σ Q := fun X s R => fun _ _ _ => ⟨s.heap, s.toks, rfl, .cont, σ, trivial, R, h⟩
theorem wpS_pass {p : Pos} {Q : FM → St → Prop} (h : Q .next σ) : wpS C env (.Pass p) σ Q := fun X s R => fun _ _ _ => ⟨s.heap, s.toks, rfl, .next, σ, trivial, R, h⟩
theorem wpS_return {e : Expr} {p : Pos} {m : MV} {Q : FM → St → Prop} (he : Ev C env σ e m) (h : Q (.ret m) σ) : wpS C env (.Return (some e) p) σ Q := fun X s R => by
  refine wpAny_Return_some (wpAny_mono (he s R.toRelE) (fun v s₁ h₁ => ?_) fun _ _ h => h)
  obtain ⟨⟨h1, tk1, rfl, k⟩, hv⟩ := h₁
  exact ⟨h1, tk1, rfl, .ret m, σ, hv, R.ks k, h⟩
end
end Mine
namespace Mine
open PySem PySem.W PyProof.Rows
noncomputable def VTs (h : Heap) (O : List Addr) : List MV → List Value → Prop
  | [], vs => vs = []
  | x :: xs, vs => ∃ v r, vs = v :: r ∧ VT h O x v ∧ VTs h O xs r
theorem VTs.ks {S O : List Addr} {h h' : Heap} (k : KS S h h') : ∀ {ms : List MV} {vs : List Value}, VTs h O ms vs → VTs h' O ms vs
  | [], _, x => x
  | m :: ms, _, ⟨v, r, e, a, b⟩ => ⟨v, r, e, a.ks k, VTs.ks k b⟩
section
variable {C : Cx} {env : Env} {σ : St}
/-- a list of expressions, none starred -/
inductive EvTs (C : Cx) (env : Env) (σ : St) : List Expr → List MV → Prop
  | nil : EvTs C env σ [] []
  | cons {e es m ms} : EvT C env σ e m → (∀ x p, e ≠ .Starred x p) → EvTs C env σ es ms → EvTs C env σ (e :: es) (m :: ms)
inductive Evs (C : Cx) (env : Env) (σ : St) : List Expr → List MV → Prop
  | nil : Evs C env σ [] []
  | cons {e es m ms} : Ev C env σ e m → (∀ x p, e ≠ .Starred x p) → Evs C env σ es ms → Evs C env σ (e :: es) (m :: ms)
theorem starEach_cons {e : Expr} {es : List Expr} (h : ∀ x p, e ≠ .Starred x p) : starEach (e :: es) env = (false, eval e env) :: starEach es env := by
  cases e <;> first | rfl | exact absurd rfl (h _ _)
theorem backTo_cons {pos : Pos} {t : Sem Value} {r : List (Bool × Sem Value)} : backTo pos ((false, t) :: r) = (false, t) :: backTo pos r := rfl
theorem spliced_ {pos : Pos} : ∀ {es : List Expr} {ms : List MV}, EvTs C env σ es ms → ∀ s, RelE C env σ s.heap → wpAny C.M C.A (spliced (backTo pos (starEach es env))) (fun vs s' => KSs C.S s s' ∧ VTs s'.heap (C.ex σ) ms vs) F s
  | _, _, .nil, s, R => Calls.spliced_nil ⟨.refl s, rfl⟩
  | _, _, .cons h hn r, s, R => by
    rw [starEach_cons hn, backTo_cons]
    refine Calls.spliced_cons (wpAny_mono (h s R) (fun v s₁ h₁ => ?_) fun _ _ x => x)
    refine wpAny_mono (spliced_ r s₁ (R.ks h₁.1.ks)) (fun vs s₂ h₂ => ?_) fun _ _ x => x
    exact ⟨h₁.1.trans h₂.1, v, vs, rfl, h₁.2.ks h₂.1.ks, h₂.2⟩
theorem splicedV_ {pos : Pos} : ∀ {es : List Expr} {ms : List MV}, Evs C env σ es ms → ∀ s, RelE C env σ s.heap → wpAny C.M C.A (spliced (backTo pos (starEach es env))) (fun vs s' => KSs C.S s s' ∧ VIns s'.heap (C.ex σ) ms vs) F s
  | _, _, .nil, s, R => Calls.spliced_nil ⟨.refl s, rfl⟩
  | _, _, .cons h hn r, s, R => by
    rw [starEach_cons hn, backTo_cons]
    refine Calls.spliced_cons (wpAny_mono (h s R) (fun v s₁ h₁ => ?_) fun _ _ x => x)
    refine wpAny_mono (splicedV_ r s₁ (R.ks h₁.1.ks)) (fun vs s₂ h₂ => ?_) fun _ _ x => x
    exact ⟨h₁.1.trans h₂.1, v, vs, rfl, h₁.2.ks h₂.1.ks, h₂.2⟩
theorem plain_args {pos : Pos} : ∀ {es : List Expr} {ms : List MV}, EvTs C env σ es ms → (backTo pos (starEach es env)).any (·.1) = false ∧ (backTo pos (starEach es env)).all (fun x => !x.1) = true ∧ (backTo pos (starEach es env)).length = es.length
  | _, _, .nil => ⟨rfl, rfl, rfl⟩
  | _, _, .cons h hn r => by
    rw [starEach_cons hn, backTo_cons]
    obtain ⟨a, b, c⟩ := plain_args r (pos := pos)
    exact ⟨by simp [a], by simp [b], by simp [c]⟩
theorem evalArgs_ {pos : Pos} {f : Value} {es : List Expr} {ms : List MV} (x : EvTs C env σ es ms) (s : Shared) (R : RelE C env σ s.heap) :
    wpAny C.M C.A (evalArgs f true (backTo pos (starEach es env)) []) (fun a s' => KSs C.S s s' ∧ a.kw = [] ∧ VTs s'.heap (C.ex σ) ms a.pos) F s := by
  unfold evalArgs
  have h := spliced_ (pos := pos) x s R
  cases x with
  | nil =>
    refine wpAny_bind (Calls.spliced_nil ?_)
    exact wpAny_bind (wpAny_pure (wpAny_holding (wpAny_bind (wpAny_pure (wpAny_bind (wpAny_pure (wpAny_pure ⟨.refl s, rfl, rfl⟩)))))))
  | cons a hn r =>
    rw [starEach_cons hn, backTo_cons] at h ⊢
    show wpAny _ _ (spliced _ >>= _) _ _ s
    refine wpAny_bind (wpAny_mono h (fun vs s' h' => ?_) fun _ _ x => x)
    refine wpAny_holding ?_
    exact wpAny_bind (wpAny_pure (wpAny_bind (wpAny_pure (wpAny_pure ⟨h'.1, rfl, h'.2⟩))))
/-- a name of the text's top, or a built-in name -/
noncomputable def GV (C : Cx) (x : Str) (v : Value) : Prop := ∀ h, C.ok h → (∃ mg, h.Ns mainGlobals mg ∧ mg x = some v) ∨ (∃ mg mb, h.Ns mainGlobals mg ∧ mg x = Option.none ∧ h.Ns builtinsNs mb ∧ mb x = some v)
theorem ev_global {x : Str} {v : Value} {p : Pos} (hg : GV C x v) (hk : env.kindOf x = some .globalImplicit) (hd : (x == ("__debug__" : Str)) = false) : Ev C env σ (.Name x p) (.obj v) := fun s R => by
  rcases hg _ R.base with ⟨mg, a, b⟩ | ⟨mg, mb, a, b, c, d⟩
  · exact Calls.Name_function_global R.kind hk (Calls.loadGlobal_global (by rw [R.glob.1]; exact a) b ⟨.refl s, rfl⟩) hd
  · exact Calls.Name_function_global R.kind hk (Calls.loadGlobal_builtin (by rw [R.glob.1]; exact a) b (by rw [R.glob.2]; exact c) d ⟨.refl s, rfl⟩) hd
/-- what a built-in called with plain arguments yields -/
noncomputable def Fn (C : Cx) (f : Value) (args : List MV) (r : MV) : Prop :=
  ∀ s O vals, (∀ x ∈ O, ∃ o, s.heap.get? x = some o) → VTs s.heap O args vals → wpAny C.M C.A (call f vals) (fun v s' => KSs [] s s' ∧ VIn s'.heap O r v) F s
theorem ev_call_b {x : Str} {id : String} {p pos : Pos} {es : List Expr} {ms : List MV} {r : MV} (hx : Ev C env σ (.Name x p) (.obj (.builtin id))) (ha : EvTs C env σ es ms) (hf : Fn C (.builtin id) ms r) :
    Ev C env σ (.Call (.Name x p) es [] pos) r := fun s R => by
  show wpAny _ _ (do callWith pos (← eval (.Name x p) env) [] (backTo pos (starEach es env)) (backToKw pos (keywordEach [] env))) _ _ s
  refine wpAny_bind (wpAny_mono (hx s R) (fun v s₁ h₁ => ?_) fun _ _ x => x)
  obtain ⟨k₁, rfl⟩ := h₁
  refine Calls.callWith_builtin (plain_args ha).1 (wpAny_mono (evalArgs_ ha s₁ (R.ks k₁.ks)) (fun a s₂ h₂ => ?_) fun _ _ x => x)
  obtain ⟨k₂, hkw, hv⟩ := h₂
  rw [hkw]
  refine wpAny_mono (hf s₂ _ _ ((R.ks k₁.ks).ks k₂.ks).exO hv) (fun v s₃ h₃ => ?_) fun _ _ x => x
  exact ⟨(k₁.trans k₂).trans (h₃.1.mono nil_sub), h₃.2⟩
theorem callWith_typ {pos : Pos} {T : String} {args : List (Bool × Sem Value)} {Q : Value → Shared → Prop} {s : Shared} (hplain : args.any (·.1) = false)
    (h : wpAny C.M C.A (evalArgs (.type T) true args []) (fun a s₁ => wpAny C.M C.A (call (.type T) a.pos a.kw) Q F s₁) F s) : wpAny C.M C.A (callWith pos (.type T) [] args []) Q F s := by
  unfold callWith
  refine wpAny_bind (wpAny_holding (wpAny_mono h (fun a s₁ h₁ => wpAny_bind (wpAny_standAt ?_)) fun _ _ x => x))
  simp only [hplain, List.any_nil, Bool.or_false]
  refine wpAny_bind (wpAny_pure ?_)
  exact wpAny_bind (wpAny_mono h₁ (fun r s₂ hr => wpAny_bind (wpAny_holding (wpAny_point (wpAny_pure hr)))) fun _ _ x => x)
theorem ev_call_t {x : Str} {T : String} {p pos : Pos} {es : List Expr} {ms : List MV} {r : MV} (hx : Ev C env σ (.Name x p) (.obj (.type T))) (ha : EvTs C env σ es ms) (hf : Fn C (.type T) ms r) :
    Ev C env σ (.Call (.Name x p) es [] pos) r := fun s R => by
  show wpAny _ _ (do callWith pos (← eval (.Name x p) env) [] (backTo pos (starEach es env)) (backToKw pos (keywordEach [] env))) _ _ s
  refine wpAny_bind (wpAny_mono (hx s R) (fun v s₁ h₁ => ?_) fun _ _ x => x)
  obtain ⟨k₁, rfl⟩ := h₁
  refine callWith_typ (plain_args ha).1 (wpAny_mono (evalArgs_ ha s₁ (R.ks k₁.ks)) (fun a s₂ h₂ => ?_) fun _ _ x => x)
  obtain ⟨k₂, hkw, hv⟩ := h₂
  rw [hkw]
  refine wpAny_mono (hf s₂ _ _ ((R.ks k₁.ks).ks k₂.ks).exO hv) (fun v s₃ h₃ => ?_) fun _ _ x => x
  exact ⟨(k₁.trans k₂).trans (h₃.1.mono nil_sub), h₃.2⟩
/-- a method of a value -/
noncomputable def MethAt (C : Cx) (name : Str) (a : MV) (id : String) : Prop :=
  ∀ s O va, VT s.heap O a va → ∀ (pl : Sem Bool) (Q : Value × List Value → Shared → Prop), Q (.builtin id, [va]) s → wpAny C.M C.A (getMethod va name pl) Q F s
theorem ev_meth {o : Expr} {name : Str} {id : String} {apos pos : Pos} {es : List Expr} {a : MV} {ms : List MV} {r : MV} (ho : EvT C env σ o a) (ha : EvTs C env σ es ms) (hm : MethAt C name a id) (hf : Fn C (.builtin id) (a :: ms) r)
    (hbase : attributeBase o name env (eval o env) = eval o env) (hline : (apos.endLine == pos.line) = true) (hfew : es.length < 29) :
    Ev C env σ (.Call (.Attribute o name apos) es [] pos) r := fun s R => by
  rw [arm_eval_Call, hbase]
  refine wpAny_bind (wpAny_mono (ho s R) (fun ov s₁ h₁ => ?_) fun _ _ x => x)
  obtain ⟨k₁, v₁⟩ := h₁
  refine wpAny_bind (wpAny_standAt ?_)
  have hform : methodCallForm (es.length + ([] : List Keyword).length) (backTo pos (starEach es env)) (backToKw pos (keywordEach [] env)) = true := by
    unfold methodCallForm
    rw [(plain_args ha).2.1]
    show (true && true && decide (es.length + 0 + 0 < 30)) = true
    simp; omega
  have hpos : methodCallPos true o env apos pos = pure pos := by unfold methodCallPos; simp [hline]
  unfold methodCall
  rw [hform]
  refine wpAny_bind (wpAny_holding (hm s₁ _ ov v₁ _ _ ?_))
  refine wpAny_bind (wpAny_of_eq hpos ?_)
  refine Calls.callWith_builtin (plain_args ha).1 (wpAny_mono (evalArgs_ ha s₁ (R.ks k₁.ks)) (fun a s₂ h₂ => ?_) fun _ _ x => x)
  obtain ⟨k₂, hkw, hv⟩ := h₂
  rw [hkw]
  refine wpAny_mono (hf s₂ _ ([ov] ++ a.pos) ((R.ks k₁.ks).ks k₂.ks).exO ⟨ov, a.pos, rfl, v₁.ks k₂.ks, hv⟩) (fun v s₃ h₃ => ?_) fun _ _ x => x
  exact ⟨(k₁.trans k₂).trans (h₃.1.mono nil_sub), h₃.2⟩
/-- an item at a place -/
noncomputable def Item (C : Cx) (a i r : MV) : Prop :=
  ∀ s O va vi, (∀ x ∈ O, ∃ o, s.heap.get? x = some o) → VT s.heap O a va → VT s.heap O i vi →
    ∃ T id, typeLookup (.type T) "__getitem__" = pure (some (.builtin id)) ∧ s.TypeIs va T ∧ wpAny C.M C.A (getItem va vi) (fun v s' => KSs [] s s' ∧ VIn s'.heap O r v) F s
theorem sub_ops (slice : Expr) (o i : Value) : ∃ ops, subscripted slice false o i = operate ops (getItem o i) := by
  unfold subscripted
  split
  · exact ⟨_, rfl⟩
  · rename_i h; cases h
  · exact ⟨_, rfl⟩
theorem tail_ {value slice : Expr} {o i : Value} {T id : String} {Q : Value → Shared → Prop} {s : Shared} (hl : typeLookup (.type T) "__getitem__" = pure (some (.builtin id))) (hT : s.TypeIs o T)
    (h : wpAny C.M C.A (getItem o i) Q F s) : wpAny C.M C.A (subscriptTail value slice o i) Q F s := by
  obtain ⟨ops, hs⟩ := sub_ops slice o i
  unfold subscriptTail
  refine wpAny_bind ?_
  rw [getitemInPython_of_ne hT.not_modules]
  refine wpAny_bind (wpAny_specialOf hT hl ?_)
  have fin : wpAny C.M C.A (subscripted slice false o i) (fun r s₃ => wpAny C.M C.A (letTemporaryGo value o r >>= fun _ => pure r) Q F s₃) F s := by
    rw [hs]
    exact wpAny_operating (wpAny_mono h (fun r s₃ h₃ => wpAny_bind (wpAny_letTemporaryGo (wpAny_pure h₃))) fun _ _ x => x)
  first
    | exact wpAny_pure (wpAny_bind fin)
    | exact wpAny_bind (wpAny_pure (wpAny_bind fin))
    | exact wpAny_bind fin
theorem ev_sub {value slice : Expr} {p : Pos} {a i r : MV} (hv : EvT C env σ value a) (hi : EvT C env σ slice i) (ho : Item C a i r) : Ev C env σ (.Subscript value slice p) r := fun s R => by
  refine Subscript_ (wpAny_mono (hv s R) (fun va s₁ h₁ => ?_) fun _ _ h => h)
  obtain ⟨k₁, v₁⟩ := h₁
  refine wpAny_mono (hi s₁ (R.ks k₁.ks)) (fun vb s₂ h₂ => ?_) fun _ _ h => h
  obtain ⟨k₂, v₂⟩ := h₂
  obtain ⟨T, id, hl, hT, hg⟩ := ho s₂ _ va vb ((R.ks k₁.ks).ks k₂.ks).exO (v₁.ks k₂.ks) v₂
  refine tail_ hl hT (wpAny_mono hg (fun v s₃ h₃ => ?_) fun _ _ h => h)
  exact ⟨(k₁.trans k₂).trans (h₃.1.mono nil_sub), h₃.2⟩
end
end Mine
namespace Mine
open PySem PySem.W PyProof.Rows
section
variable {C : Cx} {env : Env} {σ : St}
theorem item_str_ {x : Str} {i : Int} (hr : fitsSsize i = true) (h1 : -(x.length : Int) ≤ i) (h2 : i < x.length) : Item C (.str x) (.int i) (.str (Txt.item x i)) := fun s O va vi _ ha hi => by
  obtain ⟨t, rfl⟩ := ha; obtain ⟨u, rfl⟩ := hi
  obtain ⟨T, id, a, b, c⟩ := SB.item (prog := C.prog) (w := C.w) (A := C.A) (E := F) (s := s) (t := t) (u := u) (Q := fun v s' => KSs [] s s' ∧ VIn s'.heap O (.str (Txt.item x i)) v) hr (charAt_isSome h1 h2) ⟨.tok s _, _, rfl⟩
  exact ⟨T, id, a, b, c⟩
theorem item_list_ {xs : List MV} {i : Int} {m : MV} (h0 : 0 ≤ i) (hf : i < 2 ^ 63) (hx : xs[i.toNat]? = some m) : Item C (.list xs) (.int i) m := fun s O va vi _ ha hi => by
  obtain ⟨a, vs, rfl, l, r⟩ := ha; obtain ⟨u, rfl⟩ := hi
  obtain ⟨v, hv, hm⟩ := r.get hx
  exact ⟨"list", _, slot_list_getitem.lookup, l.typeIs, wpAny_getItem_list l h0 hf (by simpa using hv) ⟨.refl s, hm⟩⟩
theorem item_neg_ {xs : List MV} {i : Int} {m : MV} (h0 : i < 0) (h1 : -(xs.length : Int) ≤ i) (hf : -(2 ^ 63) ≤ i) (hx : xs[(i + xs.length).toNat]? = some m) : Item C (.list xs) (.int i) m := fun s O va vi _ ha hi => by
  obtain ⟨a, vs, rfl, l, r⟩ := ha; obtain ⟨u, rfl⟩ := hi
  obtain ⟨v, hv, hm⟩ := r.get hx
  have hl := r.length
  exact ⟨"list", _, slot_list_getitem.lookup, l.typeIs, wpAny_getItem_list_neg l h0 (by simpa [hl] using h1) hf (by simpa [hl] using hv) ⟨.refl s, hm⟩⟩
theorem item_tup_ {xs : List MV} {i : Int} {j : Nat} {m : MV} (hlo : -(2 ^ 63) ≤ i) (hhi : i < 2 ^ 63) (hj : seqIndex? i xs.length = some j) (hx : xs[j]? = some m) : Item C (.tuple xs) (.int i) m := fun s O va vi _ ha hi => by
  obtain ⟨a, vs, rfl, _, l, r⟩ := ha; obtain ⟨u, rfl⟩ := hi
  obtain ⟨v, hv, hm⟩ := r.get hx
  have hl := r.length
  exact ⟨"tuple", _, slot_tuple_getitem.lookup, l.typeIs, getItem_tuple l hlo hhi (by simpa [hl] using hj) (by simpa using hv) ⟨.refl s, hm⟩⟩
/-- a part of a slice -/
inductive EvP (C : Cx) (env : Env) (σ : St) : Option Expr → Option Int → Prop
  | none : EvP C env σ .none .none
  | some {e : Expr} {k : Int} : EvT C env σ e (.int k) → EvP C env σ (.some e) (.some k)
noncomputable def SliceOf (C : Cx) (a : MV) (lo hi : Option Int) (r : MV) : Prop :=
  ∀ s O va vl vu sl, (∀ x ∈ O, ∃ o, s.heap.get? x = some o) → VT s.heap O a va → IsPart vl lo → IsPart vu hi → s.heap.get? sl = some { cls := .type "slice", data := .fields #[vl, vu, .none] } →
    ∃ T id, typeLookup (.type T) "__getitem__" = pure (some (.builtin id)) ∧ s.TypeIs va T ∧ wpAny C.M C.A (getItem va (.ref sl)) (fun v s' => KSs [] s s' ∧ VIn s'.heap O r v) F s
theorem evPart_ {e : Option Expr} {k : Option Int} (h : EvP C env σ e k) (s : Shared) (R : RelE C env σ s.heap) : wpAny C.M C.A (evalPart e env) (fun v s' => KSs C.S s s' ∧ IsPart v k) F s := by
  cases h with
  | none => rw [evalPart_none]; exact wpAny_pure ⟨.refl s, .none⟩
  | some h =>
    rw [evalPart_some]
    refine wpAny_mono (h s R) (fun v s' h' => ?_) fun _ _ x => x
    obtain ⟨k', t, rfl⟩ := h'
    exact ⟨k', .int _ _⟩
theorem ev_slice {value : Expr} {l u : Option Expr} {p pos : Pos} {a r : MV} {lo hi : Option Int} (hv : EvT C env σ value a) (hl : EvP C env σ l lo) (hu : EvP C env σ u hi) (ho : SliceOf C a lo hi r) :
    Ev C env σ (.Subscript value (.Slice l u Option.none p) pos) r := fun s R => by
  refine Subscript_ (wpAny_mono (hv s R) (fun va s₁ h₁ => ?_) fun _ _ h => h)
  obtain ⟨k₁, v₁⟩ := h₁
  have R₁ := R.ks k₁.ks
  refine wpAny_Slice (wpAny_mono (evPart_ hl s₁ R₁) (fun vl s₂ h₂ => ?_) fun _ _ h => h)
  have R₂ := R₁.ks h₂.1.ks
  refine wpAny_mono (evPart_ hu s₂ R₂) (fun vu s₃ h₃ => ?_) fun _ _ h => h
  have R₃ := R₂.ks h₃.1.ks
  rw [evalPart_none]
  refine wpAny_pure ?_
  have k₄ : KSs C.S s₃ { s₃ with heap := s₃.heap.push { cls := .type "slice", data := .fields #[vl, vu, .none] } } := ⟨_, s₃.toks, rfl, .of_keep fun _ _ e => Heap.get?_push_of_some _ e⟩
  have kk := (k₁.trans h₂.1).trans (h₃.1.trans k₄)
  obtain ⟨T, id, hl, hT, hg⟩ := ho { s₃ with heap := s₃.heap.push { cls := .type "slice", data := .fields #[vl, vu, .none] } } _ va vl vu _ (R₃.ks k₄.ks).exO (v₁.ks ((h₂.1.trans h₃.1).trans k₄).ks) h₂.2 h₃.2 (Heap.get?_push_size _ rfl)
  refine tail_ hl hT (wpAny_mono hg (fun v s₃ h₃ => ?_) fun _ _ h => h)
  exact ⟨kk.trans (h₃.1.mono nil_sub), h₃.2⟩
theorem slice_str_ {x : Str} {lo hi : Option Int} (hsz : x.length ≤ sizeLine) : SliceOf C (.str x) lo hi (.str (Txt.slice x lo hi)) := fun s O va vl vu sl _ ha pl pu hs => by
  obtain ⟨t, rfl⟩ := ha
  obtain ⟨l, rfl, rfl⟩ : ∃ l : Option (Int × Tok), vl = partValue l ∧ lo = l.map (·.1) := by
    cases pl with
    | none => exact ⟨.none, rfl, rfl⟩
    | int i t => exact ⟨some (i, t), rfl, rfl⟩
  obtain ⟨u, rfl, rfl⟩ : ∃ l : Option (Int × Tok), vu = partValue l ∧ hi = l.map (·.1) := by
    cases pu with
    | none => exact ⟨.none, rfl, rfl⟩
    | int i t => exact ⟨some (i, t), rfl, rfl⟩
  refine ⟨"str", _, F.slot_str_getitem.lookup, typeIs_str _ _ _, wpAny_getItem_str_slice (l := l) (u := u) (st := .none) ⟨_, hs, rfl, rfl⟩ rfl ?_⟩
  exact post_val_or_str ⟨Nat.le_trans (Txt.slice_le x _ _) hsz, fun t' k => ⟨.tok s _, _, rfl⟩⟩
noncomputable def lslice {α : Type} (xs : List α) (lo hi : Option Int) : List α := (xs.drop (lo.elim 0 (clipAt xs.length))).take (hi.elim xs.length (clipAt xs.length) - lo.elim 0 (clipAt xs.length))
theorem VIns.drop {h : Heap} {O : List Addr} : ∀ (k : Nat) {ms : List MV} {vs : List Value}, VIns h O ms vs → VIns h O (ms.drop k) (vs.drop k)
  | 0, _, _, x => x
  | k + 1, [], vs, x => by rw [show vs = [] from x]; rfl
  | k + 1, m :: ms, _, ⟨v, r, e, a, b⟩ => by rw [e]; exact VIns.drop k b
theorem VIns.take {h : Heap} {O : List Addr} : ∀ (k : Nat) {ms : List MV} {vs : List Value}, VIns h O ms vs → VIns h O (ms.take k) (vs.take k)
  | 0, _, _, x => rfl
  | k + 1, [], vs, x => by rw [show vs = [] from x]; rfl
  | k + 1, m :: ms, _, ⟨v, r, e, a, b⟩ => by rw [e]; exact ⟨v, r.take k, rfl, a, VIns.take k b⟩
theorem fresh_not {h : Heap} {O : List Addr} (hO : ∀ x ∈ O, ∃ o, h.get? x = some o) : h.objs.size ∉ O := fun q => by
  obtain ⟨o, e⟩ := hO _ q
  exact absurd (Heap.lt_size e) (Nat.lt_irrefl _)
theorem keeps_push {S : List Addr} {s : Shared} (o : Obj) : KSs S s { s with heap := s.heap.push o } := ⟨_, s.toks, rfl, .of_keep fun _ _ e => Heap.get?_push_of_some _ e⟩
theorem newL {s : Shared} {O : List Addr} {ms : List MV} {vs : List Value} (hO : ∀ x ∈ O, ∃ o, s.heap.get? x = some o) (r : VIns s.heap O ms vs) :
    VIn (s.heap.push { cls := .type "list", data := .seq vs.toArray }) O (.list ms) (.ref s.heap.objs.size) :=
  ⟨_, vs, rfl, fresh_not hO, ⟨_, Heap.get?_push_size _ rfl, rfl, _, rfl⟩, r.ks (keeps_push (S := []) (s := s) _).ks⟩
theorem newT {s : Shared} {O : List Addr} {ms : List MV} {vs : List Value} (hO : ∀ x ∈ O, ∃ o, s.heap.get? x = some o) (r : VIns s.heap O ms vs) :
    VIn (s.heap.push { cls := .type "tuple", data := .seq vs.toArray }) O (.tuple ms) (.ref s.heap.objs.size) :=
  ⟨_, vs, rfl, fresh_not hO, ⟨_, Heap.get?_push_size _ rfl, rfl, _, rfl⟩, r.ks (keeps_push (S := []) (s := s) _).ks⟩
theorem slice_list_ {xs : List MV} {lo hi : Option Int} (hsz : xs.length ≤ sizeLine) : SliceOf C (.list xs) lo hi (.list (lslice xs lo hi)) := fun s O va vl vu sl hO ha pl pu hs => by
  obtain ⟨a, vs, rfl, l, r⟩ := ha
  have hlen := r.length
  refine ⟨"list", _, slot_list_getitem.lookup, l.typeIs, wpAny_getItem_list_slice l ⟨_, hs, rfl, rfl⟩ pl pu .none (by simp) ?_ (by simpa [hlen] using hsz)⟩
  rw [slicePick_plain]
  refine ⟨keeps_push _, ?_⟩
  have := newL hO (VIns.take (hi.elim xs.length (clipAt xs.length) - lo.elim 0 (clipAt xs.length)) (VIns.drop (lo.elim 0 (clipAt xs.length)) r))
  simpa [lslice, hlen] using this
theorem ev_list {es : List Expr} {ms : List MV} {p : Pos} (h : Evs C env σ es ms) (hsz : ms.length ≤ sizeLine) : Ev C env σ (.List es p) (.list ms) := fun s R => by
  refine List_ (wpAny_mono (splicedV_ h s R) (fun vs s₁ h₁ => ?_) fun _ _ x => x)
  have hO := (R.ks h₁.1.ks).exO
  exact wpAny_newObj_type ⟨h₁.1.trans (keeps_push _), newL hO h₁.2⟩ (by show vs.toArray.size ≤ sizeLine; rw [List.size_toArray, h₁.2.length]; exact hsz)
theorem ev_tuple {es : List Expr} {ms : List MV} {k : Nat} {p : Pos} (h : Evs C env σ es ms) (hsz : ms.length ≤ sizeLine) : Ev C env σ (.Tuple es k p) (.tuple ms) := fun s R => by
  refine Tuple_ (wpAny_mono (splicedV_ h s R) (fun vs s₁ h₁ => ?_) fun _ _ x => x)
  have hO := (R.ks h₁.1.ks).exO
  exact wpAny_newObj_type ⟨h₁.1.trans (keeps_push _), newT hO h₁.2⟩ (by show vs.toArray.size ≤ sizeLine; rw [List.size_toArray, h₁.2.length]; exact hsz)
theorem fn_len_str {x : Str} (hf : (x.length : Int) < 2 ^ 63) : Fn C (.builtin "len") [.str x] (.int x.length) := fun s O vals _ ha => by
  obtain ⟨v, r, rfl, ⟨t, rfl⟩, rfl⟩ := ha
  exact PyProof.Rows.len_str (by omega) ⟨.tok s _, _, rfl⟩
theorem fn_len_list {xs : List MV} (hf : (xs.length : Int) < 2 ^ 63) : Fn C (.builtin "len") [.list xs] (.int xs.length) := fun s O vals _ ha => by
  obtain ⟨v, r, rfl, ⟨a, vs, rfl, l, q⟩, rfl⟩ := ha
  have hl := q.length
  refine PyProof.Rows.len_list l (by simpa [hl] using hf) ⟨.tok s _, s.toks + 1, by simp [hl]⟩
/-- truth -/
noncomputable def Tr (C : Cx) (m : MV) (b : Bool) : Prop := ∀ s O v, VT s.heap O m v → wpAny C.M C.A (truthy v) (fun c s' => KSs [] s s' ∧ c = b) F s
theorem tr_bool {b : Bool} : Tr C (.bool b) b := fun s O v h => by cases h; exact wpAny_truthy_bool ⟨.refl s, rfl⟩
theorem tr_none : Tr C .none false := fun s O v h => by cases h; exact truthy_none ⟨.refl s, rfl⟩
theorem tr_int {i : Int} : Tr C (.int i) (i != 0) := fun s O v h => by obtain ⟨t, rfl⟩ := h; exact PyProof.Rows.truthy_int ⟨.refl s, rfl⟩
theorem tr_str {x : Str} (hf : (x.length : Int) < 2 ^ 63) : Tr C (.str x) ((x.length : Int) != 0) := fun s O v h => by
  obtain ⟨t, rfl⟩ := h
  exact PySem.P.truthy_str (by omega) ⟨.tok s _, rfl⟩
theorem evB_plain {e : Expr} {m : MV} {b : Bool} (h : EvT C env σ e m) (ht : Tr C m b) (he : ∀ whole, isTrue e env whole = (do let v ← whole; standAt e.pos; holding [v] (truthy v))) : EvB C env σ e b := fun s R => by
  refine isTrue_plain (wpAny_mono (h s R) (fun v s₁ h₁ => ?_) fun _ _ x => x) (he _)
  refine wpAny_mono (ht s₁ _ v h₁.2) (fun c s₂ h₂ => ?_) fun _ _ x => x
  exact ⟨h₁.1.trans (h₂.1.mono nil_sub), h₂.2⟩
theorem evB_not {e : Expr} {b : Bool} {p : Pos} (h : EvB C env σ e b) : EvB C env σ (.UnaryOp .Not e p) (!b) := fun s R =>
  isTrue_not (wpAny_mono (h s R) (fun c s₁ h₁ => ⟨h₁.1, by rw [h₁.2]⟩) fun _ _ x => x)
theorem evB_and_nil {p : Pos} : EvB C env σ (.BoolOp .And [] p) true := fun s R => isTrue_and_nil ⟨.refl s, rfl⟩
theorem evB_or_nil {p : Pos} : EvB C env σ (.BoolOp .Or [] p) false := fun s R => isTrue_or_nil ⟨.refl s, rfl⟩
theorem evB_and {x : Expr} {rest : List Expr} {p : Pos} {b c : Bool} (h : EvB C env σ x b) (h2 : b = true → EvB C env σ (.BoolOp .And rest p) c) : EvB C env σ (.BoolOp .And (x :: rest) p) (b && c) := fun s R => by
  refine isTrue_and (wpAny_mono (h s R) (fun b' s₁ h₁ => ?_) fun _ _ x => x)
  obtain ⟨k, rfl⟩ := h₁
  cases b' with
  | false => exact ⟨k, rfl⟩
  | true => exact wpAny_mono (h2 rfl s₁ (R.ks k.ks)) (fun c' s₂ h₂ => ⟨k.trans h₂.1, by rw [h₂.2]; rfl⟩) fun _ _ x => x
theorem evB_or {x : Expr} {rest : List Expr} {p : Pos} {b c : Bool} (h : EvB C env σ x b) (h2 : b = false → EvB C env σ (.BoolOp .Or rest p) c) : EvB C env σ (.BoolOp .Or (x :: rest) p) (b || c) := fun s R => by
  refine isTrue_or (wpAny_mono (h s R) (fun b' s₁ h₁ => ?_) fun _ _ x => x)
  obtain ⟨k, rfl⟩ := h₁
  cases b' with
  | true => exact ⟨k, rfl⟩
  | false => exact wpAny_mono (h2 rfl s₁ (R.ks k.ks)) (fun c' s₂ h₂ => ⟨k.trans h₂.1, by rw [h₂.2]; rfl⟩) fun _ _ x => x
theorem ev_ifexp {t x y : Expr} {p : Pos} {b : Bool} {m : MV} (h : EvB C env σ t b) (h1 : b = true → Ev C env σ x m) (h2 : b = false → Ev C env σ y m) : Ev C env σ (.IfExp t x y p) m := fun s R => by
  show wpAny _ _ (do if ← isTrue t env (eval t env) then eval x env else eval y env) _ _ s
  refine wpAny_bind (wpAny_mono (h s R) (fun b' s₁ h₁ => ?_) fun _ _ x => x)
  obtain ⟨k, rfl⟩ := h₁
  cases b' with
  | true => exact wpAny_mono (h1 rfl s₁ (R.ks k.ks)) (fun c' s₂ h₂ => ⟨k.trans h₂.1, h₂.2⟩) fun _ _ x => x
  | false => exact wpAny_mono (h2 rfl s₁ (R.ks k.ks)) (fun c' s₂ h₂ => ⟨k.trans h₂.1, h₂.2⟩) fun _ _ x => x
theorem wpS_while {t : Expr} {body orelse : List Stmt} {p : Pos} {Q : FM → St → Prop} (J : Nat → St → Prop)
    (turn : ∀ n σ', J n σ' → ∃ b, EvB C env σ' t b ∧ (b = true → wpSs C env body σ' fun fm τ => match fm with | .next | .cont => ∃ m, m < n ∧ J m τ | .brk => Q .next τ | .ret v => Q (.ret v) τ) ∧ (b = false → wpSs C env orelse σ' Q))
    (n : Nat) (h : J n σ) : wpS C env (.While t body orelse p) σ Q := fun X s R => by
  refine wpAny_While (codeAny_whileLoop (fun n s' => ∃ h' tk σ', s' = { s with heap := h', toks := tk } ∧ Rel C X env σ' h' ∧ J n σ') ?_ n ⟨s.heap, s.toks, σ, rfl, R, h⟩)
  rintro n s' ⟨h', tk, σ', rfl, R', hJ⟩
  obtain ⟨b, hb, h1, h2⟩ := turn n σ' hJ
  refine wpAny_mono (hb _ R'.toRelE) (fun b' s₂ p₂ => ?_) fun _ _ x => x.elim
  obtain ⟨⟨h2', tk2, rfl, k⟩, rfl⟩ := p₂
  have R₂ := R'.ks k
  cases b' with
  | true =>
    refine wpAny_mono (h1 rfl X _ R₂) (fun fl s₃ p₃ => ?_) fun _ _ x => x.elim
    obtain ⟨h3, tk3, rfl, fm, τ, fr, R₃, q⟩ := p₃
    cases fl <;> cases fm <;> first | exact fr.elim | skip
    · obtain ⟨m, hm, hj⟩ := q; exact ⟨m, hm, h3, tk3, τ, rfl, R₃, hj⟩
    · exact ⟨h3, tk3, rfl, .next, τ, trivial, R₃, q⟩
    · obtain ⟨m, hm, hj⟩ := q; exact ⟨m, hm, h3, tk3, τ, rfl, R₃, hj⟩
    · exact ⟨h3, tk3, rfl, .ret _, τ, fr, R₃, q⟩
  | false =>
    refine wpAny_mono (h2 rfl X _ R₂) (fun fl s₃ p₃ => ?_) fun _ _ x => x.elim
    obtain ⟨h3, tk3, rfl, r⟩ := p₃
    exact ⟨h3, tk3, rfl, r⟩
end
end Mine
namespace Mine
open PySem PySem.W PyProof.Rows
/-- every frame's slots may turn -/
noncomputable def Cx.Full (C : Cx) : Prop := ∀ e ∈ C.fs, ∀ a, e.frame = some a → a ∈ C.S
/-- what a def of the text yields -/
noncomputable def Spec (G : Gx) (full : Bool) (k : Nat) (f : Value) (args : List MV) (r : MV) : Prop :=
  ∀ C : Cx, C.G = G → C.lvl ≤ k → (full = true → C.Full) → ∀ s O vals, C.ok s.heap → FramesIn C.n₀ s.heap C.fs → (∀ x ∈ O, ∃ vs : Array Value, s.heap.PlainList x vs) → VIns s.heap O args vals →
    wpAny C.M C.A (call f vals) (fun v s' => KSs C.S s s' ∧ VIn s'.heap O r v) F s
section
variable {C : Cx} {env : Env} {σ : St}
theorem Evs.ts : ∀ {es : List Expr} {ms : List MV}, Evs C env σ es ms → EvTs C env σ es ms
  | _, _, .nil => .nil
  | _, _, .cons h n r => .cons h.t n r.ts
theorem evalArgsV_ {pos : Pos} {f : Value} {es : List Expr} {ms : List MV} (x : Evs C env σ es ms) (s : Shared) (R : RelE C env σ s.heap) :
    wpAny C.M C.A (evalArgs f true (backTo pos (starEach es env)) []) (fun a s' => KSs C.S s s' ∧ a.kw = [] ∧ VIns s'.heap (C.ex σ) ms a.pos) F s := by
  unfold evalArgs
  have h := splicedV_ (pos := pos) x s R
  cases x with
  | nil =>
    refine wpAny_bind (Calls.spliced_nil ?_)
    exact wpAny_bind (wpAny_pure (wpAny_holding (wpAny_bind (wpAny_pure (wpAny_bind (wpAny_pure (wpAny_pure ⟨.refl s, rfl, rfl⟩)))))))
  | cons a hn r =>
    rw [starEach_cons hn, backTo_cons] at h ⊢
    show wpAny _ _ (spliced _ >>= _) _ _ s
    refine wpAny_bind (wpAny_mono h (fun vs s' h' => ?_) fun _ _ x => x)
    refine wpAny_holding ?_
    exact wpAny_bind (wpAny_pure (wpAny_bind (wpAny_pure (wpAny_pure ⟨h'.1, rfl, h'.2⟩))))
theorem ev_call_f {x : Str} {fa : Addr} {p pos : Pos} {es : List Expr} {ms : List MV} {r : MV} {full : Bool} {k : Nat} (hx : Ev C env σ (.Name x p) (.obj (.ref fa))) (ha : Evs C env σ es ms) (hs : Spec C.G full k (.ref fa) ms r)
    (hk : C.lvl ≤ k) (hfull : full = true → C.Full) (hfn : ∀ h, C.ok h → ∃ o fd, h.get? fa = some o ∧ o.data = .func fd) : Ev C env σ (.Call (.Name x p) es [] pos) r := fun s R => by
  show wpAny _ _ (do callWith pos (← eval (.Name x p) env) [] (backTo pos (starEach es env)) (backToKw pos (keywordEach [] env))) _ _ s
  refine wpAny_bind (wpAny_mono (hx s R) (fun v s₁ h₁ => ?_) fun _ _ x => x)
  obtain ⟨k₁, rfl⟩ := h₁
  have R₁ := R.ks k₁.ks
  obtain ⟨o, fd, ho, hd⟩ := hfn _ R₁.base
  refine Calls.callWith_function (o := o) (fd := fd) (wpAny_mono (evalArgsV_ ha s₁ R₁) (fun a s₂ h₂ => ?_) fun _ _ x => x)
  obtain ⟨k₂, hkw, hv⟩ := h₂
  have R₂ := R₁.ks k₂.ks
  have hlow : fa ∉ C.S := R₁.notS ho (fun es ep q => by rw [hd] at q; cases q)
  refine ⟨⟨(k₂.ks fa o ho).1 hlow, hd⟩, ?_⟩
  rw [hkw]
  refine wpAny_mono (hs C rfl hk hfull s₂ _ _ R₂.base R₂.fr (fun x hx => (List.mem_append.mp hx).elim (R₂.own x) (R₂.outer x)) hv) (fun v s₃ h₃ => ?_) fun _ _ x => x
  exact ⟨(k₁.trans k₂).trans h₃.1, h₃.2⟩
theorem bindL_out {kindOf : Str → Option NameKind} {x : Str} : ∀ {binds : List (Str × Value)} {m : Str → Option Value}, x ∉ binds.map (·.1) → bindL kindOf binds m x = m x
  | [], _, _ => rfl
  | (n, v) :: r, m, h => by
    simp only [List.map_cons, List.mem_cons, not_or] at h
    unfold bindL
    rw [bindL_out h.2]
    split <;> simp [h.1]
theorem bindC_out {kindOf : Str → Option NameKind} {x : Str} : ∀ {binds : List (Str × Value)} {m : Str → Option Value}, x ∉ binds.map (·.1) → bindC kindOf binds m x = m x
  | [], _, _ => rfl
  | (n, v) :: r, m, h => by
    simp only [List.map_cons, List.mem_cons, not_or] at h
    unfold bindC
    rw [bindC_out h.2]
    split <;> simp [h.1]
theorem bindL_in {kindOf : Str → Option NameKind} {x : Str} {v : Value} (hk : kindOf x = some .local) : ∀ {binds : List (Str × Value)} {m : Str → Option Value}, (binds.map (·.1)).Nodup → (x, v) ∈ binds → bindL kindOf binds m x = some v
  | (n, u) :: r, m, hn, h => by
    simp only [List.map_cons, List.nodup_cons] at hn
    unfold bindL
    rcases List.mem_cons.mp h with e | h
    · cases e
      rw [bindL_out hn.1, if_pos hk]; simp
    · exact bindL_in hk hn.2 h
theorem bindC_in {kindOf : Str → Option NameKind} {x : Str} {v : Value} (hk : kindOf x ≠ some .local) : ∀ {binds : List (Str × Value)} {m : Str → Option Value}, (binds.map (·.1)).Nodup → (x, v) ∈ binds → bindC kindOf binds m x = some v
  | (n, u) :: r, m, hn, h => by
    simp only [List.map_cons, List.nodup_cons] at hn
    unfold bindC
    rcases List.mem_cons.mp h with e | h
    · cases e
      rw [bindC_out hn.1, if_neg hk]; simp
    · exact bindC_in hk hn.2 h
theorem zip_names : ∀ {names : List Str} {ms : List MV} {h : Heap} {O : List Addr} {vals : List Value}, VIns h O ms vals → ∀ {x : Str} {b : Bd}, sget (names.zip (ms.map .fz)) x = some b → ∃ m v, b = .fz m ∧ (x, v) ∈ names.zip vals ∧ VIn h O m v
  | [], _, _, _, _, _, x, b, e => by simp [sget] at e
  | n :: ns, [], _, _, _, _, x, b, e => by simp [sget] at e
  | n :: ns, m :: ms, h, O, _, ⟨v, r, rfl, hv, hr⟩, x, b, e => by
    simp only [List.map_cons, List.zip_cons_cons, sget] at e
    by_cases hx : n = x
    · rw [if_pos hx] at e; cases e; subst hx
      exact ⟨m, v, rfl, by simp, hv⟩
    · rw [if_neg hx] at e
      obtain ⟨m', v', a, b', c⟩ := zip_names hr e
      exact ⟨m', v', a, by simp [b'], c⟩
theorem owned_zip : ∀ (names : List Str) (ms : List MV), owned (names.zip (ms.map .fz)) = []
  | [], _ => rfl
  | n :: ns, [] => rfl
  | n :: ns, m :: ms => by simp only [List.map_cons, List.zip_cons_cons, owned]; exact owned_zip ns ms
/-- the frame of a call -/
noncomputable abbrev envAt (fd : FuncData) (L a : Addr) : Env := callEnvC fd L a
noncomputable def inner (C : Cx) (fd : FuncData) (L a : Addr) (O B : List Addr) (ro : Bool) (hl : C.lvl + 1 ≤ 100) : Cx where
  G := C.G
  A := C.A.deeper (envAt fd L a)
  hh := C.hh
  lvl := C.lvl + 1
  hd := by have := C.hd; show C.A.depth + 1 ≤ _; omega
  hu := by have := C.hu; show C.A.units + 3 ≤ _; omega
  hl := hl
  fs := envAt fd L a :: C.fs
  hfs := by show (C.A.frames.map _) = _; rw [C.hfs]; rfl
  S := L :: C.S
  hS := fun b hb => by
    rcases List.mem_cons.mp hb with rfl | hb
    · exact ⟨_, List.mem_cons_self, rfl⟩
    · obtain ⟨e, he, hf⟩ := C.hS b hb; exact ⟨e, List.mem_cons_of_mem _ he, hf⟩
  O := O
  mB := B
  ro := ro
/-- objects alone -/
noncomputable def GIn (h : Heap) (γ : St) : Prop := ∀ x a C d fs, (x, Bd.inst a C d fs) ∈ γ → InstIs h a C d fs
structure GOk (C : Cx) (h : Heap) (γ : St) : Prop where
  gin : GIn h γ
  apart : ∀ b ∈ instA γ, C.n₀ ≤ b ∧ ∀ e ∈ C.fs, e.frame ≠ some b
  nodup : (instA γ).Nodup
noncomputable def KMs (S B : List Addr) (s s' : Shared) : Prop := ∃ h' tk, s' = { s with heap := h', toks := tk } ∧ KM S B s.heap h'
/-- what a def of the text yields that turns objects -/
noncomputable def SpecO (G : Gx) (full : Bool) (k : Nat) (f : Value) (args : List MV) (γ : St) (r : MV) (γ' : St) : Prop :=
  ∀ C : Cx, C.G = G → C.lvl ≤ k → (full = true → C.Full) → ∀ s O vals, C.ok s.heap → FramesIn C.n₀ s.heap C.fs → (∀ x ∈ O, ∃ vs : Array Value, s.heap.PlainList x vs) → VIns s.heap O args vals → GOk C s.heap γ →
    wpAny C.M C.A (call f vals) (fun v s' => KMs C.S (instA γ) s s' ∧ GIn s'.heap γ' ∧ VIn s'.heap O r v) F s
theorem sget_append : ∀ {σ τ : St} {x : Str}, sget (σ ++ τ) x = match sget σ x with | some b => some b | none => sget τ x
  | [], _, _ => rfl
  | (y, b) :: r, τ, x => by
    by_cases h : y = x
    · simp [sget, h]
    · simp [sget, h, sget_append (σ := r)]
theorem instA_append : ∀ {σ τ : St}, instA (σ ++ τ) = instA σ ++ instA τ
  | [], _ => rfl
  | (_, .fz _) :: r, τ => instA_append (σ := r)
  | (_, .own _ _) :: r, τ => instA_append (σ := r)
  | (_, .inst a C d fs) :: r, τ => by simp only [List.cons_append, instA, instA_append (σ := r)]
theorem owned_append : ∀ {σ τ : St}, owned (σ ++ τ) = owned σ ++ owned τ
  | [], _ => rfl
  | (_, .fz _) :: r, τ => owned_append (σ := r)
  | (_, .own a _) :: r, τ => by simp only [List.cons_append, owned, owned_append (σ := r)]
  | (_, .inst _ _ _ _) :: r, τ => owned_append (σ := r)
theorem instA_zip : ∀ (names : List Str) (ms : List MV), instA (names.zip (ms.map .fz)) = []
  | [], _ => rfl
  | n :: ns, [] => rfl
  | n :: ns, m :: ms => by simp only [List.map_cons, List.zip_cons_cons, instA]; exact instA_zip ns ms
noncomputable def insts : St → Bool
  | [] => true
  | (_, .inst _ _ _ _) :: r => insts r
  | _ => false
theorem sget_mem : ∀ {γ : St} {x : Str} {b : Bd}, sget γ x = some b → (x, b) ∈ γ
  | (y, c) :: r, x, b, e => by
    by_cases h : y = x
    · simp [sget, h] at e; subst h; subst e; exact List.mem_cons_self
    · simp [sget, h] at e; exact List.mem_cons_of_mem _ (sget_mem e)
theorem insts_mem : ∀ {γ : St}, insts γ = true → ∀ {x : Str} {b : Bd}, (x, b) ∈ γ → ∃ a C d fs, b = .inst a C d fs
  | (_, .inst a C d fs) :: r, h, x, b, e => by
    rcases List.mem_cons.mp e with e | e
    · cases e; exact ⟨a, C, d, fs, rfl⟩
    · exact insts_mem (γ := r) h e
theorem GIn.live {h : Heap} : ∀ {γ : St}, GIn h γ → ∀ b ∈ instA γ, ∃ o, h.get? b = some o
  | [], _, b, hb => nomatch hb
  | (_, .fz _) :: r, g, b, hb => GIn.live (γ := r) (fun x a C d fs e => g x a C d fs (List.mem_cons_of_mem _ e)) b hb
  | (_, .own _ _) :: r, g, b, hb => GIn.live (γ := r) (fun x a C d fs e => g x a C d fs (List.mem_cons_of_mem _ e)) b hb
  | (y, .inst a C d fs) :: r, g, b, hb => by
    obtain ⟨⟨sl, ea⟩, _, mA, hN, _⟩ := g y a C d fs List.mem_cons_self
    simp only [instA, List.mem_cons] at hb
    rcases hb with rfl | rfl | hb
    · exact ⟨_, ea⟩
    · obtain ⟨o, es, ep, e, _⟩ := hN; exact ⟨o, e⟩
    · exact GIn.live (γ := r) (fun x a C d fs e => g x a C d fs (List.mem_cons_of_mem _ e)) b hb
theorem owned_insts : ∀ {γ : St}, insts γ = true → owned γ = []
  | [], _ => rfl
  | (_, .inst _ _ _ _) :: r, h => owned_insts (γ := r) h
/-- the rest of the facts of a def -/
structure IsDef0 (G : Gx) (fa : Addr) (fd : FuncData) (body : List Stmt) (names : List Str) : Prop where
  at_ : ∀ h, G.ok h → ∃ o, h.get? fa = some o ∧ o.data = .func fd
  code : ∀ h, G.ok h → h.CodeRec fd.code fd.qualname
  body : fd.body = .stmts body
  clo : fd.closure = []
  co : fd.scope.isCoroutine = false
  gen : fd.scope.isGenerator = false
  kind : fd.scope.kind = .function
  glob : fd.globals = mainGlobals ∧ fd.builtins = builtinsNs
  nodup : names.Nodup
  kinds : ∀ x ∈ names, fd.scope.names.lookup x = some .local ∨ fd.scope.names.lookup x = some .cell
structure IsDef (G : Gx) (fa : Addr) (fd : FuncData) (body : List Stmt) (names : List Str) : Prop extends IsDef0 G fa fd body names where
  binds : ∀ (M : Model) (h : Heap), G.ok h → ∀ vals : List Value, vals.length = names.length → Looks M h (bindArgs fd ⟨vals, []⟩) (names.zip vals)
theorem zip_map_fst {names : List Str} {vals : List Value} (h : vals.length = names.length) : (names.zip vals).map (·.1) = names := by
  rw [List.map_fst_zip]; omega
/-- the arguments are bound to the names -/
noncomputable def Binds (C : Cx) (s : Shared) (O : List Addr) (fd : FuncData) (args : Args) (names : List Str) (ms : List MV) : Prop :=
  ∀ A, wpAny C.M A (bindArgs fd args) (fun binds s₂ => ∃ vals, binds = names.zip vals ∧ vals.length = names.length ∧ KSs [] s s₂ ∧ VIns s₂.heap O ms vals) F s
theorem Binds.of {C : Cx} {s : Shared} {O : List Addr} {fd : FuncData} {args : Args} {names : List Str} {ms : List MV} {vals : List Value} (h : Looks C.M s.heap (bindArgs fd args) (names.zip vals)) (hn : ms.length = names.length) (hv : VIns s.heap O ms vals) : Binds C s O fd args names ms :=
  fun A => h.here ⟨vals, rfl, by rw [hv.length, hn], .refl s, hv⟩
/-- a call with its arguments bound to the names: the objects B may turn -/
noncomputable def CodeG (G : Gx) (full : Bool) (k : Nat) (fa : Addr) (fd : FuncData) (names : List Str) (ms : List MV) (γ : St) (B : List Addr) (r : MV) (γ' : St) : Prop :=
  ∀ C : Cx, C.G = G → C.lvl ≤ k → (full = true → C.Full) → ∀ s O args, Binds C s O fd args names ms → C.ok s.heap → FramesIn C.n₀ s.heap C.fs → (∀ x ∈ O, ∃ vs : Array Value, s.heap.PlainList x vs) → GOk C s.heap γ →
    codeAny C.M C.A (.call (.ref fa) args) (fun res s' => match res with | .ok (.ret v) => KMs C.S B s s' ∧ GIn s'.heap γ' ∧ VIn s'.heap O r v | _ => False) s
noncomputable abbrev CodeO (G : Gx) (full : Bool) (k : Nat) (fa : Addr) (fd : FuncData) (names : List Str) (ms : List MV) (γ : St) (r : MV) (γ' : St) : Prop := CodeG G full k fa fd names ms γ (instA γ) r γ'
theorem call_cells {prog : Program} {w : World} {A : Around} {s : Shared} {R : Result → Shared → Prop} {a : Addr} {o : Obj} {fd : FuncData} {body : List Stmt} {args : Args} {P : List (Str × Value) → Shared → Prop}
    (hroom : A.depth < recursionLimit) (ho : s.heap.get? a = some o) (hdata : o.data = .func fd) (hcd : s.heap.CodeRec fd.code fd.qualname)
    (hbody : fd.body = .stmts body) (hbind : ∀ A, wpAny (model prog w) A (bindArgs fd args) P F s) (hclo : fd.closure = [])
    (h : ∀ binds s, P binds s → s.heap.NoLimit ∧ (∀ x ∈ binds, fd.scope.names.lookup x.1 = some .local ∨ (fd.scope.names.lookup x.1 = some .cell ∧ ((cellsFrom (s.heap.objs.size + 1) fd.scope.names []).lookup x.1).isSome = true)) ∧
      ∀ s₁, InCallC s (callEnvC fd s.heap.objs.size a).locals (bindL (callEnvC fd s.heap.objs.size a).kindOf binds fun _ => none) (callEnvC fd s.heap.objs.size a).cells
        (bindC (callEnvC fd s.heap.objs.size a).kindOf binds fun _ => none) s₁ →
      wpAny (model prog w) (A.deeper (callEnvC fd s.heap.objs.size a)) (execs body (callEnvC fd s.heap.objs.size a)) (fun f s' => R (.ok (.ret (match f with | .ret v => v | _ => .none))) s')
        (fun e s' => wpAny (model prog w) (A.deeper (callEnvC fd s.heap.objs.size a)) (leaving (callEnvC fd s.heap.objs.size a) e) (fun _ s'' => R (.error e) s'') (fun e' s'' => R (.error e') s'') s') s₁)
    (hco : fd.scope.isCoroutine = false) (hgen : fd.scope.isGenerator = false) (hk : fd.scope.kind = .function) :
    codeAny (model prog w) A (.call (.ref a) args) R s := by
  refine codeAny_call_function hroom ho hdata hco hgen hbody hcd ?_
  rw [hclo]
  refine wpAny_mono (hbind _) (fun binds s₂ hp => ?_) fun _ _ x => x.elim
  obtain ⟨hlim, hkind, hh⟩ := h binds s₂ hp
  refine wpAny_newFunctionEnv_cells hk hkind fun env he s' x => ?_
  subst he
  exact ⟨hlim.keeps x.toInCall.keep, codeAny_func (hh s' x)⟩
theorem rel_start {C : Cx} {fa : Addr} {fd : FuncData} {body : List Stmt} {names : List Str} {ms : List MV} {γ : St} (B : List Addr) (ro : Bool) (hro : ro = true ∨ B = instA γ) (D : IsDef0 C.G fa fd body names) (hγ : insts γ = true) (hg : ∀ p ∈ γ, fd.scope.names.lookup p.1 = none)
    {s : Shared} {O : List Addr} {vals : List Value} (hlen : vals.length = names.length) (hok : C.ok s.heap) (hfr : FramesIn C.n₀ s.heap C.fs) (hO : ∀ x ∈ O, ∃ vs : Array Value, s.heap.PlainList x vs) (hv : VIns s.heap O ms vals) (hgo : GOk C s.heap γ) (hl1 : C.lvl + 1 ≤ 100)
    {h₁ : Heap} {tk₁ : Nat} (I : InCallC s (callEnvC fd s.heap.objs.size fa).locals (bindL (callEnvC fd s.heap.objs.size fa).kindOf (names.zip vals) fun _ => none) (callEnvC fd s.heap.objs.size fa).cells (bindC (callEnvC fd s.heap.objs.size fa).kindOf (names.zip vals) fun _ => none) { s with heap := h₁, toks := tk₁ }) :
    Rel (inner C fd s.heap.objs.size fa O B ro hl1) s.heap (envAt fd s.heap.objs.size fa) (names.zip (ms.map .fz) ++ γ) h₁ := by
  let L := s.heap.objs.size
  let C' := inner C fd L fa O B ro hl1
  have hLn : s.heap.get? L = none := Heap.get?_none_of_le (Nat.le_refl _)
  have hnL : C.n₀ ≤ L := C.G.low _ hok
  have keep := I.toInCall.keep
  have how : owned (names.zip (ms.map .fz) ++ γ) = [] := by rw [owned_append, owned_zip, owned_insts hγ]; rfl
  have hin : instA (names.zip (ms.map .fz) ++ γ) = instA γ := by rw [instA_append, instA_zip]; rfl
  have hne : ∀ b ∈ instA γ, b ≠ L := fun b hb q => by
    obtain ⟨o, e⟩ := hgo.gin.live b hb
    subst q; rw [hLn] at e; cases e
  have R : Rel C' s.heap (envAt fd L fa) (names.zip (ms.map .fz) ++ γ) h₁ := by
    refine { base := C.mono _ _ (fun b o _ e => keep b o e) hok, fr := ?_, kind := D.kind, glob := D.glob, vars := ?_, own := ?_, outer := fun a ha => let ⟨vs, n, e⟩ := hO a ha; ⟨vs, n, keep _ _ e⟩, insN := ?_, insNd := ?_, keepX := (KS.of_keep keep).km, ns := ⟨_, I.toInCall.ns⟩, nsX := hLn, nsN := hnL, cells := ?_, apart := I.apart, ownX := ?_, ownN := ?_, ownNd := ?_, insX := hro.imp id fun hB b hb => .inl (by show b ∈ B; rw [hB]; rw [hin] at hb; exact hb), outX := fun a ha => let ⟨vs, n, e⟩ := hO a ha; ⟨_, e⟩ }
    · intro e he
      rcases List.mem_cons.mp he with rfl | he
      · obtain ⟨o2, es, ep, e2, d2, _⟩ := id I.toInCall.ns
        exact ⟨by rw [show (envAt fd L fa).scope.kind = _ from D.kind]; decide, L, o2, rfl, hnL, e2, es, ep, d2⟩
      · exact hfr.ks (S := []) (.of_keep keep) e he
    · intro x b hb
      rw [sget_append] at hb
      cases hq : sget (names.zip (ms.map .fz)) x with
      | some b' =>
        rw [hq] at hb
        cases hb
        obtain ⟨m, v, rfl, hmem, hvi⟩ := zip_names hv hq
        have hxn : x ∈ names := (List.of_mem_zip hmem).1
        have hnd : ((names.zip vals).map (·.1)).Nodup := by rw [zip_map_fst hlen]; exact D.nodup
        have hvi' : BIn h₁ (C'.ex (names.zip (ms.map .fz) ++ γ)) (.fz m) v := by
          unfold Cx.ex
          rw [how]
          exact VIn.ks (S := []) (.of_keep keep) hvi
        unfold VarIs
        rcases D.kinds x hxn with hk | hk
        · rw [show (envAt fd L fa).kindOf x = some .local from hk]
          exact ⟨_, v, I.toInCall.ns, bindL_in hk hnd hmem, hvi'⟩
        · rw [show (envAt fd L fa).kindOf x = some .cell from hk]
          obtain ⟨c, hc⟩ := Option.isSome_iff_exists.mp (PySem.W.cellsFrom_some (x := x) fd.scope.names (L + 1) [] (.inl hk))
          refine ⟨c, v, hc, ?_, hvi'⟩
          have := I.cell x c hc
          rwa [bindC_in (by show (envAt fd L fa).kindOf x ≠ _; rw [show (envAt fd L fa).kindOf x = some .cell from hk]; decide) hnd hmem] at this
      | none =>
        rw [hq] at hb
        have hm := sget_mem hb
        obtain ⟨a, Ca, d, fs, rfl⟩ := insts_mem hγ hm
        unfold VarIs
        rw [show (envAt fd L fa).kindOf x = none from hg _ hm]
        exact ⟨.ref a, rfl, (hgo.gin x a Ca d fs hm).ks (S := []) (.of_keep keep)⟩
    · intro a ha; rw [how] at ha; exact nomatch ha
    · intro b hb
      rw [hin] at hb
      refine ⟨(hgo.apart b hb).1, hne b hb, fun e he => ?_⟩
      rcases List.mem_cons.mp he with rfl | he
      · intro q; exact hne b hb (Option.some.inj q).symm
      · exact (hgo.apart b hb).2 e he
    · rw [hin]; exact hgo.nodup
    · intro x c hc
      have hlt := I.above x c (mem_of_lookup hc)
      exact ⟨⟨_, I.cell x c hc⟩, Heap.get?_none_of_le (Nat.le_of_lt hlt), Nat.le_trans hnL (Nat.le_of_lt hlt)⟩
    · intro a ha; rw [how] at ha; exact nomatch ha
    · intro a ha; rw [how] at ha; exact nomatch ha
    · rw [how]; exact .nil
  exact R
theorem codeG_of {G : Gx} {fa : Addr} {fd : FuncData} {body : List Stmt} {names : List Str} {ms : List MV} {γ γ' : St} (B : List Addr) (ro : Bool) (hro : ro = true ∨ B = instA γ) {r : MV} {full : Bool} {k : Nat} (D : IsDef G fa fd body names) (hk : k + 1 ≤ 100) (hn : ms.length = names.length)
    (hγ : insts γ = true) (hg : ∀ p ∈ γ, fd.scope.names.lookup p.1 = none)
    (hb : ∀ C : Cx, C.G = G → C.lvl ≤ k + 1 → (full = true → C.Full) → ∀ L, C.mB = B → C.ro = ro → (instA γ).Nodup → wpSs C (envAt fd L fa) body (names.zip (ms.map .fz) ++ γ) fun fm σ' => (match fm with | .ret m => m = r | .next => r = .none | _ => False) ∧ ∀ p ∈ γ', sget σ' p.1 = some p.2)
    (hg' : ∀ p ∈ γ', fd.scope.names.lookup p.1 = none) :
    CodeG G full k fa fd names ms γ B r γ' := fun C hG hlv hfull s₀ O args hbd hok₀ hfr₀ hO₀ hgo₀ => by
  subst hG
  obtain ⟨o, ho, hd⟩ := D.at_ _ hok₀
  refine call_cells C.room ho hd (D.code _ hok₀) D.body hbd D.clo (fun binds s hp => ?_) D.co D.gen D.kind
  obtain ⟨vals, rfl, hlen, ks, hv⟩ := hp
  obtain ⟨h₀', t₂, hse, k₂⟩ := id ks
  have kk₂ : ∀ b o, s₀.heap.get? b = some o → s.heap.get? b = some o := by rw [hse]; exact k₂.keep
  have hok : C.ok s.heap := C.mono _ _ (fun b o _ e => kk₂ b o e) hok₀
  have hfr : FramesIn C.n₀ s.heap C.fs := hfr₀.ks (S := []) (.of_keep kk₂)
  have hO : ∀ x ∈ O, ∃ vs : Array Value, s.heap.PlainList x vs := fun a ha => let ⟨vs, n, e⟩ := hO₀ a ha; ⟨vs, n, kk₂ _ _ e⟩
  have hgo : GOk C s.heap γ := ⟨fun x a Ca d fs hm => (hgo₀.gin x a Ca d fs hm).ks (S := []) (.of_keep kk₂), hgo₀.apart, hgo₀.nodup⟩
  refine ⟨C.G.nolim _ hok, ?_, fun s₁ I => ?_⟩
  · intro x hx
    have hx' : x.1 ∈ names := by
      have : x.1 ∈ (names.zip vals).map (·.1) := List.mem_map_of_mem hx
      rwa [zip_map_fst hlen] at this
    rcases D.kinds x.1 hx' with h | h
    · exact .inl h
    · exact .inr ⟨h, PySem.W.cellsFrom_some _ _ _ (.inl h)⟩
  · have hl1 : C.lvl + 1 ≤ 100 := by omega
    let L := s.heap.objs.size
    let C' := inner C fd L fa O B ro hl1
    obtain ⟨h₁, tk₁, rfl⟩ := I.toInCall.same
    have hLn : s.heap.get? L = none := Heap.get?_none_of_le (Nat.le_refl _)
    have R : Rel C' s.heap (envAt fd L fa) (names.zip (ms.map .fz) ++ γ) h₁ := rel_start B ro hro D.toIsDef0 hγ hg hlen hok hfr hO hv hgo hl1 I
    have hfull' : full = true → C'.Full := fun h e he a hf => by
      rcases List.mem_cons.mp he with rfl | he
      · cases hf; exact List.mem_cons_self
      · exact List.mem_cons_of_mem _ (hfull h e he a hf)
    refine wpAny_mono (hb C' rfl (by show C.lvl + 1 ≤ k + 1; omega) hfull' L rfl rfl hgo.nodup s.heap _ R) (fun fl s₂ p₂ => ?_) fun _ _ x => x.elim
    obtain ⟨h₂, tk₂, rfl, fm, σ', fr, R₂, q, qg⟩ := p₂
    have km2 : KM C.S B s.heap h₂ := fun b o e hB => by
      obtain ⟨k1, k2⟩ := R₂.keepX b o e hB
      refine ⟨fun hb => k1 fun hm => ?_, k2⟩
      rcases List.mem_cons.mp hm with rfl | hm
      · rw [hLn] at e; cases e
      · exact hb hm
    have kk : KMs C.S B s₀ { s with heap := h₂, toks := tk₂ } := by
      rw [hse]
      exact ⟨h₂, tk₂, rfl, fun b o eb hB => km2 b o (kk₂ b o eb) hB⟩
    have gg : GIn h₂ γ' := fun x a Ca d fs hm => by
      have hv := R₂.vars x _ (qg _ hm)
      unfold VarIs at hv
      rw [show (envAt fd L fa).kindOf x = none from hg' _ hm] at hv
      obtain ⟨v, _, hi⟩ := hv
      exact hi
    have back : ∀ {m : MV} {v : Value}, VIn h₂ (C'.ex σ') m v → VIn h₂ O m v := fun x => x.more fun a ha => .inl (List.mem_append_right _ ha)
    rcases fl with _ | _ | _ | v <;> rcases fm with _ | _ | _ | m <;> first | exact (show False from fr).elim | exact (show False from q).elim | skip
    · have q' : r = .none := q
      subst q'; exact ⟨kk, gg, rfl⟩
    · have q' : m = r := q
      subst q'; exact ⟨kk, gg, back fr⟩
theorem codeO_of {G : Gx} {fa : Addr} {fd : FuncData} {body : List Stmt} {names : List Str} {ms : List MV} {γ γ' : St} {r : MV} {full : Bool} {k : Nat} (D : IsDef G fa fd body names) (hk : k + 1 ≤ 100) (hn : ms.length = names.length)
    (hγ : insts γ = true) (hg : ∀ p ∈ γ, fd.scope.names.lookup p.1 = none)
    (hb : ∀ C : Cx, C.G = G → C.lvl ≤ k + 1 → (full = true → C.Full) → ∀ L, C.mB = instA γ → C.ro = false → (instA γ).Nodup → wpSs C (envAt fd L fa) body (names.zip (ms.map .fz) ++ γ) fun fm σ' => (match fm with | .ret m => m = r | .next => r = .none | _ => False) ∧ ∀ p ∈ γ', sget σ' p.1 = some p.2)
    (hg' : ∀ p ∈ γ', fd.scope.names.lookup p.1 = none) : CodeO G full k fa fd names ms γ r γ' := codeG_of _ false (.inr rfl) D hk hn hγ hg hb hg'
/-- a def that reads objects and turns none -/
noncomputable def SpecR (G : Gx) (full : Bool) (k : Nat) (f : Value) (args : List MV) (γ : St) (r : MV) : Prop :=
  ∀ C : Cx, C.G = G → C.lvl ≤ k → (full = true → C.Full) → ∀ s O vals, C.ok s.heap → FramesIn C.n₀ s.heap C.fs → (∀ x ∈ O, ∃ vs : Array Value, s.heap.PlainList x vs) → VIns s.heap O args vals → GOk C s.heap γ →
    wpAny C.M C.A (call f vals) (fun v s' => KSs C.S s s' ∧ VIn s'.heap O r v) F s
theorem specR_of {G : Gx} {fa : Addr} {fd : FuncData} {body : List Stmt} {names : List Str} {ms : List MV} {γ : St} {r : MV} {full : Bool} {k : Nat} (D : IsDef G fa fd body names) (hk : k + 1 ≤ 100) (hn : ms.length = names.length)
    (hγ : insts γ = true) (hg : ∀ p ∈ γ, fd.scope.names.lookup p.1 = none)
    (hb : ∀ C : Cx, C.G = G → C.lvl ≤ k + 1 → (full = true → C.Full) → ∀ L, (instA γ).Nodup → wpSs C (envAt fd L fa) body (names.zip (ms.map .fz) ++ γ) fun fm _ => match fm with | .ret m => m = r | .next => r = .none | _ => False) :
    SpecR G full k (.ref fa) ms γ r := fun C hG hlv hfull s O vals hok hfr hO hv hgo => by
  have h := codeG_of (γ := γ) (γ' := []) (r := r) [] true (.inl rfl) D hk hn hγ hg (fun C' a b c L _ _ nd => by
    intro X s R
    refine wpAny_mono (hb C' a b c L nd X s R) (fun fl s' p => ?_) fun _ _ x => x
    obtain ⟨h', tk, e, fm, σ', fr, R', q⟩ := p
    exact ⟨h', tk, e, fm, σ', fr, R', q, fun _ h => nomatch h⟩) (fun _ h => nomatch h) C hG hlv hfull s O ⟨vals, []⟩ (.of (D.binds _ _ (by rw [← hG]; exact hok) vals (by rw [hv.length, hn])) hn hv) hok hfr hO hgo
  refine wpAny_call (codeAny_mono h fun res s' p => ?_)
  rcases res with e | (_ | _ | _ | v) <;> first | exact p.elim | skip
  obtain ⟨⟨h', tk, e, km⟩, _, hv'⟩ := p
  exact ⟨⟨h', tk, e, km.ks⟩, hv'⟩
theorem CodeO.spec {G : Gx} {fa : Addr} {fd : FuncData} {body : List Stmt} {names : List Str} {ms : List MV} {γ γ' : St} {r : MV} {full : Bool} {k : Nat} (D : IsDef G fa fd body names) (hn : ms.length = names.length) (h : CodeO G full k fa fd names ms γ r γ') :
    SpecO G full k (.ref fa) ms γ r γ' := fun C hG hlv hfull s O vals hok hfr hO hv hgo => by
  refine wpAny_call (codeAny_mono (h C hG hlv hfull s O ⟨vals, []⟩ (.of (D.binds _ _ (by rw [← hG]; exact hok) vals (by rw [hv.length, hn])) hn hv) hok hfr hO hgo) fun res s' p => ?_)
  rcases res with e | (_ | _ | _ | v) <;> first | exact p | exact p.elim
theorem spec_of {G : Gx} {fa : Addr} {fd : FuncData} {body : List Stmt} {names : List Str} {ms : List MV} {r : MV} {full : Bool} {k : Nat} (D : IsDef G fa fd body names) (hk : k + 1 ≤ 100) (hn : ms.length = names.length)
    (hb : ∀ C : Cx, C.G = G → C.lvl ≤ k + 1 → (full = true → C.Full) → ∀ L, wpSs C (envAt fd L fa) body (names.zip (ms.map .fz)) fun fm _ => match fm with | .ret m => m = r | .next => r = .none | _ => False) :
    Spec G full k (.ref fa) ms r := fun C hG hlv hfull s O vals hok hfr hO hv => by
  have h := CodeO.spec D hn (codeG_of (γ := []) (γ' := []) (r := r) [] false (.inr rfl) D hk hn rfl (fun _ h => nomatch h) (fun C' a b c L _ _ _ => by
    rw [List.append_nil]
    intro X s R
    refine wpAny_mono (hb C' a b c L X s R) (fun fl s' p => ?_) fun _ _ x => x
    obtain ⟨h', tk, e, fm, σ', fr, R', q⟩ := p
    exact ⟨h', tk, e, fm, σ', fr, R', q, fun _ h => nomatch h⟩) (fun _ h => nomatch h)) C hG hlv hfull s O vals hok hfr hO hv ⟨(by intro _ _ _ _ _ h; cases h), (by intro _ h; cases h), List.nodup_nil⟩
  refine wpAny_mono h (fun v s' p => ?_) fun _ _ x => x
  obtain ⟨⟨h', tk, e, km⟩, _, hv'⟩ := p
  exact ⟨⟨h', tk, e, km.ks⟩, hv'⟩
end
end Mine
namespace Mine
open PySem PySem.W PyProof.Rows
section
variable {C : Cx} {env : Env} {σ : St}
theorem RelE.inst {h : Heap} (R : RelE C env σ h) {x : Str} {a Cl d : Addr} {fs : List (Str × MV)} (e : sget σ x = some (.inst a Cl d fs)) : InstIs h a Cl d fs := by
  have hv := R.vars x _ e
  unfold VarIs at hv
  split at hv
  · obtain ⟨_, _, _, _, _, i⟩ := hv; exact i
  · obtain ⟨_, _, _, _, _, i⟩ := hv; exact i
  · obtain ⟨_, _, _, _, _, i⟩ := hv; exact i
  · obtain ⟨_, _, i⟩ := hv; exact i
/-- what the top holds -/
noncomputable def KOk (C : Cx) (K : Frag) : Prop := ∀ h, C.ok h → K.In h
structure ClsOk (K : Frag) (Cl : Addr) : Prop where
  ga : findIn K (.ref Cl) "__getattribute__" = some (some (.builtin "object.__getattribute__"))
  gh : findIn K (.ref Cl) "__getattr__" = some none
  sa : findIn K (.ref Cl) "__setattr__" = some (some (.builtin "object.__setattr__"))
  hd : (clsIn K Cl).any (·.hasDict) = true
  po : plainOver K Cl = true
theorem look_of {es : Array DictEntry} {ep : Nat} {o : Obj} (hd : o.data = .dict es ep) (hk : StrKeys es) (n : Str) : lookIn n o = some (nsFind es n) := by
  unfold lookIn nsFind findBy
  rw [hd]
  dsimp only
  rw [← Array.find?_toList]
  cases h : es.toList.find? (fun e => e.key.isStr n) with
  | some e => rfl
  | none =>
    dsimp only
    rw [if_neg]
    · rfl
    · intro q
      obtain ⟨e, he, hr⟩ := List.any_eq_true.mp q
      obtain ⟨n', t, hkey⟩ := hk e (Array.mem_toList_iff.mp he)
      unfold DictEntry.refKey at hr
      rw [hkey] at hr
      cases hr
theorem InstIs.look {h : Heap} {a Cl d : Addr} {fs : List (Str × MV)} (I : InstIs h a Cl d fs) : ∃ sl od mA, InstAt h a ⟨.ref Cl, some d, .plain, sl⟩ Cl (some od) ∧ (∀ n, lookIn n od = some (mA n)) ∧ Flds h fs mA ∧ h.Ns1 d mA := by
  obtain ⟨⟨sl, ea⟩, hne, mA, hN, hF⟩ := I
  obtain ⟨o, es, ep, e, hd, hk, hu, hf⟩ := id hN
  exact ⟨sl, o, mA, ⟨ea, rfl, rfl, e⟩, fun n => by rw [look_of hd hk, hf], hF, hN⟩
theorem ScV.handed {h : Heap} {m : MV} {v : Value} (hs : ScV h m v) (hm : ∀ u, m = .obj u → handedIn u = true) : handedIn v = true := by
  cases m with
  | none => cases hs; rfl
  | bool b => cases hs; rfl
  | int i => obtain ⟨t, rfl⟩ := hs; rfl
  | str x => obtain ⟨t, rfl⟩ := hs; rfl
  | obj u => cases hs; exact hm _ rfl
  | deq => obtain ⟨p, rfl, _⟩ := hs; rfl
  | list _ => exact hs.elim
  | tuple _ => exact hs.elim
theorem find_own {K : Frag} {Cl : Addr} {od : Obj} {name : Str} {v : Value} (hc : (clsIn K Cl).any (·.hasDict) = true) (hn : findIn K (.ref Cl) name = some none) (hl : lookIn name od = some (some v)) : findObj K Cl (some od) name = some (.value v) := by
  obtain ⟨cd, hcd, hh⟩ := any_some hc
  unfold findObj W.ownOf
  rw [hcd, hn]
  simp only [Option.bind_some, hh, if_true, hl]
theorem ev_attr {o : Expr} {name x : Str} {p : Pos} {a Cl d : Addr} {fs : List (Str × MV)} {m : MV} {K : Frag} (hK : KOk C K) (hC : ClsOk K Cl) (ho : Ev C env σ o (.obj (.ref a))) (hx : sget σ x = some (.inst a Cl d fs))
    (hf : fget fs name = some m) (hn : findIn K (.ref Cl) name = some none) (hm : ∀ u, m = .obj u → handedIn u = true) (hbase : attributeBase o name env (eval o env) = eval o env) : Ev C env σ (.Attribute o name p) m := fun s R => by
  rw [arm_eval_Attribute, hbase]
  refine wpAny_bind (wpAny_mono (ho s R) (fun ov s₁ h₁ => wpAny_bind (wpAny_standAt (wpAny_bind (wpAny_holding ?_)))) fun _ _ h => h)
  obtain ⟨k₁, rfl⟩ := h₁
  have R₁ := R.ks k₁.ks
  obtain ⟨sl, od, mA, I, hl, hF, _⟩ := (R₁.inst hx).look
  have hq := hF name
  rw [hf] at hq
  obtain ⟨v, hv, hs⟩ := hq
  refine get_value (hK _ R₁.base) I hC.ga (find_own hC.hd hn (by rw [hl, hv])) (hs.handed hm) ?_
  refine wpAny_bind (wpAny_letTemporaryGo (wpAny_pure ⟨?_, hs.vin⟩))
  exact k₁.trans (.tok s₁ _)
/-- a method of an object, called -/
theorem imeth_ {o : Expr} {name x : Str} {apos pos : Pos} {es : List Expr} {a Cl d f : Addr} {fs : List (Str × MV)} {ms : List MV} {K : Frag} {Q : Value → Shared → Prop} {E : Value → Shared → Prop} (hK : KOk C K) (hC : ClsOk K Cl) (ho : Ev C env σ o (.obj (.ref a))) (hx : sget σ x = some (.inst a Cl d fs))
    (hf : fget fs name = none) (hn : findIn K (.ref Cl) name = some (some (.ref f))) (ht : typeIn K (.ref f) = some (.type "function")) (ha : Evs C env σ es ms) (hbase : attributeBase o name env (eval o env) = eval o env) (hline : (apos.endLine == pos.line) = true) (hfew : es.length < 29)
    (hfn : ∀ h, C.ok h → ∃ o fd, h.get? f = some o ∧ o.data = .func fd)
    (s : Shared) (R : RelE C env σ s.heap) (h : ∀ s₂ vals, KSs C.S s s₂ → RelE C env σ s₂.heap → VIns s₂.heap (C.ex σ) ms vals → wpAny C.M C.A (call (.ref f) (.ref a :: vals)) Q E s₂) :
    wpAny C.M C.A (eval (.Call (.Attribute o name apos) es [] pos) env) Q E s := by
  rw [arm_eval_Call, hbase]
  refine wpAny_bind (wpAny_mono (ho s R) (fun ov s₁ h₁ => ?_) fun _ _ h => h.elim)
  obtain ⟨k₁, rfl⟩ := h₁
  have R₁ := R.ks k₁.ks
  obtain ⟨sl, od, mA, I, hl, hF, _⟩ := (R₁.inst hx).look
  have hq := hF name
  rw [hf] at hq
  refine wpAny_bind (wpAny_standAt ?_)
  have hform : methodCallForm (es.length + ([] : List Keyword).length) (backTo pos (starEach es env)) (backToKw pos (keywordEach [] env)) = true := by
    unfold methodCallForm
    rw [(plain_args ha.ts).2.1]
    show (true && true && decide (es.length + 0 + 0 < 30)) = true
    simp; omega
  have hpos : methodCallPos true o env apos pos = pure pos := by unfold methodCallPos; simp [hline]
  unfold methodCall
  rw [hform]
  refine wpAny_bind (wpAny_holding (method_fn (hK _ R₁.base) I hC.ga hC.gh hn ht (by show (lookIn name od).map (·.isSome) = some false; rw [hl, show mA name = none from hq]; rfl) ?_))
  refine wpAny_bind (wpAny_of_eq hpos ?_)
  obtain ⟨o', fd, hof, hdf⟩ := hfn _ R₁.base
  refine Calls.callWith_function (o := o') (fd := fd) (wpAny_mono (evalArgsV_ ha s₁ R₁) (fun ar s₂ h₂ => ?_) fun _ _ x => x.elim)
  obtain ⟨k₂, hkw, hv⟩ := h₂
  have R₂ := R₁.ks k₂.ks
  have hlow : f ∉ C.S := R₁.notS hof (fun es ep q => by rw [hdf] at q; cases q)
  refine ⟨⟨(k₂.ks f o' hof).1 hlow, hdf⟩, ?_⟩
  rw [hkw]
  exact h s₂ _ (k₁.trans k₂) R₂ hv
theorem Flds.within {hp : Heap} {fs : List (Str × MV)} {mA : Str → Option Value} (h : Flds hp fs mA) : Within mA (fs.map (·.1)) := fun y hy => by
  have hq := h y
  cases e : fget fs y with
  | none => rw [e] at hq; exact absurd hq hy
  | some m =>
    clear hq hy h
    induction fs with
    | nil => cases e
    | cons p r ih =>
      obtain ⟨z, c⟩ := p
      by_cases hz : z = y
      · subst hz; simp
      · simp [fget, hz] at e; simp [ih e]
theorem Flds.put {hp : Heap} {fs : List (Str × MV)} {mA : Str → Option Value} {name : Str} {m : MV} {v : Value} (h : Flds hp fs mA) (hv : ScV hp m v) : Flds hp (fput fs name m) (fun y => if y = name then some v else mA y) := fun y => by
  rw [fget_fput]
  by_cases e : name = y
  · subst e; rw [if_pos rfl]; exact ⟨v, by simp, hv⟩
  · rw [if_neg e]
    have hq := h y
    cases e2 : fget fs y with
    | none => rw [e2] at hq; show (if y = name then some v else mA y) = none; rw [if_neg (Ne.symm e)]; exact hq
    | some m' => rw [e2] at hq; obtain ⟨u, a, b⟩ := hq; exact ⟨u, by show (if y = name then some v else mA y) = some u; rw [if_neg (Ne.symm e)]; exact a, b⟩
theorem setattr_ {name : Str} {a Cl d : Addr} {fs : List (Str × MV)} {m : MV} {v : Value} {K : Frag} {s : Shared} {Q : Unit → Shared → Prop} {E : Value → Shared → Prop} (X : K.In s.heap) (hC : ClsOk K Cl) (I : InstIs s.heap a Cl d fs) (hn : findIn K (.ref Cl) name = some none) (hv : ScV s.heap m v) (hlen : fs.length < 1000)
    (h : ∀ h' tk, InstIs h' a Cl d (fput fs name m) → Heap.SameBut d s.heap h' → Q () { s with heap := h', toks := tk }) : wpAny C.M C.A (setAttr (.ref a) name v) Q E s := by
  obtain ⟨sl, od, mA, IA, hl, hF, hN⟩ := I.look
  obtain ⟨cd, hc, hd'⟩ := any_some hC.hd
  refine set_plain X IA hC.sa (osa_open (s := { s with toks := s.toks + 1 }) X IA hC.po (r := none) (by unfold takerIn; rw [hn]; rfl) fun b => ?_)
  obtain ⟨hx, _, _, _⟩ := IA
  refine wpAny_bind (wpAny_pure (wpAny_bind (wpAny_bind (wpAny_loadPart hx (wpAny_bind ((looks_clsIn (h := s.heap) X hc) _ _ _ _ (fun _ _ e => e) ?_))))))
  rw [hd']
  refine wpAny_pure (a := some d) (wpAny_bind (wpAny_pure (wpAny_bind ?_)))
  refine wpAny_nsSet1 (s := { s with toks := s.toks + 1 }) hN fun h' hn' hs => ?_
  obtain ⟨oD, esD, epD, hoD, hdD, hcD⟩ := hn'.count (Within.cons name v hF.within)
  refine wpAny_bind (wpAny_lookBehind hoD (by rw [hdD]; exact pastItsLine_dict (Nat.le_trans hcD (by rw [List.length_cons, List.length_map, sizeLine_eq]; omega))) ?_)
  refine wpAny_pure ?_
  exact h h' _ ⟨⟨sl, (hs.2 a (Ne.symm I.ne)).trans hx⟩, I.ne, _, hn', (hF.put hv).to fun _ q => (by obtain ⟨o0, es0, ep0, e0, d0, _⟩ := hN; exact q.off e0 (fun vs z => by rw [d0] at z; cases z) hs)⟩ hs
theorem instA_put {x : Str} {a Cl d : Addr} {fs fs' : List (Str × MV)} : ∀ {σ : St}, sget σ x = some (.inst a Cl d fs) → instA (sput σ x (.inst a Cl d fs')) = instA σ
  | (z, c) :: r, e => by
    by_cases hz : z = x
    · simp [sget, hz] at e; subst e; simp [sput, hz, instA]
    · simp [sget, hz] at e
      cases c <;> simp [sput, hz, instA, instA_put e]
theorem owned_put {x : Str} {a Cl d : Addr} {fs fs' : List (Str × MV)} : ∀ {σ : St}, sget σ x = some (.inst a Cl d fs) → owned (sput σ x (.inst a Cl d fs')) = owned σ
  | (z, c) :: r, e => by
    by_cases hz : z = x
    · simp [sget, hz] at e; subst e; simp [sput, hz, owned]
    · simp [sget, hz] at e
      cases c <;> simp [sput, hz, owned, owned_put e]
theorem inst_apart {x y : Str} {a Cl d a' Cl' d' : Addr} {fs fs' : List (Str × MV)} (hxy : x ≠ y) : ∀ {σ : St}, (instA σ).Nodup → sget σ x = some (.inst a Cl d fs) → sget σ y = some (.inst a' Cl' d' fs') → a ≠ a' ∧ a ≠ d' ∧ d ≠ a' ∧ d ≠ d'
  | (z, c) :: r, hn, e, e' => by
    by_cases hz : z = x
    · simp [sget, hz] at e
      subst e
      simp [sget, hz, hxy] at e'
      have := instA_mem e'
      simp only [instA, List.nodup_cons, List.mem_cons, not_or] at hn
      exact ⟨fun q => hn.1.2 (q ▸ this.1), fun q => hn.1.2 (q ▸ this.2), fun q => hn.2.1 (q ▸ this.1), fun q => hn.2.1 (q ▸ this.2)⟩
    · by_cases hz' : z = y
      · simp [sget, hz'] at e'
        subst e'
        simp [sget, hz] at e
        have := instA_mem e
        simp only [instA, List.nodup_cons, List.mem_cons, not_or] at hn
        exact ⟨fun q => hn.1.2 (q ▸ this.1), fun q => hn.2.1 (q ▸ this.1), fun q => hn.1.2 (q ▸ this.2), fun q => hn.2.1 (q ▸ this.2)⟩
      · simp [sget, hz] at e
        simp [sget, hz'] at e'
        refine inst_apart hxy ?_ e e'
        cases c with
        | inst _ _ _ _ => simp only [instA, List.nodup_cons] at hn; exact hn.2.2
        | _ => exact hn
end
end Mine
namespace Mine
open PySem PySem.W PyProof.Rows
section
variable {C : Cx} {env : Env} {σ : St}
theorem VarIs.put {env : Env} {h h' : Heap} {x : Str} {P P' : Value → Prop} (y : VarIs env h x P) (hn : ∀ m, h.Ns env.locals m → h'.Ns env.locals m) (hc : ∀ c v, env.cells.lookup x = some c → h.IsCell c v → h'.IsCell c v) (hp : ∀ v, P v → P' v) : VarIs env h' x P' := y.to hn hc hp
theorem Rel.putInst (hro : C.ro = false) {X h h' : Heap} {x : Str} {a Cl d : Addr} {fs fs' : List (Str × MV)} (R : Rel C X env σ h) (hx : sget σ x = some (.inst a Cl d fs)) (I' : InstIs h' a Cl d fs') (hs : Heap.SameBut d h h') : Rel C X env (sput σ x (.inst a Cl d fs')) h' := by
  obtain ⟨_, hne, mA, ⟨o, es, ep, e, hd, _⟩, _⟩ := R.inst hx
  have hns : ∀ xs n, o.data ≠ .seq xs n := fun xs n q => by rw [hd] at q; cases q
  have hnf : ∀ vs, o.data ≠ .fields vs := fun vs q => by rw [hd] at q; cases q
  obtain ⟨hdN, hdL, hdF⟩ := R.insN d (instA_mem hx).2
  have hE : C.ex (sput σ x (.inst a Cl d fs')) = C.ex σ := by unfold Cx.ex; rw [owned_put hx]
  have hcell : ∀ {c v}, h.IsCell c v → h'.IsCell c v := fun {c v} y => y.sameBut hs (by
    rintro rfl
    obtain ⟨oc, ec, dc⟩ := y
    rw [e] at ec; cases ec; rw [hd] at dc; cases dc)
  refine { base := ok_off hdN hs R.base, fr := ?_, kind := R.kind, glob := R.glob, vars := ?_, own := ?_, outer := ?_, insN := fun b hb => R.insN b (by rw [instA_put hx] at hb; exact hb), insNd := by rw [instA_put hx]; exact R.insNd, keepX := ?_, ns := ?_, nsX := R.nsX, nsN := R.nsN, cells := ?_, apart := R.apart, ownX := fun a ha => R.ownX a (by rw [owned_put hx] at ha; exact ha), ownN := fun a ha => R.ownN a (by rw [owned_put hx] at ha; exact ha), ownNd := by rw [owned_put hx]; exact R.ownNd, insX := R.insX.imp id fun q b hb => q b (by rw [instA_put hx] at hb; exact hb), outX := R.outX }
  · intro ev hev
    obtain ⟨ak, L, oL, hf, hN, ho, es', ep', hd'⟩ := R.fr ev hev
    exact ⟨ak, L, oL, hf, hN, (hs.2 L (fun q => hdF ev hev (by rw [hf, q]))).trans ho, es', ep', hd'⟩
  · intro y b hb
    rw [sget_sput] at hb
    rw [hE]
    by_cases hxy : x = y
    · subst hxy
      rw [if_pos rfl] at hb
      cases hb
      exact (R.vars x _ hx).to (fun m q => q.sameBut hs (Ne.symm hdL)) (fun c v _ q => hcell q) fun v q => ⟨q.1, I'⟩
    · rw [if_neg hxy] at hb
      refine (R.vars y _ hb).to (fun m q => q.sameBut hs (Ne.symm hdL)) (fun c v _ q => hcell q) fun v q => BIn.off e hns hnf hs (fun _ z => z) ?_ q
      rintro a' C' d' fs'' rfl
      obtain ⟨_, _, z1, z2⟩ := inst_apart hxy R.insNd hx hb
      exact ⟨Ne.symm z1, Ne.symm z2⟩
  · intro a' ha
    rw [owned_put hx] at ha
    obtain ⟨vs, p⟩ := R.own a' ha
    exact ⟨vs, plain_off e hns hs p⟩
  · intro a' ha
    obtain ⟨vs, p⟩ := R.outer a' ha
    exact ⟨vs, plain_off e hns hs p⟩
  · intro b o' eb hB
    have hbd : b ≠ d := by
      rintro rfl
      rcases (R.insX.resolve_left (by rw [hro]; decide)) b (instA_mem hx).2 with q | q
      · exact hB q
      · rw [q] at eb; cases eb
    obtain ⟨k1, o2, k2, k3⟩ := R.keepX b o' eb hB
    exact ⟨fun q => (hs.2 b hbd).trans (k1 q), o2, (hs.2 b hbd).trans k2, k3⟩
  · obtain ⟨m, q⟩ := R.ns
    exact ⟨m, q.sameBut hs (Ne.symm hdL)⟩
  · intro y c hc
    obtain ⟨⟨v2, a2⟩, a3, a4⟩ := R.cells y c hc
    exact ⟨⟨v2, hcell a2⟩, a3, a4⟩
noncomputable def scal : MV → Bool
  | .list _ => false
  | .tuple _ => false
  | _ => true
theorem VIn.sc {h : Heap} {O : List Addr} {m : MV} {v : Value} (x : VIn h O m v) (hs : scal m = true) : ScV h m v := by
  cases m <;> first | exact x | cases hs
theorem wpS_setattr {o : Expr} {name x : Str} {p p' : Pos} {e : Expr} {a Cl d : Addr} {fs : List (Str × MV)} {m : MV} {K : Frag} {Q : FM → St → Prop} (hro : C.ro = false) (hK : KOk C K) (hC : ClsOk K Cl) (he : Ev C env σ e m) (ho : Ev C env σ o (.obj (.ref a))) (hx : sget σ x = some (.inst a Cl d fs))
    (hn : findIn K (.ref Cl) name = some none) (hm : scal m = true) (hlen : fs.length < 1000) (hs : swapsWith e (some (.Attribute o name p')) p.line env = pure false)
    (h : Q .next (sput σ x (.inst a Cl d (fput fs name m)))) : wpS C env (.Assign [.Attribute o name p'] e p) σ Q := fun X s R => by
  refine plainObj_wpAny_Assign_Attribute (wpAny_mono (he s R.toRelE) (fun v s₁ h₁ => ?_) fun _ _ h => h) hs
  obtain ⟨k₁, hv⟩ := h₁
  have R₁ := R.ks k₁.ks
  refine wpAny_mono (ho s₁ R₁.toRelE) (fun ov s₂ h₂ => ?_) fun _ _ h => h
  obtain ⟨k₂, rfl⟩ := h₂
  have R₂ := R₁.ks k₂.ks
  refine setattr_ (hK _ R₂.base) hC (R₂.inst hx) hn ((hv.sc hm).to fun _ q => k₂.ks.deq q) hlen fun h' tk I' hsb => ?_
  obtain ⟨h1, t1, rfl, _⟩ := k₁
  obtain ⟨h2, t2, rfl, _⟩ := k₂
  exact ⟨h', tk, rfl, .next, _, trivial, R₂.putInst hro hx I' hsb, h⟩
/-- what an operation in place yields -/
noncomputable def Inp (C : Cx) (op : Operator) (a b r : MV) : Prop :=
  ∀ s va vb, ScV s.heap a va → ScV s.heap b vb → wpAny C.M C.A (inplaceOp op va vb) (fun v s' => KSs [] s s' ∧ ScV s'.heap r v) F s
theorem inp_add_int {a b : Int} : Inp C .Add (.int a) (.int b) (.int (a + b)) := fun s va vb ha hb => by
  obtain ⟨t, rfl⟩ := ha; obtain ⟨u, rfl⟩ := hb
  exact iadd_int ⟨.tok s _, _, rfl⟩
theorem inp_sub_int {a b : Int} : Inp C .Sub (.int a) (.int b) (.int (a - b)) := fun s va vb ha hb => by
  obtain ⟨t, rfl⟩ := ha; obtain ⟨u, rfl⟩ := hb
  exact isub_int ⟨.tok s _, _, rfl⟩
theorem inp_add_str {x y : Str} (hsz : x.length + y.length ≤ sizeLine) : Inp C .Add (.str x) (.str y) (.str (x ++ y)) := fun s va vb ha hb => by
  obtain ⟨t, rfl⟩ := ha; obtain ⟨u, rfl⟩ := hb
  exact SB.iadd (fun t' k => ⟨.tok s _, _, rfl⟩) hsz
theorem wpS_augattr {o : Expr} {name x : Str} {p p' : Pos} {op : Operator} {e : Expr} {a Cl d : Addr} {fs : List (Str × MV)} {m m' r : MV} {K : Frag} {Q : FM → St → Prop} (hro : C.ro = false) (hK : KOk C K) (hC : ClsOk K Cl) (he : Ev C env σ e m') (ho : Ev C env σ o (.obj (.ref a))) (hx : sget σ x = some (.inst a Cl d fs))
    (hf : fget fs name = some m) (hn : findIn K (.ref Cl) name = some none) (hm : scal m = true) (hm' : scal m' = true) (hh : ∀ u, m = .obj u → handedIn u = true) (hlen : fs.length < 1000) (hop : Inp C op m m' r)
    (h : Q .next (sput σ x (.inst a Cl d (fput fs name r)))) : wpS C env (.AugAssign (.Attribute o name p') op e p) σ Q := fun X s R => by
  rw [arm_exec_AugAssign_2]
  refine wpAny_bind (wpAny_standAt (wpAny_bind (wpAny_mono (ho s R.toRelE) (fun ov s₁ h₁ => ?_) fun _ _ h => h.elim)))
  obtain ⟨k₁, rfl⟩ := h₁
  have R₁ := R.ks k₁.ks
  refine wpAny_bind (wpAny_holding (wpAny_bind (wpAny_standAt (wpAny_bind ?_))))
  obtain ⟨sl, od, mA, I, hl, hF, _⟩ := (R₁.inst hx).look
  have hq := hF name
  rw [hf] at hq
  obtain ⟨v, hv, hsc⟩ := hq
  refine get_value (hK _ R₁.base) I hC.ga (find_own hC.hd hn (by rw [hl, hv])) (hsc.handed hh) ?_
  have R₁' : Rel C X env σ { s₁ with toks := s₁.toks + 1 }.heap := R₁
  refine wpAny_bind (wpAny_holding (wpAny_mono (he { s₁ with toks := s₁.toks + 1 } R₁'.toRelE) (fun w s₂ h₂ => ?_) fun _ _ h => h.elim))
  obtain ⟨k₂, hw⟩ := h₂
  have R₂ := R₁'.ks k₂.ks
  refine wpAny_bind (wpAny_standAt (wpAny_operating (wpAny_mono (hop s₂ v w (hsc.to fun _ q => k₂.ks.deq q) (hw.sc hm')) (fun nv s₃ h₃ => ?_) fun _ _ h => h.elim)))
  obtain ⟨k₃, hnv⟩ := h₃
  have R₃ := R₂.ks (k₃.mono nil_sub).ks
  refine wpAny_bind (wpAny_standAt (wpAny_bind (wpAny_holding ?_)))
  refine setattr_ (hK _ R₃.base) hC (R₃.inst hx) hn hnv hlen fun h' tk I' hsb => ?_
  refine wpAny_bind (wpAny_release (wpAny_pure ?_))
  obtain ⟨h1, t1, rfl, _⟩ := k₁
  obtain ⟨h2, t2, rfl, _⟩ := k₂
  obtain ⟨h3, t3, rfl, _⟩ := k₃
  exact ⟨h', tk, rfl, .next, _, trivial, R₃.putInst hro hx I' hsb, h⟩
noncomputable def sputs (σ : St) : St → St
  | [] => σ
  | p :: r => sputs (sput σ p.1 p.2) r
inductive SameG : St → St → Prop
  | nil : SameG [] []
  | cons {x a Cl d fs fs' γ γ'} : SameG γ γ' → SameG ((x, .inst a Cl d fs) :: γ) ((x, .inst a Cl d fs') :: γ')
theorem SameG.keys {γ γ' : St} (h : SameG γ γ') : γ'.map (·.1) = γ.map (·.1) := by
  induction h with
  | nil => rfl
  | cons _ ih => simp [ih]
theorem SameG.adr {γ γ' : St} (h : SameG γ γ') : instA γ' = instA γ := by
  induction h with
  | nil => rfl
  | cons _ ih => simp [instA, ih]
theorem SameG.insts {γ γ' : St} (h : SameG γ γ') : Mine.insts γ = true := by
  induction h with
  | nil => rfl
  | cons _ ih => exact ih
theorem sget_none {γ : St} {x : Str} (h : x ∉ γ.map (·.1)) : sget γ x = none := by
  induction γ with
  | nil => rfl
  | cons p r ih =>
    obtain ⟨y, b⟩ := p
    simp only [List.map_cons, List.mem_cons, not_or] at h
    simp [sget, Ne.symm h.1, ih h.2]
theorem sget_key {γ : St} {x : Str} (h : x ∈ γ.map (·.1)) : sget γ x ≠ none := by
  induction γ with
  | nil => cases h
  | cons p r ih =>
    obtain ⟨y, b⟩ := p
    by_cases hy : y = x
    · simp [sget, hy]
    · simp only [List.map_cons, List.mem_cons] at h
      simp [sget, hy]
      exact ih (h.resolve_left (Ne.symm hy))
theorem sputs_ {γ γ' : St} (hs : SameG γ γ') : (γ.map (·.1)).Nodup → ∀ {σ : St}, (∀ p ∈ γ, sget σ p.1 = some p.2) →
    (∀ y, sget (sputs σ γ') y = match sget γ' y with | some b => some b | none => sget σ y) ∧ instA (sputs σ γ') = instA σ ∧ owned (sputs σ γ') = owned σ := by
  induction hs with
  | nil => intro _ σ _; exact ⟨fun _ => rfl, rfl, rfl⟩
  | @cons x a Cl d fs fs' γ γ' hs ih =>
    intro hn σ hc
    simp only [List.map_cons, List.nodup_cons] at hn
    have hx := hc (x, .inst a Cl d fs) List.mem_cons_self
    obtain ⟨i1, i2, i3⟩ := ih hn.2 (σ := sput σ x (.inst a Cl d fs')) (fun p hp => by
      rw [sget_sput, if_neg]
      · exact hc p (List.mem_cons_of_mem _ hp)
      · rintro rfl; exact hn.1 (List.mem_map_of_mem hp))
    refine ⟨fun y => ?_, i2.trans (instA_put hx), i3.trans (owned_put hx)⟩
    show sget (sputs (sput σ x (.inst a Cl d fs')) γ') y = _
    rw [i1 y, sget_sput]
    by_cases hxy : x = y
    · subst hxy
      rw [sget_none (by rw [hs.keys]; exact hn.1)]
      simp [sget]
    · simp [sget, hxy]
theorem KM.deq {S B : List Addr} {h h' : Heap} (x : KM S B h h') (hB : ∀ b ∈ B, ∀ o, h.get? b = some o → ∀ vs, o.data ≠ .fields vs) {p : Addr} (y : DeqAt h p) : DeqAt h' p := by
  obtain ⟨o, n, t, e, c, d⟩ := y
  obtain ⟨_, o', e', d1, d2, d3⟩ := x p o e fun q => hB p q o e _ d
  exact ⟨o', n, t, e', d2.trans c, d1.trans d⟩
theorem VIn.km {S B O : List Addr} {h h' : Heap} (k : KM S B h h') (hB : ∀ b ∈ B, ∀ o, h.get? b = some o → ∀ xs n, o.data ≠ .seq xs n) (hB' : ∀ b ∈ B, ∀ o, h.get? b = some o → ∀ vs, o.data ≠ .fields vs) {m : MV} {v : Value} (x : VIn h O m v) : VIn h' O m v :=
  x.to (fun a _ n l => ⟨by
      obtain ⟨o, e, c, nn, d⟩ := l
      obtain ⟨_, o', e', d1, d2, d3⟩ := k a o e fun q => hB a q o e _ _ d
      exact ⟨o', e', d2.trans c, nn, d1.trans d⟩, n⟩)
    (fun a _ n l => ⟨by
      obtain ⟨o, e, c, nn, d⟩ := l
      obtain ⟨_, o', e', d1, d2, d3⟩ := k a o e fun q => hB a q o e _ _ d
      exact ⟨o', e', d2.trans c, nn, d1.trans d⟩, n⟩) (fun _ q => k.deq hB' q)
theorem VIns.km {S B O : List Addr} {h h' : Heap} (k : KM S B h h') (hB : ∀ b ∈ B, ∀ o, h.get? b = some o → ∀ xs n, o.data ≠ .seq xs n) (hB' : ∀ b ∈ B, ∀ o, h.get? b = some o → ∀ vs, o.data ≠ .fields vs) {m : List MV} {v : List Value} (x : VIns h O m v) : VIns h' O m v :=
  x.to (fun a _ n l => ⟨by
      obtain ⟨o, e, c, nn, d⟩ := l
      obtain ⟨_, o', e', d1, d2, d3⟩ := k a o e fun q => hB a q o e _ _ d
      exact ⟨o', e', d2.trans c, nn, d1.trans d⟩, n⟩)
    (fun a _ n l => ⟨by
      obtain ⟨o, e, c, nn, d⟩ := l
      obtain ⟨_, o', e', d1, d2, d3⟩ := k a o e fun q => hB a q o e _ _ d
      exact ⟨o', e', d2.trans c, nn, d1.trans d⟩, n⟩) (fun _ q => k.deq hB' q)
theorem gin_of {h : Heap} (R : RelE C env σ h) {γ : St} (hc : ∀ p ∈ γ, sget σ p.1 = some p.2) : GIn h γ := fun x a Cl d fs hm => R.inst (hc _ hm)
theorem instA_of {γ : St} : ∀ {b : Addr}, b ∈ instA γ → ∃ x a Cl d fs, (x, Bd.inst a Cl d fs) ∈ γ ∧ (b = a ∨ b = d) := by
  induction γ with
  | nil => intro b hb; cases hb
  | cons p r ih =>
    obtain ⟨y, c⟩ := p
    intro b hb
    cases c with
    | inst a Cl d fs =>
      simp only [instA, List.mem_cons] at hb
      rcases hb with rfl | rfl | hb
      · exact ⟨y, b, Cl, d, fs, List.mem_cons_self, .inl rfl⟩
      · exact ⟨y, a, Cl, b, fs, List.mem_cons_self, .inr rfl⟩
      · obtain ⟨x, a', Cl', d', fs', hm, q⟩ := ih hb; exact ⟨x, a', Cl', d', fs', List.mem_cons_of_mem _ hm, q⟩
    | fz _ => obtain ⟨x, a', Cl', d', fs', hm, q⟩ := ih hb; exact ⟨x, a', Cl', d', fs', List.mem_cons_of_mem _ hm, q⟩
    | own _ _ => obtain ⟨x, a', Cl', d', fs', hm, q⟩ := ih hb; exact ⟨x, a', Cl', d', fs', List.mem_cons_of_mem _ hm, q⟩
theorem instA_in {γ : St} (hc : ∀ p ∈ γ, sget σ p.1 = some p.2) {b : Addr} (hb : b ∈ instA γ) : b ∈ instA σ := by
  obtain ⟨x, a, Cl, d, fs, hm, q⟩ := instA_of hb
  rcases q with rfl | rfl
  · exact (instA_mem (hc _ hm)).1
  · exact (instA_mem (hc _ hm)).2
theorem gok_of {h : Heap} (R : RelE C env σ h) {γ : St} (hc : ∀ p ∈ γ, sget σ p.1 = some p.2) (hn : (instA γ).Nodup) : GOk C h γ :=
  ⟨gin_of R hc, fun b hb => ⟨(R.insN b (instA_in hc hb)).1, (R.insN b (instA_in hc hb)).2.2⟩, hn⟩
theorem obj_data {h : Heap} (R : RelE C env σ h) {γ : St} (hc : ∀ p ∈ γ, sget σ p.1 = some p.2) {b : Addr} (hb : b ∈ instA γ) {o : Obj} (e : h.get? b = some o) : o.data = .plain ∨ ∃ es ep, o.data = .dict es ep := by
  obtain ⟨x, a, Cl, d, fs, hm, q⟩ := instA_of hb
  obtain ⟨⟨sl, ea⟩, _, mA, ⟨od, es, ep, ed, dd, _⟩, _⟩ := R.inst (hc _ hm)
  rcases q with rfl | rfl
  · rw [e] at ea; cases ea; exact .inl rfl
  · rw [e] at ed; cases ed; exact .inr ⟨es, ep, dd⟩
theorem Rel.callO (hro : C.ro = false) {X h h' : Heap} {γ γ' : St} (R : Rel C X env σ h) (hc : ∀ p ∈ γ, sget σ p.1 = some p.2) (hs : SameG γ γ') (hk : (γ.map (·.1)).Nodup) (km : KM C.S (instA γ) h h') (g : GIn h' γ') : Rel C X env (sputs σ γ') h' := by
  obtain ⟨q1, q2, q3⟩ := sputs_ hs hk hc
  have hE : C.ex (sputs σ γ') = C.ex σ := by unfold Cx.ex; rw [q3]
  have hB : ∀ b ∈ instA γ, ∀ o, h.get? b = some o → ∀ xs n, o.data ≠ .seq xs n := fun b hb o e xs n q => by
    rcases obj_data R.toRelE hc hb e with z | ⟨es, ep, z⟩ <;> rw [z] at q <;> cases q
  have hB' : ∀ b ∈ instA γ, ∀ o, h.get? b = some o → ∀ vs, o.data ≠ .fields vs := fun b hb o e vs q => by
    rcases obj_data R.toRelE hc hb e with z | ⟨es, ep, z⟩ <;> rw [z] at q <;> cases q
  have hcell : ∀ {c v}, h.IsCell c v → h'.IsCell c v := fun {c v} y => by
    obtain ⟨oc, ec, dc⟩ := y
    obtain ⟨_, o', e', d1, _⟩ := km c oc ec fun q => by
      rcases obj_data R.toRelE hc q ec with z | ⟨es, ep, z⟩ <;> rw [z] at dc <;> cases dc
    exact ⟨o', e', d1.trans dc⟩
  have hns : ∀ m, h.Ns env.locals m → h'.Ns env.locals m := fun m y => by
    obtain ⟨o, es, ep, e, d, r⟩ := y
    obtain ⟨_, o', e', d1, _⟩ := km _ o e fun q => (R.insN _ (instA_in hc q)).2.1 rfl
    exact ⟨o', es, ep, e', d1.trans d, r⟩
  have hpl : ∀ {a vs}, h.PlainList a vs → h'.PlainList a vs := fun {a vs} y => by
    obtain ⟨n, e⟩ := y
    exact ⟨n, (km a _ e fun q => hB a q _ e _ _ rfl).1 (R.notS e (fun es ep => by simp))⟩
  refine { base := C.mono _ _ (fun b o hb e => (km b o e fun q => absurd hb (Nat.not_lt.mpr (R.insN b (instA_in hc q)).1)).1 (R.low hb)) R.base, fr := ?_, kind := R.kind, glob := R.glob, vars := ?_, own := ?_, outer := ?_, insN := fun b hb => R.insN b (by rw [q2] at hb; exact hb), insNd := by rw [q2]; exact R.insNd, keepX := ?_, ns := ?_, nsX := R.nsX, nsN := R.nsN, cells := ?_, apart := R.apart, ownX := fun a ha => R.ownX a (by rw [q3] at ha; exact ha), ownN := fun a ha => R.ownN a (by rw [q3] at ha; exact ha), ownNd := by rw [q3]; exact R.ownNd, insX := R.insX.imp id fun q b hb => q b (by rw [q2] at hb; exact hb), outX := R.outX }
  · intro ev hev
    obtain ⟨ak, L, oL, hf, hN, ho, es', ep', hd'⟩ := R.fr ev hev
    obtain ⟨_, o', e', d1, _⟩ := km L oL ho fun q => (R.insN _ (instA_in hc q)).2.2 ev hev hf
    exact ⟨ak, L, o', hf, hN, e', es', ep', d1.trans hd'⟩
  · intro y b hb
    rw [q1] at hb
    rw [hE]
    cases hy : sget γ' y with
    | some b' =>
      rw [hy] at hb
      cases hb
      have hm := sget_mem hy
      have hyk : y ∈ γ.map (·.1) := by rw [← hs.keys]; exact List.mem_map_of_mem (f := (·.1)) hm
      -- the same name in γ, with the same addresses
      have key : ∃ a Cl d fs fs', (y, Bd.inst a Cl d fs) ∈ γ ∧ b = .inst a Cl d fs' := by
        clear hcell hns hpl hB hB' hE q1 q2 q3 g km hk hc R
        induction hs with
        | nil => cases hm
        | @cons x a Cl d fs fs' γ γ' hs ih =>
          by_cases hxy : x = y
          · subst hxy
            simp [sget] at hy
            exact ⟨a, Cl, d, fs, fs', List.mem_cons_self, hy.symm⟩
          · simp [sget, hxy] at hy
            obtain ⟨a', C', d', f, f', z, z'⟩ := ih hy (sget_mem hy) (by rw [← hs.keys]; exact List.mem_map_of_mem (f := (·.1)) (sget_mem hy))
            exact ⟨a', C', d', f, f', List.mem_cons_of_mem _ z, z'⟩
      obtain ⟨a, Cl, d, fs, fs', hmem, rfl⟩ := key
      exact (R.vars y _ (hc _ hmem)).to hns (fun c v _ q => hcell q) fun v q => ⟨q.1, g y a Cl d fs' hm⟩
    | none =>
      rw [hy] at hb
      refine (R.vars y _ hb).to hns (fun c v _ q => hcell q) fun v q => ?_
      cases b with
      | fz m => exact VIn.km km hB hB' q
      | own a xs => obtain ⟨e, vs, p, r⟩ := q; exact ⟨e, vs, hpl p, r.km km hB hB'⟩
      | inst a Cl d fs =>
        obtain ⟨e, ⟨sl, ea⟩, hne, mA, ⟨od, es, ep, ed, dd, rr⟩, hF⟩ := q
        have nin : ∀ z, (z = a ∨ z = d) → z ∉ instA γ := fun z hz q => by
          obtain ⟨x', a', Cl', d', fs', hm, w⟩ := instA_of q
          have hne' : y ≠ x' := by
            rintro rfl
            have : y ∈ γ'.map (·.1) := by rw [hs.keys]; exact List.mem_map_of_mem (f := (·.1)) hm
            exact sget_key this hy
          obtain ⟨w1, w2, w3, w4⟩ := inst_apart hne' R.insNd hb (hc _ hm)
          rcases hz with rfl | rfl <;> rcases w with rfl | rfl <;> first | exact w1 rfl | exact w2 rfl | exact w3 rfl | exact w4 rfl
        obtain ⟨_, oa, ea', x1, x2, x3⟩ := km a _ ea (nin a (.inl rfl))
        obtain ⟨_, od', ed', y1, _⟩ := km d _ ed (nin d (.inr rfl))
        refine ⟨e, ⟨oa.slots, ?_⟩, hne, mA, ⟨od', es, ep, ed', y1.trans dd, rr⟩, hF.to fun _ q => km.deq hB' q⟩
        obtain ⟨c1, c2, c3, c4⟩ := oa
        cases x1; cases x2; cases x3
        exact ea'
  · intro a ha
    rw [q3] at ha
    obtain ⟨vs, p⟩ := R.own a ha
    exact ⟨vs, hpl p⟩
  · intro a ha
    obtain ⟨vs, p⟩ := R.outer a ha
    exact ⟨vs, hpl p⟩
  · intro b o eb hB'
    have nb : b ∉ instA γ := fun q => by
      rcases (R.insX.resolve_left (by rw [hro]; decide)) b (instA_in hc q) with z | z
      · exact hB' z
      · rw [z] at eb; cases eb
    obtain ⟨k1, o2, k2, k3⟩ := R.keepX b o eb hB'
    obtain ⟨m1, o3, m2, m3, m4, m5⟩ := km b o2 k2 nb
    refine ⟨fun q => ?_, o3, m2, m3.trans k3.1, m4.trans k3.2.1, m5.trans k3.2.2⟩
    exact (km b o (k1 q) nb).1 q
  · obtain ⟨m, q⟩ := R.ns
    exact ⟨m, hns m q⟩
  · intro y c hc'
    obtain ⟨⟨v2, a2⟩, a3, a4⟩ := R.cells y c hc'
    exact ⟨⟨v2, hcell a2⟩, a3, a4⟩
end
end Mine
namespace Mine
open PySem PySem.W PyProof.Rows
noncomputable def Cx.up (C : Cx) (hl : C.lvl + 1 ≤ 100) : Cx := { C with A := C.A.in1, lvl := C.lvl + 1, hh := C.hh, hd := by have := C.hd; show C.A.depth ≤ _; omega, hu := by have := C.hu; show C.A.units + 1 ≤ _; omega, hl := hl, hfs := C.hfs }
section
variable {C : Cx} {env : Env} {σ : St}
theorem ev_imeth {o : Expr} {name x : Str} {apos pos : Pos} {es : List Expr} {a Cl d f : Addr} {fs : List (Str × MV)} {ms : List MV} {K : Frag} {full : Bool} {k : Nat} {γ : St} {r : MV} (hK : KOk C K) (hC : ClsOk K Cl) (ho : Ev C env σ o (.obj (.ref a))) (hx : sget σ x = some (.inst a Cl d fs))
    (hf : fget fs name = none) (hn : findIn K (.ref Cl) name = some (some (.ref f))) (ht : typeIn K (.ref f) = some (.type "function")) (ha : Evs C env σ es ms) (hs : SpecR C.G full k (.ref f) (.obj (.ref a) :: ms) γ r) (hk : C.lvl ≤ k) (hfull : full = true → C.Full) (hc : ∀ p ∈ γ, sget σ p.1 = some p.2) (hnd : (instA γ).Nodup)
    (hfn : ∀ h, C.ok h → ∃ o fd, h.get? f = some o ∧ o.data = .func fd)
    (hbase : attributeBase o name env (eval o env) = eval o env) (hline : (apos.endLine == pos.line) = true) (hfew : es.length < 29) :
    Ev C env σ (.Call (.Attribute o name apos) es [] pos) r := fun s R =>
  imeth_ hK hC ho hx hf hn ht ha hbase hline hfew hfn s R fun s₂ vals k₂ R₂ hv =>
    wpAny_mono (hs C rfl hk hfull s₂ _ (.ref a :: vals) R₂.base R₂.fr (fun x hx => (List.mem_append.mp hx).elim (R₂.own x) (R₂.outer x)) ⟨.ref a, vals, rfl, rfl, hv⟩ (gok_of R₂ hc hnd)) (fun v s₃ h₃ => ⟨k₂.trans h₃.1, h₃.2⟩) fun _ _ x => x
theorem ev_prop {o : Expr} {name x : Str} {p : Pos} {a Cl d pr fget : Addr} {fs : List (Str × MV)} {rest : List Value} {K : Frag} {full : Bool} {k : Nat} {γ : St} {r : MV} {fd : FuncData} {nm : Str} (hK : KOk C K) (hC : ClsOk K Cl) (ho : Ev C env σ o (.obj (.ref a))) (hx : sget σ x = some (.inst a Cl d fs))
    (hf : ∀ od, findObj K Cl (some od) name = some (.bind (.builtin "property.__get__") (.ref pr))) (hp : recIn K pr "property" = some (.ref fget :: rest)) (hb : ∀ v, bindArgs fd ⟨[v], []⟩ = pure [(nm, v)])
    (hs : CodeG C.G full k fget fd [nm] [.obj (.ref a)] γ [] r []) (hl : C.lvl + 1 ≤ 100) (hk : C.lvl + 1 ≤ k) (hfull : full = true → C.Full) (hc : ∀ p ∈ γ, sget σ p.1 = some p.2) (hnd : (instA γ).Nodup) (hm : scal r = true) (hh : ∀ u, r = .obj u → handedIn u = true)
    (hbase : attributeBase o name env (eval o env) = eval o env) : Ev C env σ (.Attribute o name p) r := fun s R => by
  rw [arm_eval_Attribute, hbase]
  refine wpAny_bind (wpAny_mono (ho s R) (fun ov s₁ h₁ => wpAny_bind (wpAny_standAt (wpAny_bind (wpAny_holding ?_)))) fun _ _ h => h)
  obtain ⟨k₁, rfl⟩ := h₁
  have R₁ := R.ks k₁.ks
  obtain ⟨sl, od, mA, I, hl', hF, _⟩ := (R₁.inst hx).look
  refine get_bind (hK _ R₁.base) I hC.ga (hf od) hC.gh ?_
  refine wpAny_call (prop_get (s := { s₁ with toks := s₁.toks + 1 }) (hK _ R₁.base) hp ?_)
  have R₁' : RelE C env σ { s₁ with toks := s₁.toks + 1 }.heap := R₁
  have g := gok_of R₁' hc hnd
  refine codeAny_mono (hs (C.up hl) rfl hk (fun h => hfull h) { s₁ with toks := s₁.toks + 1 } (C.ex σ) ⟨[.ref a], []⟩ (.of (vals := [.ref a]) (.of_pure (hb _)) rfl ⟨_, [], rfl, rfl, rfl⟩) R₁'.base R₁'.fr (fun x hx => (List.mem_append.mp hx).elim (R₁'.own x) (R₁'.outer x)) ⟨g.gin, g.apart, g.nodup⟩) fun res s₂ h₂ => ?_
  rcases res with e | (_ | _ | _ | v) <;> first | exact h₂.elim | skip
  obtain ⟨⟨h', tk, rfl, km⟩, _, hv⟩ := h₂
  refine handed_on ((hv.sc hm).handed hh) ?_
  refine wpAny_bind (wpAny_letTemporaryGo (wpAny_pure ⟨?_, hv⟩))
  exact k₁.trans ((KSs.tok s₁ _).trans ⟨h', tk, rfl, km.ks⟩)
theorem wpS_expr {e : Expr} {p : Pos} {m : MV} {Q : FM → St → Prop} (he : Ev C env σ e m) (hi : interactive env = false) (hs : swapsWith e none p.line env = pure false) (h : Q .next σ) : wpS C env (.Expr e p) σ Q := fun X s R => by
  refine wpAny_Expr_any (wpAny_mono (he s R.toRelE) (fun v s₁ h₁ => ?_) fun _ _ h => h) hi hs
  obtain ⟨⟨h1, tk1, rfl, k⟩, hv⟩ := h₁
  exact ⟨h1, tk1, rfl, .next, σ, trivial, R.ks k, h⟩
/-- a call that turns objects, held in a name -/
theorem wpS_assign_ometh {y : Str} {py pas : Pos} {o : Expr} {name x : Str} {apos pos : Pos} {es : List Expr} {a Cl d f : Addr} {fs : List (Str × MV)} {ms : List MV} {K : Frag} {full : Bool} {k : Nat} {γ γ' : St} {r : MV} {Q : FM → St → Prop} (hro : C.ro = false) (hK : KOk C K) (hC : ClsOk K Cl) (ho : Ev C env σ o (.obj (.ref a))) (hx : sget σ x = some (.inst a Cl d fs))
    (hf : fget fs name = none) (hn : findIn K (.ref Cl) name = some (some (.ref f))) (ht : typeIn K (.ref f) = some (.type "function")) (ha : Evs C env σ es ms) (hs : SpecO C.G full k (.ref f) (.obj (.ref a) :: ms) γ r γ') (hk : C.lvl ≤ k) (hfull : full = true → C.Full) (hc : ∀ p ∈ γ, sget σ p.1 = some p.2) (hnd : (instA γ).Nodup) (hsm : SameG γ γ') (hkn : (γ.map (·.1)).Nodup)
    (hfn : ∀ h, C.ok h → ∃ o fd, h.get? f = some o ∧ o.data = .func fd)
    (hbase : attributeBase o name env (eval o env) = eval o env) (hline : (apos.endLine == pos.line) = true) (hfew : es.length < 29) (hy : Stores env y) (hq : Q .next (sput (sputs σ γ') y (.fz r))) :
    wpS C env (.Assign [.Name y py] (.Call (.Attribute o name apos) es [] pos) pas) σ Q := fun X s R => by
  refine wpAny_Assign_Name ?_ rfl
  refine imeth_ hK hC ho hx hf hn ht ha hbase hline hfew hfn s R.toRelE fun s₂ vals k₂ R₂ hv => ?_
  have R₂' := R.ks k₂.ks
  refine wpAny_mono (hs C rfl hk hfull s₂ _ (.ref a :: vals) R₂.base R₂.fr (fun x hx => (List.mem_append.mp hx).elim (R₂.own x) (R₂.outer x)) ⟨.ref a, vals, rfl, rfl, hv⟩ (gok_of R₂ hc hnd)) (fun v s₃ h₃ => ?_) fun _ _ x => x
  obtain ⟨h2, t2, rfl, _⟩ := k₂
  obtain ⟨⟨h3, t3, rfl, km⟩, g, hr⟩ := h₃
  have R₃ := R₂'.callO hro hc hsm hkn km g
  refine store_ R₃ hy (m := r) ?_ fun h' tk R' => ⟨h', tk, rfl, .next, _, trivial, R', hq⟩
  have : C.ex (sputs σ γ') = C.ex σ := by unfold Cx.ex; rw [(sputs_ hsm hkn hc).2.2]
  rw [this]; exact hr
end
end Mine
namespace Mine
open PySem PySem.W PyProof.Rows
/-- a text by its code points -/
noncomputable abbrev mk (l : List Nat) : Str := ⟨l.toArray⟩
noncomputable abbrev tx (l : List Nat) : MV := .str (mk l)
theorem mk_append (a b : List Nat) : mk a ++ mk b = mk (a ++ b) := by
  show (⟨a.toArray ++ b.toArray⟩ : Str) = _
  simp [mk]
theorem mk_length (a : List Nat) : (mk a).length = a.length := by simp [mk, Str.length]
theorem mk_toList (a : List Nat) : (mk a).cps.toList = a := by simp [mk]
theorem mk_inj {a b : List Nat} (h : mk a = mk b) : a = b := by simpa [mk] using h
theorem mk_beq (a b : List Nat) : (mk a == mk b) = (a == b) := by
  by_cases h : a = b
  · subst h; simp
  · rw [beq_eq_false_iff_ne.mpr h, beq_eq_false_iff_ne.mpr fun q => h (mk_inj q)]
section
variable {C : Cx} {env : Env} {σ : St}
theorem ev_tx {x : Str} {l : List Nat} {k : Nat} {p : Pos} (h : x = mk l) : Ev C env σ (.Constant (.str x) k p) (tx l) := h ▸ ev_str
theorem cat_tx {a b : List Nat} (h : a.length + b.length ≤ 16777216) : Bin C .Add (tx a) (tx b) (tx (a ++ b)) := by
  have := add_str_ (C := C) (x := mk a) (y := mk b) (by rw [mk_length, mk_length, sizeLine_eq]; exact h)
  rwa [mk_append] at this
theorem icat_tx {a b : List Nat} (h : a.length + b.length ≤ 16777216) : Inp C .Add (tx a) (tx b) (tx (a ++ b)) := by
  have := inp_add_str (C := C) (x := mk a) (y := mk b) (by rw [mk_length, mk_length, sizeLine_eq]; exact h)
  rwa [mk_append] at this
theorem eq_tx {a b : List Nat} : Cmp C .Eq (tx a) (tx b) (a == b) := by
  have := eq_str_ (C := C) (x := mk a) (y := mk b)
  rwa [mk_beq] at this
theorem ne_tx {a b : List Nat} : Cmp C .NotEq (tx a) (tx b) (a != b) := fun s O va vb _ ha hb => by
  obtain ⟨t, rfl⟩ := ha; obtain ⟨u, rfl⟩ := hb
  refine PyProof.Rows.ne_str ⟨.refl s, ?_⟩
  show Value.bool (!(mk a == mk b)) = _
  rw [mk_beq]; rfl
theorem ge_int_ {a b : Int} : Cmp C .GtE (.int a) (.int b) (decide (b ≤ a)) := fun s O va vb _ ha hb => by
  obtain ⟨t, rfl⟩ := ha; obtain ⟨u, rfl⟩ := hb
  exact PyProof.Rows.ge_int ⟨.refl s, rfl⟩
theorem in_tx {c : Nat} {l : List Nat} : Cmp C .In (tx [c]) (tx l) (decide (c ∈ l)) := fun s O va vb _ ha hb => by
  obtain ⟨t, rfl⟩ := ha; obtain ⟨u, rfl⟩ := hb
  refine PyProof.Rows.in_str ⟨.refl s, ?_⟩
  rw [StrLaws.found_one (mk l) c, mk_toList]
theorem notin_tx {c : Nat} {l : List Nat} : Cmp C .NotIn (tx [c]) (tx l) (!decide (c ∈ l)) := fun s O va vb _ ha hb => by
  obtain ⟨t, rfl⟩ := ha; obtain ⟨u, rfl⟩ := hb
  refine PyProof.Rows.notIn_str ⟨.refl s, ?_⟩
  rw [StrLaws.found_one (mk l) c, mk_toList]
theorem item_tx {l : List Nat} {i : Int} {c : Nat} (h0 : 0 ≤ i) (hl : l.length ≤ 16777216) (hx : l[i.toNat]? = some c) : Item C (tx l) (.int i) (tx [c]) := by
  have hlt : i.toNat < l.length := (List.getElem?_eq_some_iff.mp hx).1
  have := item_str_ (C := C) (x := mk l) (i := i) (by unfold fitsSsize; simp; omega) (by omega) (by rw [mk_length]; omega)
  rw [W.item_meets (by rw [mk_length]; omega)] at this
  rwa [show (mk l).cps.getD i.toNat 0 = c by simp [mk, Array.getD_eq_getD_getElem?, hx]] at this
theorem slice_tx {l : List Nat} {i j : Int} (h : 0 ≤ i ∧ i ≤ j ∧ j ≤ l.length) (hl : l.length ≤ 16777216) : SliceOf C (tx l) (some i) (some j) (tx ((l.drop i.toNat).take (j - i).toNat)) := by
  have := slice_str_ (C := C) (x := mk l) (lo := some i) (hi := some j) (by rw [mk_length, sizeLine_eq]; exact hl)
  rwa [show Txt.slice (mk l) (some i) (some j) = _ from StrLaws.sliceText_plain (x := mk l) (by rw [mk_toList]; exact h), mk_toList] at this
theorem slice_tx_to {l : List Nat} {j : Int} (h : 0 ≤ j ∧ j ≤ l.length) (hl : l.length ≤ 16777216) : SliceOf C (tx l) none (some j) (tx (l.take j.toNat)) := by
  have := slice_str_ (C := C) (x := mk l) (lo := none) (hi := some j) (by rw [mk_length, sizeLine_eq]; exact hl)
  rw [show Txt.slice (mk l) none (some j) = _ from StrLaws.sliceText_to (x := mk l) (by rw [mk_toList]; exact h), mk_toList] at this
  simpa using this
theorem slice_tx_from {l : List Nat} {i : Int} (h : 0 ≤ i ∧ i ≤ l.length) (hl : l.length ≤ 16777216) : SliceOf C (tx l) (some i) none (tx (l.drop i.toNat)) := by
  have := slice_str_ (C := C) (x := mk l) (lo := some i) (hi := none) (by rw [mk_length, sizeLine_eq]; exact hl)
  rw [show Txt.slice (mk l) (some i) none = _ from StrLaws.sliceText_from (x := mk l) (by rw [mk_toList]; exact h), mk_toList] at this
  have e : (l.drop i.toNat).take ((l.length : Int) - i).toNat = l.drop i.toNat := List.take_of_length_le (by rw [List.length_drop]; omega)
  simpa [e] using this
theorem len_tx {l : List Nat} (hl : l.length ≤ 16777216) : Fn C (.builtin "len") [tx l] (.int l.length) := by
  have := fn_len_str (C := C) (x := mk l) (by rw [mk_length]; omega)
  rwa [mk_length] at this
theorem tr_tx {l : List Nat} (hl : l.length ≤ 16777216) : Tr C (tx l) (!l.isEmpty) := by
  have := tr_str (C := C) (x := mk l) (by rw [mk_length]; omega)
  rw [mk_length] at this
  rwa [show ((l.length : Int) != 0) = !l.isEmpty by cases l with | nil => rfl | cons a r => simp; omega] at this
end
end Mine
namespace Mine
open PySem PySem.W PyProof.Rows
theorem sget_here {x : Str} {b : Bd} {r : St} : sget ((x, b) :: r) x = some b := by simp [sget]
theorem sget_there {x y : Str} {b c : Bd} {r : St} (h : (y == x) = false) (g : sget r x = some b) : sget ((y, c) :: r) x = some b := by
  have : y ≠ x := fun q => by subst q; simp at h
  simp [sget, this, g]
theorem sput_here {x : Str} {b c : Bd} {r : St} : sput ((x, c) :: r) x b = (x, b) :: r := by simp [sput]
theorem sput_there {x y : Str} {b c : Bd} {r r' : St} (h : (y == x) = false) (g : sput r x b = r') : sput ((y, c) :: r) x b = (y, c) :: r' := by
  have : y ≠ x := fun q => by subst q; simp at h
  simp [sput, this, g]
theorem sput_nil {x : Str} {b : Bd} : sput [] x b = [(x, b)] := rfl
theorem fget_here {x : Str} {b : MV} {r : List (Str × MV)} : fget ((x, b) :: r) x = some b := by simp [fget]
theorem fget_there {x y : Str} {b c : MV} {r : List (Str × MV)} (h : (y == x) = false) (g : fget r x = some b) : fget ((y, c) :: r) x = some b := by
  have : y ≠ x := fun q => by subst q; simp at h
  simp [fget, this, g]
theorem fget_not {x : Str} : fget [] x = none := rfl
theorem fget_next {x y : Str} {c : MV} {r : List (Str × MV)} (h : (y == x) = false) (g : fget r x = none) : fget ((y, c) :: r) x = none := by
  have : y ≠ x := fun q => by subst q; simp at h
  simp [fget, this, g]
theorem fput_here {x : Str} {b c : MV} {r : List (Str × MV)} : fput ((x, c) :: r) x b = (x, b) :: r := by simp [fput]
theorem fput_there {x y : Str} {b c : MV} {r r' : List (Str × MV)} (h : (y == x) = false) (g : fput r x b = r') : fput ((y, c) :: r) x b = (y, c) :: r' := by
  have : y ≠ x := fun q => by subst q; simp at h
  simp [fput, this, g]
theorem fput_nil {x : Str} {b : MV} : fput [] x b = [(x, b)] := rfl
theorem lk_here {x : Str} {k : NameKind} {r : List (Str × NameKind)} : ((x, k) :: r).lookup x = some k := by simp [List.lookup]
theorem lk_there {x y : Str} {k k' : NameKind} {r : List (Str × NameKind)} (h : (x == y) = false) (g : r.lookup x = some k) : ((y, k') :: r).lookup x = some k := by simp [List.lookup, h, g]
theorem kind_lk {env : Env} {l : List (Str × NameKind)} {x : Str} {k : NameKind} (hn : env.scope.names = l) (h : l.lookup x = some k) : env.kindOf x = some k := by
  show env.scope.names.lookup x = _
  rw [hn]; exact h
section
variable {C : Cx} {env : Env} {σ σ' : St} {Q : FM → St → Prop}
theorem ss_assign {x : Str} {p' p : Pos} {e : Expr} {m : MV} {rest : List Stmt} (he : Ev C env σ e m) (hx : Stores env x) (hs : swapsWith e (some (.Name x p')) p.line env = pure false) (hp : sput σ x (.fz m) = σ')
    (h : wpSs C env rest σ' Q) : wpSs C env (.Assign [.Name x p'] e p :: rest) σ Q := wpSs_cons (wpS_assign he hx hs (by rw [hp]; exact h))
theorem ss_if {t : Expr} {b : Bool} {body orelse rest : List Stmt} {p : Pos} (ht : EvB C env σ t b) (h1 : b = true → wpSs C env body σ fun fm σ' => match fm with | .next => wpSs C env rest σ' Q | fm => Q fm σ') (h2 : b = false → wpSs C env orelse σ fun fm σ' => match fm with | .next => wpSs C env rest σ' Q | fm => Q fm σ') : wpSs C env (.If t body orelse p :: rest) σ Q := wpSs_cons (wpS_if ht h1 h2)
theorem ss_if_no {t : Expr} {body rest : List Stmt} {p : Pos} (ht : EvB C env σ t false) (h : wpSs C env rest σ Q) : wpSs C env (.If t body [] p :: rest) σ Q := ss_if ht (fun h => nomatch h) fun _ => wpSs_nil h
theorem ss_ret {e : Expr} {p : Pos} {m : MV} {rest : List Stmt} (he : Ev C env σ e m) (h : Q (.ret m) σ) : wpSs C env (.Return (some e) p :: rest) σ Q := wpSs_cons (wpS_return he h)
theorem ss_expr {e : Expr} {p : Pos} {m : MV} {rest : List Stmt} (he : Ev C env σ e m) (hi : interactive env = false) (hs : swapsWith e none p.line env = pure false) (h : wpSs C env rest σ Q) : wpSs C env (.Expr e p :: rest) σ Q := wpSs_cons (wpS_expr he hi hs h)
theorem ss_setattr {o : Expr} {name x : Str} {p p' : Pos} {e : Expr} {a Cl d : Addr} {fs fs' : List (Str × MV)} {m : MV} {K : Frag} {rest : List Stmt} (hro : C.ro = false) (hK : KOk C K) (hC : ClsOk K Cl) (he : Ev C env σ e m) (ho : Ev C env σ o (.obj (.ref a))) (hx : sget σ x = some (.inst a Cl d fs))
    (hn : findIn K (.ref Cl) name = some none) (hm : scal m = true) (hlen : Nat.blt fs.length 1000 = true) (hs : swapsWith e (some (.Attribute o name p')) p.line env = pure false) (hf : fput fs name m = fs') (hp : sput σ x (.inst a Cl d fs') = σ')
    (h : wpSs C env rest σ' Q) : wpSs C env (.Assign [.Attribute o name p'] e p :: rest) σ Q := wpSs_cons (wpS_setattr hro hK hC he ho hx hn hm (Nat.le_of_ble_eq_true hlen) hs (by rw [hf, hp]; exact h))
theorem ss_augattr {o : Expr} {name x : Str} {p p' : Pos} {op : Operator} {e : Expr} {a Cl d : Addr} {fs fs' : List (Str × MV)} {m m' r : MV} {K : Frag} {rest : List Stmt} (hro : C.ro = false) (hK : KOk C K) (hC : ClsOk K Cl) (he : Ev C env σ e m') (ho : Ev C env σ o (.obj (.ref a))) (hx : sget σ x = some (.inst a Cl d fs))
    (hf : fget fs name = some m) (hn : findIn K (.ref Cl) name = some none) (hm : scal m = true) (hm' : scal m' = true) (hh : ∀ u, m = .obj u → handedIn u = true) (hlen : Nat.blt fs.length 1000 = true) (hop : Inp C op m m' r) (hf' : fput fs name r = fs') (hp : sput σ x (.inst a Cl d fs') = σ')
    (h : wpSs C env rest σ' Q) : wpSs C env (.AugAssign (.Attribute o name p') op e p :: rest) σ Q := wpSs_cons (wpS_augattr hro hK hC he ho hx hf hn hm hm' hh (Nat.le_of_ble_eq_true hlen) hop (by rw [hf', hp]; exact h))
end
end Mine
namespace Mine
open PySem PySem.W PyProof.Rows
theorem dq_nobool : typeLookup (.type "collections.deque") "__bool__" = pure none := by rw [typeLookup_type, builtinLookup_eq_fast]; kernel_rfl
theorem dq_len : Slot "collections.deque" "__len__" "collections.deque.__len__" :=
  .of (owner := "collections.deque") (n := "__len__") (by rw [typeLookup_type, builtinLookup_eq_fast]; kernel_rfl) (by decide +kernel) (by decide +kernel) (by decide +kernel)
    (by first | exact .inl (by decide +kernel) | exact .inr (by decide +kernel)) (by rw [isSubtype_type]; kernel_rfl)
theorem dq_len_entry : entryFor table "collections.deque.__len__" = some Builtin.«collections.deque.__len__» := entryFor_of_tree (by kernel_rfl)
theorem dq_len_args (a : Value) : argsOk "collections.deque.__len__" ⟨[a], []⟩ := by unfold argsOk; kernel_rfl
section
variable {C : Cx} {env : Env} {σ : St}
theorem DeqAt.typeIs {s : Shared} {p : Addr} (h : DeqAt s.heap p) : s.TypeIs (.ref p) "collections.deque" := by
  obtain ⟨o, n, t, e, c, d⟩ := h
  exact (show ∃ o, s.heap.get? p = some o ∧ o.cls = .type "collections.deque" from ⟨o, e, c⟩)
theorem tr_deq : Tr C .deq false := fun s O v hv => by
  obtain ⟨p, rfl, hd⟩ := hv
  have hT := DeqAt.typeIs (s := s) hd
  obtain ⟨o, n, t, e, c, d⟩ := hd
  have body : wpAny C.M C.A.in1 (Builtin.«len» ⟨[.ref p], []⟩) (fun fin s' => ∃ t, fin = .done (.ret (.int 0 t)) ∧ KSs [] s s') F s := by
    unfold Builtin.«len»
    refine wpAny_bind (m := oneArg "len" _) (wpAny_pure ?_)
    refine wpAny_bind (m := callSpecial? (.ref p) (Str.ofString "__len__")) (wpAny_callSpecial?_slot (name := Str.ofString "__len__") hT dq_len
      (wpAny_call_entry dq_len hT dq_len_entry ?_ (dq_len_args _)))
    show wpAny _ _ (do retInt (← Builtin.Deque.size (.ref p))) _ _ s
    unfold Builtin.Deque.size fieldsOf
    refine wpAny_bind (wpAny_bind (wpAny_bind (wpAny_load e ?_)))
    rw [d]
    refine wpAny_pure (wpAny_pure (wpAny_bind (wpAny_mkInt (wpAny_pure ⟨_, rfl, ?_⟩))))
    refine wpAny_bind (wpAny_holding (wpAny_pure ?_))
    refine wpAny_bind (wpAny_letGo ?_)
    show wpAny _ _ (if (0 : Int) < 0 then _ else _) _ _ _
    rw [if_neg (by omega)]
    show wpAny _ _ (if (0 : Int) ≥ 2 ^ 63 then _ else _) _ _ _
    rw [if_neg (by omega)]
    exact wpAny_bind (wpAny_mkInt (wpAny_pure ⟨_, rfl, .tok s _⟩))
  have key : wpAny C.M C.A (runValue (.builtin "len" ⟨[.ref p], []⟩)) (fun r s' => ∃ t, r = .int 0 t ∧ KSs [] s s') F s := by
    refine wpAny_runValue (codeAny_builtin entry_len ?_)
    rw [Around.under_plainId plain_len _]
    refine wpAny_mono body (fun fin s' h' => ?_) fun _ _ e => e
    obtain ⟨t, rfl, hq⟩ := h'
    exact ⟨t, rfl, hq⟩
  unfold truthy
  refine wpAny_bind (wpAny_callSpecial?_none (name := Str.ofString "__bool__") hT dq_nobool ?_)
  refine wpAny_bind (wpAny_specialOf (name := Str.ofString "__len__") hT dq_len.lookup ?_)
  refine wpAny_bind (wpAny_mono key (fun r s' h' => ?_) fun _ _ e => e)
  obtain ⟨t, rfl, hq⟩ := h'
  exact wpAny_pure ⟨hq, rfl⟩
theorem is_int_none {i : Int} : Cmp C .Is (.int i) .none false := fun s O va vb _ ha hb => by
  obtain ⟨t, rfl⟩ := ha; cases hb
  exact wpAny_is_other rfl (by simp) ⟨.refl s, rfl⟩
theorem is_str_none {x : Str} : Cmp C .Is (.str x) .none false := fun s O va vb _ ha hb => by
  obtain ⟨t, rfl⟩ := ha; cases hb
  exact wpAny_is_other rfl (by simp) ⟨.refl s, rfl⟩
theorem is_none_none : Cmp C .Is .none .none true := fun s O va vb _ ha hb => by
  cases ha; cases hb
  exact wpAny_is_self rfl ⟨.refl s, rfl⟩
theorem isnot_none_none : Cmp C .IsNot .none .none false := fun s O va vb _ ha hb => by
  cases ha; cases hb
  exact wpAny_isNot_self rfl ⟨.refl s, rfl⟩
theorem isnot_str_none {x : Str} : Cmp C .IsNot (.str x) .none true := fun s O va vb _ ha hb => by
  obtain ⟨t, rfl⟩ := ha; cases hb
  exact wpAny_isNot_other rfl (by simp) ⟨.refl s, rfl⟩
theorem isnot_ref_none {a : Addr} : Cmp C .IsNot (.obj (.ref a)) .none true := fun s O va vb _ ha hb => by
  cases ha; cases hb
  exact wpAny_isNot_other rfl (by simp) ⟨.refl s, rfl⟩
theorem isnot_type_self {T : String} : Cmp C .IsNot (.obj (.type T)) (.obj (.type T)) false := fun s O va vb _ ha hb => by
  cases ha; cases hb
  exact wpAny_isNot_self rfl ⟨.refl s, rfl⟩
theorem isnot_type_other {T U : String} (h : T ≠ U) : Cmp C .IsNot (.obj (.type T)) (.obj (.type U)) true := fun s O va vb _ ha hb => by
  cases ha; cases hb
  exact wpAny_isNot_other rfl (by simpa using h) ⟨.refl s, rfl⟩
theorem eq_str_none_ {x : Str} : Cmp C .Eq (.str x) .none false := fun s O va vb _ ha hb => by
  obtain ⟨t, rfl⟩ := ha; cases hb
  exact PySem.EqNone.eq_str_none ⟨.refl s, rfl⟩
theorem eq_none_none_ : Cmp C .Eq .none .none true := fun s O va vb _ ha hb => by
  cases ha; cases hb
  exact PySem.EqNone.eq_none_none ⟨.refl s, rfl⟩
theorem strs_are {h : Heap} {O : List Addr} : ∀ {ls : List (List Nat)} {vs : List Value}, VIns h O (ls.map tx) vs → StrsAre vs (ls.map mk)
  | [], _, x => by rw [show _ = [] from x]; exact .nil
  | l :: ls, _, ⟨v, r, e, hv, hr⟩ => by
    obtain ⟨t, rfl⟩ := hv
    subst e
    exact .cons _ t (strs_are hr)
theorem in_tup_tx {l : List Nat} {ls : List (List Nat)} : Cmp C .In (tx l) (.tuple (ls.map tx)) (ls.any (· == l)) := fun s O va vb _ ha hb => by
  obtain ⟨t, rfl⟩ := ha
  obtain ⟨a, vs, rfl, _, ⟨o, e, c, n, d⟩, r⟩ := hb
  refine in_tuple_strs (items := vs.toArray) ⟨o, e, c, n, d⟩ (by simpa using strs_are r) ⟨.refl s, ?_⟩
  congr 1
  rw [List.any_map]
  congr 1
  funext y
  exact mk_beq y l
theorem ev_neg {e : Expr} {i : Int} {p : Pos} (h : Ev C env σ e (.int i)) : Ev C env σ (.UnaryOp .USub e p) (.int (-i)) := fun s R => by
  refine wpAny_UnaryOp (wpAny_mono (h s R) (fun v s₁ h₁ => ?_) fun _ _ x => x)
  obtain ⟨k, t, rfl⟩ := h₁
  exact PyProof.Rows.neg_int ⟨k.trans (.tok s₁ _), _, rfl⟩
theorem fn_type_int {i : Int} : Fn C (.type "type") [.int i] (.obj (.type "int")) := fun s O vals _ ha => by
  obtain ⟨v, r, rfl, ⟨t, rfl⟩, rfl⟩ := ha
  exact call_type_of (typeIs_int _ _ _) (by decide) ⟨.refl s, rfl⟩
theorem fn_type_str {x : Str} : Fn C (.type "type") [.str x] (.obj (.type "str")) := fun s O vals _ ha => by
  obtain ⟨v, r, rfl, ⟨t, rfl⟩, rfl⟩ := ha
  exact call_type_of (typeIs_str _ _ _) (by decide) ⟨.refl s, rfl⟩
theorem fn_int_int {i : Int} : Fn C (.type "int") [.int i] (.int i) := fun s O vals _ ha => by
  obtain ⟨v, r, rfl, ⟨t, rfl⟩, rfl⟩ := ha
  exact call_int_int ⟨.refl s, _, rfl⟩
theorem wpSs_mono {sts : List Stmt} {Q Q' : FM → St → Prop} (h : wpSs C env sts σ Q) (hq : ∀ fm σ', Q fm σ' → Q' fm σ') : wpSs C env sts σ Q' := fun X s R =>
  wpAny_mono (h X s R) (fun fl s' p => let ⟨h', tk, e, fm, σ', fr, R', q⟩ := p; ⟨h', tk, e, fm, σ', fr, R', hq fm σ' q⟩) fun _ _ x => x
theorem ss_if1 {t : Expr} {b : Bool} {body orelse : List Stmt} {p : Pos} {Q : FM → St → Prop} (ht : EvB C env σ t b) (h1 : b = true → wpSs C env body σ Q) (h2 : b = false → wpSs C env orelse σ Q) : wpSs C env [.If t body orelse p] σ Q :=
  have hq : ∀ fm σ', Q fm σ' → (match fm with | .next => wpSs C env [] σ' Q | fm => Q fm σ') := fun fm σ' q => by
    cases fm <;> first | exact wpSs_nil q | exact q
  ss_if ht (fun h => wpSs_mono (h1 h) hq) fun h => wpSs_mono (h2 h) hq
theorem ss_no {t : Expr} {b : Bool} {body rest : List Stmt} {p : Pos} {Q : FM → St → Prop} (ht : EvB C env σ t b) (hb : b = false) (h : wpSs C env rest σ Q) : wpSs C env (.If t body [] p :: rest) σ Q := ss_if_no (by rw [← hb]; exact ht) h
/-- an effectful call's statement -/
theorem ss_ometh {y : Str} {py pas : Pos} {o : Expr} {name x : Str} {apos pos : Pos} {es : List Expr} {a Cl d f : Addr} {fs : List (Str × MV)} {ms : List MV} {K : Frag} {full : Bool} {k : Nat} {γ γ' : St} {r : MV} {Q : FM → St → Prop} {σ₁ σ₂ : St} {rest : List Stmt} (hro : C.ro = false) (hK : KOk C K) (hC : ClsOk K Cl) (ho : Ev C env σ o (.obj (.ref a))) (hx : sget σ x = some (.inst a Cl d fs))
    (hf : fget fs name = none) (hn : findIn K (.ref Cl) name = some (some (.ref f))) (ht : typeIn K (.ref f) = some (.type "function")) (ha : Evs C env σ es ms) (hs : SpecO C.G full k (.ref f) (.obj (.ref a) :: ms) γ r γ') (hk : C.lvl ≤ k) (hfull : full = true → C.Full) (hc : ∀ p ∈ γ, sget σ p.1 = some p.2) (hnd : (instA γ).Nodup) (hsm : SameG γ γ') (hkn : (γ.map (·.1)).Nodup)
    (hfn : ∀ h, C.ok h → ∃ o fd, h.get? f = some o ∧ o.data = .func fd)
    (hbase : attributeBase o name env (eval o env) = eval o env) (hline : (apos.endLine == pos.line) = true) (hfew : es.length < 29) (hy : Stores env y) (hp : sputs σ γ' = σ₁) (hp' : sput σ₁ y (.fz r) = σ₂) (hq : wpSs C env rest σ₂ Q) :
    wpSs C env (.Assign [.Name y py] (.Call (.Attribute o name apos) es [] pos) pas :: rest) σ Q :=
  wpSs_cons (wpS_assign_ometh hro hK hC ho hx hf hn ht ha hs hk hfull hc hnd hsm hkn hfn hbase hline hfew hy (by rw [hp, hp']; exact hq))
end
end Mine
namespace Mine
open PySem PySem.W PyProof.Rows
theorem c_nil {C : Cx} {env : Env} {σ : St} {k : Nat} {p : Pos} : Ev C env σ (.Constant (.str (Str.ofString "")) k p) (tx []) := ev_tx (by decide +kernel)
theorem c_q {C : Cx} {env : Env} {σ : St} {k : Nat} {p : Pos} : Ev C env σ (.Constant (.str (Str.ofString "\"")) k p) (tx [34]) := ev_tx (by decide +kernel)
theorem c_b {C : Cx} {env : Env} {σ : St} {k : Nat} {p : Pos} : Ev C env σ (.Constant (.str (Str.ofString " ")) k p) (tx [32]) := ev_tx (by decide +kernel)
theorem c_n257 {C : Cx} {env : Env} {σ : St} {k : Nat} {p : Pos} : Ev C env σ (.Constant (.str (Str.ofString "257")) k p) (tx [50, 53, 55]) := ev_tx (by decide +kernel)
theorem c_bq {C : Cx} {env : Env} {σ : St} {k : Nat} {p : Pos} : Ev C env σ (.Constant (.str (Str.ofString " \"")) k p) (tx [32, 34]) := ev_tx (by decide +kernel)
theorem c_lf {C : Cx} {env : Env} {σ : St} {k : Nat} {p : Pos} : Ev C env σ (.Constant (.str (Str.ofString "\n")) k p) (tx [10]) := ev_tx (by decide +kernel)
theorem c_cr {C : Cx} {env : Env} {σ : St} {k : Nat} {p : Pos} : Ev C env σ (.Constant (.str (Str.ofString "\r")) k p) (tx [13]) := ev_tx (by decide +kernel)
theorem c_crlf {C : Cx} {env : Env} {σ : St} {k : Nat} {p : Pos} : Ev C env σ (.Constant (.str (Str.ofString "\r\n")) k p) (tx [13, 10]) := ev_tx (by decide +kernel)
theorem c_a {C : Cx} {env : Env} {σ : St} {k : Nat} {p : Pos} : Ev C env σ (.Constant (.str (Str.ofString "a")) k p) (tx [97]) := ev_tx (by decide +kernel)
theorem c_c {C : Cx} {env : Env} {σ : St} {k : Nat} {p : Pos} : Ev C env σ (.Constant (.str (Str.ofString "c")) k p) (tx [99]) := ev_tx (by decide +kernel)
theorem c_hash {C : Cx} {env : Env} {σ : St} {k : Nat} {p : Pos} : Ev C env σ (.Constant (.str (Str.ofString "#")) k p) (tx [35]) := ev_tx (by decide +kernel)
theorem c_z {C : Cx} {env : Env} {σ : St} {k : Nat} {p : Pos} : Ev C env σ (.Constant (.str (Str.ofString "z")) k p) (tx [122]) := ev_tx (by decide +kernel)
end Mine
namespace Mine
open PySem PySem.W PyProof.Rows
theorem funFrames_of {n₀ : Nat} {h base : Heap} : ∀ {fs : List Env}, FramesIn n₀ h fs → (∀ e ∈ fs, ∀ L, e.frame = some L → base.get? L = none) → h.FunFrames base fs
  | [], _, _ => trivial
  | e :: r, hfr, hb => by
    obtain ⟨hk, L, o, hf, _, ho, es, ep, hd⟩ := hfr e List.mem_cons_self
    exact ⟨hk, ⟨L, o, hf, hb e List.mem_cons_self L hf, ho, fun vs q => by rw [hd] at q; cases q⟩, funFrames_of (fun e' he => hfr e' (List.mem_cons_of_mem _ he)) fun e' he => hb e' (List.mem_cons_of_mem _ he)⟩
theorem mem_frames {fs : List Env} {e : Env} {L : Addr} (he : e ∈ fs) (hf : e.frame = some L) : L ∈ fs.filterMap (·.frame) := List.mem_filterMap.mpr ⟨e, he, hf⟩
/-- an exception leaves the frame that made it -/
theorem leave_ {C : Cx} (hfull : C.Full) {env : Env} {outer : List Env} (hfs : C.fs = env :: outer) {L : Addr} (hf : env.frame = some L) {s : Shared} (hfr : FramesIn C.n₀ s.heap C.fs) {e : Addr} {oe : Obj} {vs : Array Value} (he : s.heap.get? e = some oe) (hd : oe.data = .fields vs) (h1 : vs[1]? = some .none)
    {Q : Unit → Shared → Prop} {E : Value → Shared → Prop} (h : ∀ h', KM C.S [e] s.heap h' → (∃ oe', h'.get? e = some oe' ∧ oe'.cls = oe.cls) → Q () { s with heap := h' }) : wpAny C.M C.A (leaving env (.ref e)) Q E s := by
  have hfr' := hfr
  rw [hfs] at hfr'
  refine wpAny_leaving_first (base := hideAll s.heap (e :: C.fs.filterMap (·.frame))) (outer := outer) (by rw [C.hfs, hfs]) (funFrames_of hfr' fun e' he' L' hf' => hideAll_none _ (List.mem_cons_of_mem _ (by rw [hfs]; exact mem_frames he' hf'))) hf he (fun b o q => of_hideAll _ q) (hideAll_none _ List.mem_cons_self) hd h1 fun h' hL => ?_
  obtain ⟨k1, k2, k3, k4⟩ := hL
  refine h h' (fun b o hb hB => ?_) ?_
  · have hbe : b ≠ e := fun q => hB (by rw [q]; exact List.mem_cons_self)
    by_cases hm : b ∈ C.fs.filterMap (·.frame)
    · obtain ⟨ev, hev, hfe⟩ := List.mem_filterMap.mp hm
      have hS := hfull ev hev b hfe
      obtain ⟨_, L', o', hf', _, ho', es, ep, hd'⟩ := hfr ev hev
      rw [hfe] at hf'
      cases hf'
      rw [hb] at ho'
      cases ho'
      obtain ⟨sl, q⟩ := k4 b o hb (fun vs q => by rw [hd'] at q; cases q)
      exact ⟨fun z => absurd hS z, _, q, rfl, rfl, rfl⟩
    · have q := k1 b o (hideAll_get _ hb (by simp only [List.mem_cons, not_or]; exact ⟨hbe, hm⟩))
      exact ⟨fun _ => q, o, q, rfl, rfl, rfl⟩
  · obtain ⟨oe', vs', T, oT, ts, q1, q2, _⟩ := k3
    exact ⟨oe', q1, q2⟩
/-- a body that raises -/
noncomputable def wpX (C : Cx) (env : Env) (sts : List Stmt) (σ : St) (cls : String) (γ' : St) : Prop := ∀ X s, Rel C X env σ s.heap →
  wpAny C.M C.A (execs sts env) (fun _ _ => False) (fun v s' => ∃ h' tk e oe vs σ', s' = { s with heap := h', toks := tk } ∧ v = .ref e ∧ h'.get? e = some oe ∧ oe.cls = .type cls ∧ oe.data = .fields vs ∧ vs[1]? = some .none ∧ X.get? e = none ∧ Rel C X env σ' h' ∧ ∀ p ∈ γ', sget σ' p.1 = some p.2) s
noncomputable def SpecX (G : Gx) (k : Nat) (f : Value) (args : List MV) (γ : St) (cls : String) (γ' : St) : Prop :=
  ∀ C : Cx, C.G = G → C.lvl ≤ k → C.Full → ∀ s O vals, C.ok s.heap → FramesIn C.n₀ s.heap C.fs → (∀ x ∈ O, ∃ vs : Array Value, s.heap.PlainList x vs) → VIns s.heap O args vals → GOk C s.heap γ →
    wpAny C.M C.A (call f vals) (fun _ _ => False) (fun v s' => KMs C.S (instA γ) s s' ∧ GIn s'.heap γ' ∧ ∃ e o, v = .ref e ∧ s'.heap.get? e = some o ∧ o.cls = .type cls) s
theorem specX_of {G : Gx} {fa : Addr} {fd : FuncData} {body : List Stmt} {names : List Str} {ms : List MV} {γ γ' : St} {cls : String} {k : Nat} (D : IsDef G fa fd body names) (hk : k + 1 ≤ 100) (hn : ms.length = names.length)
    (hγ : insts γ = true) (hg : ∀ p ∈ γ, fd.scope.names.lookup p.1 = none) (hsm : instA γ' = instA γ)
    (hb : ∀ C : Cx, C.G = G → C.lvl ≤ k + 1 → C.Full → ∀ L, C.mB = instA γ → C.ro = false → (instA γ).Nodup → wpX C (envAt fd L fa) body (names.zip (ms.map .fz) ++ γ) cls γ')
    (hg' : ∀ p ∈ γ', fd.scope.names.lookup p.1 = none) : SpecX G k (.ref fa) ms γ cls γ' := fun C hG hlv hfull s O vals hok hfr hO hv hgo => by
  subst hG
  obtain ⟨o, ho, hd⟩ := D.at_ _ hok
  have hlen : vals.length = names.length := by rw [hv.length, hn]
  refine wpAny_call (call_cells (P := fun binds s' => binds = names.zip vals ∧ s' = s) C.room ho hd (D.code _ hok) D.body (fun A => (D.binds _ _ hok vals hlen).here ⟨rfl, rfl⟩) D.clo (fun binds s' hp => ?_) D.co D.gen D.kind)
  obtain ⟨rfl, hse⟩ := hp
  rw [hse]
  refine ⟨C.G.nolim _ hok, ?_, fun s₁ I => ?_⟩
  · intro x hx
    have hx' : x.1 ∈ names := by
      have : x.1 ∈ (names.zip vals).map (·.1) := List.mem_map_of_mem hx
      rwa [zip_map_fst hlen] at this
    rcases D.kinds x.1 hx' with h | h
    · exact .inl h
    · exact .inr ⟨h, PySem.W.cellsFrom_some _ _ _ (.inl h)⟩
  · have hl1 : C.lvl + 1 ≤ 100 := by omega
    let L := s.heap.objs.size
    let C' := inner C fd L fa O (instA γ) false hl1
    obtain ⟨h₁, tk₁, rfl⟩ := I.toInCall.same
    have hLn : s.heap.get? L = none := Heap.get?_none_of_le (Nat.le_refl _)
    have R : Rel C' s.heap (envAt fd L fa) (names.zip (ms.map .fz) ++ γ) h₁ := rel_start (instA γ) false (.inr rfl) D.toIsDef0 hγ hg hlen hok hfr hO hv hgo hl1 I
    have hfull' : C'.Full := fun e he a hf => by
      rcases List.mem_cons.mp he with rfl | he
      · cases hf; exact List.mem_cons_self
      · exact List.mem_cons_of_mem _ (hfull e he a hf)
    refine wpAny_mono (hb C' rfl (by show C.lvl + 1 ≤ k + 1; omega) hfull' L rfl rfl hgo.nodup s.heap _ R) (fun fl s₂ p₂ => p₂.elim) fun v s₂ p₂ => ?_
    obtain ⟨h₂, tk₂, e, oe, vs, σ', rfl, rfl, he, hcl, hde, h1, hXe, R₂, qg⟩ := p₂
    refine leave_ (C := C') hfull' rfl rfl R₂.fr he hde h1 fun h₃ km ⟨oe', q1, q2⟩ => ?_
    refine ⟨⟨h₃, tk₂, rfl, fun b o eb hB => ?_⟩, fun x a Ca d fs hm => ?_, e, oe', rfl, q1, q2.trans hcl⟩
    · have hbe : b ∉ [e] := by
        simp only [List.mem_singleton]
        rintro rfl
        rw [hXe] at eb; cases eb
      obtain ⟨k1, o2, k2, k3⟩ := R₂.keepX b o eb hB
      obtain ⟨m1, o3, m2, m3, m4, m5⟩ := km b o2 k2 hbe
      refine ⟨fun hb => ?_, o3, m2, m3.trans k3.1, m4.trans k3.2.1, m5.trans k3.2.2⟩
      have hb' : b ∉ C'.S := fun hm => by
        rcases List.mem_cons.mp hm with rfl | hm
        · rw [hLn] at eb; cases eb
        · exact hb hm
      exact (km b o (k1 hb') hbe).1 hb'
    · have hv := R₂.vars x _ (qg _ hm)
      unfold VarIs at hv
      rw [show (envAt fd L fa).kindOf x = none from hg' _ hm] at hv
      obtain ⟨v, _, ⟨⟨sl, ea⟩, hne, mA, ⟨od, es, ep, ed, dd, rr⟩, hF⟩⟩ := hv
      have ha : a ∉ [e] := by simp only [List.mem_singleton]; rintro rfl; rw [he] at ea; cases ea; cases hde
      have hd' : d ∉ [e] := by simp only [List.mem_singleton]; rintro rfl; rw [he] at ed; cases ed; rw [dd] at hde; cases hde
      obtain ⟨_, oa, ea', x1, x2, x3⟩ := km a _ ea ha
      obtain ⟨_, od', ed', y1, _⟩ := km d _ ed hd'
      refine ⟨⟨oa.slots, ?_⟩, hne, mA, ⟨od', es, ep, ed', y1.trans dd, rr⟩, hF.to fun p dq => ?_⟩
      · obtain ⟨c1, c2, c3, c4⟩ := oa
        cases x1; cases x2; cases x3
        exact ea'
      · obtain ⟨o, n, t, e1, c1, d1⟩ := dq
        have hp : p ∉ [e] := by
          simp only [List.mem_singleton]; rintro rfl
          rw [he] at e1; cases e1
          rw [hde] at d1; cases d1
          simp at h1
        obtain ⟨_, o', e', z1, z2, _⟩ := km p o e1 hp
        exact ⟨o', n, t, e', z2.trans c1, z1.trans d1⟩
end Mine
namespace Mine
open PySem PySem.W PyProof.Rows
/-- what a call leaves: a value, objects turned and made -/
noncomputable def OutO (C : Cx) (s : Shared) (B O : List Addr) (Q : MV → St → Prop) (v : Value) (s' : Shared) : Prop :=
  ∃ m σ', KMs C.S B s s' ∧ VIn s'.heap O m v ∧ Q m σ' ∧ (∀ x a Ca d fs, sget σ' x = some (.inst a Ca d fs) → InstIs s'.heap a Ca d fs) ∧ (∀ b ∈ instA σ', C.n₀ ≤ b ∧ (b ∈ B ∨ s.heap.get? b = none) ∧ ∀ e ∈ C.fs, e.frame ≠ some b) ∧ (instA σ').Nodup
noncomputable def CodeQ (G : Gx) (full : Bool) (k : Nat) (fa : Addr) (fd : FuncData) (names : List Str) (ms : List MV) (γ : St) (Q : MV → St → Prop) : Prop :=
  ∀ C : Cx, C.G = G → C.lvl ≤ k → (full = true → C.Full) → ∀ s O args, Binds C s O fd args names ms → C.ok s.heap → FramesIn C.n₀ s.heap C.fs → (∀ x ∈ O, ∃ vs : Array Value, s.heap.PlainList x vs) → GOk C s.heap γ →
    codeAny C.M C.A (.call (.ref fa) args) (fun res s' => match res with | .ok (.ret v) => OutO C s (instA γ) O Q v s' | _ => False) s
theorem RelE.inst' {C : Cx} {env : Env} {σ : St} {h : Heap} (R : RelE C env σ h) {x : Str} {a Cl d : Addr} {fs : List (Str × MV)} (e : sget σ x = some (.inst a Cl d fs)) : InstIs h a Cl d fs := R.inst e
theorem codeQ_of {G : Gx} {fa : Addr} {fd : FuncData} {body : List Stmt} {names : List Str} {ms : List MV} {γ : St} {Q : MV → St → Prop} {full : Bool} {k : Nat} (D : IsDef0 G fa fd body names) (hk : k + 1 ≤ 100) (hn : ms.length = names.length)
    (hγ : insts γ = true) (hg : ∀ p ∈ γ, fd.scope.names.lookup p.1 = none)
    (hb : ∀ C : Cx, C.G = G → C.lvl ≤ k + 1 → (full = true → C.Full) → ∀ L, C.mB = instA γ → C.ro = false → (instA γ).Nodup → wpSs C (envAt fd L fa) body (names.zip (ms.map .fz) ++ γ) fun fm σ' => match fm with | .ret m => Q m σ' | .next => Q .none σ' | _ => False) :
    CodeQ G full k fa fd names ms γ Q := fun C hG hlv hfull s₀ O args hbd hok₀ hfr₀ hO₀ hgo₀ => by
  subst hG
  obtain ⟨o, ho, hd⟩ := D.at_ _ hok₀
  refine call_cells C.room ho hd (D.code _ hok₀) D.body hbd D.clo (fun binds s hp => ?_) D.co D.gen D.kind
  obtain ⟨vals, rfl, hlen, ks, hv⟩ := hp
  obtain ⟨h₀', t₂, hse, k₂⟩ := id ks
  have kk₂ : ∀ b o, s₀.heap.get? b = some o → s.heap.get? b = some o := by rw [hse]; exact k₂.keep
  have hok : C.ok s.heap := C.mono _ _ (fun b o _ e => kk₂ b o e) hok₀
  have hfr : FramesIn C.n₀ s.heap C.fs := hfr₀.ks (S := []) (.of_keep kk₂)
  have hO : ∀ x ∈ O, ∃ vs : Array Value, s.heap.PlainList x vs := fun a ha => let ⟨vs, n, e⟩ := hO₀ a ha; ⟨vs, n, kk₂ _ _ e⟩
  have hgo : GOk C s.heap γ := ⟨fun x a Ca d fs hm => (hgo₀.gin x a Ca d fs hm).ks (S := []) (.of_keep kk₂), hgo₀.apart, hgo₀.nodup⟩
  refine ⟨C.G.nolim _ hok, ?_, fun s₁ I => ?_⟩
  · intro x hx
    have hx' : x.1 ∈ names := by
      have : x.1 ∈ (names.zip vals).map (·.1) := List.mem_map_of_mem hx
      rwa [zip_map_fst hlen] at this
    rcases D.kinds x.1 hx' with h | h
    · exact .inl h
    · exact .inr ⟨h, PySem.W.cellsFrom_some _ _ _ (.inl h)⟩
  · have hl1 : C.lvl + 1 ≤ 100 := by omega
    let L := s.heap.objs.size
    let C' := inner C fd L fa O (instA γ) false hl1
    obtain ⟨h₁, tk₁, rfl⟩ := I.toInCall.same
    have hLn : s.heap.get? L = none := Heap.get?_none_of_le (Nat.le_refl _)
    have R : Rel C' s.heap (envAt fd L fa) (names.zip (ms.map .fz) ++ γ) h₁ := rel_start (instA γ) false (.inr rfl) D hγ hg hlen hok hfr hO hv hgo hl1 I
    have hfull' : full = true → C'.Full := fun h e he a hf => by
      rcases List.mem_cons.mp he with rfl | he
      · cases hf; exact List.mem_cons_self
      · exact List.mem_cons_of_mem _ (hfull h e he a hf)
    refine wpAny_mono (hb C' rfl (by show C.lvl + 1 ≤ k + 1; omega) hfull' L rfl rfl hgo.nodup s.heap _ R) (fun fl s₂ p₂ => ?_) fun _ _ x => x.elim
    obtain ⟨h₂, tk₂, rfl, fm, σ', fr, R₂, q⟩ := p₂
    have km2 : KM C.S (instA γ) s.heap h₂ := fun b o e hB => by
      obtain ⟨k1, k2⟩ := R₂.keepX b o e hB
      refine ⟨fun hb => k1 fun hm => ?_, k2⟩
      rcases List.mem_cons.mp hm with rfl | hm
      · rw [hLn] at e; cases e
      · exact hb hm
    have kk : KMs C.S (instA γ) s₀ { s with heap := h₂, toks := tk₂ } := by
      rw [hse]
      exact ⟨h₂, tk₂, rfl, fun b o eb hB => km2 b o (kk₂ b o eb) hB⟩
    have fin : ∀ {m : MV} {v : Value}, VIn h₂ (C'.ex σ') m v → Q m σ' → OutO C s₀ (instA γ) O Q v { s with heap := h₂, toks := tk₂ } := fun {m v} hvm hq =>
      ⟨m, σ', kk, hvm.more fun a ha => .inl (List.mem_append_right _ ha), hq, fun x a Ca d fs hx => R₂.inst' hx, fun b hb => ⟨(R₂.insN b hb).1, ((R₂.insX.resolve_left (by simp [C', inner])) b hb).imp id fun z => (by
        cases q2 : s₀.heap.get? b with
        | none => rfl
        | some o => rw [kk₂ b o q2] at z; cases z), fun e he => (R₂.insN b hb).2.2 e (List.mem_cons_of_mem _ he)⟩, R₂.insNd⟩
    rcases fl with _ | _ | _ | v <;> rcases fm with _ | _ | _ | m <;> first | exact (show False from fr).elim | exact (show False from q).elim | skip
    · exact fin (m := .none) rfl q
    · exact fin fr q
end Mine
namespace Mine
open PySem PySem.W PyProof.Rows
section
variable {C : Cx} {env : Env} {σ : St} {cls : String} {γ' : St}
theorem wpX_step {st : Stmt} {sts : List Stmt} (h : wpS C env st σ fun fm σ' => match fm with | .next => wpX C env sts σ' cls γ' | _ => False) : wpX C env (st :: sts) σ cls γ' := fun X s R => by
  refine wpAny_execs_cons (wpAny_mono (h X s R) (fun fl s' p => ?_) fun _ _ h => h.elim)
  obtain ⟨h', tk, rfl, fm, σ', fr, R', q⟩ := p
  cases fl <;> cases fm <;> first | exact fr.elim | exact q.elim | skip
  refine wpAny_mono (q X _ R') (fun fl2 s2 p2 => p2.elim) fun v s2 p2 => ?_
  obtain ⟨h2, tk2, e, oe, vs, σ2, rfl, r⟩ := p2
  exact ⟨h2, tk2, e, oe, vs, σ2, rfl, r⟩
theorem wpX_if {t : Expr} {body orelse rest : List Stmt} {p : Pos} (ht : EvB C env σ t true) (h : wpX C env body σ cls γ') : wpX C env (.If t body orelse p :: rest) σ cls γ' := fun X s R => by
  refine wpAny_execs_cons (wpAny_If (wpAny_mono (ht s R.toRelE) (fun b' s₁ h₁ => ?_) fun _ _ h => h.elim))
  obtain ⟨⟨h1', tk1, rfl, k⟩, rfl⟩ := h₁
  refine wpAny_mono (h X _ (R.ks k)) (fun fl2 s2 p2 => p2.elim) fun v s2 p2 => ?_
  obtain ⟨h2, tk2, e, oe, vs, σ2, rfl, r⟩ := p2
  exact ⟨h2, tk2, e, oe, vs, σ2, rfl, r⟩
theorem wpX_stop {x : Str} {np pos : Pos} {rest : List Stmt} (hg : GV C x (.type "StopIteration")) (hk : env.kindOf x = some .globalImplicit) (hd : (x == ("__debug__" : Str)) = false) (hc : ∀ p ∈ γ', sget σ p.1 = some p.2) (hm : ∀ b ∈ C.mB, ∃ x a Cl d fs, sget σ x = some (.inst a Cl d fs) ∧ (b = a ∨ b = d)) :
    wpX C env (.Raise (some (.Name x np)) none pos :: rest) σ "StopIteration" γ' := fun X s R => by
  refine wpAny_execs_cons (owsi_raiseC C.hh ?_ fun h' e hm' => ?_)
  · rcases hg _ R.base with ⟨mg, a, b⟩ | ⟨mg, mb, a, b, c, d⟩
    · exact Calls.Name_function_global R.kind hk (Calls.loadGlobal_global (by rw [R.glob.1]; exact a) b ⟨rfl, rfl⟩) hd
    · exact Calls.Name_function_global R.kind hk (Calls.loadGlobal_builtin (by rw [R.glob.1]; exact a) b (by rw [R.glob.2]; exact c) d ⟨rfl, rfl⟩) hd
  · obtain ⟨t, ht, _⟩ := hm'.there
    have hXe : X.get? e = none := by
      cases q : X.get? e with
      | none => rfl
      | some o =>
        have nm : e ∉ C.mB := fun z => by
          obtain ⟨x, a, Cl, d, fs, hx, w⟩ := hm e z
          obtain ⟨⟨sl, ea⟩, _, mA, ⟨od, es, ep, ed, _⟩, _⟩ := R.inst hx
          have nw := hm'.new
          rcases w with rfl | rfl
          · rw [nw] at ea; cases ea
          · rw [nw] at ed; cases ed
        obtain ⟨_, o', e', _⟩ := R.keepX e o q nm
        have nw := hm'.new
        rw [nw] at e'; cases e'
    exact ⟨h', s.toks, e, _, _, σ, rfl, rfl, ht, rfl, rfl, rfl, hXe, R.ks (.of_keep hm'.keeps), hc⟩
end
end Mine
namespace Mine
open PySem PySem.W PyProof.Rows
theorem dq_mro : ∃ tl, mroOf (.type "collections.deque") = pure (.type "collections.deque" :: tl) := ⟨[.type "object"], by rw [mroOf_type]; kernel_rfl⟩
theorem dq_new : typeLookup (.type "collections.deque") "__new__" = pure (some (.builtin "collections.deque.__new__")) := by rw [typeLookup_type, builtinLookup_eq_fast]; kernel_rfl
theorem dq_init : Slot "collections.deque" "__init__" "collections.deque.__init__" :=
  .of (owner := "collections.deque") (n := "__init__") (by rw [typeLookup_type, builtinLookup_eq_fast]; kernel_rfl) (by decide +kernel) (by decide +kernel) (by decide +kernel)
    (by first | exact .inl (by decide +kernel) | exact .inr (by decide +kernel)) (by rw [isSubtype_type]; kernel_rfl)
theorem dq_sub : isSubtype (.type "collections.deque") (.type "collections.deque") = pure true := by rw [isSubtype_type]; kernel_rfl
theorem dq_called : TypeCalled "collections.deque" "collections.deque.__new__" "collections.deque.__init__" := by
  obtain ⟨tl, h⟩ := dq_mro
  exact ⟨by decide +kernel, by decide +kernel, ⟨_, _, h⟩, madeBy_type h dq_new (by decide +kernel), by decide +kernel, dq_sub, dq_init⟩
theorem dq_ct : checkTypeCall "collections.deque" ⟨[], []⟩ = pure () := by kernel_rfl
theorem dq_nc : checkBuiltinCall "collections.deque.__new__" ⟨[.type "collections.deque"], []⟩ = pure () := by kernel_rfl
theorem dq_new_entry : entryFor table "collections.deque.__new__" = some Builtin.«collections.deque.__new__» := entryFor_of_tree (by kernel_rfl)
theorem dq_new_plain : plainId "collections.deque.__new__" = true := by decide +kernel
theorem dq_init_entry : entryFor table "collections.deque.__init__" = some Builtin.«collections.deque.__init__» := entryFor_of_tree (by kernel_rfl)
theorem dq_init_args (a : Value) : argsOk "collections.deque.__init__" ⟨[a], []⟩ := by unfold argsOk; kernel_rfl
section
variable {C : Cx} {env : Env} {σ : St}
theorem fn_deque : Fn C (.type "collections.deque") [] .deq := fun s O vals hO ha => by
  rw [show vals = [] from ha]
  refine callType_codes (Q₁ := fun obj s₁ => obj = .ref s.heap.objs.size ∧ s₁ = { s with heap := s.heap.push { cls := .type "collections.deque", data := .fields #[.none, rawInt 0] } }) dq_called dq_ct dq_init_entry ?_ fun obj s₁ h₁ => ?_
  · refine codeAny_of_tree ?_
    show wpAny _ C.A.in1.in1 (do checkBuiltinCall "collections.deque.__new__" ⟨[.type "collections.deque"], []⟩; again (.builtin "collections.deque.__new__" ⟨[.type "collections.deque"], []⟩)) _ _ s
    refine wpAny_bind (wpAny_of_eq dq_nc (wpAny_pure ⟨plainId_quiet dq_new_plain _, codeAny_builtin dq_new_entry ?_⟩))
    rw [Around.under_plainId dq_new_plain _]
    have hsub : isSubtype (.type "collections.deque") (.type Builtin.Deque.ty) = pure true := dq_sub
    obtain ⟨hp, g, d, tk, os⟩ := s
    unfold Builtin.«collections.deque.__new__» Builtin.Deque.newArgs Builtin.Deque.new
    wp_walk
    exact ⟨rfl, rfl⟩
  · obtain ⟨rfl, rfl⟩ := h₁
    have hS : (s.heap.push { cls := .type "collections.deque", data := .fields #[.none, rawInt 0] }).get? s.heap.objs.size = some { cls := .type "collections.deque", data := .fields #[.none, rawInt 0] } := Heap.get?_push_size _ rfl
    refine ⟨⟨_, hS, rfl⟩, dq_init_args _, ?_⟩
    unfold Builtin.«collections.deque.__init__»
    dsimp only
    show wpAny _ C.A.in1.in1 (setField (.ref s.heap.objs.size) 0 .none >>= fun _ => Builtin.Deque.clear (.ref s.heap.objs.size) >>= fun _ => ret .none) _ _ _
    refine wpAny_bind (wpAny_setField hS rfl (by decide) ?_)
    have hS2 := Heap.get?_update_self (Obj.mapFields (·.setIfInBounds 0 Value.none)) hS rfl
    unfold Builtin.Deque.clear Builtin.Deque.items fieldsOf
    refine wpAny_bind (wpAny_bind (wpAny_bind (wpAny_bind (wpAny_load hS2 (wpAny_pure ?_)))))
    refine wpAny_pure ?_
    refine wpAny_pure (wpAny_pure ?_)
    refine ⟨rfl, ⟨_, s.toks, rfl, .of_keep fun b o eb => ?_⟩, _, rfl, ⟨_, 0, 0, hS2, rfl, rfl⟩⟩
    exact (Heap.get?_update_other _ _ (Nat.ne_of_gt (Heap.lt_size eb))).trans (Heap.get?_push_of_some _ eb)
end
end Mine
namespace Mine
open PySem PySem.W PyProof.Rows
/-- objects made anew join a frame's state -/
theorem Rel.join {C : Cx} {X h : Heap} {env : Env} {σ γ : St} (R : Rel C X env σ h) (hi : insts γ = true) (g : GIn h γ) (hnew : ∀ b ∈ instA γ, b ∉ instA σ ∧ C.n₀ ≤ b ∧ b ≠ env.locals ∧ (∀ e ∈ C.fs, e.frame ≠ some b) ∧ (b ∈ C.mB ∨ X.get? b = none)) (hnd : (instA γ).Nodup) (hk : ∀ p ∈ γ, env.kindOf p.1 = none) : Rel C X env (σ ++ γ) h := by
  have how : owned (σ ++ γ) = owned σ := by rw [owned_append, owned_insts hi, List.append_nil]
  have hin : instA (σ ++ γ) = instA σ ++ instA γ := instA_append
  have hE : C.ex (σ ++ γ) = C.ex σ := by unfold Cx.ex; rw [how]
  refine { base := R.base, fr := R.fr, kind := R.kind, glob := R.glob, vars := ?_, own := fun a ha => R.own a (by rw [how] at ha; exact ha), outer := R.outer, insN := ?_, insNd := ?_, keepX := R.keepX, ns := R.ns, nsX := R.nsX, nsN := R.nsN, cells := R.cells, apart := R.apart, ownX := fun a ha => R.ownX a (by rw [how] at ha; exact ha), ownN := fun a ha => R.ownN a (by rw [how] at ha; exact ha), ownNd := by rw [how]; exact R.ownNd, insX := ?_, outX := R.outX }
  · intro x b hb
    rw [sget_append] at hb
    rw [hE]
    cases hq : sget σ x with
    | some b' => rw [hq] at hb; cases hb; exact R.vars x _ hq
    | none =>
      rw [hq] at hb
      have hm := sget_mem hb
      obtain ⟨a, Ca, d, fs, rfl⟩ := insts_mem hi hm
      unfold VarIs
      rw [hk _ hm]
      exact ⟨.ref a, rfl, g x a Ca d fs hm⟩
  · intro b hb
    rw [hin] at hb
    rcases List.mem_append.mp hb with hb | hb
    · exact R.insN b hb
    · exact ⟨(hnew b hb).2.1, (hnew b hb).2.2.1, (hnew b hb).2.2.2.1⟩
  · rw [hin]
    exact List.nodup_append.mpr ⟨R.insNd, hnd, fun a ha b hb q => (hnew b hb).1 (q ▸ ha)⟩
  · refine R.insX.imp id fun q b hb => ?_
    rw [hin] at hb
    rcases List.mem_append.mp hb with hb | hb
    · exact q b hb
    · exact (hnew b hb).2.2.2.2
end Mine
namespace Mine
open PySem PySem.W PyProof.Rows PySem.Calls
theorem fc_objnew (K : Frag) : findCls K (.type "object") (.type "type") (Str.ofString "__new__") = some (.val (.builtin "object.__new__")) := by kernel_rfl
theorem opq_obj : opaqueClassAbove (.type "object") = pure none := by kernel_rfl
theorem ty_obj : typeOf (.type "object") = pure (.type "type") := by kernel_rfl
theorem tga_in (K : Frag) : findIn K (.type "type") (Str.ofString "__getattribute__") = some (some (.builtin "type.__getattribute__")) := by kernel_rfl
theorem hk_ty : hookBefore (.type "type") = pure none := by kernel_rfl
theorem sub_ty (K : Frag) : subIn K (.type "type") (.type "type") = some true := by kernel_rfl
section
variable {C : Cx} {env : Env} {σ : St}
theorem getm_objnew {K : Frag} {A : Around} {s : Shared} {pl : Sem Bool} {Q : Value × List Value → Shared → Prop} {E : Value → Shared → Prop} (X : K.In s.heap)
    (h : Q (.builtin "object.__new__", []) { s with toks := s.toks + 1 }) : wpAny C.M A (getMethod (.type "object") (Str.ofString "__new__") pl) Q E s := by
  unfold getMethod specialOf
  refine wpAny_bind (wpAny_bind (wpAny_of_eq ty_obj ((looks_findIn X (tga_in K)).here ?_)))
  dsimp only
  rw [if_pos canon_tga]
  refine wpAny_bind (cls_open (K := K) X (Looks.of_pure opq_obj) (Looks.of_pure ty_obj) (tga_in K) (Looks.of_pure hk_ty) (sub_ty K) (fc_objnew K) (wpAny_pure ?_))
  show wpAny _ _ (handedOut (.builtin "object.__new__")) _ _ _
  rw [handedOut_of rfl]
  exact wpAny_pure (wpAny_pure h)
/-- object.__new__ of a class whose maker is a text's -/
structure NewOk (M : Model) (h : Heap) (Cl : Addr) : Prop where
  obj : ∃ oc od cd sl, h.get? Cl = some ⟨oc, od, .cls cd, sl⟩ ∧ cd.abstract = false ∧ cd.hasDel = false ∧ cd.hasDict = true
  base : ∃ b, Looks M h (Bind.staticBase (.ref Cl)) b ∧ Looks M h (Bind.madeBy b) (some "object.__new__")
  typ : Looks M h (isType (.ref Cl)) true
  top : Looks M h (isSubtype (.ref Cl) (.type "object")) true
theorem objnew_run {A : Around} {Cl : Addr} {R : Result → Shared → Prop} {h : Heap} {g : Array GenState} {d : Drawn} {t : Nat} {os : OsState} {prog : Program} {w : World} (Y : NewOk (model prog w) h Cl)
    (hq : R (.ok (.ret (.ref (h.objs.size + 1)))) ⟨(h.push emptyDict).push (instObj Cl h.objs.size), g, d, t, os⟩) :
    codeAny (model prog w) A (.call (.builtin "object.__new__") ⟨[.ref Cl], []⟩) R ⟨h, g, d, t, os⟩ := by
  obtain ⟨⟨oc, od, cd, sl, hC, e1, e2, e3⟩, ⟨b, base, made⟩, typ, top⟩ := Y
  have F := PySem.F.objNew
  refine codeAny_call_builtin_code (Code.quiet_builtin _ F.quiet) ?_
  simp only [checkBuiltinCall, F.kind, F.split, F.row]
  have here : Looks (model prog w) h (Bind.madeHere "object.__new__" (.ref Cl)) () := base.andThen (made.andThen (Looks.of_pure (by simp only [Option.map_some, bne_self_eq_false, Bool.false_eq_true, if_false])))
  have args : Bind.checkArgs "object.__new__" ⟨.hand, "object.__new__", "__new__", .cls, []⟩ ⟨[.ref Cl], []⟩ = pure () := by kernel_rfl
  rw [args]
  repeat (first | simp only [bne_self_eq_false, Bool.false_eq_true, if_false] | lk)
  refine codeAny_builtin F.entry ?_
  unfold Builtin.«object.__new__»
  have fin : ∀ A', wpAny (model prog w) A' (do
      let d ← if typeHasDict (.ref Cl) then some <$> alloc { cls := .type "dict", data := .dict #[] } else pure none
      ret (← newObj (.ref Cl) .plain d)) (fun fin s' => match fin with | .done f => R (.ok f) s' | .again c' => c'.quiet = true ∧ codeAny (model prog w) A c' R s') (fun e s' => R (.error e) s') ⟨h, g, d, t, os⟩ := by
    intro A'
    show wpAny _ _ ((alloc emptyDict >>= fun x => pure (some x)) >>= _) _ _ _
    refine wpAny_bind (wpAny_bind (wpAny_alloc (wpAny_pure (wpAny_bind ?_))))
    show wpAny _ _ (newObjAsIs _ _ _) _ _ _
    unfold newObjAsIs classHasDel
    refine wpAny_bind (wpAny_alloc (wpAny_bind (wpAny_bind (wpAny_load (Heap.get?_push_of_some _ (Heap.get?_push_of_some _ hC)) (wpAny_pure ?_)))))
    rw [e2]
    refine wpAny_pure (wpAny_pure ?_)
    show R _ _
    rw [Heap.size_push]
    exact hq
  repeat (first | simp only [e1, Bool.false_eq_true, if_false] | exact fin _ | lk)
end
end Mine
namespace Mine
open PySem PySem.W PyProof.Rows PySem.Calls
theorem tc_units (Cl : Addr) (rest : List Value) (kw : List (Str × Value)) : (Code.builtin "type.__call__" ⟨.ref Cl :: rest, kw⟩).cUnits ≤ 8 := Nat.le_of_ble_eq_true rfl
noncomputable def Cx.tc (C : Cx) (hl : C.lvl + 1 ≤ 100) (Cl : Addr) (rest : List Value) (kw : List (Str × Value)) : Cx :=
  { C with
    A := C.A.under (.builtin "type.__call__" ⟨.ref Cl :: rest, kw⟩)
    lvl := C.lvl + 1
    hh := C.hh
    hd := by have := C.hd; show C.A.depth + 1 ≤ _; omega
    hu := by have := C.hu; have := tc_units Cl rest kw; show C.A.units + (Code.builtin "type.__call__" ⟨.ref Cl :: rest, kw⟩).cUnits ≤ _; omega
    hl := hl
    hfs := by unfold Around.under; rw [C.hfs]; rfl }
/-- a class whose __new__ is a def of the text -/
structure Makes2 (M : Model) (h : Heap) (Cl : Addr) : Prop where
  obj : ∃ oc od cd sl, h.get? Cl = some ⟨oc, od, .cls cd, sl⟩ ∧ cd.mro.isEmpty = false
  made : Looks M h (Bind.madeBy (.ref Cl)) none
  self : Looks M h (isSubtype (.ref Cl) (.ref Cl)) true
  call : Looks M h (specialOf (.ref Cl) "__call__") (some (.builtin "type.__call__"))
  typ : Looks M h (isInstance (.ref Cl) (.type "type")) true
theorem make_core2 {prog : Program} {w : World} {A : Around} {K : Frag} {Cl p nf fI : Addr} {R : Result → Shared → Prop} {h : Heap} {g : Array GenState} {d : Drawn} {t : Nat} {os : OsState} {rest : List Value} {kw : List (Str × Value)} {mc : Value} {sr : List Value} (X : K.In h) (Y : Makes2 (model prog w) h Cl)
    (hr : readsIn K Cl mc = true) (hc : findCls K (.ref Cl) mc "__new__" = some (.get (.builtin "staticmethod.__get__") (.ref p) .none (.ref Cl))) (hp : recIn K p "staticmethod" = some (.ref nf :: sr)) (hh : handedIn (.ref nf) = true)
    (hi : findIn K (.ref Cl) "__init__" = some (some (.ref fI))) (hf : typeIn K (.ref fI) = some (.type "function"))
    (hq : codeAny (model prog w) (A.under (.builtin "type.__call__" ⟨.ref Cl :: rest, kw⟩)) (.call (.ref nf) ⟨.ref Cl :: rest, kw⟩) (fun r s' => match r with
      | .ok (.ret v) => ∃ x ox h' t', s' = ⟨h', g, d, t', os⟩ ∧ v = .ref x ∧ h'.get? x = some ox ∧ ox.cls = .ref Cl ∧ K.In h' ∧ Makes2 (model prog w) h' Cl ∧ codeAny (model prog w) (A.under (.builtin "type.__call__" ⟨.ref Cl :: rest, kw⟩)) (.call (.ref fI) ⟨.ref x :: rest, kw⟩) (InitBack x R) s'
      | _ => False) ⟨h, g, d, t + 1, os⟩) :
    codeAny (model prog w) A (.call (.ref Cl) ⟨rest, kw⟩) R ⟨h, g, d, t, os⟩ := by
  obtain ⟨⟨oc, od, cd, sl, hC, e4⟩, made, self, call, typ⟩ := Y
  refine codeAny_of_tree ?_
  show wpAny _ _ (callAny (.ref Cl) _) _ _ _
  refine nd_load hC ?_
  show wpAny _ _ (callAny.viaDunder (.ref Cl) _) _ _ _
  unfold callAny.viaDunder
  refine wpAny_bind (call.at ?_)
  dsimp only
  rw [tc_bind]
  refine wpAny_bind (wpAny_pure (wpAny_bind (wpAny_pure ?_)))
  refine wpAny_pure (a := Fin.again (.call (.builtin "type.__call__") ⟨.ref Cl :: rest, kw⟩)) (And.intro rfl ?_)
  refine codeAny_call_builtin_at (Code.quiet_builtin _ (by decide +kernel)) entry_typeCall (check_slot tc_kind tc_split typ (tc_args _ _ _) ?_)
  unfold Builtin.«type.__call__»
  have hm : Looks (model prog w) h (mroOf (.ref Cl)) cd.mro := ((Looks.ld (part := none) hC).andThen .now).andThen .now
  repeat (first | simp only [e4, Bool.false_eq_true, if_false] | with_reducible refine cls_bind X hr hc ?_ | with_reducible refine wpAny_call ?_ | lk)
  refine sm_get (s := ⟨h, g, d, t + 1, os⟩) X hp ?_
  refine handed_on hh ?_
  repeat (first | with_reducible refine wpAny_call ?_ | lk)
  refine codeAny_mono hq fun r s' z => ?_
  rcases r with e | (v | _ | _ | _) <;> first | exact z | exact z.elim | skip
  obtain ⟨x, ox, h', t', rfl, rfl, hx, hcl, X', Y', hz⟩ := z
  obtain ⟨oxc, oxd, oxa, oxs⟩ := ox
  dsimp only at hcl
  subst hcl
  have t1 : Looks (model prog w) h' (typeOf (.ref x)) (.ref Cl) := (Looks.ld hx).andThen .now
  have s1 := Y'.self
  have i1 := looks_findIn (M := model prog w) X' hi
  have b1 := bind_fn (M := model prog w) X' (.ref x) hf
  unfold isInstance callSpecial? specialOf
  repeat (first | with_reducible refine wpAny_call ?_ | lk)
  refine codeAny_mono hz fun r s' z => ?_
  rcases r with e | (v | _ | _ | _) <;> first | exact z | exact z.elim | skip
  obtain ⟨rfl, z⟩ := z
  exact wpAny_pure (wpAny_pure z)
end Mine
namespace Mine
open PySem PySem.W PyProof.Rows PySem.Calls
section
variable {C : Cx} {env : Env} {σ : St}
structure ClsCall (M : Model) (h : Heap) (Cl : Addr) : Prop where
  obj : ∃ oc od cd sl, h.get? Cl = some ⟨oc, od, .cls cd, sl⟩
  call : Looks M h (specialOf (.ref Cl) "__call__") (some (.builtin "type.__call__"))
theorem callWith_cls_ {pos : Pos} {Cl : Addr} {args : List (Bool × Sem Value)} {keywords : List (Option Str × Sem Value)} {Q : Value → Shared → Prop} {s : Shared} (hplain : args.any (·.1) = false) (hkw : keywords.any (·.1.isNone) = false)
    (h : wpAny C.M C.A (evalArgs (.ref Cl) true args keywords) (fun a s₁ => ClsCall C.M s₁.heap Cl ∧ wpAny C.M C.A (call (.ref Cl) a.pos a.kw) Q F s₁) F s) : wpAny C.M C.A (callWith pos (.ref Cl) [] args keywords) Q F s := by
  unfold callWith
  refine wpAny_bind (wpAny_holding (wpAny_mono h (fun a s₁ h₁ => wpAny_bind (wpAny_standAt ?_)) fun _ _ x => x))
  obtain ⟨⟨⟨oc, od, cd, sl, hC⟩, hc⟩, h₁⟩ := h₁
  simp only [hplain, hkw, Bool.or_false]
  refine wpAny_bind (m := keeperOf (.ref Cl)) ?_
  unfold keeperOf
  refine wpAny_bind (wpAny_load hC ?_)
  refine wpAny_bind (hc.here ?_)
  simp only [beq_self_eq_true, if_true]
  refine wpAny_pure ?_
  exact wpAny_bind (wpAny_mono h₁ (fun r s₂ hr => wpAny_bind (wpAny_holding (wpAny_point (wpAny_pure hr)))) fun _ _ x => x)
theorem evalArgsK_ {pos : Pos} {f : Value} {es : List Expr} {ms : List MV} {kn : Str} {ke : Expr} {kp : Pos} {kv : Bool} (x : Evs C env σ es ms) (hne : es ≠ []) (hk : Ev C env σ ke (.bool kv)) (s : Shared) (R : RelE C env σ s.heap) :
    wpAny C.M C.A (evalArgs f true (backTo pos (starEach es env)) (backToKw pos (keywordEach [⟨some kn, ke, kp⟩] env))) (fun a s' => KSs C.S s s' ∧ a.kw = [(kn, .bool kv)] ∧ VIns s'.heap (C.ex σ) ms a.pos) F s := by
  unfold evalArgs
  have h := splicedV_ (pos := pos) x s R
  cases x with
  | nil => exact absurd rfl hne
  | cons a hn r =>
    rw [starEach_cons hn, backTo_cons] at h ⊢
    show wpAny _ _ (spliced _ >>= _) _ _ s
    refine wpAny_bind (wpAny_mono h (fun vs s' h' => ?_) fun _ _ x => x)
    refine wpAny_holding ?_
    have R' := R.ks h'.1.ks
    show wpAny _ _ (evalAll [do let v ← eval ke env; standAt pos; pure v] >>= _) _ _ s'
    refine wpAny_bind (wpAny_bind (wpAny_bind (wpAny_mono (hk s' R') (fun v s₂ h₂ => wpAny_bind (wpAny_standAt (wpAny_pure ?_))) fun _ _ x => x)))
    obtain ⟨k₂, rfl⟩ := h₂
    refine wpAny_bind (wpAny_holding (wpAny_pure (wpAny_pure ?_)))
    exact wpAny_bind (wpAny_pure (wpAny_pure ⟨h'.1.trans k₂, rfl, h'.2.ks k₂.ks⟩))
/-- objects made by a call -/
structure Made (C : Cx) (s s' : Shared) (γ : St) : Prop where
  ins : insts γ = true
  gin : GIn s'.heap γ
  fresh : ∀ b ∈ instA γ, C.n₀ ≤ b ∧ s.heap.get? b = none
  nodup : (instA γ).Nodup
noncomputable def Make (G : Gx) (full : Bool) (k : Nat) (f : Value) (ms : List MV) (kw : List (Str × Value)) (Q : Value → St → Prop) : Prop :=
  ∀ C : Cx, C.G = G → C.lvl ≤ k → (full = true → C.Full) → ∀ s O vals, C.ok s.heap → FramesIn C.n₀ s.heap C.fs → (∀ x ∈ O, ∃ vs : Array Value, s.heap.PlainList x vs) → VIns s.heap O ms vals →
    wpAny C.M C.A (call f vals kw) (fun v s' => KSs C.S s s' ∧ ∃ γ, Q v γ ∧ Made C s s' γ) F s
noncomputable def notKey (x : Str) : St → Bool
  | [] => true
  | (y, _) :: r => !(y == x) && notKey x r
noncomputable def keysNd : St → Bool
  | [] => true
  | (x, _) :: r => notKey x r && keysNd r
theorem notKey_ {x y : Str} {b : Bd} : ∀ {σ : St}, notKey x σ = true → (y, b) ∈ σ → x ≠ y
  | (z, c) :: r, h, hm => by
    simp only [notKey, Bool.and_eq_true, Bool.not_eq_true', beq_eq_false_iff_ne] at h
    rcases List.mem_cons.mp hm with e | hm
    · cases e; exact Ne.symm h.1
    · exact notKey_ h.2 hm
theorem sget_of_mem {x : Str} {b : Bd} : ∀ {σ : St}, keysNd σ = true → (x, b) ∈ σ → sget σ x = some b
  | (z, c) :: r, h, hm => by
    simp only [keysNd, Bool.and_eq_true] at h
    rcases List.mem_cons.mp hm with e | hm
    · cases e; simp [sget]
    · simp [sget, notKey_ h.1 hm, sget_of_mem h.2 hm]
theorem Rel.made {X : Heap} {γ : St} {s s' : Shared} (R : Rel C X env σ s.heap) (k : KSs C.S s s') (m : Made C s s' γ) (hk : ∀ p ∈ γ, env.kindOf p.1 = none) (hσ : keysNd σ = true) : Rel C X env (σ ++ γ) s'.heap := by
  refine (R.ks k.ks).join m.ins m.gin (fun b hb => ?_) m.nodup hk
  obtain ⟨hn, hf⟩ := m.fresh b hb
  refine ⟨fun q => ?_, hn, ?_, fun e he q => ?_, ?_⟩
  · obtain ⟨x, a, Cl, d, fs, hm, q⟩ := instA_of q
    obtain ⟨⟨sl, ea⟩, _, mA, ⟨od, es, ep, ed, _⟩, _⟩ := R.inst (sget_of_mem hσ hm)
    rcases q with rfl | rfl
    · rw [hf] at ea; cases ea
    · rw [hf] at ed; cases ed
  · rintro rfl
    obtain ⟨_, o, _, _, e, _⟩ := R.ns
    rw [hf] at e; cases e
  · obtain ⟨_, L, o, hL, _, ho, _⟩ := R.fr e he
    rw [q] at hL; cases hL
    rw [hf] at ho; cases ho
  · by_cases hB : b ∈ C.mB
    · exact .inl hB
    · right
      cases q : X.get? b with
      | none => rfl
      | some o =>
        obtain ⟨_, o', e', _⟩ := R.keepX b o q hB
        rw [hf] at e'; cases e'
theorem wpS_make {y fx : Str} {py p pos pas : Pos} {es : List Expr} {ms : List MV} {Cl : Addr} {full : Bool} {k : Nat} {Q0 : Value → St → Prop} {Q : FM → St → Prop} (hx : Ev C env σ (.Name fx p) (.obj (.ref Cl))) (ha : Evs C env σ es ms) (hm : Make C.G full k (.ref Cl) ms [] Q0) (hk : C.lvl ≤ k) (hfull : full = true → C.Full)
    (hc : ∀ h, C.ok h → ClsCall C.M h Cl) (hσ : keysNd σ = true) (hy : Stores env y) (hn : ∀ v γ, Q0 v γ → ∀ p ∈ γ, env.kindOf p.1 = none) (hq : ∀ v γ, Q0 v γ → Q .next (sput (σ ++ γ) y (.fz (.obj v)))) :
    wpS C env (.Assign [.Name y py] (.Call (.Name fx p) es [] pos) pas) σ Q := fun X s R => by
  refine wpAny_Assign_Name ?_ rfl
  show wpAny _ _ (do callWith pos (← eval (.Name fx p) env) [] (backTo pos (starEach es env)) (backToKw pos (keywordEach [] env))) _ _ s
  refine wpAny_bind (wpAny_mono (hx s R.toRelE) (fun v s₁ h₁ => ?_) fun _ _ x => x)
  obtain ⟨k₁, rfl⟩ := h₁
  have R₁ := R.ks k₁.ks
  refine callWith_cls_ (plain_args ha.ts).1 rfl (wpAny_mono (evalArgsV_ ha s₁ R₁.toRelE) (fun a s₂ h₂ => ?_) fun _ _ x => x)
  obtain ⟨k₂, hkw, hv⟩ := h₂
  have R₂ := R₁.ks k₂.ks
  refine ⟨hc _ R₂.base, ?_⟩
  rw [hkw]
  refine wpAny_mono (hm C rfl hk hfull s₂ _ _ R₂.base R₂.fr (fun x hx => (List.mem_append.mp hx).elim (R₂.own x) (R₂.outer x)) hv) (fun v s₃ h₃ => ?_) fun _ _ x => x
  obtain ⟨k₃, γ, q, md⟩ := h₃
  have R₃ := R₂.made k₃ md (hn v γ q) hσ
  obtain ⟨h1, t1, rfl, _⟩ := k₁
  obtain ⟨h2, t2, rfl, _⟩ := k₂
  obtain ⟨h3, t3, rfl, _⟩ := k₃
  exact store_ R₃ hy (m := .obj v) rfl fun h' tk R' => ⟨h', tk, rfl, .next, _, trivial, R', hq v γ q⟩
theorem wpS_makeK {y fx kn : Str} {py p pos pas kp : Pos} {ke : Expr} {kv : Bool} {es : List Expr} {ms : List MV} {Cl : Addr} {full : Bool} {k : Nat} {Q0 : Value → St → Prop} {Q : FM → St → Prop} (hx : Ev C env σ (.Name fx p) (.obj (.ref Cl))) (ha : Evs C env σ es ms) (hne : es ≠ []) (hke : Ev C env σ ke (.bool kv)) (hm : Make C.G full k (.ref Cl) ms [(kn, .bool kv)] Q0) (hk : C.lvl ≤ k) (hfull : full = true → C.Full)
    (hc : ∀ h, C.ok h → ClsCall C.M h Cl) (hσ : keysNd σ = true) (hy : Stores env y) (hn : ∀ v γ, Q0 v γ → ∀ p ∈ γ, env.kindOf p.1 = none) (hq : ∀ v γ, Q0 v γ → Q .next (sput (σ ++ γ) y (.fz (.obj v)))) :
    wpS C env (.Assign [.Name y py] (.Call (.Name fx p) es [⟨some kn, ke, kp⟩] pos) pas) σ Q := fun X s R => by
  refine wpAny_Assign_Name ?_ rfl
  show wpAny _ _ (do callWith pos (← eval (.Name fx p) env) [] (backTo pos (starEach es env)) (backToKw pos (keywordEach [⟨some kn, ke, kp⟩] env))) _ _ s
  refine wpAny_bind (wpAny_mono (hx s R.toRelE) (fun v s₁ h₁ => ?_) fun _ _ x => x)
  obtain ⟨k₁, rfl⟩ := h₁
  have R₁ := R.ks k₁.ks
  refine callWith_cls_ (plain_args ha.ts).1 rfl (wpAny_mono (evalArgsK_ ha hne hke s₁ R₁.toRelE) (fun a s₂ h₂ => ?_) fun _ _ x => x)
  obtain ⟨k₂, hkw, hv⟩ := h₂
  have R₂ := R₁.ks k₂.ks
  refine ⟨hc _ R₂.base, ?_⟩
  rw [hkw]
  refine wpAny_mono (hm C rfl hk hfull s₂ _ _ R₂.base R₂.fr (fun x hx => (List.mem_append.mp hx).elim (R₂.own x) (R₂.outer x)) hv) (fun v s₃ h₃ => ?_) fun _ _ x => x
  obtain ⟨k₃, γ, q, md⟩ := h₃
  have R₃ := R₂.made k₃ md (hn v γ q) hσ
  obtain ⟨h1, t1, rfl, _⟩ := k₁
  obtain ⟨h2, t2, rfl, _⟩ := k₂
  obtain ⟨h3, t3, rfl, _⟩ := k₃
  exact store_ R₃ hy (m := .obj v) rfl fun h' tk R' => ⟨h', tk, rfl, .next, _, trivial, R', hq v γ q⟩
/-- return object.__new__(cls) -/
theorem ss_ret_new {ox cx nm : Str} {p p' ap pos rp : Pos} {Cl : Addr} {K : Frag} {rest : List Stmt} {Q : FM → St → Prop} (hK : KOk C K) (hx : Ev C env σ (.Name ox p) (.obj (.type "object"))) (ha : Ev C env σ (.Name cx p') (.obj (.ref Cl))) (hN : ∀ h, C.ok h → NewOk C.M h Cl) (hσ : keysNd σ = true) (hn : env.kindOf nm = none)
    (hline : (ap.endLine == pos.line) = true) (hq : ∀ a d, Q (.ret (.obj (.ref a))) (σ ++ [(nm, .inst a Cl d [])])) :
    wpSs C env (.Return (some (.Call (.Attribute (.Name ox p) (Str.ofString "__new__") ap) [.Name cx p'] [] pos)) rp :: rest) σ Q := fun X s R => by
  refine wpAny_execs_cons (wpAny_Return_some ?_)
  rw [arm_eval_Call, show attributeBase (.Name ox p) (Str.ofString "__new__") env (eval (.Name ox p) env) = eval (.Name ox p) env from rfl]
  refine wpAny_bind (wpAny_mono (hx s R.toRelE) (fun ov s₁ h₁ => ?_) fun _ _ x => x)
  obtain ⟨k₁, rfl⟩ := h₁
  have R₁ := R.ks k₁.ks
  have has : Evs C env σ [.Name cx p'] [.obj (.ref Cl)] := .cons ha (by intro _ _ h; cases h) .nil
  refine wpAny_bind (wpAny_standAt ?_)
  have hform : methodCallForm (1 + ([] : List Keyword).length) (backTo pos (starEach [.Name cx p'] env)) (backToKw pos (keywordEach [] env)) = true := rfl
  have hpos : methodCallPos true (.Name ox p) env ap pos = pure pos := by unfold methodCallPos; simp [hline]
  unfold methodCall
  rw [show methodCallForm ([Expr.Name cx p'].length + ([] : List Keyword).length) (backTo pos (starEach [.Name cx p'] env)) (backToKw pos (keywordEach [] env)) = true from rfl]
  refine wpAny_bind (wpAny_holding (getm_objnew (hK _ R₁.base) ?_))
  refine wpAny_bind (wpAny_of_eq hpos ?_)
  have R₁' : Rel C X env σ { s₁ with toks := s₁.toks + 1 }.heap := R₁
  refine Calls.callWith_builtin (plain_args has.ts).1 (wpAny_mono (evalArgsV_ has _ R₁'.toRelE) (fun ar s₂ h₂ => ?_) fun _ _ x => x)
  obtain ⟨k₂, hkw, hv⟩ := h₂
  have R₂ := R₁'.ks k₂.ks
  rw [hkw]
  obtain ⟨v, r, e, hv1, hr⟩ := hv
  cases hv1
  rw [show r = [] from hr] at e
  rw [e]
  obtain ⟨hp, g, d, tk, os⟩ := s₂
  refine wpAny_call (objnew_run (hN _ R₂.base) ?_)
  have kp : KSs C.S ⟨hp, g, d, tk, os⟩ ⟨(hp.push emptyDict).push (instObj Cl hp.objs.size), g, d, tk, os⟩ := ⟨_, _, rfl, .of_keep fun b o e => Heap.get?_push_of_some _ (Heap.get?_push_of_some _ e)⟩
  have low : C.n₀ ≤ hp.objs.size := C.G.low _ R₂.base
  have md : Made C ⟨hp, g, d, tk, os⟩ ⟨(hp.push emptyDict).push (instObj Cl hp.objs.size), g, d, tk, os⟩ [(nm, .inst (hp.objs.size + 1) Cl hp.objs.size [])] := by
    refine ⟨rfl, ?_, ?_, ?_⟩
    · intro x a Ca d' fs hm
      simp only [List.mem_singleton, Prod.mk.injEq, Bd.inst.injEq] at hm
      obtain ⟨_, rfl, rfl, rfl, rfl⟩ := hm
      refine ⟨⟨#[], ?_⟩, (Nat.ne_of_lt (Nat.lt_succ_self hp.objs.size)), fun _ => none, ?_, fun x => rfl⟩
      · have : ((hp.push emptyDict).push (instObj Ca hp.objs.size)).get? (hp.objs.size + 1) = some (instObj Ca hp.objs.size) := by heap_get
        exact this
      · refine Heap.Ns1.of_empty ⟨emptyDict, #[], 0, ?_, rfl, (fun x hx => by simp at hx), fun _ => rfl⟩
        show ((hp.push emptyDict).push (instObj Ca hp.objs.size)).get? hp.objs.size = some emptyDict
        heap_get
    · intro b hb
      simp only [instA, List.mem_cons, List.not_mem_nil, or_false] at hb
      rcases hb with rfl | rfl
      · exact ⟨Nat.le_succ_of_le low, Heap.get?_none_of_le (Nat.le_succ _)⟩
      · exact ⟨low, Heap.get?_none_of_le (Nat.le_refl _)⟩
    · simp [instA]
  have R₃ := R₂.made kp md (by intro p hp; rw [List.mem_singleton.mp hp]; exact hn) hσ
  obtain ⟨h1, t1, rfl, _⟩ := k₁
  obtain ⟨h2, t2, e2, _⟩ := k₂
  cases e2
  exact ⟨_, _, rfl, .ret (.obj (.ref (hp.objs.size + 1))), _, rfl, R₃, hq _ _⟩
end
end Mine
namespace Mine
open PySem PySem.W PyProof.Rows PySem.Calls
noncomputable def noInst : St → St
  | [] => []
  | (_, .inst _ _ _ _) :: r => noInst r
  | (x, .fz m) :: r => (x, .fz m) :: noInst r
  | (x, .own a xs) :: r => (x, .own a xs) :: noInst r
theorem noInst_mem {p : Str × Bd} : ∀ {σ : St}, p ∈ noInst σ → p ∈ σ
  | (_, .inst _ _ _ _) :: r, h => List.mem_cons_of_mem _ (noInst_mem (σ := r) h)
  | (x, .fz m) :: r, h => by
    rcases List.mem_cons.mp h with e | h
    · rw [e]; exact List.mem_cons_self
    · exact List.mem_cons_of_mem _ (noInst_mem h)
  | (x, .own a xs) :: r, h => by
    rcases List.mem_cons.mp h with e | h
    · rw [e]; exact List.mem_cons_self
    · exact List.mem_cons_of_mem _ (noInst_mem h)
theorem noInst_instA : ∀ {σ : St}, instA (noInst σ) = []
  | [] => rfl
  | (_, .inst _ _ _ _) :: r => noInst_instA (σ := r)
  | (x, .fz m) :: r => noInst_instA (σ := r)
  | (x, .own a xs) :: r => noInst_instA (σ := r)
theorem noInst_owned : ∀ {σ : St}, owned (noInst σ) = owned σ
  | [] => rfl
  | (_, .inst _ _ _ _) :: r => noInst_owned (σ := r)
  | (x, .fz m) :: r => noInst_owned (σ := r)
  | (x, .own a xs) :: r => by simp only [noInst, owned, noInst_owned (σ := r)]
section
variable {C : Cx} {env : Env} {σ : St}
theorem Rel.forget {X h h' : Heap} {B : List Addr} (R : Rel C X env σ h) (hσ : keysNd σ = true) (hBi : ∀ b ∈ B, b ∈ instA σ) (hBX : ∀ b ∈ B, b ∈ C.mB ∨ X.get? b = none) (km : KM C.S B h h') : Rel C X env (noInst σ) h' := by
  have q3 : owned (noInst σ) = owned σ := noInst_owned
  have hE : C.ex (noInst σ) = C.ex σ := by unfold Cx.ex; rw [q3]
  have hdat : ∀ b ∈ B, ∀ o, h.get? b = some o → o.data = .plain ∨ ∃ es ep, o.data = .dict es ep := fun b hb o e => by
    obtain ⟨x, a, Cl, d, fs, hm, q⟩ := instA_of (hBi b hb)
    obtain ⟨⟨sl, ea⟩, _, mA, ⟨od, es, ep, ed, dd, _⟩, _⟩ := R.inst (sget_of_mem hσ hm)
    rcases q with rfl | rfl
    · rw [e] at ea; cases ea; exact .inl rfl
    · rw [e] at ed; cases ed; exact .inr ⟨es, ep, dd⟩
  have hB : ∀ b ∈ B, ∀ o, h.get? b = some o → ∀ xs n, o.data ≠ .seq xs n := fun b hb o e xs n q => by
    rcases hdat b hb o e with z | ⟨es, ep, z⟩ <;> rw [z] at q <;> cases q
  have hB' : ∀ b ∈ B, ∀ o, h.get? b = some o → ∀ vs, o.data ≠ .fields vs := fun b hb o e vs q => by
    rcases hdat b hb o e with z | ⟨es, ep, z⟩ <;> rw [z] at q <;> cases q
  have hcell : ∀ {c v}, h.IsCell c v → h'.IsCell c v := fun {c v} y => by
    obtain ⟨oc, ec, dc⟩ := y
    obtain ⟨_, o', e', d1, _⟩ := km c oc ec fun q => by
      rcases hdat c q oc ec with z | ⟨es, ep, z⟩ <;> rw [z] at dc <;> cases dc
    exact ⟨o', e', d1.trans dc⟩
  have hns : ∀ m, h.Ns env.locals m → h'.Ns env.locals m := fun m y => by
    obtain ⟨o, es, ep, e, d, r⟩ := y
    obtain ⟨_, o', e', d1, _⟩ := km _ o e fun q => (R.insN _ (hBi _ q)).2.1 rfl
    exact ⟨o', es, ep, e', d1.trans d, r⟩
  have hpl : ∀ {a vs}, h.PlainList a vs → h'.PlainList a vs := fun {a vs} y => by
    obtain ⟨n, e⟩ := y
    exact ⟨n, (km a _ e fun q => hB a q _ e _ _ rfl).1 (R.notS e (fun es ep => by simp))⟩
  refine { base := C.mono _ _ (fun b o hb e => (km b o e fun q => absurd hb (Nat.not_lt.mpr (R.insN b (hBi b q)).1)).1 (R.low hb)) R.base, fr := ?_, kind := R.kind, glob := R.glob, vars := ?_, own := ?_, outer := ?_, insN := ?_, insNd := ?_, keepX := ?_, ns := ?_, nsX := R.nsX, nsN := R.nsN, cells := ?_, apart := R.apart, ownX := fun a ha => R.ownX a (by rw [q3] at ha; exact ha), ownN := fun a ha => R.ownN a (by rw [q3] at ha; exact ha), ownNd := by rw [q3]; exact R.ownNd, insX := ?_, outX := R.outX }
  · intro ev hev
    obtain ⟨ak, L, oL, hf, hN, ho, es', ep', hd'⟩ := R.fr ev hev
    obtain ⟨_, o', e', d1, _⟩ := km L oL ho fun q => (R.insN L (hBi L q)).2.2 ev hev hf
    exact ⟨ak, L, o', hf, hN, e', es', ep', d1.trans hd'⟩
  · intro y b hb
    rw [hE]
    have hm := noInst_mem (sget_mem hb)
    refine (R.vars y _ (sget_of_mem hσ hm)).to hns (fun c v _ q => hcell q) fun v q => ?_
    cases b with
    | fz m => exact VIn.km km hB hB' q
    | own a xs => obtain ⟨e, vs, p, r⟩ := q; exact ⟨e, vs, hpl p, r.km km hB hB'⟩
    | inst a Cl d fs =>
      have := (instA_mem hb).1
      rw [noInst_instA] at this; cases this
  · intro a ha
    rw [q3] at ha
    obtain ⟨vs, p⟩ := R.own a ha
    exact ⟨vs, hpl p⟩
  · intro a ha
    obtain ⟨vs, p⟩ := R.outer a ha
    exact ⟨vs, hpl p⟩
  · intro b hb; rw [noInst_instA] at hb; cases hb
  · rw [noInst_instA]; exact List.nodup_nil
  · intro b o eb hb
    obtain ⟨k1, o2, k2, k3, k4, k5⟩ := R.keepX b o eb hb
    have hbB : b ∉ B := fun q => (hBX b q).elim hb fun z => by rw [z] at eb; cases eb
    obtain ⟨m1, o3, m2, m3, m4, m5⟩ := km b o2 k2 hbB
    exact ⟨fun z => (km b o (k1 z) hbB).1 z, o3, m2, m3.trans k3, m4.trans k4, m5.trans k5⟩
  · obtain ⟨m, q⟩ := R.ns
    exact ⟨m, hns m q⟩
  · intro y c hc
    obtain ⟨⟨v2, a2⟩, a3, a4⟩ := R.cells y c hc
    exact ⟨⟨v2, hcell a2⟩, a3, a4⟩
  · exact .inr fun b hb => by rw [noInst_instA] at hb; cases hb
end
end Mine
namespace Mine
open PySem PySem.W PyProof.Rows
/-- what is hidden from a turn of a loop: the frame's own slots, cells and lists -/
noncomputable def hids (env : Env) (σ : St) : List Addr := env.locals :: (env.cells.map (·.2) ++ owned σ)
noncomputable abbrev hid (h : Heap) (env : Env) (σ : St) : Heap := hideAll h (hids env σ)
section
variable {C : Cx} {env : Env} {σ σ' : St} {X h h' : Heap}
theorem lookup_of_mem_apart {l : List (Str × Addr)} {c : Addr} (h : c ∈ l.map (·.2)) : ∃ x, (x, c) ∈ l := by
  obtain ⟨p, hp, rfl⟩ := List.mem_map.mp h
  exact ⟨p.1, hp⟩
/-- every cell of the frame is reached by its name -/
noncomputable def CellsOk (env : Env) : Prop := ∀ x c, (x, c) ∈ env.cells → env.cells.lookup x = some c
theorem Rel.notHid (R : Rel C X env σ h) (hc : CellsOk env) {b : Addr} {o : Obj} (e : X.get? b = some o) : b ∉ hids env σ := fun hm => by
  rcases List.mem_cons.mp hm with rfl | hm
  · rw [R.nsX] at e; cases e
  · rcases List.mem_append.mp hm with hm | hm
    · obtain ⟨x, hx⟩ := lookup_of_mem_apart hm
      rw [(R.cells x b (hc x b hx)).2.1] at e; cases e
    · rw [R.ownX b hm] at e; cases e
theorem Rel.backX (R : Rel C X env σ h) (hc : CellsOk env) (hB : C.mB = []) {J : List Addr} (hJ : ∀ b ∈ J, X.get? b = none) (R' : Rel C (hideAll h (J ++ hids env σ)) env σ' h') : Rel C X env σ' h' := by
  have vis : ∀ b o o2, X.get? b = some o → h.get? b = some o2 → (hideAll h (J ++ hids env σ)).get? b = some o2 := fun b o o2 e e2 => by
    refine hideAll_get _ e2 fun q => ?_
    rcases List.mem_append.mp q with q | q
    · rw [hJ b q] at e; cases e
    · exact R.notHid hc e q
  have back : ∀ a, (hideAll h (J ++ hids env σ)).get? a = none → X.get? a = none := fun a ha => by
    cases q : X.get? a with
    | none => rfl
    | some o =>
      obtain ⟨_, o2, e2, _⟩ := R.keepX a o q (by rw [hB]; simp)
      rw [vis a o o2 q e2] at ha; cases ha
  refine { toRelE := R'.toRelE, keepX := ?_, ns := R'.ns, nsX := R.nsX, nsN := R.nsN, cells := fun x c hx => ⟨(R'.cells x c hx).1, (R.cells x c hx).2⟩, apart := R.apart, ownX := fun a ha => back a (R'.ownX a ha), ownN := R'.ownN, ownNd := R'.ownNd, insX := R'.insX.imp id fun q b hb => (q b hb).imp id (back b), outX := R.outX }
  intro b o e hb
  obtain ⟨k1, o2, k2, k3, k4, k5⟩ := R.keepX b o e hb
  obtain ⟨m1, o3, m2, m3, m4, m5⟩ := R'.keepX b o2 (vis b o o2 e k2) hb
  exact ⟨fun z => (R'.keepX b o (vis b o o e (k1 z)) hb).1 z, o3, m2, m3.trans k3, m4.trans k4, m5.trans k5⟩
noncomputable def Solid (o : Obj) : Prop := (∀ es ep, o.data ≠ .dict es ep) ∧ ∀ v, o.data ≠ .cell v
/-- what stands in the hidden heap stands on -/
theorem Rel.solid (R : Rel C X env σ h) (hB : C.mB = []) {b : Addr} {o : Obj} (e : X.get? b = some o) (hs : Solid o) : h.get? b = some o := by
  obtain ⟨k1, o2, k2, k3, k4, k5⟩ := R.keepX b o e (by rw [hB]; simp)
  exact k1 (R.notS k2 fun es ep q => hs.1 es ep (k3 ▸ q))
theorem Rel.seen (R : Rel C X env σ h) (hc : CellsOk env) {J : List Addr} {b : Addr} {o : Obj} (e : h.get? b = some o) (hs : Solid o) (ho : b ∉ owned σ) (hJ : b ∉ J) : (hideAll h (J ++ hids env σ)).get? b = some o := by
  refine hideAll_get _ e fun q => ?_
  rcases List.mem_append.mp q with q | q
  · exact hJ q
  · rcases List.mem_cons.mp q with rfl | q
    · obtain ⟨m, o', es, ep, e', d, _⟩ := R.ns
      rw [e] at e'; cases e'
      exact hs.1 es ep d
    · rcases List.mem_append.mp q with q | q
      · obtain ⟨x, hx⟩ := lookup_of_mem_apart q
        obtain ⟨⟨v, oc, ec, dc⟩, _⟩ := R.cells x b (hc x b hx)
        rw [e] at ec; cases ec
        exact hs.2 v dc
      · exact ho q
theorem Rel.reX (R : Rel C X env σ h) (hc : CellsOk env) (hi : instA σ = []) {J : List Addr} (hJ : ∀ b ∈ J, ∀ o, h.get? b = some o → ∀ xs n, o.data ≠ .seq xs n) : Rel C (hideAll h (J ++ hids env σ)) env σ h where
  toRelE := R.toRelE
  keepX := fun b o e _ => ⟨fun _ => of_hideAll _ e, o, of_hideAll _ e, rfl, rfl, rfl⟩
  ns := R.ns
  nsX := hideAll_none _ (List.mem_append_right _ List.mem_cons_self)
  nsN := R.nsN
  cells := fun x c hc => ⟨(R.cells x c hc).1, hideAll_none _ (List.mem_append_right _ (List.mem_cons_of_mem _ (List.mem_append_left _ (List.mem_map_of_mem (f := (·.2)) (mem_of_lookup hc))))), (R.cells x c hc).2.2⟩
  apart := R.apart
  ownX := fun a ha => hideAll_none _ (List.mem_append_right _ (List.mem_cons_of_mem _ (List.mem_append_right _ ha)))
  ownN := R.ownN
  ownNd := R.ownNd
  insX := .inr fun b hb => by rw [hi] at hb; cases hb
  outX := fun a ha => by
    obtain ⟨vs, n, e⟩ := R.outer a ha
    obtain ⟨o, q⟩ := R.outX a ha
    exact ⟨_, R.seen hc (J := J) e ⟨(fun es ep q => by cases q), (fun v q => by cases q)⟩ (fun z => by rw [R.ownX a z] at q; cases q) fun z => hJ a z _ e _ _ rfl⟩
theorem solid_list {h : Heap} {a : Addr} {its : Array Value} (l : h.IsList a its) : ∃ o, h.get? a = some o ∧ Solid o ∧ o.cls = .type "list" ∧ ∃ n, o.data = .seq its n := by
  obtain ⟨o, e, c, n, d⟩ := l
  exact ⟨o, e, ⟨(fun es ep q => by rw [d] at q; cases q), (fun v q => by rw [d] at q; cases q)⟩, c, n, d⟩
theorem solid_tuple {h : Heap} {a : Addr} {its : Array Value} (l : h.IsTuple a its) : ∃ o, h.get? a = some o ∧ Solid o ∧ o.cls = .type "tuple" ∧ ∃ n, o.data = .seq its n := by
  obtain ⟨o, e, c, n, d⟩ := l
  exact ⟨o, e, ⟨(fun es ep q => by rw [d] at q; cases q), (fun v q => by rw [d] at q; cases q)⟩, c, n, d⟩
/-- a value that stands at the loop's start stands in every turn -/
theorem VIn.turn {J : List Addr} (R : Rel C X env σ h) (hc : CellsOk env) (hB : C.mB = []) (hJ : ∀ b ∈ J, ∀ o, h.get? b = some o → (∀ xs n, o.data ≠ .seq xs n) ∧ o.cls ≠ .type "collections.deque") (R' : Rel C (hideAll h (J ++ hids env σ)) env σ' h') {m : MV} {v : Value} (x : VIn h (C.ex σ) m v) : VIn h' (C.ex σ') m v := by
  have key : ∀ a o, h.get? a = some o → Solid o → a ∉ C.ex σ → a ∉ J → h'.get? a = some o ∧ a ∉ C.ex σ' := fun a o e hs hn hj => by
    have hv := R.seen hc (J := J) e hs (fun q => hn (List.mem_append_left _ q)) hj
    refine ⟨R'.solid hB hv hs, fun q => ?_⟩
    rcases List.mem_append.mp q with q | q
    · rw [R'.ownX a q] at hv; cases hv
    · exact hn (List.mem_append_right _ q)
  refine x.to (fun a its n l => ?_) (fun a its n l => ?_) fun p d => ?_
  · obtain ⟨o, e, s, c, nn, dd⟩ := solid_list l
    obtain ⟨k1, k2⟩ := key a o e s n fun q => (hJ a q o e).1 _ _ dd
    exact ⟨⟨o, k1, c, nn, dd⟩, k2⟩
  · obtain ⟨o, e, s, c, nn, dd⟩ := solid_tuple l
    obtain ⟨k1, k2⟩ := key a o e s n fun q => (hJ a q o e).1 _ _ dd
    exact ⟨⟨o, k1, c, nn, dd⟩, k2⟩
  · obtain ⟨o, n, t, e, c, dd⟩ := d
    have hs : Solid o := ⟨(fun es ep q => by rw [dd] at q; cases q), (fun v q => by rw [dd] at q; cases q)⟩
    have ho : p ∉ owned σ := fun q => by
      obtain ⟨vs, nn, e'⟩ := R.own p q
      rw [e] at e'; cases e'; exact absurd (Value.type.inj c) (by decide)
    have hv := R.seen hc (J := J) e hs ho fun q => (hJ p q o e).2 c
    exact ⟨o, n, t, R'.solid hB hv hs, c, dd⟩
/-- an object beside the frame's own -/
structure Side (C : Cx) (env : Env) (h : Heap) (I : Addr) : Prop where
  low : C.n₀ ≤ I
  ne : I ≠ env.locals
  fr : ∀ e ∈ C.fs, e.frame ≠ some I
  obj : ∀ o, h.get? I = some o → (∀ xs n, o.data ≠ .seq xs n) ∧ (∀ v, o.data ≠ .cell v) ∧ (∀ vs, o.cls = .type "collections.deque" → o.data ≠ .fields vs)
theorem VIn.side {I : Addr} {O : List Addr} (hI : ∀ o, h.get? I = some o → (∀ xs n, o.data ≠ .seq xs n) ∧ (∀ v, o.data ≠ .cell v) ∧ (∀ vs, o.cls = .type "collections.deque" → o.data ≠ .fields vs)) (k : ∀ b o, b ≠ I → h.get? b = some o → h'.get? b = some o) {m : MV} {v : Value} (x : VIn h O m v) : VIn h' O m v := by
  refine x.to (fun a its n l => ?_) (fun a its n l => ?_) fun p d => ?_
  · obtain ⟨o, e, c, nn, dd⟩ := l
    exact ⟨⟨o, k a o (by rintro rfl; exact (hI o e).1 _ _ dd) e, c, nn, dd⟩, n⟩
  · obtain ⟨o, e, c, nn, dd⟩ := l
    exact ⟨⟨o, k a o (by rintro rfl; exact (hI o e).1 _ _ dd) e, c, nn, dd⟩, n⟩
  · obtain ⟨o, n, t, e, c, dd⟩ := d
    exact ⟨o, n, t, k p o (by rintro rfl; exact (hI o e).2.2 _ c dd) e, c, dd⟩
theorem VIns.side {I : Addr} {O : List Addr} (hI : ∀ o, h.get? I = some o → (∀ xs n, o.data ≠ .seq xs n) ∧ (∀ v, o.data ≠ .cell v) ∧ (∀ vs, o.cls = .type "collections.deque" → o.data ≠ .fields vs)) (k : ∀ b o, b ≠ I → h.get? b = some o → h'.get? b = some o) : ∀ {ms : List MV} {vs : List Value}, VIns h O ms vs → VIns h' O ms vs
  | [], _, x => x
  | m :: ms, _, ⟨v, r, e, a, b⟩ => ⟨v, r, e, a.side hI k, VIns.side hI k b⟩
theorem RelE.side {I : Addr} (R : RelE C env σ h) (hi : instA σ = []) (S : Side C env h I) (k : ∀ b o, b ≠ I → h.get? b = some o → h'.get? b = some o) : RelE C env σ h' := by
  have hpl : ∀ {a vs}, h.PlainList a vs → h'.PlainList a vs := fun {a vs} y => by
    obtain ⟨n, e⟩ := y
    exact ⟨n, k a _ (by rintro rfl; exact (S.obj _ e).1 _ _ rfl) e⟩
  have hns : ∀ m, h.Ns env.locals m → h'.Ns env.locals m := fun m y => by
    obtain ⟨o, es, ep, e, d, r⟩ := y
    exact ⟨o, es, ep, k _ o (Ne.symm S.ne) e, d, r⟩
  have hcell : ∀ {c v}, h.IsCell c v → h'.IsCell c v := fun {c v} y => by
    obtain ⟨o, e, d⟩ := y
    exact ⟨o, k c o (by rintro rfl; exact (S.obj _ e).2.1 _ d) e, d⟩
  refine { base := C.mono _ _ (fun b o hb e => k b o (by rintro rfl; exact absurd hb (Nat.not_lt.mpr S.low)) e) R.base, fr := ?_, kind := R.kind, glob := R.glob, vars := ?_, own := ?_, outer := ?_, insN := R.insN, insNd := R.insNd }
  · intro ev hev
    obtain ⟨ak, L, oL, hf, hN, ho, es', ep', hd'⟩ := R.fr ev hev
    exact ⟨ak, L, oL, hf, hN, k L oL (by rintro rfl; exact S.fr ev hev hf) ho, es', ep', hd'⟩
  · intro y b hb
    refine (R.vars y _ hb).to hns (fun c v _ q => hcell q) fun v q => ?_
    cases b with
    | fz m => exact VIn.side S.obj k q
    | own a xs => obtain ⟨e, vs, p, r⟩ := q; exact ⟨e, vs, hpl p, r.side S.obj k⟩
    | inst a Cl d fs =>
      have := (instA_mem hb).1
      rw [hi] at this; cases this
  · intro a ha; obtain ⟨vs, p⟩ := R.own a ha; exact ⟨vs, hpl p⟩
  · intro a ha; obtain ⟨vs, p⟩ := R.outer a ha; exact ⟨vs, hpl p⟩
theorem Rel.side {I : Addr} (R : Rel C X env σ h) (hi : instA σ = []) (S : Side C env h I) (hX : X.get? I = none) (k : ∀ b o, b ≠ I → h.get? b = some o → h'.get? b = some o) : Rel C X env σ h' := by
  refine { toRelE := R.toRelE.side hi S k, keepX := ?_, ns := ?_, nsX := R.nsX, nsN := R.nsN, cells := ?_, apart := R.apart, ownX := R.ownX, ownN := R.ownN, ownNd := R.ownNd, insX := R.insX, outX := R.outX }
  · intro b o e hb
    have hbI : b ≠ I := by rintro rfl; rw [hX] at e; cases e
    obtain ⟨k1, o2, k2, k3⟩ := R.keepX b o e hb
    exact ⟨fun z => k b o hbI (k1 z), o2, k b o2 hbI k2, k3⟩
  · obtain ⟨m, o, es, ep, e, d, r⟩ := R.ns
    exact ⟨m, o, es, ep, k _ o (Ne.symm S.ne) e, d, r⟩
  · intro y c hc
    obtain ⟨⟨v2, o, e, d⟩, a3, a4⟩ := R.cells y c hc
    exact ⟨⟨v2, o, k c o (by rintro rfl; exact (S.obj _ e).2.1 _ d) e, d⟩, a3, a4⟩
end
end Mine
namespace Mine
open PySem PySem.W PyProof.Rows
/-- an iterator's own object -/
noncomputable def Junk (o : Obj) : Prop := (∀ xs n, o.data ≠ .seq xs n) ∧ (∀ v, o.data ≠ .cell v) ∧ (∀ es ep, o.data ≠ .dict es ep) ∧ o.cls ≠ .type "collections.deque"
structure Src (C : Cx) (I : Addr) (n : Nat) (P : Nat → Value → Prop) (It : Nat → Obj → Prop) (Inv : Heap → Prop) : Prop where
  junk : ∀ i o, It i o → Junk o
  item : ∀ i (s : Shared) o (Q : Option Value → Shared → Prop) (E : Value → Shared → Prop), i < n → Inv s.heap → s.heap.get? I = some o → It i o →
    (∀ v h' tk o', P i v → h'.get? I = some o' → It (i + 1) o' → (∀ b o, b ≠ I → s.heap.get? b = some o → h'.get? b = some o) → Q (some v) { s with heap := h', toks := tk }) → wpAny C.M C.A (pyNext (.ref I)) Q E s
  done : ∀ (s : Shared) o (Q : Option Value → Shared → Prop) (E : Value → Shared → Prop), Inv s.heap → s.heap.get? I = some o → It n o →
    (∀ h' tk, (∀ b o, b ≠ I → s.heap.get? b = some o → h'.get? b = some o) → Q none { s with heap := h', toks := tk }) → wpAny C.M C.A (pyNext (.ref I)) Q E s
  self : ∀ i (s : Shared) o (Q : Value → Shared → Prop) (E : Value → Shared → Prop), s.heap.get? I = some o → It i o → Q (.ref I) s → wpAny C.M C.A (pyIter (.ref I)) Q E s
  noOwn : ∀ i o, It i o → ∀ n vs, o.cls = .type n → o.data = .fields vs → (["enumerate", "zip", "dict_itemiterator", "dict_reverseitemiterator", "odict_iterator", "itertools.zip_longest", "itertools.pairwise"].contains n && true) = false
/-- what an iterable yields, item by item -/
noncomputable def ItAt (C : Cx) (O : List Addr) (items : List MV) (s : Shared) (it : Value) (s₂ : Shared) : Prop :=
  ∃ I P It Inv, it = .ref I ∧ KSs C.S s s₂ ∧ s.heap.get? I = none ∧ C.n₀ ≤ I ∧ Src C I items.length P It Inv ∧ (∃ o, s₂.heap.get? I = some o ∧ It 0 o) ∧ Inv s₂.heap ∧
    (∀ h', (∀ b o, b ≠ I → s₂.heap.get? b = some o → b ∉ O → Solid o → h'.get? b = some o) → Inv h') ∧ ∀ i v m, P i v → items[i]? = some m → VIn s₂.heap O m v
noncomputable def EvIt (C : Cx) (env : Env) (σ : St) (e : Expr) (items : List MV) : Prop :=
  ∀ s, RelE C env σ s.heap → wpAny C.M C.A (eval e env) (fun x s₁ => wpAny C.M C.A (pyIter x) (fun it s₂ => ItAt C (C.ex σ) items s it s₂) F s₁) F s
section
variable {C : Cx} {env : Env} {σ : St}
theorem src_list {C : Cx} {I ax : Addr} (hne : ax ≠ I) (vs : List Value) : Src C I vs.length (fun i v => vs[i]? = some v) (fun i o => o.cls = .type "list_iterator" ∧ o.data = .fields #[.ref ax, .int i 0]) (fun h => h.IsList ax vs.toArray) where
  junk := fun i o h => ⟨(fun xs n q => by rw [h.2] at q; cases q), (fun v q => by rw [h.2] at q; cases q), (fun es ep q => by rw [h.2] at q; cases q), (fun q => by rw [h.1] at q; exact absurd (Value.type.inj q) (by decide))⟩
  item := fun i s o Q E hi hl ho hit hQ => by
    refine wpAny_pyNext_list_item (it := I) (l := ax) (i := i) (items := vs.toArray) (x := vs[i]) ⟨o, ho, hit⟩ hl (by simp [hi]) fun h' hit' hs' => ?_
    obtain ⟨o', e', c'⟩ := hit'
    exact hQ _ h' s.toks o' (by simp [hi]) e' c' fun b o hb e => hs'.extBut b o hb e
  done := fun s o Q E hl ho hit hQ => wpAny_pyNext_list_end C.hh (it := I) (l := ax) (i := vs.length) (items := vs.toArray) ⟨o, ho, hit⟩ hl (by simp) fun h' he' => hQ h' s.toks fun b o hb e => he' b o hb e
  self := fun i s o Q E ho hit hQ => wpAny_pyIter_listiter (it := I) (l := ax) (i := i) ⟨o, ho, hit⟩ hQ
  noOwn := fun i o hit n us hc hd => by
    rw [hit.1] at hc
    have := Value.type.inj hc
    subst this
    decide
theorem VIns.item {h : Heap} {O : List Addr} {ms : List MV} {vs : List Value} (x : VIns h O ms vs) {i : Nat} {v : Value} {m : MV} (e : vs[i]? = some v) (e' : ms[i]? = some m) : VIn h O m v := by
  obtain ⟨v', a, b⟩ := x.get e'
  rw [e] at a; cases a; exact b
theorem evIt_list {e : Expr} {xs : List MV} (h : Ev C env σ e (.list xs)) : EvIt C env σ e xs := fun s R => by
  refine wpAny_mono (h s R) (fun x s₁ h₁ => ?_) fun _ _ x => x
  obtain ⟨k₁, a, vs, rfl, hn, hl, hv⟩ := h₁
  have R₁ := R.ks k₁.ks
  refine wpAny_pyIter_list hl ?_
  have hlt : a < s₁.heap.objs.size := by obtain ⟨o, e, _⟩ := hl; exact Heap.lt_size e
  have kp := keeps_push (S := C.S) (s := s₁) { cls := .type "list_iterator", data := .fields #[.ref a, .int 0 0] }
  have hlen := hv.length
  refine ⟨s₁.heap.objs.size, fun i v => vs[i]? = some v, _, _, rfl, k₁.trans kp, ?_, C.G.low _ R₁.base, hlen ▸ src_list (Nat.ne_of_lt hlt) vs, ⟨_, Heap.get?_push_size _ rfl, rfl, rfl⟩, KS.isList kp.ks hl, fun h' hk => ?_, fun i v m e e' => (hv.item e e').ks kp.ks⟩
  · cases q : s.heap.get? s₁.heap.objs.size with
    | none => rfl
    | some o => obtain ⟨_, o', e', _⟩ := k₁.ks _ o q; exact absurd (Heap.lt_size e') (Nat.lt_irrefl _)
  · obtain ⟨o, e, s, c, n, d⟩ := solid_list (KS.isList kp.ks hl)
    exact ⟨o, hk a o (Nat.ne_of_lt hlt) e hn s, c, n, d⟩
/-- a value bound to a target -/
noncomputable def Asg (C : Cx) (env : Env) (target : Expr) (m : MV) (σ σ' : St) : Prop :=
  ∀ X s v, Rel C X env σ s.heap → VIn s.heap (C.ex σ) m v → wpAny C.M C.A (assign target env v) (fun _ s' => ∃ h' tk, s' = { s with heap := h', toks := tk } ∧ Rel C X env σ' h') F s
theorem asg_name {x : Str} {p : Pos} {m : MV} (hx : Stores env x) : Asg C env (.Name x p) m σ (sput σ x (.fz m)) := fun X s v R hv =>
  wpAny_assign_Name (store_ R hx hv fun h' tk R' => ⟨h', tk, rfl, R'⟩)
theorem letGo_ {C : Cx} {target : Expr} {I : Addr} {n i : Nat} {P It Inv} (S : Src C I n P It Inv) {v : Value} {s : Shared} {o : Obj} (ho : s.heap.get? I = some o) (hit : It i o) {Q : Unit → Shared → Prop} {E : Value → Shared → Prop} (h : Q () s) : wpAny C.M C.A (letOwnedTupleGo target (.ref I) v) Q E s := by
  have tup : wpAny C.M C.A (do
    let (.ref r, .ref a) := (Value.ref I, v) | return
    let o ← load r
    match o.cls, o.data with
    | .type n, .fields vs =>
      if ["enumerate", "zip", "dict_itemiterator", "dict_reverseitemiterator", "odict_iterator", "itertools.zip_longest", "itertools.pairwise"].contains n && vs[0]? == some (rawInt a) then
        rule "for.unpacks-the-owned-tuple"
        updateField r 0 .none
    | _, _ => pure ()) Q E s := by
    cases v with
    | ref a =>
      refine wpAny_bind (wpAny_load ho ?_)
      split
      · rename_i nm vs hc hd
        have := S.noOwn i o hit nm vs hc hd
        rw [Bool.and_true] at this
        rw [this, Bool.false_and, if_neg (by decide)]
        exact wpAny_pure h
      · exact wpAny_pure h
    | _ => exact wpAny_pure h
  unfold letOwnedTupleGo
  split
  · exact tup
  · exact tup
  · exact wpAny_pure h
theorem wpS_for {target iter : Expr} {body orelse : List Stmt} {p : Pos} {items : List MV} {Q : FM → St → Prop} (J : Nat → St → Prop) (hc : CellsOk env) (hB : C.mB = []) (hi : instA σ = []) (hJi : ∀ i σ', J i σ' → instA σ' = [])
    (hit : EvIt C env σ iter items) (h0 : J 0 σ)
    (turn : ∀ i m σ', items[i]? = some m → J i σ' → ∃ σ'', Asg C env target m σ' σ'' ∧ instA σ'' = [] ∧ wpSs C env body σ'' fun fm τ => match fm with | .next | .cont => J (i + 1) τ | .brk => Q .next τ | .ret v => Q (.ret v) τ)
    (fin : ∀ σ', J items.length σ' → wpSs C env orelse σ' Q) (hs : ∀ x, foldedSetIterable iter env x = pure x := by intro _; rfl) : wpS C env (.For target iter body orelse p) σ Q := fun X s R => by
  refine wpAny_For (wpAny_mono (hit s R.toRelE) (fun x s₁ h₁ => wpAny_mono h₁ (fun it s₂ h₂ => ?_) fun _ _ z => z.elim) fun _ _ z => z.elim) hs
  obtain ⟨I, P, It, Inv, rfl, k, hIs, hIn, Sr, ⟨o₀, ho₀, hit₀⟩, hInv, hstab, hval⟩ := h₂
  have R₂ := R.ks k.ks
  have hXI : X.get? I = none := by
    cases q : X.get? I with
    | none => rfl
    | some o => obtain ⟨_, o', e', _⟩ := R.keepX I o q (by rw [hB]; simp); rw [hIs] at e'; cases e'
  have hIL : I ≠ env.locals := by rintro rfl; obtain ⟨_, o, _, _, e, _⟩ := R.ns; rw [hIs] at e; cases e
  have hIF : ∀ e ∈ C.fs, e.frame ≠ some I := fun e he q => by
    obtain ⟨_, L, o, hL, _, ho, _⟩ := R.fr e he
    rw [q] at hL; cases hL; rw [hIs] at ho; cases ho
  have hIO : I ∉ C.ex σ := fun q => by
    rcases List.mem_append.mp q with q | q
    · obtain ⟨vs, n, e⟩ := R.own I q; rw [hIs] at e; cases e
    · obtain ⟨vs, n, e⟩ := R.outer I q; rw [hIs] at e; cases e
  have hJ1 : ∀ b ∈ [I], ∀ o, s₂.heap.get? b = some o → (∀ xs n, o.data ≠ .seq xs n) ∧ o.cls ≠ .type "collections.deque" := fun b hb o e => by
    rw [List.mem_singleton.mp hb] at e; rw [ho₀] at e; cases e
    obtain ⟨j1, j2, j3, j4⟩ := Sr.junk 0 _ hit₀
    exact ⟨j1, j4⟩
  obtain ⟨h2, t2, rfl, _⟩ := k
  dsimp only at R₂ ho₀ hInv hstab hval hJ1
  let X₁ := hideAll h2 ([I] ++ hids env σ)
  have R₁ : Rel C X₁ env σ h2 := R₂.reX hc hi (J := [I]) (fun b hb o e => (hJ1 b hb o e).1)
  have hX1I : X₁.get? I = none := hideAll_none _ (List.mem_append_left _ List.mem_cons_self)
  have inv' : ∀ σ' h', Rel C X₁ env σ' h' → Inv h' := fun σ' h' R' => hstab h' fun b o hb e hO hso => R'.solid hB (R₂.seen hc (J := [I]) e hso (fun q => hO (List.mem_append_left _ q)) (by simpa using hb)) hso
  have back : ∀ σ' h', Rel C X₁ env σ' h' → Rel C X env σ' h' := fun σ' h' R' => R₂.backX hc hB (J := [I]) (fun b hb => by rw [List.mem_singleton.mp hb]; exact hXI) R'
  have sideOf : ∀ h' i o, h'.get? I = some o → It i o → Side C env h' I := fun h' i o e hit => ⟨hIn, hIL, hIF, fun o' e' => by
    rw [e] at e'; cases e'
    obtain ⟨j1, j2, j3, j4⟩ := Sr.junk i _ hit
    exact ⟨j1, j2, fun _ q => absurd q j4⟩⟩
  refine codeAny_forLoop_any (fun k s' => ∃ i h' tk σ' o, s' = { s with heap := h', toks := tk } ∧ i ≤ items.length ∧ k = items.length - i ∧ Rel C X₁ env σ' h' ∧ J i σ' ∧ h'.get? I = some o ∧ It i o) ?_ items.length ⟨0, h2, t2, σ, o₀, rfl, Nat.zero_le _, by omega, R₁, h0, ho₀, hit₀⟩
  rintro k s' ⟨i, h', tk, σ', o, rfl, hile, rfl, R', hJ, ho, hit⟩
  by_cases hlt : i < items.length
  · refine Sr.item i _ o _ _ hlt (inv' σ' h' R') ho hit fun v h₁ tk₁ o₁ hP e₁ hit₁ hk₁ => ?_
    have R'₁ : Rel C X₁ env σ' h₁ := R'.side (hJi i σ' hJ) (sideOf h' i o ho hit) hX1I hk₁
    refine letGo_ Sr (s := { s with heap := h₁, toks := tk₁ }) e₁ hit₁ ?_
    obtain ⟨m, hm⟩ : ∃ m, items[i]? = some m := ⟨_, List.getElem?_eq_getElem hlt⟩
    have hv : VIn h₁ (C.ex σ') m v := VIn.turn R₂ hc hB hJ1 R'₁ (hval i v m hP hm)
    obtain ⟨σ'', ha, hi'', hb⟩ := turn i m σ' hm hJ
    -- the turn's own hidden heap: the iterator stands in it
    have R'₂ := R'₁.reX hc (hJi i σ' hJ) (J := []) (fun _ h => nomatch h)
    have hjk := Sr.junk (i + 1) _ hit₁
    have hsI : Solid o₁ := ⟨hjk.2.2.1, hjk.2.1⟩
    have hIown : I ∉ owned σ' := fun q => by obtain ⟨vs, n, e⟩ := R'₁.own I q; rw [e₁] at e; cases e; exact hjk.1 _ _ rfl
    have seenI := R'₁.seen hc (J := []) e₁ hsI hIown (by simp)
    refine wpAny_mono (ha _ { s with heap := h₁, toks := tk₁ } v R'₂ hv) (fun _ s₃ h₃ => ?_) fun _ _ z => z.elim
    obtain ⟨h₃', tk₃, rfl, R₃⟩ := h₃
    refine wpAny_mono (hb _ { s with heap := h₃', toks := tk₃ } R₃) (fun fl s₄ p₄ => ?_) fun _ _ z => z.elim
    obtain ⟨h₄, tk₄, rfl, fm, τ, fr, R₄, q⟩ := p₄
    have oI : h₄.get? I = some o₁ := R₄.solid hB seenI hsI
    have R₅ : Rel C X₁ env τ h₄ := R'₁.backX hc hB (J := []) (fun _ h => nomatch h) R₄
    rcases fl with _ | _ | _ | rv <;> rcases fm with _ | _ | _ | rm <;> first | exact (show False from fr).elim | skip
    · exact ⟨items.length - (i + 1), by omega, i + 1, h₄, tk₄, τ, o₁, rfl, hlt, rfl, R₅, q, oI, hit₁⟩
    · exact ⟨h₄, tk₄, rfl, .next, τ, trivial, back _ _ R₅, q⟩
    · exact ⟨items.length - (i + 1), by omega, i + 1, h₄, tk₄, τ, o₁, rfl, hlt, rfl, R₅, q, oI, hit₁⟩
    · exact ⟨h₄, tk₄, rfl, .ret rm, τ, fr, back _ _ R₅, q⟩
  · have hin : i = items.length := by omega
    subst hin
    refine Sr.done _ o _ _ (inv' σ' h' R') ho hit fun h₁ tk₁ hk₁ => ?_
    have R'₁ : Rel C X₁ env σ' h₁ := R'.side (hJi _ σ' hJ) (sideOf h' _ o ho hit) hX1I hk₁
    refine wpAny_mono (fin σ' hJ X { s with heap := h₁, toks := tk₁ } (back _ _ R'₁)) (fun fl s₄ p₄ => ?_) fun _ _ z => z.elim
    obtain ⟨h₄, tk₄, rfl, r⟩ := p₄
    exact ⟨h₄, tk₄, rfl, r⟩
end
end Mine
namespace Mine
open PySem PySem.W PyProof.Rows
theorem owned_of {σ : St} : ∀ {a : Addr}, a ∈ owned σ → ∃ x xs, (x, Bd.own a xs) ∈ σ := by
  induction σ with
  | nil => intro a h; cases h
  | cons p r ih =>
    obtain ⟨y, c⟩ := p
    intro a h
    cases c with
    | own b xs =>
      simp only [owned, List.mem_cons] at h
      rcases h with rfl | h
      · exact ⟨y, xs, List.mem_cons_self⟩
      · obtain ⟨x, xs', hm⟩ := ih h; exact ⟨x, xs', List.mem_cons_of_mem _ hm⟩
    | fz _ => obtain ⟨x, xs', hm⟩ := ih h; exact ⟨x, xs', List.mem_cons_of_mem _ hm⟩
    | inst _ _ _ _ => obtain ⟨x, xs', hm⟩ := ih h; exact ⟨x, xs', List.mem_cons_of_mem _ hm⟩
theorem owned_sput_nd {x : Str} {a : Addr} {xs : List MV} : ∀ {σ : St}, (owned σ).Nodup → a ∉ owned σ → (owned (sput σ x (.own a xs))).Nodup
  | [], _, _ => by simp [sput, owned]
  | (z, c) :: r, h, ha => by
    by_cases hz : z = x
    · cases c <;> simp_all [sput, owned]
    · cases c with
      | fz _ => simp only [sput, hz, if_false, owned] at *; exact owned_sput_nd h ha
      | inst _ _ _ _ => simp only [sput, hz, if_false, owned] at *; exact owned_sput_nd h ha
      | own b ys =>
        simp only [sput, hz, if_false, owned, List.nodup_cons, List.mem_cons, not_or] at *
        refine ⟨fun q => ?_, owned_sput_nd h.2 ha.2⟩
        rcases owned_sput_own q with rfl | q
        · exact ha.1 rfl
        · exact h.1 q
theorem instA_sput_own {x : Str} {a : Addr} {xs : List MV} : ∀ {σ : St}, instA σ = [] → instA (sput σ x (.own a xs)) = []
  | [], _ => rfl
  | (z, c) :: r, h => by
    by_cases hz : z = x
    · cases c <;> simp_all [sput, instA]
    · cases c with
      | fz _ => simp only [sput, hz, if_false, instA] at *; exact instA_sput_own h
      | own _ _ => simp only [sput, hz, if_false, instA] at *; exact instA_sput_own h
      | inst _ _ _ _ => simp [instA] at h
theorem instA_sput_fz {x : Str} {m : MV} {σ : St} (h : instA σ = []) : instA (sput σ x (.fz m)) = [] := by
  have := instA_sub (x := x) (m := m) (σ := σ)
  rw [h] at this
  exact List.sublist_nil.mp this
/-- the list at a name is the name's own -/
theorem owned_put_own {x : Str} {a : Addr} {xs ys : List MV} : ∀ {σ : St}, sget σ x = some (.own a xs) → owned (sput σ x (.own a ys)) = owned σ
  | (z, c) :: r, e => by
    by_cases hz : z = x
    · simp [sget, hz] at e; subst e; simp [sput, hz, owned]
    · simp [sget, hz] at e
      cases c <;> simp [sput, hz, owned, owned_put_own e]
theorem own_apart {x y : Str} {a b : Addr} {xs ys : List MV} (hxy : x ≠ y) : ∀ {σ : St}, (owned σ).Nodup → sget σ x = some (.own a xs) → sget σ y = some (.own b ys) → a ≠ b
  | (z, c) :: r, hn, e, e' => by
    by_cases hz : z = x
    · simp [sget, hz] at e
      subst e
      simp [sget, hz, hxy] at e'
      simp only [owned, List.nodup_cons] at hn
      rintro rfl
      exact hn.1 (owned_mem e')
    · by_cases hz' : z = y
      · simp [sget, hz'] at e'
        subst e'
        simp [sget, hz] at e
        simp only [owned, List.nodup_cons] at hn
        rintro rfl
        exact hn.1 (owned_mem e)
      · simp [sget, hz] at e
        simp [sget, hz'] at e'
        refine own_apart hxy ?_ e e'
        cases c with
        | own _ _ => simp only [owned, List.nodup_cons] at hn; exact hn.2
        | _ => exact hn
theorem owned_own_fz {x : Str} {a b : Addr} {ms : List MV} {m : MV} : ∀ {σ : St}, b ∈ owned (sput σ x (.own a ms)) → b = a ∨ b ∈ owned (sput σ x (.fz m))
  | [], h => by simp [sput, owned] at h; exact .inl h
  | (z, c) :: r, h => by
    by_cases hz : z = x
    · simp only [sput, hz, if_true, owned, List.mem_cons] at h ⊢
      exact h
    · cases c with
      | fz _ => simp only [sput, hz, if_false, owned] at h ⊢; exact owned_own_fz h
      | inst _ _ _ _ => simp only [sput, hz, if_false, owned] at h ⊢; exact owned_own_fz h
      | own c' ys =>
        simp only [sput, hz, if_false, owned, List.mem_cons] at h ⊢
        rcases h with h | h
        · exact .inr (.inl h)
        · rcases owned_own_fz (m := m) h with h | h
          · exact .inl h
          · exact .inr (.inr h)
theorem owned_own_nd {x : Str} {a : Addr} {ms : List MV} {m : MV} : ∀ {σ : St}, a ∉ owned (sput σ x (.fz m)) → (owned (sput σ x (.fz m))).Nodup → (owned (sput σ x (.own a ms))).Nodup
  | [], _, _ => by simp [sput, owned]
  | (z, c) :: r, h1, h2 => by
    by_cases hz : z = x
    · simp only [sput, hz, if_true, owned] at h1 h2 ⊢
      exact List.nodup_cons.mpr ⟨h1, h2⟩
    · cases c with
      | fz _ => simp only [sput, hz, if_false, owned] at h1 h2 ⊢; exact owned_own_nd h1 h2
      | inst _ _ _ _ => simp only [sput, hz, if_false, owned] at h1 h2 ⊢; exact owned_own_nd h1 h2
      | own c' ys =>
        simp only [sput, hz, if_false, owned, List.mem_cons, not_or, List.nodup_cons] at h1 h2 ⊢
        refine ⟨fun q => ?_, owned_own_nd h1.2 h2.2⟩
        rcases owned_own_fz (m := m) q with rfl | q
        · exact h1.1 rfl
        · exact h2.1 q
section
variable {C : Cx} {env : Env} {σ σ' : St} {X h h' : Heap}
theorem KS.solid {S : List Addr} (k : KS S h h') {a : Addr} {vs : Array Value} (p : h.PlainList a vs) (ha : a ∉ S) : h'.PlainList a vs := k.plain p ha
/-- a list of the frame's own turns -/
theorem Rel.putList (R : Rel C X env σ h) (hi : instA σ = []) {x : Str} {a : Addr} {xs ys : List MV} {vs : List Value} (hx : sget σ x = some (.own a xs)) (hp : h'.PlainList a vs.toArray) (hv : VIns h (C.ex σ) ys vs) (hs : Heap.SameBut a h h') : Rel C X env (sput σ x (.own a ys)) h' := by
  have ha := owned_mem hx
  obtain ⟨vs₀, n₀, ea⟩ := R.own a ha
  have how := owned_put_own (ys := ys) hx
  have hE : C.ex (sput σ x (.own a ys)) = C.ex σ := by unfold Cx.ex; rw [how]
  have k : ∀ b o, b ≠ a → h.get? b = some o → h'.get? b = some o := fun b o hb e => (hs.2 b hb).trans e
  have vin : ∀ {m v}, VIn h (C.ex σ) m v → VIn h' (C.ex σ) m v := fun {m v} q => by
    refine q.to (fun b its n l => ?_) (fun b its n l => ?_) fun p d => ?_
    · obtain ⟨o, e, c⟩ := l
      exact ⟨⟨o, k b o (fun z => n (z ▸ List.mem_append_left _ ha)) e, c⟩, n⟩
    · obtain ⟨o, e, c⟩ := l
      exact ⟨⟨o, k b o (fun z => n (z ▸ List.mem_append_left _ ha)) e, c⟩, n⟩
    · obtain ⟨o, n, t, e, c, dd⟩ := d
      exact ⟨o, n, t, k p o (by rintro rfl; rw [ea] at e; cases e; exact absurd (Value.type.inj c) (by decide)) e, c, dd⟩
  have vins : ∀ {ms ws}, VIns h (C.ex σ) ms ws → VIns h' (C.ex σ) ms ws := by
    intro ms
    induction ms with
    | nil => intro ws q; exact q
    | cons m ms ih => rintro ws ⟨v, r, e, p, q⟩; exact ⟨v, r, e, vin p, ih q⟩
  have hns : ∀ m, h.Ns env.locals m → h'.Ns env.locals m := fun m y => by
    obtain ⟨o, es, ep, e, d, r⟩ := y
    exact ⟨o, es, ep, k _ o (by rintro z; rw [z] at e; rw [ea] at e; cases e; cases d) e, d, r⟩
  have hcell : ∀ {c v}, h.IsCell c v → h'.IsCell c v := fun {c v} y => by
    obtain ⟨o, e, d⟩ := y
    exact ⟨o, k c o (by rintro rfl; rw [ea] at e; cases e; cases d) e, d⟩
  refine { base := C.mono _ _ (fun b o hb e => k b o (by rintro rfl; exact absurd hb (Nat.not_lt.mpr (R.ownN b ha))) e) R.base, fr := ?_, kind := R.kind, glob := R.glob, vars := ?_, own := ?_, outer := ?_, insN := ?_, insNd := ?_, keepX := ?_, ns := ?_, nsX := R.nsX, nsN := R.nsN, cells := ?_, apart := R.apart, ownX := fun b hb => R.ownX b (by rw [how] at hb; exact hb), ownN := fun b hb => R.ownN b (by rw [how] at hb; exact hb), ownNd := by rw [how]; exact R.ownNd, insX := ?_, outX := R.outX }
  · intro ev hev
    obtain ⟨ak, L, oL, hf, hN, ho, es', ep', hd'⟩ := R.fr ev hev
    exact ⟨ak, L, oL, hf, hN, k L oL (by rintro rfl; rw [ea] at ho; cases ho; cases hd') ho, es', ep', hd'⟩
  · intro y b hb
    rw [sget_sput] at hb
    rw [hE]
    by_cases hxy : x = y
    · subst hxy
      rw [if_pos rfl] at hb
      cases hb
      exact (R.vars x _ hx).to hns (fun c v _ q => hcell q) fun v q => ⟨q.1, vs, hp, vins hv⟩
    · rw [if_neg hxy] at hb
      refine (R.vars y _ hb).to hns (fun c v _ q => hcell q) fun v q => ?_
      cases b with
      | fz m => exact vin q
      | own b zs =>
        obtain ⟨e, ws, ⟨n, p⟩, r⟩ := q
        exact ⟨e, ws, ⟨n, k b _ (Ne.symm (own_apart hxy R.ownNd hx hb)) p⟩, vins r⟩
      | inst a Cl d fs =>
        have := (instA_mem hb).1
        rw [hi] at this; cases this
  · intro b hb
    rw [how] at hb
    by_cases hba : b = a
    · subst hba; exact ⟨_, hp⟩
    · obtain ⟨ws, n, p⟩ := R.own b hb
      exact ⟨ws, n, k b _ hba p⟩
  · intro b hb
    obtain ⟨ws, n, p⟩ := R.outer b hb
    refine ⟨ws, n, k b _ ?_ p⟩
    rintro rfl
    obtain ⟨o, q⟩ := R.outX b hb
    rw [R.ownX b ha] at q; cases q
  · intro b hb; rw [instA_sput_own hi] at hb; cases hb
  · rw [instA_sput_own hi]; exact List.nodup_nil
  · intro b o e hb
    have hbI : b ≠ a := by rintro rfl; rw [R.ownX b ha] at e; cases e
    obtain ⟨k1, o2, k2, k3⟩ := R.keepX b o e hb
    exact ⟨fun z => k b o hbI (k1 z), o2, k b o2 hbI k2, k3⟩
  · obtain ⟨m, q⟩ := R.ns
    exact ⟨m, hns m q⟩
  · intro y c hc
    obtain ⟨⟨v2, q⟩, a3, a4⟩ := R.cells y c hc
    exact ⟨⟨v2, hcell q⟩, a3, a4⟩
  · exact .inr fun b hb => by rw [instA_sput_own hi] at hb; cases hb
/-- a fresh list joins under a name of no frame's -/
theorem Rel.joinOwn (R : Rel C X env σ h) (k : KS C.S h h') {nm : Str} {a : Addr} {ms : List MV} {vs : List Value} (hf : h.get? a = none) (hn : C.n₀ ≤ a) (hp : h'.PlainList a vs.toArray) (hv : VIns h' (a :: C.ex σ) ms vs) (hB : C.mB = []) (hk : env.kindOf nm = none) : Rel C X env ((nm, .own a ms) :: σ) h' := by
  have R' := R.ks k
  have hXa : X.get? a = none := by
    cases q : X.get? a with
    | none => rfl
    | some o => obtain ⟨_, o', e', _⟩ := R.keepX a o q (by rw [hB]; simp); rw [hf] at e'; cases e'
  have hE : C.ex ((nm, .own a ms) :: σ) = a :: C.ex σ := rfl
  have more : ∀ {m v}, VIn h (C.ex σ) m v → VIn h' (a :: C.ex σ) m v := fun {m v} q => (q.more (O' := a :: C.ex σ) fun b hb => (List.mem_cons.mp hb).elim (fun z => .inr (z ▸ hf)) .inl).ks k
  have mores : ∀ {ms ws}, VIns h (C.ex σ) ms ws → VIns h' (a :: C.ex σ) ms ws := fun {ms ws} q => (q.more (O' := a :: C.ex σ) fun b hb => (List.mem_cons.mp hb).elim (fun z => .inr (z ▸ hf)) .inl).ks k
  refine { base := R'.base, fr := R'.fr, kind := R.kind, glob := R.glob, vars := ?_, own := ?_, outer := R'.outer, insN := R'.insN, insNd := R'.insNd, keepX := R'.keepX, ns := R'.ns, nsX := R.nsX, nsN := R.nsN, cells := R'.cells, apart := R.apart, ownX := ?_, ownN := ?_, ownNd := ?_, insX := R.insX, outX := R.outX }
  · intro y b hb
    rw [hE]
    by_cases hy : nm = y
    · subst hy
      simp only [sget, if_true] at hb
      cases hb
      unfold VarIs
      rw [hk]
      exact ⟨.ref a, rfl, vs, hp, hv⟩
    · simp only [sget, hy, if_false] at hb
      refine (R.vars y _ hb).to (fun m q => k.ns q) (fun c v _ q => k.isCell q) fun v q => ?_
      cases b with
      | fz m => exact more q
      | own b zs =>
        obtain ⟨e, ws, p, r⟩ := q
        obtain ⟨nn, pe⟩ := id p
        exact ⟨e, ws, k.plain p (R.notS pe (fun es ep => by simp)), mores r⟩
      | inst a Cl d fs => exact ⟨q.1, q.2.ks k⟩
  · intro b hb
    rcases List.mem_cons.mp hb with rfl | hb
    · exact ⟨_, hp⟩
    · exact R'.own b hb
  · intro b hb
    rcases List.mem_cons.mp hb with rfl | hb
    · exact hXa
    · exact R.ownX b hb
  · intro b hb
    rcases List.mem_cons.mp hb with rfl | hb
    · exact hn
    · exact R.ownN b hb
  · refine List.nodup_cons.mpr ⟨fun q => ?_, R.ownNd⟩
    obtain ⟨ws, n, e⟩ := R.own a q
    rw [hf] at e; cases e
theorem sget_ghost {nm x : Str} {b : Bd} (h : nm ≠ x) : sget ((nm, b) :: σ) x = sget σ x := by simp [sget, h]
/-- the name takes the list as its own -/
theorem Rel.thaw {nm x : Str} {a : Addr} {ms : List MV} (R : Rel C X env ((nm, .own a ms) :: sput σ x (.fz (.obj (.ref a)))) h) (hne : nm ≠ x) (hi : instA σ = []) (hk : env.kindOf nm = none) (hnone : sget σ nm = none) : Rel C X env (sput σ x (.own a ms)) h := by
  have hO1 : ∀ b, b ∈ owned (sput σ x (.own a ms)) → b = a ∨ b ∈ owned (sput σ x (.fz (.obj (.ref a)))) := fun b hb => owned_own_fz hb
  have hsub : ∀ b, b ∈ owned (sput σ x (.own a ms)) → b ∈ owned ((nm, Bd.own a ms) :: sput σ x (.fz (.obj (.ref a)))) := fun b hb => by
    rcases hO1 b hb with rfl | hb
    · exact List.mem_cons_self
    · exact List.mem_cons_of_mem _ hb
  have hE : ∀ b ∈ C.ex (sput σ x (.own a ms)), b ∈ C.ex ((nm, .own a ms) :: sput σ x (.fz (.obj (.ref a)))) := fun b hb => by
    rcases List.mem_append.mp hb with hb | hb
    · exact List.mem_append_left _ (hsub b hb)
    · exact List.mem_append_right _ hb
  have less : ∀ {m v}, VIn h (C.ex ((nm, .own a ms) :: sput σ x (.fz (.obj (.ref a))))) m v → VIn h (C.ex (sput σ x (.own a ms))) m v := fun {m v} q => q.more fun b hb => .inl (hE b hb)
  have lesss : ∀ {ms' ws}, VIns h (C.ex ((nm, .own a ms) :: sput σ x (.fz (.obj (.ref a))))) ms' ws → VIns h (C.ex (sput σ x (.own a ms))) ms' ws := fun {ms' ws} q => q.more fun b hb => .inl (hE b hb)
  have hgh := R.vars nm (.own a ms) sget_here
  unfold VarIs at hgh
  rw [hk] at hgh
  obtain ⟨_, rfl, vs, hp, hvs⟩ := hgh
  have hnd := R.ownNd
  simp only [owned, List.nodup_cons] at hnd
  have hnd' : (owned (sput σ x (.own a ms))).Nodup := owned_own_nd hnd.1 hnd.2
  refine { base := R.base, fr := R.fr, kind := R.kind, glob := R.glob, vars := ?_, own := fun b hb => R.own b (hsub b hb), outer := R.outer, insN := ?_, insNd := ?_, keepX := R.keepX, ns := R.ns, nsX := R.nsX, nsN := R.nsN, cells := R.cells, apart := R.apart, ownX := fun b hb => R.ownX b (hsub b hb), ownN := fun b hb => R.ownN b (hsub b hb), ownNd := hnd', insX := ?_, outX := R.outX }
  · intro y b hb
    rw [sget_sput] at hb
    by_cases hxy : x = y
    · subst hxy
      rw [if_pos rfl] at hb
      cases hb
      have hv := R.vars x (.fz (.obj (.ref a))) (by rw [sget_ghost hne, sget_sput, if_pos rfl])
      refine hv.to (fun m q => q) (fun c v _ q => q) fun v q => ?_
      exact ⟨q, vs, hp, lesss hvs⟩
    · rw [if_neg hxy] at hb
      by_cases hny : nm = y
      · subst hny
        rw [hnone] at hb; cases hb
      · have hv := R.vars y b (by rw [sget_ghost hny, sget_sput, if_neg hxy]; exact hb)
        refine hv.to (fun m q => q) (fun c v _ q => q) fun v q => ?_
        cases b with
        | fz m => exact less q
        | own b zs => obtain ⟨e, ws, p, r⟩ := q; exact ⟨e, ws, p, lesss r⟩
        | inst a Cl d fs => exact q
  · intro b hb; rw [instA_sput_own hi] at hb; cases hb
  · rw [instA_sput_own hi]; exact List.nodup_nil
  · exact .inr fun b hb => by rw [instA_sput_own hi] at hb; cases hb
/-- the list stands from now on -/
theorem Rel.freeze {x : Str} {a : Addr} {xs : List MV} (R : Rel C X env σ h) (hx : sget σ x = some (.own a xs)) : Rel C X env (sput σ x (.fz (.list xs))) h := by
  have hO : ∀ b ∈ owned (sput σ x (.fz (.list xs))), b ∈ owned σ := fun b hb => owned_sput hb
  have hE : ∀ b ∈ C.ex (sput σ x (.fz (.list xs))), b ∈ C.ex σ := fun b hb => List.mem_append.mpr ((List.mem_append.mp hb).imp (hO b) id)
  have hne : a ∉ C.ex (sput σ x (.fz (.list xs))) := fun q => by
    rcases List.mem_append.mp q with q | q
    · have nd := R.ownNd
      have gen : ∀ σ : St, sget σ x = some (.own a xs) → (owned σ).Nodup → a ∉ owned (sput σ x (.fz (.list xs))) := by
        intro σ
        induction σ with
        | nil => intro e; cases e
        | cons p r ih =>
          obtain ⟨z, c⟩ := p
          intro e nd
          by_cases hz : z = x
          · simp [sget, hz] at e; subst e
            simp only [owned, List.nodup_cons] at nd
            simp only [sput, hz, if_true, owned]
            exact nd.1
          · simp [sget, hz] at e
            cases c with
            | fz _ => simp only [sput, hz, if_false, owned]; exact ih e nd
            | inst _ _ _ _ => simp only [sput, hz, if_false, owned]; exact ih e nd
            | own c' ys =>
              simp only [owned, List.nodup_cons] at nd
              simp only [sput, hz, if_false, owned, List.mem_cons, not_or]
              refine ⟨?_, ih e nd.2⟩
              rintro rfl
              exact nd.1 (owned_mem e)
      exact gen σ hx nd q
    · obtain ⟨o, e⟩ := R.outX a q
      rw [R.ownX a (owned_mem hx)] at e; cases e
  have less : ∀ {m v}, VIn h (C.ex σ) m v → VIn h (C.ex (sput σ x (.fz (.list xs)))) m v := fun {m v} q => q.more fun b hb => .inl (hE b hb)
  have lesss : ∀ {ms' ws}, VIns h (C.ex σ) ms' ws → VIns h (C.ex (sput σ x (.fz (.list xs)))) ms' ws := fun {ms' ws} q => q.more fun b hb => .inl (hE b hb)
  refine { base := R.base, fr := R.fr, kind := R.kind, glob := R.glob, vars := ?_, own := fun b hb => R.own b (hO b hb), outer := R.outer, insN := fun b hb => R.insN b (instA_sub.subset hb), insNd := R.insNd.sublist instA_sub, keepX := R.keepX, ns := R.ns, nsX := R.nsX, nsN := R.nsN, cells := R.cells, apart := R.apart, ownX := fun b hb => R.ownX b (hO b hb), ownN := fun b hb => R.ownN b (hO b hb), ownNd := owned_nodup_fz R.ownNd, insX := R.insX.imp id fun q b hb => q b (instA_sub.subset hb), outX := R.outX }
  intro y b hb
  rw [sget_sput] at hb
  by_cases hxy : x = y
  · subst hxy
    rw [if_pos rfl] at hb
    cases hb
    refine (R.vars x _ hx).to (fun m q => q) (fun c v _ q => q) fun v q => ?_
    obtain ⟨rfl, vs, p, r⟩ := q
    exact ⟨a, vs, rfl, hne, p.isList, lesss r⟩
  · rw [if_neg hxy] at hb
    refine (R.vars y _ hb).to (fun m q => q) (fun c v _ q => q) fun v q => ?_
    cases b with
    | fz m => exact less q
    | own b zs => obtain ⟨e, ws, p, r⟩ := q; exact ⟨e, ws, p, lesss r⟩
    | inst a Cl d fs => exact q
theorem ss_freeze {x : Str} {a : Addr} {xs : List MV} {sts : List Stmt} {Q : FM → St → Prop} {σ' : St} (hx : sget σ x = some (.own a xs)) (hp : sput σ x (.fz (.list xs)) = σ') (h : wpSs C env sts σ' Q) : wpSs C env sts σ Q := fun X s R => h X s (hp ▸ R.freeze hx)
/-- an expression that makes a list -/
noncomputable def EvN (C : Cx) (env : Env) (σ : St) (e : Expr) (ms : List MV) : Prop :=
  ∀ s, RelE C env σ s.heap → wpAny C.M C.A (eval e env) (fun v s' => ∃ a vs, v = .ref a ∧ KSs C.S s s' ∧ s.heap.get? a = none ∧ C.n₀ ≤ a ∧ s'.heap.PlainList a (List.toArray vs) ∧ VIns s'.heap (a :: C.ex σ) ms vs) F s
theorem EvN.ev {e : Expr} {ms : List MV} (x : EvN C env σ e ms) : Ev C env σ e (.list ms) := fun s R => by
  refine wpAny_mono (x s R) (fun v s' h => ?_) fun _ _ z => z
  obtain ⟨a, vs, rfl, k, hf, hn, hp, hv⟩ := h
  refine ⟨k, a, vs, rfl, fun q => ?_, hp.isList, hv.more fun b hb => .inl (List.mem_cons_of_mem _ hb)⟩
  obtain ⟨o, e⟩ := R.exO a q
  rw [hf] at e; cases e
theorem evN_list {es : List Expr} {ms : List MV} {p : Pos} (h : Evs C env σ es ms) (hsz : ms.length ≤ sizeLine) : EvN C env σ (.List es p) ms := fun s R => by
  refine List_ (wpAny_mono (splicedV_ h s R) (fun vs s₁ h₁ => ?_) fun _ _ x => x)
  have R₁ := R.ks h₁.1.ks
  refine wpAny_newObj_type ?_ (by show vs.toArray.size ≤ sizeLine; rw [List.size_toArray, h₁.2.length]; exact hsz)
  refine ⟨s₁.heap.objs.size, vs, rfl, h₁.1.trans (keeps_push _), ?_, C.G.low _ R₁.base, ⟨_, Heap.get?_push_size _ rfl⟩, ?_⟩
  · cases q : s.heap.get? s₁.heap.objs.size with
    | none => rfl
    | some o => obtain ⟨_, o', e', _⟩ := h₁.1.ks _ o q; exact absurd (Heap.lt_size e') (Nat.lt_irrefl _)
  · exact (h₁.2.more (O' := s₁.heap.objs.size :: C.ex σ) fun b hb => (List.mem_cons.mp hb).elim (fun z => .inr (z ▸ Heap.get?_none_of_le (Nat.le_refl _))) .inl).ks (keeps_push (S := []) (s := s₁) _).ks
theorem wpS_own {x : Str} {p' p : Pos} {e : Expr} {ms : List MV} {Q : FM → St → Prop} (he : EvN C env σ e ms) (hx : Stores env x) (hs : swapsWith e (some (.Name x p')) p.line env = pure false) (hB : C.mB = []) (hi : instA σ = []) (hg : env.kindOf (Str.ofString "@own") = none) (hxg : (x == Str.ofString "@own") = false) (hkn : notKey (Str.ofString "@own") σ = true)
    (h : ∀ a, ∃ σ', sput σ x (.own a ms) = σ' ∧ Q .next σ') : wpS C env (.Assign [.Name x p'] e p) σ Q := fun X s R => by
  refine wpAny_Assign_Name (wpAny_mono (he s R.toRelE) (fun v s₁ h₁ => ?_) fun _ _ h => h) hs
  obtain ⟨a, vs, rfl, k, hf, hn, hp, hv⟩ := h₁
  have R₁ := R.joinOwn k.ks hf hn hp hv hB hg
  have hne : Str.ofString "@own" ≠ x := fun q => by rw [← q] at hxg; simp at hxg
  have hnone : sget σ (Str.ofString "@own") = none := by
    cases q : sget σ (Str.ofString "@own") with
    | none => rfl
    | some b => exact absurd rfl (notKey_ hkn (sget_mem q))
  obtain ⟨h1, t1, rfl, _⟩ := k
  refine store_ (m := .obj (.ref a)) R₁ hx rfl fun h' tk R' => ?_
  rw [sput_there (by simpa using hne) rfl] at R'
  have R₂ := R'.thaw hne hi hg hnone
  obtain ⟨σ', e, q⟩ := h a
  rw [e] at R₂
  exact ⟨h', tk, rfl, .next, σ', trivial, R₂, q⟩
theorem ss_own {x : Str} {p' p : Pos} {e : Expr} {ms : List MV} {rest : List Stmt} {Q : FM → St → Prop} (he : EvN C env σ e ms) (hx : Stores env x) (hs : swapsWith e (some (.Name x p')) p.line env = pure false) (hB : C.mB = []) (hi : instA σ = []) (hg : env.kindOf (Str.ofString "@own") = none) (hxg : (x == Str.ofString "@own") = false) (hkn : notKey (Str.ofString "@own") σ = true)
    (h : ∀ a, ∃ σ', sput σ x (.own a ms) = σ' ∧ wpSs C env rest σ' Q) : wpSs C env (.Assign [.Name x p'] e p :: rest) σ Q := wpSs_cons (wpS_own he hx hs hB hi hg hxg hkn h)
/-- x.append(e) -/
theorem wpS_append {x : Str} {px apos pos sp : Pos} {a : Addr} {xs : List MV} {e : Expr} {m : MV} {Q : FM → St → Prop} {σ' : St} (hx : sget σ x = some (.own a xs)) (hkx : env.kindOf x = some .local) (hd : (x == ("__debug__" : Str)) = false) (he : Ev C env σ e m) (hne : ∀ x p, e ≠ .Starred x p)
    (hi : instA σ = []) (hint : interactive env = false) (hsz : xs.length ≤ 1000000) (hline : (apos.endLine == pos.line) = true) (hp : sput σ x (.own a (xs ++ [m])) = σ') (h : Q .next σ') :
    wpS C env (.Expr (.Call (.Attribute (.Name x px) (Str.ofString "append") apos) [e] [] pos) sp) σ Q := fun X s R => by
  refine wpAny_Expr_any ?_ hint rfl
  rw [arm_eval_Call, show attributeBase (.Name x px) (Str.ofString "append") env (eval (.Name x px) env) = eval (.Name x px) env from rfl]
  have hv := R.vars x _ hx
  unfold VarIs at hv
  rw [hkx] at hv
  obtain ⟨mm, v, hn, hm, rfl, vs, ⟨nn, hpl⟩, hvs⟩ := hv
  refine wpAny_bind (wpAny_Name (wpAny_loadName_local R.kind hkx hn hm ?_) hd)
  refine wpAny_bind (wpAny_standAt ?_)
  have has : Evs C env σ [e] [m] := .cons he hne .nil
  have hform : methodCallForm ([e].length + ([] : List Keyword).length) (backTo pos (starEach [e] env)) (backToKw pos (keywordEach [] env)) = true := by
    unfold methodCallForm
    rw [(plain_args has.ts).2.1]
    rfl
  have hpos : methodCallPos true (.Name x px) env apos pos = pure pos := by unfold methodCallPos; simp [hline]
  unfold methodCall
  rw [hform]
  refine wpAny_bind (wpAny_holding (Calls.getMethod_list_append hpl rfl rfl ?_))
  refine wpAny_bind (wpAny_of_eq hpos ?_)
  refine Calls.callWith_builtin (plain_args has.ts).1 (wpAny_mono (evalArgsV_ has s R.toRelE) (fun ar s₂ h₂ => ?_) fun _ _ x => x)
  obtain ⟨k₂, hkw, hv⟩ := h₂
  have R₂ := R.ks k₂.ks
  rw [hkw]
  obtain ⟨v, r, e0, hv1, hr⟩ := hv
  rw [show r = [] from hr] at e0
  rw [e0]
  have hpl₂ : s₂.heap.PlainList a vs.toArray := k₂.ks.plain ⟨nn, hpl⟩ (R.notS hpl (fun es ep => by simp))
  have hlen := hvs.length
  refine wpAny_list_append_plain (hsz := by rw [List.size_toArray, hlen, sizeLine_eq]; omega) hpl₂ fun h' hp' hs' => ?_
  obtain ⟨h2, t2, rfl, _⟩ := k₂
  have R₃ := R₂.putList hi (ys := xs ++ [m]) (vs := vs ++ [v]) hx (by simpa using hp') ((hvs.ks (S := C.S) (by assumption)).append (VIns.one hv1)) hs'
  rw [hp] at R₃
  exact ⟨h', t2, rfl, .next, σ', trivial, R₃, h⟩
theorem ss_append {x : Str} {px apos pos sp : Pos} {a : Addr} {xs : List MV} {e : Expr} {m : MV} {rest : List Stmt} {Q : FM → St → Prop} {σ' : St} (hx : sget σ x = some (.own a xs)) (hkx : env.kindOf x = some .local) (hd : (x == ("__debug__" : Str)) = false) (he : Ev C env σ e m) (hne : ∀ x p, e ≠ .Starred x p)
    (hi : instA σ = []) (hint : interactive env = false) (hsz : xs.length ≤ 1000000) (hline : (apos.endLine == pos.line) = true) (hp : sput σ x (.own a (xs ++ [m])) = σ') (h : wpSs C env rest σ' Q) :
    wpSs C env (.Expr (.Call (.Attribute (.Name x px) (Str.ofString "append") apos) [e] [] pos) sp :: rest) σ Q := wpSs_cons (wpS_append hx hkx hd he hne hi hint hsz hline hp h)
theorem ss_augname {x : Str} {px sp : Pos} {op : Operator} {e : Expr} {m m' r : MV} {rest : List Stmt} {Q : FM → St → Prop} {σ' : St} (hx : sget σ x = some (.fz m)) (hkx : env.kindOf x = some .local) (he : Ev C env σ e m') (hm : scal m = true) (hm' : scal m' = true) (hr : scal r = true) (hop : Inp C op m m' r) (hp : sput σ x (.fz r) = σ') (h : wpSs C env rest σ' Q) :
    wpSs C env (.AugAssign (.Name x px) op e sp :: rest) σ Q := wpSs_cons fun X s R => by
  have hv := R.vars x _ hx
  unfold VarIs at hv
  rw [hkx] at hv
  obtain ⟨mm, v, hn, hmm, hvx⟩ := hv
  refine wpAny_AugAssign_Name (wpAny_loadName_local R.kind hkx hn hmm ?_)
  refine wpAny_mono (he s R.toRelE) (fun w s₂ h₂ => ?_) fun _ _ x => x
  obtain ⟨k₂, hw⟩ := h₂
  have R₂ := R.ks k₂.ks
  refine wpAny_mono (hop s₂ v w ((VIn.sc hvx hm).to fun _ q => k₂.ks.deq q) (hw.sc hm')) (fun nv s₃ h₃ => ?_) fun _ _ x => x
  obtain ⟨k₃, hnv⟩ := h₃
  have R₃ := R₂.ks (k₃.mono nil_sub).ks
  obtain ⟨h2, t2, rfl, _⟩ := k₂
  obtain ⟨h3, t3, rfl, _⟩ := k₃
  refine store_ R₃ (.inl hkx) hnv.vin fun h' tk R' => ⟨h', tk, rfl, .next, σ', trivial, hp ▸ R', h⟩
end
end Mine
namespace Mine
open PySem PySem.W PyProof.Rows
/-- the names within a comprehension -/
structure CompEnv (scope : Scope) (cenv : Env) : Prop where
  same : ∀ y k, scope.names.lookup y = some k → k ≠ .free → cenv.kindOf y = some k
  free : ∀ y, scope.names.lookup y = some .free → cenv.kindOf y = some .cell
  none : ∀ y, scope.names.lookup y = none → cenv.kindOf y = none
/-- a comprehension's scope fits the frame around it: x alone is its own, what is free is a cell of the frame -/
structure CompOk (scope : Scope) (env : Env) (x : Str) : Prop where
  kind : scope.kind = .function
  loc : scope.names.lookup x = some .local
  only : ∀ p ∈ scope.names, p.2 = .local → p.1 = x ∨ p.1 = Str.ofString ".0"
  locs : ∀ p ∈ scope.names, p.2 = .local → scope.names.lookup p.1 = some .local
  nocell : ∀ p ∈ scope.names, p.2 ≠ .cell
  free : ∀ p ∈ scope.names, p.2 = .free → env.kindOf p.1 = some .cell ∧ ∃ c, env.cells.lookup p.1 = some c
theorem lookup_mem {α : Type} {l : List (Str × α)} {x : Str} {k : α} (h : l.lookup x = some k) : (x, k) ∈ l := by
  induction l with
  | nil => cases h
  | cons p r ih =>
    obtain ⟨y, c⟩ := p
    by_cases hx : x = y
    · subst hx; simp [List.lookup] at h; subst h; exact List.mem_cons_self
    · have : (x == y) = false := by simpa using hx
      simp [List.lookup, this] at h; exact List.mem_cons_of_mem _ (ih h)
theorem clos_of {env : Env} : ∀ (names : List (Str × NameKind)) (acc : List (Str × Addr)), (∀ p ∈ names, p.2 = .free → ∃ c, env.cells.lookup p.1 = some c) → (∀ y c, acc.lookup y = some c → env.cells.lookup y = some c) →
    ∃ cl, (forIn (m := Sem) names acc fun x r => do
        let (name, kind) := x
        if kind == .free then do let c ← cellOf env name; pure (ForInStep.yield ((name, c) :: r)) else pure (ForInStep.yield r)) = pure cl ∧
      (∀ y c, cl.lookup y = some c → env.cells.lookup y = some c) ∧ (∀ y, (acc.lookup y).isSome = true → (cl.lookup y).isSome = true) ∧ (∀ p ∈ names, p.2 = .free → (cl.lookup p.1).isSome = true)
  | [], acc, _, h2 => ⟨acc, rfl, h2, fun _ h => h, fun _ h => nomatch h⟩
  | (n, k) :: r, acc, h1, h2 => by
    rw [List.forIn_cons]
    by_cases hk : k = .free
    · subst hk
      obtain ⟨c, hc⟩ := h1 (n, .free) List.mem_cons_self rfl
      obtain ⟨cl, e, q1, q2, q3⟩ := clos_of r ((n, c) :: acc) (fun p hp => h1 p (List.mem_cons_of_mem _ hp)) (fun y c' e => by
        by_cases hy : y = n
        · subst hy; simp [List.lookup] at e; subst e; exact hc
        · have : (y == n) = false := by simpa using hy
          simp [List.lookup, this] at e; exact h2 y c' e)
      refine ⟨cl, ?_, q1, fun y hy => q2 y ?_, fun p hp hf => ?_⟩
      · have : cellOf env n = pure c := by unfold cellOf; rw [hc]
        simp only [beq_self_eq_true, if_true, this]
        exact e
      · by_cases hyn : y = n
        · subst hyn; simp [List.lookup]
        · have : (y == n) = false := by simpa using hyn
          simp [List.lookup, this, hy]
      · rcases List.mem_cons.mp hp with rfl | hp
        · exact q2 n (by simp [List.lookup])
        · exact q3 p hp hf
    · obtain ⟨cl, e, q1, q2, q3⟩ := clos_of r acc (fun p hp => h1 p (List.mem_cons_of_mem _ hp)) h2
      refine ⟨cl, ?_, q1, q2, fun p hp hf => ?_⟩
      · have : (k == NameKind.free) = false := by simpa using hk
        simp only [this, Bool.false_eq_true, if_false]
        exact e
      · rcases List.mem_cons.mp hp with rfl | hp
        · exact absurd hf hk
        · exact q3 p hp hf
theorem CompOk.clos {scope : Scope} {env : Env} {x : Str} (h : CompOk scope env x) : ∃ cl, closureFor scope env = pure cl ∧ (∀ y c, cl.lookup y = some c → env.cells.lookup y = some c) ∧ (∀ p ∈ scope.names, p.2 = .free → (cl.lookup p.1).isSome = true) := by
  obtain ⟨cl, e, q1, _, q3⟩ := clos_of (env := env) scope.names [] (fun p hp hf => (h.free p hp hf).2) (fun _ _ h => by cases h)
  refine ⟨cl, ?_, q1, q3⟩
  simp only [closureFor]
  have : (forIn (m := Sem) scope.names [] fun x r => do
        let (name, kind) := x
        if kind == .free then do let c ← cellOf env name; pure (ForInStep.yield ((name, c) :: r)) else pure (ForInStep.yield r)) = pure cl := e
  first
    | (rw [this]; rfl)
    | (erw [this]; rfl)
theorem lookup_relabel {env : Env} {y : Str} : ∀ {names : List (Str × NameKind)}, (names.map fun (n, k) => if (k == NameKind.free && env.scope.kind == .function && env.kindOf n == some .cell) then (n, NameKind.cell) else (n, k)).lookup y = (names.lookup y).map fun k => if (k == NameKind.free && env.scope.kind == .function && env.kindOf y == some .cell) then NameKind.cell else k
  | [] => rfl
  | (n, k) :: r => by
    show List.lookup y ((if (k == NameKind.free && env.scope.kind == .function && env.kindOf n == some .cell) = true then (n, NameKind.cell) else (n, k)) :: _) = _
    by_cases hy : y = n
    · subst hy
      by_cases hc : (k == NameKind.free && env.scope.kind == .function && env.kindOf y == some .cell) = true
      · rw [if_pos hc]; simp only [List.lookup_cons, beq_self_eq_true, Option.map_some, if_pos hc]
      · rw [if_neg hc]; simp only [List.lookup_cons, beq_self_eq_true, Option.map_some, if_neg hc]
    · have hb : (y == n) = false := by simpa using hy
      have ih := lookup_relabel (env := env) (y := y) (names := r)
      by_cases hc : (k == NameKind.free && env.scope.kind == .function && env.kindOf n == some .cell) = true
      · rw [if_pos hc]; simp only [List.lookup_cons, hb]; exact ih
      · rw [if_neg hc]; simp only [List.lookup_cons, hb]; exact ih
theorem compEnv_of {scope : Scope} {env : Env} {x : Str} {cl : List (Str × Addr)} {L : Addr} (h : CompOk scope env x) (hk : env.scope.kind = .function) : CompEnv scope (compEnvC scope cl L env) where
  same := fun y k e hne => by
    show (relabel scope env).names.lookup y = _
    unfold relabel
    rw [lookup_relabel, e]
    have : (k == NameKind.free) = false := by simpa using hne
    simp only [this, Bool.false_and, Option.map_some, Bool.false_eq_true, if_false]
  free := fun y e => by
    show (relabel scope env).names.lookup y = _
    unfold relabel
    rw [lookup_relabel, e]
    have := (h.free _ (lookup_mem e) rfl).1
    simp [this, hk]
  none := fun y e => by
    show (relabel scope env).names.lookup y = _
    unfold relabel
    rw [lookup_relabel, e]; rfl
section
variable {C : Cx} {env : Env} {σ : St} {h h' : Heap}
theorem VarIs.some' {env : Env} {h : Heap} {x : Str} {P : Value → Prop} (y : VarIs env h x P) : ∃ v, P v := by
  unfold VarIs at y
  split at y
  · obtain ⟨_, v, _, _, p⟩ := y; exact ⟨v, p⟩
  · obtain ⟨_, v, _, _, p⟩ := y; exact ⟨v, p⟩
  · obtain ⟨_, v, _, _, p⟩ := y; exact ⟨v, p⟩
  · exact y
theorem RelE.comp {scope : Scope} {x : Str} {cl : List (Str × Addr)} {L : Addr} {mm : Str → Option Value} {m : MV} {v : Value} (R : RelE C env σ h) (hi : instA σ = []) (h00 : sget σ (Str.ofString ".0") = none) (ok : CompOk scope env x) (hcl : ∀ y c, cl.lookup y = some c → env.cells.lookup y = some c) (hcl2 : ∀ p ∈ scope.names, p.2 = .free → (cl.lookup p.1).isSome = true)
    (hn : h.Ns L mm) (hm : mm x = some v) (hv : VIn h (C.ex σ) m v) : RelE C (compEnvC scope cl L env) ((x, .fz m) :: σ) h := by
  have ce := compEnv_of (cl := cl) (L := L) ok R.kind
  refine { base := R.base, fr := R.fr, kind := ok.kind, glob := R.glob, vars := ?_, own := R.own, outer := R.outer, insN := ?_, insNd := R.insNd }
  · intro y b hb
    show VarIs _ h y (BIn h (C.ex σ) b)
    by_cases hxy : x = y
    · subst hxy
      simp only [sget, if_true] at hb
      cases hb
      unfold VarIs
      rw [ce.same x _ ok.loc (by decide)]
      exact ⟨mm, v, hn, hm, hv⟩
    · simp only [sget, hxy, if_false] at hb
      have q := R.vars y b hb
      cases e : scope.names.lookup y with
      | none => unfold VarIs; rw [ce.none y e]; exact q.some'
      | some k =>
        by_cases hf : k = .free
        · subst hf
          have hmem := lookup_mem e
          obtain ⟨hcell, c, hc⟩ := ok.free _ hmem rfl
          obtain ⟨c', hc'⟩ := Option.isSome_iff_exists.mp (hcl2 _ hmem rfl)
          unfold VarIs
          rw [ce.free y e]
          unfold VarIs at q
          rw [hcell] at q
          obtain ⟨c2, v2, h1, h2, h3⟩ := q
          have e2 := hcl y c' hc'
          rw [h1] at e2
          have e2 := Option.some.inj e2
          subst e2
          exact ⟨c2, v2, hc', h2, h3⟩
        · unfold VarIs
          rw [ce.same y k e hf]
          have hl : k ≠ .local := fun z => (ok.only _ (lookup_mem e) z).elim (fun q => hxy q.symm) fun q => by rw [show y = Str.ofString ".0" from q, h00] at hb; cases hb
          have hcc : k ≠ .cell := ok.nocell _ (lookup_mem e)
          cases k <;> first | exact absurd rfl hl | exact absurd rfl hcc | exact absurd rfl hf | exact q.some'
  · intro b hb
    have : instA ((x, Bd.fz m) :: σ) = [] := hi
    rw [this] at hb; cases hb
theorem RelE.joinOwn (R : RelE C env σ h) (k : KS C.S h h') {nm : Str} {a : Addr} {ms : List MV} {vs : List Value} (hf : h.get? a = none) (hp : h'.PlainList a vs.toArray) (hv : VIns h' (a :: C.ex σ) ms vs) (hk : env.kindOf nm = none) : RelE C env ((nm, .own a ms) :: σ) h' := by
  have R' := R.ks k
  have hE : C.ex ((nm, .own a ms) :: σ) = a :: C.ex σ := rfl
  have more : ∀ {m v}, VIn h (C.ex σ) m v → VIn h' (a :: C.ex σ) m v := fun {m v} q => (q.more (O' := a :: C.ex σ) fun b hb => (List.mem_cons.mp hb).elim (fun z => .inr (z ▸ hf)) .inl).ks k
  have mores : ∀ {ms ws}, VIns h (C.ex σ) ms ws → VIns h' (a :: C.ex σ) ms ws := fun {ms ws} q => (q.more (O' := a :: C.ex σ) fun b hb => (List.mem_cons.mp hb).elim (fun z => .inr (z ▸ hf)) .inl).ks k
  refine { base := R'.base, fr := R'.fr, kind := R.kind, glob := R.glob, vars := ?_, own := ?_, outer := R'.outer, insN := R'.insN, insNd := R'.insNd }
  · intro y b hb
    rw [hE]
    by_cases hy : nm = y
    · subst hy
      simp only [sget, if_true] at hb
      cases hb
      unfold VarIs
      rw [hk]
      exact ⟨.ref a, rfl, vs, hp, hv⟩
    · simp only [sget, hy, if_false] at hb
      refine (R.vars y _ hb).to (fun m q => k.ns q) (fun c v _ q => k.isCell q) fun v q => ?_
      cases b with
      | fz m => exact more q
      | own b zs =>
        obtain ⟨e, ws, p, r⟩ := q
        obtain ⟨nn, pe⟩ := id p
        exact ⟨e, ws, k.plain p (R.notS pe (fun es ep => by simp)), mores r⟩
      | inst a Cl d fs => exact ⟨q.1, q.2.ks k⟩
  · intro b hb
    rcases List.mem_cons.mp hb with rfl | hb
    · exact ⟨_, hp⟩
    · exact R'.own b hb
noncomputable def EvIfs (C : Cx) (env : Env) (σ : St) : List Expr → Bool → Prop
  | [], b => b = true
  | c :: cs, b => ∃ b1, EvB C env σ c b1 ∧ (b1 = true → EvIfs C env σ cs b) ∧ (b1 = false → b = false)
theorem ifs_false {env : Env} : ∀ (cs : List Expr), (forIn (m := Sem) cs false fun c r => if r = true then do let ok ← isTrue c env (eval c env); pure (ForInStep.yield ok) else pure (ForInStep.yield r)) = pure false
  | [] => rfl
  | c :: cs => by
    rw [List.forIn_cons]
    simp only [Bool.false_eq_true, if_false]
    exact ifs_false cs
theorem ifs_ : ∀ {cs : List Expr} {b : Bool}, EvIfs C env σ cs b → ∀ s, RelE C env σ s.heap →
    wpAny C.M C.A (forIn cs true fun c r => if r = true then do let ok ← isTrue c env (eval c env); pure (ForInStep.yield ok) else pure (ForInStep.yield r)) (fun ok s' => KSs C.S s s' ∧ ok = b) F s
  | [], b, e, s, R => wpAny_pure ⟨.refl s, (show b = true from e).symm⟩
  | c :: cs, b, ⟨b1, hb, h1, h2⟩, s, R => by
    rw [List.forIn_cons]
    simp only [if_true]
    refine wpAny_bind (wpAny_bind (wpAny_mono (hb s R) (fun b' s₁ h₁ => ?_) fun _ _ z => z))
    obtain ⟨k, rfl⟩ := h₁
    refine wpAny_pure ?_
    cases b' with
    | true => exact wpAny_mono (ifs_ (h1 rfl) s₁ (R.ks k.ks)) (fun ok s₂ h₂ => ⟨k.trans h₂.1, h₂.2⟩) fun _ _ z => z
    | false =>
      show wpAny _ _ (forIn cs false _) _ _ _
      rw [ifs_false]
      exact wpAny_pure ⟨k, (h2 rfl).symm⟩
theorem VIn.km' {S B O : List Addr} (k : KM S B h h') (hB : ∀ b ∈ B, ∀ o, h.get? b = some o → (∀ xs n, o.data ≠ .seq xs n) ∧ o.cls ≠ .type "collections.deque") {m : MV} {v : Value} (x : VIn h O m v) : VIn h' O m v :=
  x.to (fun a _ n l => ⟨by
      obtain ⟨o, e, c, nn, d⟩ := l
      obtain ⟨_, o', e', d1, d2, d3⟩ := k a o e fun q => (hB a q o e).1 _ _ d
      exact ⟨o', e', d2.trans c, nn, d1.trans d⟩, n⟩)
    (fun a _ n l => ⟨by
      obtain ⟨o, e, c, nn, d⟩ := l
      obtain ⟨_, o', e', d1, d2, d3⟩ := k a o e fun q => (hB a q o e).1 _ _ d
      exact ⟨o', e', d2.trans c, nn, d1.trans d⟩, n⟩) (fun p q => by
      obtain ⟨o, n, t, e, c, d⟩ := q
      obtain ⟨_, o', e', d1, d2, d3⟩ := k p o e fun q => (hB p q o e).2 c
      exact ⟨o', n, t, e', d2.trans c, d1.trans d⟩)
theorem kindFun {scope : Scope} {env : Env} {cl : List (Str × Addr)} {L : Addr} (h : scope.kind = .function) : ((compEnvC scope cl L env).scope.kind == .class || ((compEnvC scope cl L env).scope.kind == .module && (compEnvC scope cl L env).locals != (compEnvC scope cl L env).globals)) = false := by
  have hq : (compEnvC scope cl L env).scope.kind = .function := h
  rw [hq]; rfl
/-- the results of a comprehension's turns, up to the i-th -/
noncomputable def compRes (items : List MV) (p : Nat → Bool) (f : Nat → MV) (i : Nat) : List MV := ((List.range i).filter p).map f
theorem compRes_succ (items : List MV) (p : Nat → Bool) (f : Nat → MV) (i : Nat) : compRes items p f (i + 1) = compRes items p f i ++ (if p i then [f i] else []) := by
  unfold compRes
  rw [List.range_succ, List.filter_append, List.map_append]
  by_cases h : p i <;> simp [h]
theorem comp_block {elt iter : Expr} {x : Str} {px : Pos} {ifs : List Expr} {scope : Scope} {pos : Pos} {cl : List (Str × Addr)} {items : List MV} {p : Nat → Bool} {f : Nat → MV} {s : Shared} {RR : Value → Addr → Result → Shared → Prop} {E : Value → Shared → Prop}
    (R : RelE C env σ s.heap) (hi : instA σ = []) (h00 : notKey (Str.ofString ".0") σ = true) (ok : CompOk scope env x) (hclos : closureFor scope env = pure cl) (hcl : ∀ y c, cl.lookup y = some c → env.cells.lookup y = some c) (hcl2 : ∀ p ∈ scope.names, p.2 = .free → (cl.lookup p.1).isSome = true) (hsz : items.length ≤ 1000000)
    (hg : env.kindOf (Str.ofString "@acc") = none)
    (tests : ∀ i m cenv D cur, items[i]? = some m → CompEnv scope cenv → EvIfs C cenv ((x, .fz m) :: (Str.ofString "@acc", .own D cur) :: σ) ifs (p i))
    (helt : ∀ i m cenv D cur, items[i]? = some m → p i = true → CompEnv scope cenv → Ev C cenv ((x, .fz m) :: (Str.ofString "@acc", .own D cur) :: σ) elt (f i))
    {it : Value} {s₂ : Shared} (hit : ItAt C (C.ex σ) items s it s₂)
    (hRR : ∀ D L h' tk mm vs, KS C.S s.heap h' → s.heap.get? D = none → s.heap.get? L = none → C.n₀ ≤ D → C.n₀ ≤ L → h'.Ns L mm → h'.PlainList D (List.toArray vs) → VIns h' (D :: C.ex σ) (compRes items p f items.length) vs → RR (.ref D) L (.ok .next) { s with heap := h', toks := tk }) :
    wpAny C.M C.A (newList []) (fun acc s₃ => wpAny C.M C.A (newFunctionEnv scope env.globals cl [] env.qual none .none (some env)) (fun cenv s₄ =>
      codeAny C.M C.A (.compStart (.ListComp elt [⟨.Name x px, iter, ifs, 0⟩] scope pos) 0 it acc { cenv with scope := relabel scope env }) (RR acc cenv.locals) s₄) E s₃) E s₂ := by
  obtain ⟨I, P, It, Inv, rfl, k, hIs, hIn, Sr, ⟨o₀, ho₀, hit₀⟩, hInv, hstab, hval⟩ := hit
  have R₂ := R.ks k.ks
  have hj0 := Sr.junk 0 _ hit₀
  have hk0 : ∀ {D : Addr} {cur : List MV}, sget ((Str.ofString "@acc", Bd.own D cur) :: σ) (Str.ofString ".0") = none := fun {D cur} => by
    have ne : Str.ofString "@acc" ≠ Str.ofString ".0" := by decide +kernel
    rw [sget, if_neg ne]
    cases q : sget σ (Str.ofString ".0") with
    | none => rfl
    | some b => exact absurd rfl (notKey_ h00 (sget_mem q))
  have hJ1 : ∀ b ∈ [I], ∀ o, s₂.heap.get? b = some o → (∀ xs n, o.data ≠ .seq xs n) ∧ o.cls ≠ .type "collections.deque" := fun b hb o e => by
    rw [List.mem_singleton.mp hb] at e; rw [ho₀] at e; cases e
    exact ⟨hj0.1, hj0.2.2.2⟩
  refine wpAny_newObj_type (wpAny_newFunctionEnv ok.nocell (by intro y hy; simp at hy) (fun h₁ hns₁ hsb₁ => ?_) ok.kind)
  dsimp only at hns₁ hsb₁ ⊢
  obtain ⟨h2, t2, rfl, ks2⟩ := k
  dsimp only at R₂ ho₀ hInv hstab hval hJ1 hns₁ hsb₁ ⊢
  generalize hH2 : h2.push { cls := .type "list", dict := none, data := .seq ([] : List Value).toArray } = H2 at hns₁ hsb₁ ⊢
  generalize hD : h2.objs.size = D at hns₁ hsb₁ ⊢
  have hC : H2.objs.size = D + 1 := by rw [← hH2, Heap.size_push, hD]
  generalize hL : H2.objs.size = L at hns₁ hsb₁ ⊢
  have hDL : D ≠ L := by rw [hL] at hC; rw [hC]; exact Nat.ne_of_lt (Nat.lt_succ_self _)
  have hDleL : D ≤ L := by rw [hL] at hC; rw [hC]; exact Nat.le_succ _
  have fresh2 : ∀ a, D ≤ a → h2.get? a = none := fun a ha => Heap.get?_none_of_le (by rw [hD]; exact ha)
  have hDf : h2.get? D = none := fresh2 D (Nat.le_refl _)
  have hLf : h2.get? L = none := fresh2 L hDleL
  have freshS : ∀ a, h2.get? a = none → s.heap.get? a = none := fun a ha => by
    cases q : s.heap.get? a with
    | none => rfl
    | some o => obtain ⟨_, o', e', _⟩ := ks2 a o q; rw [ha] at e'; cases e'
  have hDn : C.n₀ ≤ D := by rw [← hD]; exact C.G.low _ R₂.base
  have hLn : C.n₀ ≤ L := by rw [hL] at hC; rw [hC]; exact Nat.le_succ_of_le hDn
  have old : ∀ b o, h2.get? b = some o → h₁.get? b = some o := fun b o e => by
    have hb : b < D := by rw [← hD]; exact Heap.lt_size e
    exact hsb₁.extBut b o (Nat.ne_of_lt (Nat.lt_of_lt_of_le hb hDleL)) (Heap.get?_push_of_some _ (hH2 ▸ Heap.get?_push_of_some _ e))
  have hacc : h₁.PlainList D (List.toArray []) := ⟨_, hsb₁.extBut _ _ hDL (Heap.get?_push_of_some _ (by rw [← hH2, ← hD]; exact Heap.get?_push_size _ rfl))⟩
  have hIlt : h₁.get? I = some o₀ := old I _ ho₀
  let cenv := compEnvC scope cl L env
  have hck : cenv.kindOf x = some .local := (compEnv_of ok R.kind).same x _ ok.loc (by decide)
  have ce : CompEnv scope cenv := compEnv_of ok R.kind
  -- the loop
  have loop : ∀ tk₁, codeAny C.M C.A (.compLoop (.ListComp elt [⟨.Name x px, iter, ifs, 0⟩] scope pos) 0 (.ref I) (.ref D) cenv) (RR (.ref D) L) { s with heap := h₁, toks := tk₁ } := fun tk₁ => by
    refine codeAny_compLoop_tests (fun k s' => ∃ i h' tk mm vs o, s' = { s with heap := h', toks := tk } ∧ i ≤ items.length ∧ k = items.length - i ∧ KM C.S [I] h2 h' ∧ h'.get? I = some o ∧ It i o ∧ h'.PlainList D (List.toArray vs) ∧ h'.Ns L mm ∧ VIns h' (D :: C.ex σ) (compRes items p f i) vs) ?_ items.length
      ⟨0, h₁, tk₁, _, [], o₀, rfl, Nat.zero_le _, by omega, (KS.of_keep old).km, hIlt, hit₀, hacc, hns₁, rfl⟩
    rintro k s' ⟨i, h', tk, mm, vs, o, rfl, hile, rfl, km, hoI, hit, hpl, hn, hvs⟩
    have ksS : ∀ h', KM C.S [I] h2 h' → KS C.S s.heap h' := fun h' km b o e => by
      obtain ⟨a1, o1, a2, a3, a4, a5⟩ := ks2 b o e
      have hb : b ∉ [I] := by rw [List.mem_singleton]; rintro rfl; rw [hIs] at e; cases e
      obtain ⟨b1, o2, b2, b3, b4, b5⟩ := km b o1 a2 hb
      exact ⟨fun q => (km b o (a1 q) hb).1 q, o2, b2, b3.trans a3, b4.trans a4, b5.trans a5⟩
    have inv' : ∀ h', KM C.S [I] h2 h' → Inv h' := fun h' km => hstab h' fun b o hb e hO hso => (km b o e (by simpa using hb)).1 (R₂.notS e hso.1)
    by_cases hlt : i < items.length
    · refine Sr.item i _ o _ _ hlt (inv' h' km) hoI hit fun v h3 tk3 o3 hP e3 hit3 hk3 => ?_
      obtain ⟨m, hm⟩ : ∃ m, items[i]? = some m := ⟨_, List.getElem?_eq_getElem hlt⟩
      have hj3 := Sr.junk (i + 1) _ hit3
      have hDI : D ≠ I := by rintro rfl; rw [hDf] at ho₀; cases ho₀
      have hLI : L ≠ I := by rintro rfl; rw [hLf] at ho₀; cases ho₀
      have km3 : KM C.S [I] h2 h3 := fun b ob e hb => by
        obtain ⟨c1, oc, c2, c3⟩ := km b ob e hb
        have hbI : b ≠ I := by simpa using hb
        exact ⟨fun q => hk3 b ob hbI (c1 q), oc, hk3 b oc hbI c2, c3⟩
      have n3 : h3.Ns L mm := by
        obtain ⟨ol, es, ep, e, d, r⟩ := hn
        exact ⟨ol, es, ep, hk3 L ol hLI e, d, r⟩
      have pl3 : h3.PlainList D (List.toArray vs) := by obtain ⟨n, e⟩ := hpl; exact ⟨n, hk3 D _ hDI e⟩
      have vs3 : VIns h3 (D :: C.ex σ) (compRes items p f i) vs := hvs.side (I := I) (fun o' e' => by
        rw [hoI] at e'; cases e'
        have hj := Sr.junk i _ hit
        exact ⟨hj.1, hj.2.1, fun _ q => absurd q hj.2.2.2⟩) hk3
      -- the target
      refine wpAny_assign_Name (wpAny_storeName_local (env := cenv) hck n3 (fun h4 n4 hs4 => ?_) (kindFun ok.kind))
      have k4 : ∀ b o, b ≠ L → h3.get? b = some o → h4.get? b = some o := fun b o hb e => hs4.extBut b o hb e
      have km4 : KM C.S [I] h2 h4 := fun b ob e hb => by
        obtain ⟨c1, oc, c2, c3⟩ := km3 b ob e hb
        have hbL : b ≠ L := by rintro rfl; rw [hLf] at e; cases e
        exact ⟨fun q => k4 b ob hbL (c1 q), oc, k4 b oc hbL c2, c3⟩
      obtain ⟨oL, esL, epL, eL, dL, _⟩ := id n3
      have vs4 : VIns h4 (D :: C.ex σ) (compRes items p f i) vs := vs3.off eL (fun xs n q => by rw [dL] at q; cases q) (fun ws q => by rw [dL] at q; cases q) hs4 (fun _ z => z)
      have pl4 : h4.PlainList D (List.toArray vs) := by obtain ⟨n, e⟩ := pl3; exact ⟨n, k4 D _ hDL e⟩
      have i4 : h4.get? I = some o3 := k4 I _ (Ne.symm hLI) e3
      have hv4 : VIn h4 (D :: C.ex σ) m v := VIn.km' km4 hJ1 ((hval i v m hP hm).more fun b hb => (List.mem_cons.mp hb).elim (fun z => .inr (z ▸ hDf)) .inl)
      have R4 : RelE C cenv ((x, .fz m) :: (Str.ofString "@acc", .own D (compRes items p f i)) :: σ) h4 := (R.joinOwn (ksS h4 km4) (freshS D hDf) pl4 vs4 hg).comp hi hk0 ok hcl hcl2 n4 (by simp) hv4
      refine wpAny_mono (ifs_ (tests i m cenv D _ hm ce) { s with heap := h4, toks := tk3 + 1 } R4) (fun okb s5 h5 => ?_) fun _ _ z => z.elim
      obtain ⟨⟨h5', tk5, rfl, ks5⟩, rfl⟩ := h5
      have R5 := R4.ks ks5
      have stepKS : ∀ {ha hb : Heap}, RelE C cenv ((x, .fz m) :: (Str.ofString "@acc", .own D (compRes items p f i)) :: σ) ha → KS C.S ha hb → KM C.S [I] h2 ha → ha.get? I = some o3 → ha.PlainList D (List.toArray vs) → (∃ mm, ha.Ns L mm) → VIns ha (D :: C.ex σ) (compRes items p f i) vs →
          KM C.S [I] h2 hb ∧ hb.get? I = some o3 ∧ hb.PlainList D (List.toArray vs) ∧ (∃ mm, hb.Ns L mm) ∧ VIns hb (D :: C.ex σ) (compRes items p f i) vs := fun {ha hb} Ra kab kma ia pla na va => by
        refine ⟨fun b ob e hb' => ?_, ?_, ?_, ?_, va.ks kab⟩
        · obtain ⟨c1, oc, c2, c3, c4, c5⟩ := kma b ob e hb'
          obtain ⟨d1, od, d2, d3, d4, d5⟩ := kab b oc c2
          exact ⟨fun q => (kab b ob (c1 q)).1 q, od, d2, d3.trans c3, d4.trans c4, d5.trans c5⟩
        · exact (kab I _ ia).1 (Ra.notS ia hj3.2.2.1)
        · obtain ⟨n, e⟩ := pla
          exact ⟨n, (kab D _ e).1 (Ra.notS e (fun es ep => by simp))⟩
        · obtain ⟨mm, q⟩ := na; exact ⟨mm, kab.ns q⟩
      obtain ⟨km5, i5, pl5, ⟨mm5, n5⟩, vs5⟩ := stepKS R4 ks5 km4 i4 pl4 ⟨_, n4⟩ vs4
      cases hpi : p i with
      | false =>
        rw [if_neg (by decide)]
        refine ⟨items.length - (i + 1), by omega, i + 1, h5', tk5, mm5, vs, o3, rfl, hlt, rfl, km5, i5, hit3, pl5, n5, ?_⟩
        rw [compRes_succ, hpi]; simpa using vs5
      | true =>
        rw [if_pos rfl]
        refine wpAny_mono (helt i m cenv D _ hm hpi ce { s with heap := h5', toks := tk5 } R5) (fun y s6 h6 => ?_) fun _ _ z => z.elim
        obtain ⟨⟨h6', tk6, rfl, ks6⟩, hy⟩ := h6
        obtain ⟨km6, i6, pl6, ⟨mm6, n6⟩, vs6⟩ := stepKS R5 ks6 km5 i5 pl5 ⟨_, n5⟩ vs5
        have hlen := vs6.length
        have hle : (compRes items p f i).length ≤ i := by
          unfold compRes
          rw [List.length_map]
          exact Nat.le_trans (List.length_filter_le _ _) (by simp)
        refine wpAny_list_append_plain (hsz := by rw [List.size_toArray, hlen, sizeLine_eq]; omega) pl6 fun h7 pl7 hs7 => ?_
        have k7 : ∀ b o, b ≠ D → h6'.get? b = some o → h7.get? b = some o := fun b o hb e => hs7.extBut b o hb e
        obtain ⟨nD, eD⟩ := pl6
        have vin7 : ∀ {m v}, VIn h6' (D :: C.ex σ) m v → VIn h7 (D :: C.ex σ) m v := fun {m v} q => by
          refine q.to (fun b its n l => ?_) (fun b its n l => ?_) fun p d => ?_
          · obtain ⟨o, e, c⟩ := l
            exact ⟨⟨o, k7 b o (fun z => n (z ▸ List.mem_cons_self)) e, c⟩, n⟩
          · obtain ⟨o, e, c⟩ := l
            exact ⟨⟨o, k7 b o (fun z => n (z ▸ List.mem_cons_self)) e, c⟩, n⟩
          · obtain ⟨o, n, t, e, c, dd⟩ := d
            exact ⟨o, n, t, k7 p o (by rintro rfl; rw [eD] at e; cases e; exact absurd (Value.type.inj c) (by decide)) e, c, dd⟩
        have vins7 : ∀ {ms ws}, VIns h6' (D :: C.ex σ) ms ws → VIns h7 (D :: C.ex σ) ms ws := by
          intro ms
          induction ms with
          | nil => intro ws q; exact q
          | cons m ms ih => rintro ws ⟨v, r, e, p, q⟩; exact ⟨v, r, e, vin7 p, ih q⟩
        have hy' : VIn h6' (D :: C.ex σ) (f i) y := hy
        refine ⟨items.length - (i + 1), by omega, i + 1, h7, tk6, mm6, vs ++ [y], o3, rfl, hlt, rfl, ?_, ?_, hit3, by simpa using pl7, ?_, ?_⟩
        · intro b ob e hb
          have hbD : b ≠ D := by rintro rfl; rw [hDf] at e; cases e
          obtain ⟨c1, oc, c2, c3⟩ := km6 b ob e hb
          exact ⟨fun q => k7 b ob hbD (c1 q), oc, k7 b oc hbD c2, c3⟩
        · exact k7 I _ (Ne.symm hDI) i6
        · obtain ⟨ol, es, ep, e, d, r⟩ := n6
          exact ⟨ol, es, ep, k7 L ol (Ne.symm hDL) e, d, r⟩
        · rw [compRes_succ, hpi, if_pos rfl]
          exact vins7 (vs6.append (VIns.one hy'))
    · have hin : i = items.length := by omega
      subst hin
      refine Sr.done _ o _ _ (inv' h' km) hoI hit fun h3 tk3 hk3 => ?_
      have hDI : D ≠ I := by rintro rfl; rw [hDf] at ho₀; cases ho₀
      have hLI : L ≠ I := by rintro rfl; rw [hLf] at ho₀; cases ho₀
      have km3 : KM C.S [I] h2 h3 := fun b ob e hb => by
        obtain ⟨c1, oc, c2, c3⟩ := km b ob e hb
        have hbI : b ≠ I := by simpa using hb
        exact ⟨fun q => hk3 b ob hbI (c1 q), oc, hk3 b oc hbI c2, c3⟩
      refine hRR D L h3 tk3 mm vs (ksS h3 km3) (freshS D hDf) (freshS L hLf) hDn hLn ?_ ?_ ?_
      · obtain ⟨ol, es, ep, e, d, r⟩ := hn
        exact ⟨ol, es, ep, hk3 L ol hLI e, d, r⟩
      · obtain ⟨n, e⟩ := hpl; exact ⟨n, hk3 D _ hDI e⟩
      · exact hvs.side (I := I) (fun o' e' => by
          rw [hoI] at e'; cases e'
          have hj := Sr.junk _ _ hit
          exact ⟨hj.1, hj.2.1, fun _ q => absurd q hj.2.2.2⟩) hk3
  exact codeAny_compStart_list (loop _) (Sr.self 0 _ _ _ _ hIlt hit₀ (loop _))
theorem CompOk.names {scope : Scope} {env : Env} {x : Str} (ok : CompOk scope env x) : ∀ y ∈ scope.names, y.2 = .local → scope.names.lookup y.1 = some .local := ok.locs
theorem evN_comp {elt iter : Expr} {x : Str} {px : Pos} {ifs : List Expr} {scope : Scope} {pos : Pos} {items : List MV} {p : Nat → Bool} {f : Nat → MV} {res : List MV}
    (hit : EvIt C env σ iter items) (hi : instA σ = []) (h00 : notKey (Str.ofString ".0") σ = true) (ok : CompOk scope env x) (hsz : items.length ≤ 1000000) (hg : env.kindOf (Str.ofString "@acc") = none)
    (tests : ∀ i m cenv D cur, items[i]? = some m → CompEnv scope cenv → EvIfs C cenv ((x, .fz m) :: (Str.ofString "@acc", .own D cur) :: σ) ifs (p i))
    (helt : ∀ i m cenv D cur, items[i]? = some m → p i = true → CompEnv scope cenv → Ev C cenv ((x, .fz m) :: (Str.ofString "@acc", .own D cur) :: σ) elt (f i))
    (hres : compRes items p f items.length = res) (hs : ∀ x, foldedSetIterable iter env x = pure x := by intro _; rfl) :
    EvN C env σ (.ListComp elt [⟨.Name x px, iter, ifs, 0⟩] scope pos) res := fun s R => by
  obtain ⟨cl, hclos, hcl, hcl2⟩ := ok.clos
  rw [eval_ListComp]
  refine wpAny_comprehension_free (use := none) rfl hs hclos ok.kind ok.names (wpAny_mono (hit s R) (fun xv s₁ h₁ => wpAny_mono h₁ (fun it s₂ h₂ => ?_) fun _ _ e => e) fun _ _ e => e)
  refine comp_block (RR := fun acc L => compPost C.M C.A F none _ acc L) R hi h00 ok hclos hcl hcl2 hsz hg tests helt h₂ fun D L h' tk mm vs ks hD hL hDn hLn hn hp hv => ?_
  rw [hres] at hv
  obtain ⟨oL, esL, epL, eL, dL, _⟩ := id hn
  refine ⟨mm, hn, fun h'' hs'' => ⟨D, vs, rfl, ⟨h'', tk, rfl, fun b o e => ?_⟩, hD, hDn, ?_, hv.off eL (fun xs n q => by rw [dL] at q; cases q) (fun ws q => by rw [dL] at q; cases q) hs'' (fun _ z => z)⟩⟩
  · have hbL : b ≠ L := by rintro rfl; rw [hL] at e; cases e
    obtain ⟨k1, o2, k2, k3⟩ := ks b o e
    exact ⟨fun q => hs''.extBut b o hbL (k1 q), o2, hs''.extBut b o2 hbL k2, k3⟩
  · obtain ⟨n, e⟩ := hp
    exact ⟨n, hs''.extBut D _ (by rintro rfl; rw [e] at eL; cases eL; cases dL) e⟩
/-- x = [.. for ..], the stores exchanged -/
theorem ss_compset {elt iter : Expr} {x y : Str} {px py spos : Pos} {ifs : List Expr} {scope : Scope} {pos : Pos} {items : List MV} {p : Nat → Bool} {f : Nat → MV} {res : List MV} {rest : List Stmt} {Q : FM → St → Prop} {σ' : St}
    (hit : EvIt C env σ iter items) (hi : instA σ = []) (h00 : notKey (Str.ofString ".0") σ = true) (ok : CompOk scope env x) (hsz : items.length ≤ 1000000) (hg : env.kindOf (Str.ofString "@acc") = none)
    (tests : ∀ i m cenv D cur, items[i]? = some m → CompEnv scope cenv → EvIfs C cenv ((x, .fz m) :: (Str.ofString "@acc", .own D cur) :: σ) ifs (p i))
    (helt : ∀ i m cenv D cur, items[i]? = some m → p i = true → CompEnv scope cenv → Ev C cenv ((x, .fz m) :: (Str.ofString "@acc", .own D cur) :: σ) elt (f i))
    (hres : compRes items p f items.length = res) (hsw : swapsWith (.ListComp elt [⟨.Name x px, iter, ifs, 0⟩] scope pos) (some (.Name y py)) spos.line env = pure true) (hy : Stores env y) (hB : C.mB = []) (hc : CellsOk env) (hp : sput σ y (.fz (.list res)) = σ') (h : wpSs C env rest σ' Q)
    (hs : ∀ x, foldedSetIterable iter env x = pure x := by intro _; rfl) :
    wpSs C env (.Assign [.Name y py] (.ListComp elt [⟨.Name x px, iter, ifs, 0⟩] scope pos) spos :: rest) σ Q := wpSs_cons fun X s R => by
  obtain ⟨cl, hclos, hcl, hcl2⟩ := ok.clos
  rw [exec_Assign_Name_used _ _ _ _ hsw]
  refine wpAny_bind (wpAny_standAt (wpAny_bind ?_))
  show wpAny _ _ (do let _ ← comprehension (.ListComp elt [⟨.Name x px, iter, ifs, 0⟩] scope pos) scope env _ (newList []) false (eval iter env) (some (assign (.Name y py) env))) _ _ s
  refine wpAny_bind (wpAny_mono (wpAny_comprehension_free (use := some (assign (.Name y py) env)) (Q := fun _ s' => Post C X env (fun fm σ'' => match fm with | .next => wpSs C env rest σ'' Q | fm => Q fm σ'') s .next s') rfl hs hclos ok.kind ok.names
    (wpAny_mono (hit s R.toRelE) (fun xv s₁ h₁ => wpAny_mono h₁ (fun it s₂ h₂ => ?_) fun _ _ e => e) fun _ _ e => e)) (fun _ s' hq => wpAny_pure (wpAny_pure hq)) fun _ _ e => e)
  refine comp_block (RR := fun acc L => compPost C.M C.A F (some (assign (.Name y py) env)) _ acc L) R.toRelE hi h00 ok hclos hcl hcl2 hsz hg tests helt h₂ fun D L h' tk mm vs ks hD hL hDn hLn hn hpD hv => ?_
  rw [hres] at hv
  obtain ⟨oL, esL, epL, eL, dL, kL, fL⟩ := id hn
  have R₁ := R.ks ks
  have hXL : X.get? L = none := by
    cases q : X.get? L with
    | none => rfl
    | some o => obtain ⟨_, o', e', _⟩ := R.keepX L o q (by rw [hB]; simp); rw [hL] at e'; cases e'
  have hLl : L ≠ env.locals := by rintro rfl; obtain ⟨_, o, _, _, e, _⟩ := R.ns; rw [hL] at e; cases e
  have hLF : ∀ e ∈ C.fs, e.frame ≠ some L := fun e he q => by
    obtain ⟨_, L', o, hL', _, ho, _⟩ := R.fr e he
    rw [q] at hL'; cases hL'; rw [hL] at ho; cases ho
  have hDO : D ∉ C.ex σ := fun q => by obtain ⟨o, e⟩ := R.exO D q; rw [hD] at e; cases e
  show wpAny _ _ (assign (.Name y py) env (.ref D)) _ _ _
  -- the comprehension's own names stand beside the frame
  have R₂ : Rel C (hideAll h' (([] : List Addr) ++ hids env σ)) env σ h' := R₁.reX hc hi (J := []) (fun _ h => nomatch h)
  have seeL : (hideAll h' (([] : List Addr) ++ hids env σ)).get? L = some oL := hideAll_get _ eL fun q => by
    rcases List.mem_append.mp q with q | q
    · cases q
    rcases List.mem_cons.mp q with q | q
    · exact hLl q
    rcases List.mem_append.mp q with q | q
    · obtain ⟨z, hz⟩ := lookup_of_mem_apart q
      obtain ⟨⟨v, oc, ec, dc⟩, _⟩ := R₁.cells z L (hc z L hz)
      rw [eL] at ec; cases ec; rw [dL] at dc; cases dc
    · obtain ⟨ws, n, e⟩ := R₁.own L q
      rw [eL] at e; cases e; cases dL
  refine wpAny_assign_Name (store_ (m := .list res) R₂ hy ⟨D, vs, rfl, hDO, hpD.isList, hv.more fun b hb => .inl (List.mem_cons_of_mem _ hb)⟩ fun h3 tk3 R3 => ?_)
  obtain ⟨_, oL3, eL3, dL3, _⟩ := R3.keepX L oL seeL (by rw [hB]; simp)
  have R4 := R₁.backX hc hB (J := []) (fun _ h => nomatch h) R3
  rw [hp] at R4
  refine ⟨mm, ⟨oL3, esL, epL, eL3, dL3.trans dL, kL, fL⟩, fun h'' hs'' => ?_⟩
  have hi' : instA σ' = [] := by rw [← hp]; exact instA_sput_fz hi
  have R5 : Rel C X env σ' h'' := R4.side hi' ⟨hLn, hLl, hLF, fun o e => by
    rw [eL3] at e; cases e
    rw [dL3, dL]
    exact ⟨(fun xs n q => by cases q), (fun v q => by cases q), (fun vs _ q => by cases q)⟩⟩ hXL fun b o hb e => hs''.extBut b o hb e
  exact ⟨h'', tk3, rfl, .next, σ', trivial, R5, h⟩
end
end Mine
namespace Mine
open PySem PySem.W PyProof.Rows PyProof.V PySem.SeqAt
/-- a text cut at a mark, from the left -/
noncomputable def cutS (y : List Nat) : Nat → List Nat → List (List Nat)
  | _, [] => [[]]
  | k + 1, _ :: r => cutS y k r
  | 0, c :: r => if y.isPrefixOf (c :: r) then [] :: cutS y (y.length - 1) r else match cutS y 0 r with | p :: ps => (c :: p) :: ps | [] => [[c]]
noncomputable abbrev cutL (y l : List Nat) : List (List Nat) := cutS y 0 l
noncomputable def joinL (sep : List Nat) : List (List Nat) → List Nat
  | [] => []
  | [x] => x
  | x :: y :: r => x ++ sep ++ joinL sep (y :: r)
theorem cutS_ne (y : List Nat) : ∀ (k : Nat) (l : List Nat), cutS y k l ≠ []
  | 0, [] => by simp [cutS]
  | _ + 1, [] => by simp [cutS]
  | k + 1, _ :: r => by rw [cutS]; exact cutS_ne y k r
  | 0, c :: r => by
    rw [cutS]
    split
    · simp
    · split <;> simp
theorem cutS_skip (y : List Nat) : ∀ (k : Nat) (l : List Nat), cutS y k l = cutS y 0 (l.drop k)
  | 0, l => rfl
  | k + 1, [] => by simp [cutS]
  | k + 1, _ :: r => by rw [cutS, cutS_skip y k r]; rfl
theorem cut_none {y : List Nat} : ∀ {l : List Nat}, (∀ k, k < l.length → ¬ y <+: l.drop k) → cutS y 0 l = [l]
  | [], _ => rfl
  | c :: r, h => by
    have h0 : ¬ y <+: c :: r := h 0 (by simp)
    have hb : y.isPrefixOf (c :: r) = false := by
      cases q : y.isPrefixOf (c :: r) with
      | false => rfl
      | true => exact absurd (List.isPrefixOf_iff_prefix.mp q) h0
    rw [cutS, hb, cut_none (l := r) fun k hk => h (k + 1) (by simp; omega)]
    rfl
theorem cut_first {y : List Nat} (hy : y ≠ []) : ∀ {k : Nat} {l : List Nat}, k < l.length → (∀ j, j < k → ¬ y <+: l.drop j) → y <+: l.drop k → cutS y 0 l = l.take k :: cutS y 0 (l.drop (k + y.length))
  | 0, [], hk, _, _ => by simp at hk
  | 0, c :: r, _, _, h => by
    have hb : y.isPrefixOf (c :: r) = true := List.isPrefixOf_iff_prefix.mpr h
    rw [cutS, hb, if_pos rfl, cutS_skip]
    obtain ⟨a, t, rfl⟩ := List.exists_cons_of_ne_nil hy
    simp
  | k + 1, [], hk, _, _ => by simp at hk
  | k + 1, c :: r, hk, h1, h2 => by
    have h0 : ¬ y <+: c :: r := h1 0 (by omega)
    have hb : y.isPrefixOf (c :: r) = false := by
      cases q : y.isPrefixOf (c :: r) with
      | false => rfl
      | true => exact absurd (List.isPrefixOf_iff_prefix.mp q) h0
    rw [cutS, hb, cut_first hy (k := k) (l := r) (by simpa using hk) (fun j hj => h1 (j + 1) (by omega)) h2]
    have : k + 1 + y.length = (k + y.length) + 1 := by omega
    simp [this]
theorem joinL_cons (sep : List Nat) (c : Nat) (p : List Nat) : ∀ ps, joinL sep ((c :: p) :: ps) = c :: joinL sep (p :: ps)
  | [] => rfl
  | q :: r => by simp [joinL]
theorem joinL_nil (sep p : List Nat) (ps : List (List Nat)) : joinL sep ([] :: p :: ps) = sep ++ joinL sep (p :: ps) := by simp [joinL]
/-- every c turned into b -/
noncomputable def rep1 (c : Nat) (b : List Nat) : List Nat → List Nat
  | [] => []
  | x :: r => if x = c then b ++ rep1 c b r else x :: rep1 c b r
theorem rep1_cut (c : Nat) (b : List Nat) : ∀ l, joinL b (cutS [c] 0 l) = rep1 c b l
  | [] => rfl
  | x :: r => by
    have ih := rep1_cut c b r
    by_cases hx : x = c
    · subst hx
      obtain ⟨p, ps, e⟩ := List.exists_cons_of_ne_nil (cutS_ne [x] 0 r)
      rw [rep1, if_pos rfl, cutS, show [x].isPrefixOf (x :: r) = true by simp [List.isPrefixOf], if_pos rfl]
      show joinL b ([] :: cutS [x] 0 r) = _
      rw [e, joinL_nil, ← e, ih]
    · obtain ⟨p, ps, e⟩ := List.exists_cons_of_ne_nil (cutS_ne [c] 0 r)
      rw [rep1, if_neg hx, cutS, show [c].isPrefixOf (x :: r) = false by simp [List.isPrefixOf, Ne.symm hx], e, if_neg (by decide)]
      show joinL b ((x :: p) :: ps) = _
      rw [joinL_cons, ← e, ih]
noncomputable def rep2 (c d : Nat) (b : List Nat) : List Nat → List Nat
  | [] => []
  | [x] => [x]
  | x :: y :: r => if x = c ∧ y = d then b ++ rep2 c d b r else x :: rep2 c d b (y :: r)
theorem rep2_cut (c d : Nat) (b : List Nat) : ∀ n l, l.length ≤ n → joinL b (cutS [c, d] 0 l) = rep2 c d b l
  | _, [], _ => rfl
  | _, [x], _ => by
    rw [cutS, show [c, d].isPrefixOf [x] = false by simp [List.isPrefixOf]]
    rfl
  | 0, x :: y :: r, h => by simp at h
  | n + 1, x :: y :: r, h => by
    have hr := rep2_cut c d b n r (by simp at h; omega)
    have hyr := rep2_cut c d b n (y :: r) (by simp at h ⊢; omega)
    by_cases hx : x = c ∧ y = d
    · obtain ⟨rfl, rfl⟩ := hx
      obtain ⟨p, ps, e⟩ := List.exists_cons_of_ne_nil (cutS_ne [x, y] 0 r)
      rw [rep2, if_pos ⟨rfl, rfl⟩, cutS, show [x, y].isPrefixOf (x :: y :: r) = true by simp [List.isPrefixOf], if_pos rfl]
      show joinL b ([] :: cutS [x, y] 1 (y :: r)) = _
      rw [cutS, e, joinL_nil, ← e, hr]
    · obtain ⟨p, ps, e⟩ := List.exists_cons_of_ne_nil (cutS_ne [c, d] 0 (y :: r))
      have hb : [c, d].isPrefixOf (x :: y :: r) = false := by
        simp only [List.isPrefixOf, Bool.and_true, Bool.and_eq_false_iff, beq_eq_false_iff_ne]
        by_cases h1 : c = x
        · right; intro h2; exact hx ⟨h1.symm, h2.symm⟩
        · left; exact h1
      rw [rep2, if_neg hx, cutS, hb, e, if_neg (by decide)]
      show joinL b ((x :: p) :: ps) = _
      rw [joinL_cons, ← e, hyr]
theorem at_iff {l y : List Nat} {k : Nat} (hy : y ≠ []) : StrLaws.At (mk l) (mk y) (mk l).length k ↔ k < l.length ∧ y <+: l.drop k := by
  unfold StrLaws.At
  rw [StrLaws.subAt_eq, mk_length, mk_length, mk_toList, mk_toList]
  have hpos : 0 < y.length := List.length_pos_iff.mpr hy
  constructor
  · rintro ⟨h1, h2⟩
    refine ⟨by omega, ?_⟩
    have := eq_of_beq h2
    rw [← this]
    exact List.take_prefix _ _
  · rintro ⟨h1, t, h2⟩
    have hl := congrArg List.length h2
    simp at hl
    refine ⟨by omega, ?_⟩
    rw [← h2]
    simp
theorem strSub_mk (l : List Nat) (i j : Nat) : Builtin.Str.strSub (mk l) i j = mk ((l.drop i).take (j - i)) := by
  have := StrLaws.strSub_toList (mk l) i j
  rw [mk_toList] at this
  exact StrLaws.mk_of_toList this
theorem parts_cut {l y : List Nat} (hy : y ≠ []) : ∀ (cuts : List Nat) (a f : Nat), a ≤ l.length → StrLaws.ChainG (mk l) (mk y) (mk l).length a cuts f → (∀ k, f ≤ k → ¬ StrLaws.At (mk l) (mk y) (mk l).length k) → StrLaws.partsFrom (mk l) (mk y).length a cuts = (cutS y 0 (l.drop a)).map mk
  | [], a, f, ha, h, hn => by
    have e : f = a := h
    subst e
    rw [StrLaws.partsFrom, strSub_mk, mk_length, cut_none, List.map_singleton]
    · congr 2
      rw [List.take_of_length_le]; simp
    · intro k hk q
      rw [List.length_drop] at hk
      rw [List.drop_drop] at q
      exact hn (f + k) (by omega) ((at_iff hy).mpr ⟨by omega, q⟩)
  | c :: r, a, f, ha, h, hn => by
    obtain ⟨h1, h2, h3, h4⟩ := h
    obtain ⟨hc, hp⟩ := (at_iff hy).mp h2
    have hle : c + y.length ≤ l.length := by
      have := h2.1
      rwa [mk_length, mk_length] at this
    rw [StrLaws.partsFrom, parts_cut hy r (c + (mk y).length) f (by rw [mk_length]; exact hle) h4 hn, strSub_mk]
    rw [cut_first hy (k := c - a) (l := l.drop a) (by rw [List.length_drop]; omega) ?_ ?_]
    · rw [List.map_cons, List.drop_drop, mk_length, show a + (c - a + y.length) = c + y.length by omega]
    · intro j hj q
      rw [List.drop_drop] at q
      exact h3 (a + j) (by omega) (by omega) ((at_iff hy).mpr ⟨by omega, q⟩)
    · rw [List.drop_drop, show a + (c - a) = c by omega]; exact hp
theorem between_cut (l y : List Nat) (hy : y ≠ []) : Builtin.Str.partsBetween (mk l) (Builtin.Str.occurrences (mk l) (mk y) 0 (mk l).length ((mk l).length + 1)) (mk y).length = (cutL y l).map mk := by
  obtain ⟨f, h1, h2⟩ := StrLaws.occ_tight (mk l) (mk y) (by rw [mk_length]; exact List.length_pos_iff.mpr hy)
  rw [StrLaws.partsBetween_eq, parts_cut hy _ 0 f (Nat.zero_le _) h1 h2]
  rfl
theorem occ_empty {l y : List Nat} (hy : y ≠ []) (h : (Builtin.Str.occurrences (mk l) (mk y) 0 (mk l).length ((mk l).length + 1)).isEmpty = true) : cutL y l = [l] := by
  have := between_cut l y hy
  rw [List.isEmpty_iff.mp h, StrLaws.partsBetween_eq, StrLaws.partsFrom, StrLaws.sub_whole] at this
  have h2 := congrArg (List.map (fun x : Str => x.cps.toList)) this
  simpa [Function.comp_def] using h2.symm
theorem join_mk (sep : List Nat) : ∀ ls : List (List Nat), Str.join (mk sep) (ls.map mk) = mk (joinL sep ls)
  | [] => rfl
  | [x] => rfl
  | x :: y :: r => by
    show mk x ++ mk sep ++ Str.join (mk sep) ((y :: r).map mk) = _
    rw [join_mk sep (y :: r), mk_append, mk_append]
    rfl
theorem replace_mk (l a b : List Nat) (ha : a ≠ []) : Txt.replace (mk l) (mk a) (mk b) = mk (joinL b (cutL a l)) := by
  unfold Txt.replace
  have h0 : ((mk a).length == 0) = false := by
    rw [mk_length]
    cases a with
    | nil => exact absurd rfl ha
    | cons _ _ => rfl
  rw [h0, Bool.false_and, Bool.or_false]
  split
  · rename_i h
    rw [occ_empty ha h]; rfl
  · rw [between_cut l a ha, StrLaws.glued_eq_join, join_mk]
theorem count_mk (l : List Nat) (c : Nat) : Txt.count (mk l) (mk [c]) = ((l.count c : Nat) : Int) := by
  have key : (Builtin.Str.occurrences (mk l) (mk [c]) 0 (mk l).length ((mk l).length + 1)).length + 1 = (cutL [c] l).length := by
    have := congrArg List.length (between_cut l [c] (by simp))
    rw [List.length_map] at this
    rw [← this]
    have gen : ∀ (cuts : List Nat) (a : Nat), (StrLaws.partsFrom (mk l) (mk [c]).length a cuts).length = cuts.length + 1 := by
      intro cuts
      induction cuts with
      | nil => intro a; rfl
      | cons x r ih => intro a; rw [StrLaws.partsFrom, List.length_cons, ih]; rfl
    rw [StrLaws.partsBetween_eq, gen]
  have cnt : ∀ l : List Nat, (cutS [c] 0 l).length = l.count c + 1 := by
    intro l
    induction l with
    | nil => rfl
    | cons x r ih =>
      obtain ⟨p, ps, e⟩ := List.exists_cons_of_ne_nil (cutS_ne [c] 0 r)
      by_cases hx : x = c
      · subst hx
        rw [cutS, show [x].isPrefixOf (x :: r) = true by simp [List.isPrefixOf], if_pos rfl, List.count_cons_self]
        show (cutS [x] 0 r).length + 1 = _
        rw [ih]
      · rw [cutS, show [c].isPrefixOf (x :: r) = false by simp [List.isPrefixOf, Ne.symm hx], e, if_neg (by decide), List.count_cons_of_ne (by simpa using hx)]
        show (ps.length + 1) = _
        rw [← ih, e]; rfl
  have := cnt l
  unfold Txt.count
  rw [show (Builtin.Str.occurrences (mk l) (mk [c]) 0 (mk l).length ((mk l).length + 1)).length = l.count c by have := cnt l; unfold cutL at key; omega]
theorem cutS_len (y : List Nat) : ∀ (k : Nat) (l : List Nat), (cutS y k l).length ≤ l.length + 1
  | 0, [] => by simp [cutS]
  | _ + 1, [] => by simp [cutS]
  | k + 1, _ :: r => by rw [cutS]; have := cutS_len y k r; simp; omega
  | 0, c :: r => by
    rw [cutS]
    split
    · have := cutS_len y (y.length - 1) r; simp; omega
    · have := cutS_len y 0 r
      split
      · rename_i e; rw [e] at this; simp at *; omega
      · simp
theorem split_mk (l y : List Nat) (hy : y ≠ []) : (Txt.split (mk l) (mk y) = (cutL y l).map mk) ∨ (decide ((mk l).length < (mk y).length) || decide (Builtin.Str.strKind (mk l) < Builtin.Str.strKind (mk y))) = true := by
  unfold Txt.split
  split
  · rename_i h; exact .inr h
  · left
    split
    · rename_i h; rw [occ_empty hy h]; rfl
    · exact between_cut l y hy
theorem kind_one {l : List Nat} {c : Nat} (h : (decide ((mk l).length < (mk [c]).length) || decide (Builtin.Str.strKind (mk l) < Builtin.Str.strKind (mk [c]))) = true) : c ∉ l := by
  rw [Bool.or_eq_true] at h
  rcases h with h | h
  · have := of_decide_eq_true h
    rw [mk_length, mk_length] at this
    simp at this
    subst this; simp
  · have := StrLaws.kind_free (mk l) c (of_decide_eq_true h)
    rwa [mk_toList] at this
theorem cut_free {c : Nat} {l : List Nat} (h : c ∉ l) : cutL [c] l = [l] := cut_none fun k hk q => by
  obtain ⟨t, ht⟩ := q
  exact h (List.mem_of_mem_drop (i := k) (by rw [← ht]; simp))
theorem split_one (l : List Nat) (c : Nat) : Txt.split (mk l) (mk [c]) = (cutL [c] l).map mk := by
  rcases split_mk l [c] (by simp) with h | h
  · exact h
  · rw [cut_free (kind_one h)]
    unfold Txt.split
    rw [if_pos h]; rfl
section
variable {C : Cx} {env : Env} {σ : St}
/-- text.replace(old, new), the two with marks of their own -/
theorem fn_replace {l a b : List Nat} {t u : Tok} (ha : a ≠ []) (hab : a ≠ b) (ht : t ≠ 0) (hu : u ≠ 0) (htu : t ≠ u) (hl : l.length ≤ 100000) (hb : b.length ≤ 20) : Fn C (.builtin "str.replace") [tx l, .obj (.str (mk a) t), .obj (.str (mk b) u)] (tx (joinL b (cutL a l))) := fun s O vals _ hv => by
  obtain ⟨v, r, rfl, ⟨tv, rfl⟩, v2, r2, rfl, rfl, v3, r3, rfl, rfl, rfl⟩ := hv
  refine SC.replace ht hu htu (by simpa using hab) (by rw [mk_length, mk_length]; have : (l.length + 1) * b.length ≤ (l.length + 1) * 20 := Nat.mul_le_mul_left _ hb; omega) fun t' k => ⟨.tok s _, t', ?_⟩
  rw [replace_mk l a b ha]
theorem strs_vins {h : Heap} {O : List Addr} : ∀ {ls : List (List Nat)} {l : List (Str × Tok)}, l.map (·.1) = ls.map mk → VIns h O (ls.map tx) (strValues l)
  | [], [], _ => rfl
  | [], _ :: _, e => by simp at e
  | _ :: _, [], e => by simp at e
  | x :: ls, (y, t) :: l, e => by
    simp only [List.map_cons, List.cons.injEq] at e
    exact ⟨.str y t, strValues l, rfl, ⟨t, by rw [e.1]⟩, strs_vins e.2⟩
theorem vins_strs {h : Heap} {O : List Addr} : ∀ {ls : List (List Nat)} {vs : List Value}, VIns h O (ls.map tx) vs → ∃ l : List (Str × Tok), vs = strValues l ∧ l.map (·.1) = ls.map mk
  | [], vs, x => ⟨[], x, rfl⟩
  | x :: ls, vs, hx => by
    obtain ⟨v, r, rfl, ⟨t, rfl⟩, q⟩ := hx
    obtain ⟨l, rfl, e⟩ := vins_strs q
    exact ⟨(mk x, t) :: l, rfl, by simp [e]⟩
theorem fn_split1 {l : List Nat} {c : Nat} (hl : l.length ≤ 1000000) : Fn C (.builtin "str.split") [tx l, tx [c]] (.list ((cutL [c] l).map tx)) := fun s O vals hO hv => by
  obtain ⟨v, r, rfl, ⟨tv, rfl⟩, v2, r2, rfl, ⟨tu, rfl⟩, rfl⟩ := hv
  have hcut := cutS_len [c] 0 l
  have hsp := split_one l c
  have fin : ∀ (ll : List (Str × Tok)) (k : Nat), ll.map (·.1) = Txt.split (mk l) (mk [c]) → KSs [] s { s with toks := k, heap := s.heap.push { cls := .type "list", data := .seq (strValues ll).toArray } } ∧ VIn (s.heap.push { cls := .type "list", data := .seq (strValues ll).toArray }) O (.list ((cutL [c] l).map tx)) (.ref s.heap.objs.size) := fun ll k e =>
    ⟨⟨_, k, rfl, .of_keep fun _ _ e => Heap.get?_push_of_some _ e⟩, newL hO (strs_vins (by rw [e, hsp]))⟩
  have hsz : (mk l).length ≤ sizeLine := by rw [mk_length, sizeLine_eq]; omega
  have hsz2 : (Builtin.Str.partsBetween (mk l) (Builtin.Str.occurrences (mk l) (mk [c]) 0 (mk l).length ((mk l).length + 1)) (mk [c]).length).length ≤ sizeLine := by
    rw [between_cut l [c] (by simp), List.length_map, sizeLine_eq]; unfold cutL; omega
  cases h1 : (decide ((mk l).length < (mk [c]).length) || decide (Builtin.Str.strKind (mk l) < Builtin.Str.strKind (mk [c])))
  · cases hf : (Builtin.Str.occurrences (mk l) (mk [c]) 0 (mk l).length ((mk l).length + 1)).isEmpty
    · refine call_meets F.slot_str_split (typeIs_str _ _ _) F.entry_str_split (F.args_str_split_2 _ _) (meets_str_split_sep (mk l) (mk [c]) tv tu h1 rfl hf hsz hsz2) ?_
      show wants _ _ _ { s with toks := _, heap := s.heap.push { cls := .type "list", data := .seq (strsFrom s.toks (Builtin.Str.partsBetween (mk l) (Builtin.Str.occurrences (mk l) (mk [c]) 0 (mk l).length ((mk l).length + 1)) (mk [c]).length)).toArray } }
      rw [strsFrom_eq]
      exact fin (numbered s.toks _) _ ((numbered_texts _ _).trans ((if_neg (ne_true_of_eq_false h1)).trans (if_neg (ne_true_of_eq_false hf))).symm)
    · exact call_meets F.slot_str_split (typeIs_str _ _ _) F.entry_str_split (F.args_str_split_2 _ _) (meets_str_split_not_found (mk l) (mk [c]) tv tu h1 rfl hf) (fin [(mk l, tv)] s.toks ((if_neg (ne_true_of_eq_false h1)).trans (if_pos hf)).symm)
  · exact call_meets F.slot_str_split (typeIs_str _ _ _) F.entry_str_split (F.args_str_split_2 _ _) (meets_str_split_cannot_occur (mk l) (mk [c]) tv tu h1) (fin [(mk l, tv)] s.toks (if_pos h1).symm)
theorem joinFit {sep : List Nat} {ls : List (List Nat)} {B : Nat} (hB : ∀ y ∈ ls, y.length ≤ B) (h : ls.length * B + ls.length * sep.length ≤ 16777216) : JoinOk (mk sep) (ls.map mk) = true := by
  have := StrLaws.joinFits (sep := mk sep) (texts := ls.map mk) (B := B) (fun y hy => by
    obtain ⟨x, hx, rfl⟩ := List.mem_map.mp hy
    rw [mk_length]; exact hB x hx) (by rw [List.length_map, mk_length]; exact h)
  first
    | exact this
    | (unfold JoinOk; simpa using this)
theorem fn_join {sep : List Nat} {ls : List (List Nat)} (hok : JoinOk (mk sep) (ls.map mk) = true) : Fn C (.builtin "str.join") [tx sep, .list (ls.map tx)] (tx (joinL sep ls)) := fun s O vals hO hv => by
  obtain ⟨v, r, rfl, ⟨tv, rfl⟩, v2, r2, rfl, ⟨a, vs, rfl, hl, q⟩, rfl⟩ := hv
  obtain ⟨l, rfl, e⟩ := vins_strs q
  refine SC.join hl e hok fun t' k => ⟨.tok s _, t', ?_⟩
  show Value.str (Builtin.Str.glued (mk sep) (ls.map mk)) t' = _
  rw [StrLaws.glued_eq_join, join_mk]
theorem fn_count {l : List Nat} {c : Nat} : Fn C (.builtin "str.count") [tx l, tx [c]] (.int (l.count c : Nat)) := fun s O vals hO hv => by
  obtain ⟨v, r, rfl, ⟨tv, rfl⟩, v2, r2, rfl, ⟨tu, rfl⟩, rfl⟩ := hv
  exact SC.count (by rw [count_mk]; exact ⟨.tok s _, _, rfl⟩)
theorem m_replace {l : List Nat} : MethAt C (Str.ofString "replace") (tx l) "str.replace" := fun s O va hv pl Q h => by obtain ⟨t, rfl⟩ := hv; exact GM.replace h
theorem m_split {l : List Nat} : MethAt C (Str.ofString "split") (tx l) "str.split" := fun s O va hv pl Q h => by obtain ⟨t, rfl⟩ := hv; exact GM.split h
theorem m_join {l : List Nat} : MethAt C (Str.ofString "join") (tx l) "str.join" := fun s O va hv pl Q h => by obtain ⟨t, rfl⟩ := hv; exact GM.join h
theorem m_count {l : List Nat} : MethAt C (Str.ofString "count") (tx l) "str.count" := fun s O va hv pl Q h => by obtain ⟨t, rfl⟩ := hv; exact GM.count h
theorem fn_chr {i : Int} (h0 : 0 ≤ i) (h1 : i ≤ 1114111) : Fn C (.builtin "chr") [.int i] (tx [i.toNat]) := fun s O vals hO hv => by
  obtain ⟨v, r, rfl, ⟨tv, rfl⟩, rfl⟩ := hv
  exact chr_of_range h0 h1 ⟨.tok s _, _, rfl⟩
end
mutual
noncomputable def dat : MV → PyData
  | .none => .none
  | .bool b => .bool b
  | .int i => .int i
  | .str x => .str x
  | .list xs => .list (dats xs)
  | .tuple xs => .tuple (dats xs)
  | .obj _ => .none
  | .deq => .none
noncomputable def dats : List MV → List PyData
  | [] => []
  | x :: xs => dat x :: dats xs
end
mutual
noncomputable def isDat : MV → Bool
  | .list xs => isDats xs
  | .tuple xs => isDats xs
  | .obj _ => false
  | .deq => false
  | _ => true
noncomputable def isDats : List MV → Bool
  | [] => true
  | x :: xs => isDat x && isDats xs
end
mutual
theorem reads_of {h : Heap} {O : List Addr} : ∀ {m : MV} {v : Value}, isDat m = true → VIn h O m v → ∃ as, Reads h v (dat m) as
  | .none, _, _, e => by cases e; exact ⟨_, by rw [dat]; exact .none⟩
  | .bool b, _, _, e => by cases e; exact ⟨_, by rw [dat]; exact .bool b⟩
  | .int i, _, _, e => by obtain ⟨t, rfl⟩ := e; exact ⟨_, by rw [dat]; exact .int i t⟩
  | .str x, _, _, e => by obtain ⟨t, rfl⟩ := e; exact ⟨_, by rw [dat]; exact .str x t⟩
  | .list xs, _, d, e => by
    obtain ⟨a, vs, rfl, _, ⟨o, ho, hc, n, hd⟩, q⟩ := e
    rw [isDat] at d
    obtain ⟨as, r⟩ := readsAll_of d q
    exact ⟨_, by rw [dat]; exact .list ho hc hd (by simpa using r)⟩
  | .tuple xs, _, d, e => by
    obtain ⟨a, vs, rfl, _, ⟨o, ho, hc, n, hd⟩, q⟩ := e
    rw [isDat] at d
    obtain ⟨as, r⟩ := readsAll_of d q
    exact ⟨_, by rw [dat]; exact .tuple ho hc hd (by simpa using r)⟩
  | .obj _, _, d, _ => by rw [isDat] at d; cases d
  | .deq, _, d, _ => by rw [isDat] at d; cases d
theorem readsAll_of {h : Heap} {O : List Addr} : ∀ {ms : List MV} {vs : List Value}, isDats ms = true → VIns h O ms vs → ∃ as, ReadsAll h vs (dats ms) as
  | [], _, _, e => by rw [show _ = [] from e]; exact ⟨_, by rw [dats]; exact .nil⟩
  | m :: ms, _, d, ⟨v, r, e, a, b⟩ => by
    rw [isDats, Bool.and_eq_true] at d
    obtain ⟨as, ra⟩ := reads_of d.1 a
    obtain ⟨bs, rb⟩ := readsAll_of d.2 b
    rw [e]
    exact ⟨_, by rw [dats]; exact .cons ra rb⟩
end
theorem reads_t {h : Heap} {O : List Addr} {m : MV} {v : Value} (d : isDat m = true) (e : VT h O m v) : ∃ as, Reads h v (dat m) as := by
  cases m with
  | list xs =>
    obtain ⟨a, vs, rfl, ⟨o, ho, hc, n, hd⟩, q⟩ := e
    rw [isDat] at d
    obtain ⟨as, r⟩ := readsAll_of d q
    exact ⟨_, by rw [dat]; exact .list ho hc hd (by simpa using r)⟩
  | _ => exact reads_of (O := O) d e
theorem eq_dat {C : Cx} {m m' : MV} (d : isDat m = true) (d' : isDat m' = true) (hs : shaped (dat m) = true) (hs' : shaped (dat m') = true) (hm : noMix (dat m) (dat m') = true) : Cmp C .Eq m m' (PySem.Spec.same (dat m) (dat m')) := fun s O va vb _ ha hb => by
  obtain ⟨as, ra⟩ := reads_t d ha
  obtain ⟨bs, rb⟩ := reads_t d' hb
  exact eq_dataH_same ra rb hs hs' (by have := C.hu; have := C.hl; unfold cLine; omega) hm ⟨.refl s, rfl⟩
theorem ne_dat {C : Cx} {m m' : MV} (d : isDat m = true) (d' : isDat m' = true) (hs : shaped (dat m) = true) (hs' : shaped (dat m') = true) (hm : noMix (dat m) (dat m') = true) : Cmp C .NotEq m m' (!PySem.Spec.same (dat m) (dat m')) := fun s O va vb _ ha hb => by
  obtain ⟨as, ra⟩ := reads_t d ha
  obtain ⟨bs, rb⟩ := reads_t d' hb
  exact ne_dataH_same ra rb hs hs' (by have := C.hu; have := C.hl; unfold cLine; omega) hm ⟨.refl s, rfl⟩
section
variable {C : Cx} {env : Env} {σ : St}
theorem add_list_ {xs ys : List MV} (hsz : xs.length + ys.length ≤ 1000000) : Bin C .Add (.list xs) (.list ys) (.list (xs ++ ys)) := fun s O va vb hO ha hb => by
  obtain ⟨a, vs, rfl, l, q⟩ := ha
  obtain ⟨b, ws, rfl, l2, q2⟩ := hb
  have e1 := q.length
  have e2 := q2.length
  obtain ⟨⟨cls, dd, data, sl⟩, ho, hc, n, hd⟩ := l
  obtain ⟨⟨cls2, dd2, data2, sl2⟩, ho2, hc2, n2, hd2⟩ := l2
  simp only at hc hd hc2 hd2
  subst hc hd hc2 hd2
  have e : vs.toArray ++ ws.toArray = (vs ++ ws).toArray := by simp
  refine concat_meets ⟨_, ho, rfl⟩ ⟨_, ho2, rfl⟩ noFill_list_add seq_list_add PySem.F.slot_list_add PySem.F.entry_list_add (PySem.F.args_list_add_2 _ _) (list_addW a b vs.toArray ws.toArray n n2 dd dd2 sl sl2 (by rw [List.size_toArray, List.size_toArray, sizeLine_eq]; omega)) ⟨ho, ho2, ?_⟩
  rw [e]
  exact ⟨keeps_push _, newL hO (q.append q2)⟩
theorem flat_rep {α : Type} (items : Array α) : ∀ k, List.foldl (fun x1 x2 => x1 ++ x2) #[] (List.replicate k items) = ((List.replicate k items.toList).flatten).toArray := by
  have gen : ∀ (k : Nat) (acc : Array α), List.foldl (fun x1 x2 => x1 ++ x2) acc (List.replicate k items) = acc ++ ((List.replicate k items.toList).flatten).toArray := by
    intro k
    induction k with
    | zero => intro acc; simp
    | succ k ih => intro acc; rw [List.replicate_succ, List.foldl_cons, ih, List.replicate_succ, List.flatten_cons]; apply Array.ext'; simp
  intro k
  rw [gen]; simp
theorem VIns.rep {h : Heap} {O : List Addr} {ms : List MV} {vs : List Value} (x : VIns h O ms vs) : ∀ k, VIns h O (List.replicate k ms).flatten (List.replicate k vs).flatten
  | 0 => rfl
  | k + 1 => by rw [List.replicate_succ, List.replicate_succ, List.flatten_cons, List.flatten_cons]; exact x.append (VIns.rep x k)
theorem mulA {x : Int} (h0 : 0 ≤ x) (hk : x ≤ 1000) : ¬ (!Builtin.List.listFitsIndex x) = true := by
  unfold Builtin.List.listFitsIndex
  have a1 : (-(2 ^ 63 : Int) ≤ x) := by omega
  have a2 : (x < 2 ^ 63) := by omega
  simp only [a1, a2, decide_true, Bool.and_self, Bool.not_true, Bool.false_eq_true, not_false_eq_true]
theorem mulB {vs : List Value} {xs : List MV} {x : Int} (e : vs.length = xs.length) (hx : xs.length ≤ 1000) (hk : x ≤ 1000) : vs.toArray.size * x.toNat ≤ 1000000 := by
  rw [List.size_toArray, e]
  have h2 : x.toNat ≤ 1000 := by omega
  exact Nat.mul_le_mul hx h2
theorem mulC {n : Nat} (h : n ≤ 1000000) : ¬ Builtin.List.listTooLong n = true := by
  unfold Builtin.List.listTooLong
  rw [sizeLine_eq]
  have : ¬ (n > 16777216) := by omega
  rw [decide_eq_false this]; decide
theorem mul_plain {prog : Program} {w : World} {A : Around} {E : Value → Shared → Prop} {s : Shared} {l : Addr} {items : Array Value} {k : Nat} {x : Int} {u : Tok} {Q : Value → Shared → Prop}
    (hl : s.heap.get? l = some { cls := .type "list", dict := none, data := .seq items k, slots := #[] }) (h0 : 0 ≤ x) (hk : x ≤ 1000) (hsz : items.size * x.toNat ≤ 1000000)
    (h : Q (.ref s.heap.objs.size) { s with heap := s.heap.push { cls := .type "list", data := .seq (List.foldl (fun x1 x2 => x1 ++ x2) #[] (List.replicate (if items.isEmpty = true then 0 else x.toNat) items)) } }) :
    wpAny (model prog w) A (binaryOp .Mult (.ref l) (.int x u)) Q E s :=
  wpAny_binaryOp_repeat_ref (T := "list") (U := "int") (by decide) ⟨_, hl, rfl⟩ (fun s' => typeIs_int s' x u) noFill_list_mul F.fills_int_mul F.slot_int_rmul repeat_list F.slot_int_index.lookup
    (call_meets F.slot_int_rmul (typeIs_int s x u) F.entry_int_rmul (F.args_int_rmul_2 _ _) (int___rmul___int_list x u l items k)
      ⟨hl, rfl, ⟨_, hl, rfl⟩, call_meets F.slot_list_mul ⟨_, hl, rfl⟩ F.entry_list_mul (F.args_list_mul_2 _ _)
        (AutoListH.list___mul___list_int_3 l items k x u (mulA h0 hk) (by omega) (mulC hsz)) ⟨hl, h⟩⟩)
/-- [..] * k -/
theorem evN_mul {e e2 : Expr} {p : Pos} {xs : List MV} {k : Nat} (h : EvN C env σ e xs) (h2 : Ev C env σ e2 (.int k)) (hk : k ≤ 1000) (hx : xs.length ≤ 1000) : EvN C env σ (.BinOp e .Mult e2 p) ((List.replicate k xs).flatten) := fun s R => by
  refine wpAny_BinOp (wpAny_mono (h s R) (fun va s₁ h₁ => ?_) fun _ _ h => h)
  obtain ⟨a, vs, rfl, k₁, hf, hn, hp, hv⟩ := h₁
  have R₁ := R.ks k₁.ks
  refine wpAny_mono (h2 s₁ R₁) (fun vb s₂ h₂ => ?_) fun _ _ h => h
  obtain ⟨k₂, u, rfl⟩ := h₂
  have R₂ := R₁.ks k₂.ks
  obtain ⟨n, hpe⟩ := hp
  have hl := (k₂.ks a _ hpe).1 (R₁.notS hpe (fun es ep => by simp))
  have hlen := hv.length
  refine mul_plain hl (by omega) (by omega) (mulB hlen hx (by omega)) ?_
  have e : List.foldl (fun x1 x2 => x1 ++ x2) #[] (List.replicate (if vs.toArray.isEmpty = true then 0 else (k : Int).toNat) vs.toArray) = ((List.replicate k vs).flatten).toArray := by
    rw [flat_rep]
    cases vs with
    | nil => simp
    | cons v r => simp
  rw [e]
  refine ⟨s₂.heap.objs.size, (List.replicate k vs).flatten, rfl, (k₁.trans k₂).trans (keeps_push _), ?_, C.G.low _ R₂.base, ⟨_, Heap.get?_push_size _ rfl⟩, ?_⟩
  · cases q : s.heap.get? s₂.heap.objs.size with
    | none => rfl
    | some o => obtain ⟨_, o', e', _⟩ := (k₁.trans k₂).ks _ o q; exact absurd (Heap.lt_size e') (Nat.lt_irrefl _)
  · have := (hv.ks k₂.ks).rep k
    exact (this.more (O' := s₂.heap.objs.size :: C.ex σ) fun b hb => (List.mem_cons.mp hb).elim (fun z => .inr (z ▸ Heap.get?_none_of_le (Nat.le_refl _))) fun z => .inl (List.mem_cons_of_mem _ z)).ks (keeps_push (S := []) (s := s₂) _).ks
end
end Mine
namespace Mine
open PySem PySem.W PyProof.Rows
section
variable {C : Cx} {env : Env} {σ : St}
/-- code that runs once a value has been made -/
noncomputable def wpP (C : Cx) (env : Env) (sts : List Stmt) (σ : St) (Q : FM → St → Prop) : Prop :=
  ∀ X s, 0 < s.toks → Rel C X env σ s.heap → wpAny C.M C.A (execs sts env) (Post C X env Q s) F s
noncomputable def wpSP (C : Cx) (env : Env) (st : Stmt) (σ : St) (Q : FM → St → Prop) : Prop :=
  ∀ X s, 0 < s.toks → Rel C X env σ s.heap → wpAny C.M C.A (exec st env) (Post C X env Q s) F s
theorem wpP_of {sts : List Stmt} {Q : FM → St → Prop} (h : wpSs C env sts σ Q) : wpP C env sts σ Q := fun X s _ R => h X s R
theorem wpSP_of {st : Stmt} {Q : FM → St → Prop} (h : wpS C env st σ Q) : wpSP C env st σ Q := fun X s _ R => h X s R
theorem wpP_nil {Q : FM → St → Prop} (h : Q .next σ) : wpP C env [] σ Q := wpP_of (wpSs_nil h)
theorem wpP_consP {st : Stmt} {sts : List Stmt} {Q : FM → St → Prop} (h : wpSP C env st σ fun fm σ' => match fm with | .next => wpP C env sts σ' Q | fm => Q fm σ') : wpP C env (st :: sts) σ Q := fun X s hp R => by
  refine wpAny_execs_cons (wpAny_mono (wpAny_toks (h X s hp R)) (fun fl s' p => ?_) fun _ _ h => h.2)
  obtain ⟨ht, h', tk, rfl, fm, σ', fr, R', q⟩ := p
  cases fl with
  | next =>
    cases fm with
    | next =>
      refine wpAny_mono (q X _ (Nat.lt_of_lt_of_le hp ht) R') (fun fl2 s2 p2 => ?_) fun _ _ h => h
      obtain ⟨h2, tk2, rfl, r⟩ := p2
      exact ⟨h2, tk2, rfl, r⟩
    | _ => exact fr.elim
  | brk => cases fm <;> first | exact fr.elim | exact ⟨h', tk, rfl, _, σ', fr, R', q⟩
  | cont => cases fm <;> first | exact fr.elim | exact ⟨h', tk, rfl, _, σ', fr, R', q⟩
  | ret v => cases fm <;> first | exact fr.elim | exact ⟨h', tk, rfl, _, σ', fr, R', q⟩
theorem wpP_cons {st : Stmt} {sts : List Stmt} {Q : FM → St → Prop} (h : wpS C env st σ fun fm σ' => match fm with | .next => wpP C env sts σ' Q | fm => Q fm σ') : wpP C env (st :: sts) σ Q := wpP_consP (wpSP_of h)
/-- a name's first store makes a value -/
theorem ssP_first {x : Str} {p' p : Pos} {e : Expr} {m : MV} {rest : List Stmt} {Q : FM → St → Prop} {σ' : St} (he : Ev C env σ e m) (hk : env.kindOf x = some .local) (hs : swapsWith e (some (.Name x p')) p.line env = pure false) (hp : sput σ x (.fz m) = σ') (h : wpP C env rest σ' Q) : wpSs C env (.Assign [.Name x p'] e p :: rest) σ Q := fun X s R => by
  refine wpAny_execs_cons (wpAny_Assign_Name (wpAny_mono (he s R.toRelE) (fun v s₁ h₁ => ?_) fun _ _ h => h.elim) hs)
  obtain ⟨⟨h1, tk1, rfl, k⟩, hv⟩ := h₁
  have R₁ := R.ks k
  obtain ⟨mm, hn⟩ := R₁.ns
  refine wpAny_storeName_local hk hn (fun h' hn' hs' => ?_) (by rw [R₁.kind]; rfl)
  have R₂ := R₁.putLocal hk hn hn' hs' hv
  rw [hp] at R₂
  refine wpAny_mono (h X _ (Nat.succ_pos _) R₂) (fun fl s2 p2 => ?_) fun _ _ h => h
  obtain ⟨h2, tk2, rfl, r⟩ := p2
  exact ⟨h2, tk2, rfl, r⟩
/-- a fresh list's first store -/
theorem ssP_own {x : Str} {p' p : Pos} {e : Expr} {ms : List MV} {rest : List Stmt} {Q : FM → St → Prop} (he : EvN C env σ e ms) (hk : env.kindOf x = some .local) (hs : swapsWith e (some (.Name x p')) p.line env = pure false) (hB : C.mB = []) (hi : instA σ = []) (hg : env.kindOf (Str.ofString "@own") = none) (hxg : (x == Str.ofString "@own") = false) (hkn : notKey (Str.ofString "@own") σ = true)
    (h : ∀ a, ∃ σ', sput σ x (.own a ms) = σ' ∧ wpP C env rest σ' Q) : wpSs C env (.Assign [.Name x p'] e p :: rest) σ Q := fun X s R => by
  refine wpAny_execs_cons (wpAny_Assign_Name (wpAny_mono (he s R.toRelE) (fun v s₁ h₁ => ?_) fun _ _ h => h.elim) hs)
  obtain ⟨a, vs, rfl, k, hf, hn, hp, hv⟩ := h₁
  have R₁ := R.joinOwn k.ks hf hn hp hv hB hg
  have hne : Str.ofString "@own" ≠ x := fun q => by rw [← q] at hxg; simp at hxg
  have hnone : sget σ (Str.ofString "@own") = none := by
    cases q : sget σ (Str.ofString "@own") with
    | none => rfl
    | some b => exact absurd rfl (notKey_ hkn (sget_mem q))
  obtain ⟨h1, t1, rfl, _⟩ := k
  obtain ⟨mm, hnn⟩ := R₁.ns
  refine wpAny_storeName_local hk hnn (fun h' hn' hs' => ?_) (by rw [R₁.kind]; rfl)
  have R' := R₁.putLocal (m := .obj (.ref a)) hk hnn hn' hs' rfl
  rw [sput_there (by simpa using hne) rfl] at R'
  have R₂ := R'.thaw hne hi hg hnone
  obtain ⟨σ', e, q⟩ := h a
  rw [e] at R₂
  refine wpAny_mono (q X _ (Nat.succ_pos _) R₂) (fun fl s2 p2 => ?_) fun _ _ h => h
  obtain ⟨h2, tk2, rfl, r⟩ := p2
  exact ⟨h2, tk2, rfl, r⟩
/-- an expression once a value has been made -/
noncomputable def EvQ (C : Cx) (env : Env) (σ : St) (e : Expr) (m : MV) : Prop :=
  ∀ s, 0 < s.toks → RelE C env σ s.heap → wpAny C.M C.A (eval e env) (fun v s' => KSs C.S s s' ∧ VIn s'.heap (C.ex σ) m v) F s
noncomputable def EvX (C : Cx) (env : Env) (σ : St) (e : Expr) (P : MV → Prop) : Prop :=
  ∀ s, 0 < s.toks → RelE C env σ s.heap → wpAny C.M C.A (eval e env) (fun v s' => KSs C.S s s' ∧ ∃ m, P m ∧ VIn s'.heap (C.ex σ) m v) F s
theorem EvQ.of {e : Expr} {m : MV} (h : Ev C env σ e m) : EvQ C env σ e m := fun s _ R => h s R
theorem EvQ.x {e : Expr} {m : MV} (h : EvQ C env σ e m) : EvX C env σ e (· = m) := fun s hp R => wpAny_mono (h s hp R) (fun v s' h => ⟨h.1, m, rfl, h.2⟩) fun _ _ z => z
/-- a text with a mark of its own -/
noncomputable def Mark (a : List Nat) (m : MV) : Prop := ∃ t, m = .obj (.str (mk a) t) ∧ t ≠ 0
noncomputable def Pair (a b : List Nat) (m : MV) : Prop := ∃ t u, m = .list [.obj (.str (mk a) t), .obj (.str (mk b) u)] ∧ t ≠ 0 ∧ u ≠ 0 ∧ t ≠ u
theorem evX_pair {a b : List Nat} {x y : Str} {k1 k2 : Nat} {p1 p2 p : Pos} (hx : x = mk a) (hy : y = mk b) : EvX C env σ (.List [.Constant (.str x) k1 p1, .Constant (.str y) k2 p2] p) (Pair a b) := fun s hp R => by
  subst hx hy
  refine List_ ?_
  show wpAny _ _ (spliced (backTo p ((false, eval (.Constant (.str (mk a)) k1 p1) env) :: (false, eval (.Constant (.str (mk b)) k2 p2) env) :: []))) _ _ _
  refine Calls.spliced_cons (Calls.Constant_str (k := k1) (pos := p1) (Calls.spliced_cons (Calls.Constant_str (k := k2) (pos := p2) (Calls.spliced_nil ?_))))
  have R₂ : RelE C env σ ({ s with toks := s.toks + 1 + 1 } : Shared).heap := R
  refine wpAny_newObj_type ⟨?_, _, ⟨s.toks, s.toks + 1, rfl, Nat.ne_of_gt hp, Nat.succ_ne_zero _, Nat.ne_of_lt (Nat.lt_succ_self _)⟩, ?_⟩ (by show 2 ≤ sizeLine; rw [sizeLine_eq]; omega)
  · exact ⟨_, _, rfl, .of_keep fun _ _ e => Heap.get?_push_of_some _ e⟩
  · exact newL (s := { s with toks := s.toks + 1 + 1 }) R₂.exO ⟨_, _, rfl, rfl, _, [], rfl, rfl, rfl⟩
inductive EvXs (C : Cx) (env : Env) (σ : St) : List Expr → List (MV → Prop) → Prop
  | nil : EvXs C env σ [] []
  | cons {e es P Ps} : EvX C env σ e P → (∀ x p, e ≠ .Starred x p) → EvXs C env σ es Ps → EvXs C env σ (e :: es) (P :: Ps)
inductive Sats : List (MV → Prop) → List MV → Prop
  | nil : Sats [] []
  | cons {P Ps m ms} : P m → Sats Ps ms → Sats (P :: Ps) (m :: ms)
theorem Sats.len {Ps : List (MV → Prop)} {ms : List MV} (h : Sats Ps ms) : ms.length = Ps.length := by
  induction h with
  | nil => rfl
  | cons _ _ ih => simp [ih]
theorem splicedX_ {pos : Pos} : ∀ {es : List Expr} {Ps : List (MV → Prop)}, EvXs C env σ es Ps → ∀ s, 0 < s.toks → RelE C env σ s.heap → wpAny C.M C.A (spliced (backTo pos (starEach es env))) (fun vs s' => KSs C.S s s' ∧ ∃ ms, Sats Ps ms ∧ VIns s'.heap (C.ex σ) ms vs) F s
  | _, _, .nil, s, _, R => Calls.spliced_nil ⟨.refl s, [], .nil, rfl⟩
  | _, _, .cons h hn r, s, hp, R => by
    rw [starEach_cons hn, backTo_cons]
    refine Calls.spliced_cons (wpAny_mono (wpAny_toks (h s hp R)) (fun v s₁ h₁ => ?_) fun _ _ x => x.2)
    obtain ⟨ht, k₁, m, hm, hv⟩ := h₁
    refine wpAny_mono (splicedX_ r s₁ (Nat.lt_of_lt_of_le hp ht) (R.ks k₁.ks)) (fun vs s₂ h₂ => ?_) fun _ _ x => x
    obtain ⟨k₂, ms, hms, hvs⟩ := h₂
    exact ⟨k₁.trans k₂, m :: ms, .cons hm hms, v, vs, rfl, hv.ks k₂.ks, hvs⟩
theorem plain_argsX {pos : Pos} : ∀ {es : List Expr} {Ps : List (MV → Prop)}, EvXs C env σ es Ps → (backTo pos (starEach es env)).any (·.1) = false
  | _, _, .nil => rfl
  | _, _, .cons h hn r => by
    rw [starEach_cons hn, backTo_cons]
    simp [plain_argsX r (pos := pos)]
noncomputable def Lists (Ps : List (MV → Prop)) (m : MV) : Prop := ∃ ms, m = .list ms ∧ Sats Ps ms
theorem evX_list {es : List Expr} {Ps : List (MV → Prop)} {p : Pos} (h : EvXs C env σ es Ps) (hsz : Ps.length ≤ 1000) : EvX C env σ (.List es p) (Lists Ps) := fun s hp R => by
  refine List_ (wpAny_mono (splicedX_ h s hp R) (fun vs s₁ h₁ => ?_) fun _ _ x => x)
  obtain ⟨k₁, ms, hms, hv⟩ := h₁
  have hO := (R.ks k₁.ks).exO
  have hl : ms.length = Ps.length := hms.len
  exact wpAny_newObj_type ⟨k₁.trans (keeps_push _), _, ⟨ms, rfl, hms⟩, newL hO hv⟩ (by show vs.toArray.size ≤ sizeLine; rw [List.size_toArray, hv.length, hl, sizeLine_eq]; omega)
theorem evX_add {l r : Expr} {p : Pos} {Ps Qs : List (MV → Prop)} (hl : EvX C env σ l (Lists Ps)) (hr : EvX C env σ r (Lists Qs)) (hp1 : Ps.length ≤ 1000) (hq1 : Qs.length ≤ 1000) : EvX C env σ (.BinOp l .Add r p) (Lists (Ps ++ Qs)) := fun s hp R => by
  have len : ∀ {Ps : List (MV → Prop)} {ms}, Sats Ps ms → ms.length = Ps.length := fun {Ps ms} h => by
    induction h with
    | nil => rfl
    | cons _ _ ih => simp [ih]
  have app : ∀ {Ps Qs : List (MV → Prop)} {ms ns}, Sats Ps ms → Sats Qs ns → Sats (Ps ++ Qs) (ms ++ ns) := fun {Ps Qs ms ns} h h2 => by
    induction h with
    | nil => exact h2
    | cons a _ ih => exact .cons a ih
  refine wpAny_BinOp (wpAny_mono (wpAny_toks (hl s hp R)) (fun va s₁ h₁ => ?_) fun _ _ h => h.2)
  obtain ⟨ht, k₁, m, ⟨ms, rfl, hms⟩, hv⟩ := h₁
  have R₁ := R.ks k₁.ks
  refine wpAny_mono (hr s₁ (Nat.lt_of_lt_of_le hp ht) R₁) (fun vb s₂ h₂ => ?_) fun _ _ h => h
  obtain ⟨k₂, m2, ⟨ns, rfl, hns⟩, hv2⟩ := h₂
  have R₂ := R₁.ks k₂.ks
  refine wpAny_mono (add_list_ (C := C) (by rw [len hms, len hns]; omega) s₂ _ va vb R₂.exO (VIn.t (hv.ks k₂.ks)) (VIn.t hv2)) (fun v s₃ h₃ => ?_) fun _ _ h => h
  exact ⟨(k₁.trans k₂).trans (h₃.1.mono nil_sub), _, ⟨_, rfl, app hms hns⟩, h₃.2⟩
theorem evX_call_f {x : Str} {fa : Addr} {p pos : Pos} {es : List Expr} {Ps : List (MV → Prop)} {r : MV} {full : Bool} {k : Nat} (hx : Ev C env σ (.Name x p) (.obj (.ref fa))) (ha : EvXs C env σ es Ps) (hne : es ≠ []) (hs : ∀ ms, Sats Ps ms → Spec C.G full k (.ref fa) ms r)
    (hk : C.lvl ≤ k) (hfull : full = true → C.Full) (hfn : ∀ h, C.ok h → ∃ o fd, h.get? fa = some o ∧ o.data = .func fd) : EvQ C env σ (.Call (.Name x p) es [] pos) r := fun s hp R => by
  show wpAny _ _ (do callWith pos (← eval (.Name x p) env) [] (backTo pos (starEach es env)) (backToKw pos (keywordEach [] env))) _ _ s
  refine wpAny_bind (wpAny_mono (wpAny_toks (hx s R)) (fun v s₁ h₁ => ?_) fun _ _ x => x.2)
  obtain ⟨ht, k₁, rfl⟩ := h₁
  have R₁ := R.ks k₁.ks
  obtain ⟨o, fd, ho, hd⟩ := hfn _ R₁.base
  have key : wpAny C.M C.A (evalArgs (.ref fa) true (backTo pos (starEach es env)) []) (fun a s' => KSs C.S s₁ s' ∧ a.kw = [] ∧ ∃ ms, Sats Ps ms ∧ VIns s'.heap (C.ex σ) ms a.pos) F s₁ := by
    unfold evalArgs
    have h := splicedX_ (pos := pos) ha s₁ (Nat.lt_of_lt_of_le hp ht) R₁
    cases ha with
    | nil => exact absurd rfl hne
    | cons a hn r =>
      rw [starEach_cons hn, backTo_cons] at h ⊢
      show wpAny _ _ (spliced _ >>= _) _ _ s₁
      refine wpAny_bind (wpAny_mono h (fun vs s' h' => ?_) fun _ _ x => x)
      refine wpAny_holding ?_
      exact wpAny_bind (wpAny_pure (wpAny_bind (wpAny_pure (wpAny_pure ⟨h'.1, rfl, h'.2⟩))))
  refine Calls.callWith_function (o := o) (fd := fd) (wpAny_mono key (fun a s₂ h₂ => ?_) fun _ _ x => x)
  obtain ⟨k₂, hkw, ms, hms, hv⟩ := h₂
  have R₂ := R₁.ks k₂.ks
  have hlow : fa ∉ C.S := R₁.notS ho (fun es ep q => by rw [hd] at q; cases q)
  refine ⟨⟨(k₂.ks fa o ho).1 hlow, hd⟩, ?_⟩
  rw [hkw]
  refine wpAny_mono (hs ms hms C rfl hk hfull s₂ _ _ R₂.base R₂.fr (fun x hx => (List.mem_append.mp hx).elim (R₂.own x) (R₂.outer x)) hv) (fun v s₃ h₃ => ?_) fun _ _ x => x
  exact ⟨(k₁.trans k₂).trans h₃.1, h₃.2⟩
/-- e.replace('..', '..') -/
theorem evP_replace {o : Expr} {l a b : List Nat} {x y : Str} {k1 k2 : Nat} {p1 p2 apos pos : Pos} (ho : EvQ C env σ o (tx l)) (hx : x = mk a) (hy : y = mk b) (ha : a ≠ []) (hab : a ≠ b) (hl : l.length ≤ 100000) (hb : b.length ≤ 20)
    (hbase : attributeBase o (Str.ofString "replace") env (eval o env) = eval o env) (hline : (apos.endLine == pos.line) = true) :
    EvQ C env σ (.Call (.Attribute o (Str.ofString "replace") apos) [.Constant (.str x) k1 p1, .Constant (.str y) k2 p2] [] pos) (tx (joinL b (cutL a l))) := fun s hp R => by
  subst hx hy
  rw [arm_eval_Call, hbase]
  refine wpAny_bind (wpAny_mono (wpAny_toks (ho s hp R)) (fun ov s₁ h₁ => ?_) fun _ _ x => x.2)
  obtain ⟨ht, k₁, tv, rfl⟩ := h₁
  have hp₁ : 0 < s₁.toks := Nat.lt_of_lt_of_le hp ht
  have R₁ := R.ks k₁.ks
  refine wpAny_bind (wpAny_standAt ?_)
  have hpos : methodCallPos true o env apos pos = pure pos := by unfold methodCallPos; simp [hline]
  unfold methodCall
  rw [show methodCallForm ([Expr.Constant (.str (mk a)) k1 p1, .Constant (.str (mk b)) k2 p2].length + ([] : List Keyword).length) (backTo pos (starEach [.Constant (.str (mk a)) k1 p1, .Constant (.str (mk b)) k2 p2] env)) (backToKw pos (keywordEach [] env)) = true from rfl]
  refine wpAny_bind (wpAny_holding (GM.replace ?_))
  refine wpAny_bind (wpAny_of_eq hpos ?_)
  have key : wpAny C.M C.A (evalArgs (.builtin "str.replace") true (backTo pos (starEach [.Constant (.str (mk a)) k1 p1, .Constant (.str (mk b)) k2 p2] env)) []) (fun ar s' => s' = { s₁ with toks := s₁.toks + 1 + 1 } ∧ ar.kw = [] ∧ ar.pos = [.str (mk a) s₁.toks, .str (mk b) (s₁.toks + 1)]) F s₁ := by
    unfold evalArgs
    show wpAny _ _ (spliced (backTo pos ((false, eval (.Constant (.str (mk a)) k1 p1) env) :: (false, eval (.Constant (.str (mk b)) k2 p2) env) :: [])) >>= _) _ _ s₁
    refine wpAny_bind (Calls.spliced_cons (Calls.Constant_str (k := k1) (pos := p1) (Calls.spliced_cons (Calls.Constant_str (k := k2) (pos := p2) (Calls.spliced_nil ?_)))))
    refine wpAny_bind (wpAny_pure (wpAny_holding ?_))
    exact wpAny_bind (wpAny_pure (wpAny_bind (wpAny_pure (wpAny_pure ⟨rfl, rfl, rfl⟩))))
  refine Calls.callWith_builtin rfl (wpAny_mono key (fun ar s₂ h₂ => ?_) fun _ _ x => x)
  obtain ⟨rfl, hkw, hps⟩ := h₂
  rw [hkw, hps]
  have R₂ : RelE C env σ ({ s₁ with toks := s₁.toks + 1 + 1 } : Shared).heap := R₁
  refine wpAny_mono (fn_replace (C := C) (t := s₁.toks) (u := s₁.toks + 1) ha hab (Nat.ne_of_gt hp₁) (Nat.succ_ne_zero _) (Nat.ne_of_lt (Nat.lt_succ_self _)) hl hb { s₁ with toks := s₁.toks + 1 + 1 } (C.ex σ) _ R₂.exO ⟨_, _, rfl, ⟨tv, rfl⟩, _, _, rfl, rfl, _, [], rfl, rfl, rfl⟩) (fun v s₃ h₃ => ?_) fun _ _ h => h
  exact ⟨(k₁.trans (.tok s₁ _)).trans (h₃.1.mono nil_sub), h₃.2⟩
theorem evP_meth {o : Expr} {name : Str} {id : String} {apos pos : Pos} {es : List Expr} {a : MV} {ms : List MV} {r : MV} (ho : EvQ C env σ o a) (ha : EvTs C env σ es ms) (hm : MethAt C name a id) (hf : Fn C (.builtin id) (a :: ms) r)
    (hbase : attributeBase o name env (eval o env) = eval o env) (hline : (apos.endLine == pos.line) = true) (hfew : es.length < 29) :
    EvQ C env σ (.Call (.Attribute o name apos) es [] pos) r := fun s hp R => by
  rw [arm_eval_Call, hbase]
  refine wpAny_bind (wpAny_mono (ho s hp R) (fun ov s₁ h₁ => ?_) fun _ _ x => x)
  obtain ⟨k₁, v₁⟩ := h₁
  refine wpAny_bind (wpAny_standAt ?_)
  have hform : methodCallForm (es.length + ([] : List Keyword).length) (backTo pos (starEach es env)) (backToKw pos (keywordEach [] env)) = true := by
    unfold methodCallForm
    rw [(plain_args ha).2.1]
    show (true && true && decide (es.length + 0 + 0 < 30)) = true
    simp; omega
  have hpos : methodCallPos true o env apos pos = pure pos := by unfold methodCallPos; simp [hline]
  unfold methodCall
  rw [hform]
  refine wpAny_bind (wpAny_holding (hm s₁ _ ov v₁.t _ _ ?_))
  refine wpAny_bind (wpAny_of_eq hpos ?_)
  refine Calls.callWith_builtin (plain_args ha).1 (wpAny_mono (evalArgs_ ha s₁ (R.ks k₁.ks)) (fun a s₂ h₂ => ?_) fun _ _ x => x)
  obtain ⟨k₂, hkw, hv⟩ := h₂
  rw [hkw]
  refine wpAny_mono (hf s₂ _ ([ov] ++ a.pos) ((R.ks k₁.ks).ks k₂.ks).exO ⟨ov, a.pos, rfl, (v₁.ks k₂.ks).t, hv⟩) (fun v s₃ h₃ => ?_) fun _ _ x => x
  exact ⟨(k₁.trans k₂).trans (h₃.1.mono nil_sub), h₃.2⟩
theorem evP_cmp {l r : Expr} {op : CmpOp} {p : Pos} {a b : MV} {c : Bool} (hl : EvQ C env σ l a) (hr : EvT C env σ r b) (ho : Cmp C op a b c) (hm : behindInMarks op r = false) : EvQ C env σ (.Compare l [op] [r] p) (.bool c) := fun s hp R => by
  refine wpAny_Compare1 (wpAny_mono (hl s hp R) (fun va s₁ h₁ => ?_) fun _ _ h => h) hm
  obtain ⟨k₁, v₁⟩ := h₁
  refine wpAny_mono (hr s₁ (R.ks k₁.ks)) (fun vb s₂ h₂ => ?_) fun _ _ h => h
  obtain ⟨k₂, v₂⟩ := h₂
  refine wpAny_mono (ho s₂ _ va vb ((R.ks k₁.ks).ks k₂.ks).exO (v₁.ks k₂.ks).t v₂) (fun v s₃ h₃ => ?_) fun _ _ h => h
  exact ⟨(k₁.trans k₂).trans (h₃.1.mono nil_sub), h₃.2⟩
theorem wpSP_ifcmp {l r : Expr} {op : CmpOp} {pc p : Pos} {a b : MV} {c : Bool} {body orelse : List Stmt} {Q : FM → St → Prop} (hl : EvQ C env σ l a) (hr : EvT C env σ r b) (ho : Cmp C op a b c) (hm : behindInMarks op r = false) (h1 : c = true → wpSs C env body σ Q) (h2 : c = false → wpSs C env orelse σ Q) : wpSP C env (.If (.Compare l [op] [r] pc) body orelse p) σ Q := fun X s hp R => by
  refine wpAny_If (wpAny_isTrue_Compare1 (wpAny_mono (hl s hp R.toRelE) (fun va s₁ h₁ => ?_) fun _ _ h => h) hm)
  obtain ⟨k₁, v₁⟩ := h₁
  have R₁ := R.ks k₁.ks
  refine wpAny_mono (hr s₁ R₁.toRelE) (fun vb s₂ h₂ => ?_) fun _ _ h => h
  obtain ⟨k₂, v₂⟩ := h₂
  have R₂ := R₁.ks k₂.ks
  refine wpAny_mono (ho s₂ _ va vb R₂.exO (v₁.ks k₂.ks).t v₂) (fun v s₃ h₃ => ?_) fun _ _ h => h
  obtain ⟨k₃, rfl⟩ := h₃
  have R₃ := R₂.ks (k₃.mono nil_sub (S' := C.S)).ks
  refine wpAny_truthy_bool ?_
  obtain ⟨h1', t1, rfl, _⟩ := k₁
  obtain ⟨h2', t2, rfl, _⟩ := k₂
  obtain ⟨h3', t3, rfl, _⟩ := k₃
  have fix : ∀ sts, wpSs C env sts σ Q → wpAny C.M C.A (execs sts env) (Post C X env Q s) F { s with heap := h3', toks := t3 } := fun sts hq => by
    refine wpAny_mono (hq X _ R₃) (fun fl s2 p2 => ?_) fun _ _ h => h
    obtain ⟨h2, tk2, rfl, r⟩ := p2
    exact ⟨h2, tk2, rfl, r⟩
  cases c with
  | true => exact fix _ (h1 rfl)
  | false => exact fix _ (h2 rfl)
theorem wpSP_assign {x : Str} {p' p : Pos} {e : Expr} {m : MV} {Q : FM → St → Prop} {σ' : St} (he : EvQ C env σ e m) (hx : Stores env x) (hs : swapsWith e (some (.Name x p')) p.line env = pure false) (hp : sput σ x (.fz m) = σ')
    (h : Q .next σ') : wpSP C env (.Assign [.Name x p'] e p) σ Q := fun X s hp0 R => by
  refine wpAny_Assign_Name (wpAny_mono (he s hp0 R.toRelE) (fun v s₁ h₁ => ?_) fun _ _ h => h) hs
  obtain ⟨⟨h1, tk1, rfl, k⟩, hv⟩ := h₁
  exact store_ (R.ks k) hx hv fun h' tk R' => ⟨h', tk, rfl, .next, _, trivial, hp ▸ R', h⟩
theorem wpSP_assignX {x : Str} {p' p : Pos} {e : Expr} {P : MV → Prop} {Q : FM → St → Prop} (he : EvX C env σ e P) (hx : Stores env x) (hs : swapsWith e (some (.Name x p')) p.line env = pure false)
    (h : ∀ m, P m → ∃ σ', sput σ x (.fz m) = σ' ∧ Q .next σ') : wpSP C env (.Assign [.Name x p'] e p) σ Q := fun X s hp0 R => by
  refine wpAny_Assign_Name (wpAny_mono (he s hp0 R.toRelE) (fun v s₁ h₁ => ?_) fun _ _ h => h) hs
  obtain ⟨⟨h1, tk1, rfl, k⟩, m, hm, hv⟩ := h₁
  obtain ⟨σ', e, hq⟩ := h m hm
  exact store_ (R.ks k) hx hv fun h' tk R' => ⟨h', tk, rfl, .next, _, trivial, e ▸ R', hq⟩
theorem wpSP_return {e : Expr} {p : Pos} {m : MV} {Q : FM → St → Prop} (he : EvQ C env σ e m) (h : Q (.ret m) σ) : wpSP C env (.Return (some e) p) σ Q := fun X s hp R => by
  refine wpAny_Return_some (wpAny_mono (he s hp R.toRelE) (fun v s₁ h₁ => ?_) fun _ _ h => h)
  obtain ⟨⟨h1, tk1, rfl, k⟩, hv⟩ := h₁
  exact ⟨h1, tk1, rfl, .ret m, σ, hv, R.ks k, h⟩
end
end Mine
namespace Mine
open PySem PySem.W PyProof.Rows
section
variable {C : Cx} {env : Env} {σ : St}
theorem draw_list {prog : Program} {w : World} {A : Around} {E : Value → Shared → Prop} {it t : Addr} {items : Array Value} (hne : t ≠ it) : ∀ (n i : Nat) (s : Shared) (Q : List Value → Shared → Prop), s.heap.IsListIter it t i → s.heap.IsList t items → i + n ≤ items.size →
    (∀ h', h'.IsListIter it t (i + n) → Heap.SameBut it s.heap h' → Q ((items.toList.drop i).take n) { s with heap := h' }) → wpAny (model prog w) A (draw (.ref it) n) Q E s
  | 0, i, s, Q, hit, _, _, hQ => by
    show wpAny _ _ (pure []) Q E s
    exact wpAny_pure (by simpa using hQ s.heap hit (Heap.SameBut.refl ..))
  | n + 1, i, s, Q, hit, ht, hle, hQ => by
    have hlt : i < items.size := by omega
    show wpAny _ _ (pyNext (.ref it) >>= _) Q E s
    refine wpAny_bind (wpAny_pyNext_list_item hit ht (x := items[i]) (by simp [hlt]) fun h₁ hit₁ hs₁ => ?_)
    refine wpAny_bind (wpAny_holding (draw_list hne n (i + 1) _ _ hit₁ (ht.extBut hs₁.extBut hne) (by omega) fun h₂ hit₂ hs₂ => wpAny_pure ?_))
    have hd : items.toList.drop i = items[i] :: items.toList.drop (i + 1) := by simp [List.drop_eq_getElem_cons, hlt]
    have := hQ h₂ (by rw [show i + (n + 1) = i + 1 + n by omega]; exact hit₂) (hs₁.trans hs₂)
    rw [hd, List.take_succ_cons] at this
    exact this
theorem unpackItems_list {prog : Program} {w : World} {A : Around} {E : Value → Shared → Prop} {s : Shared} {t : Addr} {items : Array Value} {Q : List Value → Shared → Prop} (hh : A.handled = none) (ht : s.heap.IsList t items)
    (hQ : ∀ h', Heap.ExtBut s.heap.objs.size s.heap h' → Q items.toList { s with heap := h' }) : wpAny (model prog w) A (unpackItems (.ref t) items.size none) Q E s := by
  have hlt : t ≠ s.heap.objs.size := by obtain ⟨o, ho, _⟩ := ht; exact Nat.ne_of_lt (Heap.lt_size ho)
  unfold unpackItems
  refine wpAny_bind ?_
  unfold notIterableAtAll
  refine wpAny_bind (wpAny_specialOf ht.typeIs slot_list_iter.lookup ?_)
  refine wpAny_pure ?_
  simp only [Bool.false_eq_true, if_false]
  refine wpAny_bind (wpAny_holding (wpAny_pyIter_list ht ?_))
  have kp : ∀ b o, s.heap.get? b = some o → (s.heap.push { cls := .type "list_iterator", data := .fields #[.ref t, .int 0 0] }).get? b = some o := fun _ _ e => Heap.get?_push_of_some _ e
  have ht0 : (s.heap.push { cls := .type "list_iterator", data := .fields #[.ref t, .int 0 0] }).IsList t items := by obtain ⟨o, e, r⟩ := ht; exact ⟨o, kp _ _ e, r⟩
  refine wpAny_bind (wpAny_holding (draw_list hlt items.size 0 _ _ ⟨_, Heap.get?_push_size _ rfl, rfl, rfl⟩ ht0 (by omega) fun h₁ hit₁ hs₁ => ?_))
  have hall : List.take items.size (List.drop 0 items.toList) = items.toList := by
    rw [List.drop_zero]; exact List.take_of_length_le (by simp)
  rw [hall]
  rw [if_neg (by simp)]
  have ht₁ : h₁.IsList t items := ht0.extBut hs₁.extBut hlt
  refine wpAny_bind (wpAny_holding (wpAny_pyNext_list_end hh hit₁ ht₁ (by simp) fun h₂ he₂ => ?_))
  simp only [Option.isSome_none, Bool.false_eq_true, if_false]
  refine wpAny_pure (hQ h₂ fun b o hb e => he₂ b o hb (hs₁.extBut b o hb (kp b o e)))
theorem asg_pair {x y : Str} {px py pos : Pos} {k : Nat} {a b : MV} (hx : Stores env x) (hy : Stores env y) (hc : CellsOk env) (hB : C.mB = []) (hi : instA σ = []) : Asg C env (.Tuple [.Name x px, .Name y py] k pos) (.list [a, b]) σ (sput (sput σ x (.fz a)) y (.fz b)) := fun X s v R hv => by
  obtain ⟨l, vs, rfl, hO, hl, va, r, rfl, ha, vb, r2, rfl, hb, rfl⟩ := hv
  rw [assign_Tuple]
  refine wpAny_bind (wpAny_standAt ?_)
  unfold unpack
  show wpAny _ _ (holding [.ref l] (unpackItems (.ref l) 2 none) >>= fun items => assignInOrder [assign (.Name x px) env, assign (.Name y py) env] items) _ _ s
  refine wpAny_bind (wpAny_holding (unpackItems_list (items := [va, vb].toArray) C.hh hl fun h₁ he₁ => ?_))
  have k : KS C.S s.heap h₁ := .of_keep fun b o e => he₁ b o (Nat.ne_of_lt (Heap.lt_size e)) e
  have R₁ := R.ks k
  show wpAny _ _ (assignInOrder [assign (.Name x px) env, assign (.Name y py) env] [va, vb]) _ _ _
  have ha₁ := ha.ks k
  have hb₁ := hb.ks k
  have R₂ : Rel C (hideAll h₁ (([] : List Addr) ++ hids env σ)) env σ h₁ := R₁.reX hc hi (J := []) (fun _ h => nomatch h)
  show wpAny _ _ (holding [vb] (assign (.Name x px) env va) >>= fun _ => holding [] (assign (.Name y py) env vb) >>= fun _ => pure ()) _ _ _
  refine wpAny_bind (wpAny_holding (wpAny_assign_Name (store_ (s := { s with heap := h₁ }) R₂ hx ha₁ fun h₂ t₂ R₃ => ?_)))
  have hb₂ : VIn h₂ (C.ex (sput σ x (.fz a))) b vb := VIn.turn R₁ hc hB (J := []) (fun _ h => nomatch h) R₃ hb₁
  have R₄ : Rel C X env (sput σ x (.fz a)) h₂ := R₁.backX hc hB (J := []) (fun _ h => nomatch h) R₃
  refine wpAny_bind (wpAny_holding (wpAny_assign_Name (store_ (s := { s with heap := h₂, toks := t₂ }) R₄ hy hb₂ fun h₃ t₃ R₅ => ?_)))
  exact wpAny_pure ⟨h₃, t₃, rfl, R₅⟩
end
end Mine
namespace Mine
open PySem PySem.W PyProof.Rows
theorem spec_ofB {G : Gx} {fa : Addr} {fd : FuncData} {body : List Stmt} {names : List Str} {ms : List MV} {r : MV} {full : Bool} {k : Nat} (D : IsDef G fa fd body names) (hk : k + 1 ≤ 100) (hn : ms.length = names.length)
    (hb : ∀ C : Cx, C.G = G → C.lvl ≤ k + 1 → (full = true → C.Full) → ∀ L, C.mB = [] → wpSs C (envAt fd L fa) body (names.zip (ms.map .fz)) fun fm _ => match fm with | .ret m => m = r | .next => r = .none | _ => False) :
    Spec G full k (.ref fa) ms r := fun C hG hlv hfull s O vals hok hfr hO hv => by
  have h := CodeO.spec D hn (codeG_of (γ := []) (γ' := []) (r := r) [] false (.inr rfl) D hk hn rfl (fun _ h => nomatch h) (fun C' a b c L hmB _ _ => by
    rw [List.append_nil]
    intro X s R
    refine wpAny_mono (hb C' a b c L hmB X s R) (fun fl s' p => ?_) fun _ _ x => x
    obtain ⟨h', tk, e, fm, σ', fr, R', q⟩ := p
    exact ⟨h', tk, e, fm, σ', fr, R', q, fun _ h => nomatch h⟩) (fun _ h => nomatch h)) C hG hlv hfull s O vals hok hfr hO hv ⟨(by intro _ _ _ _ _ h; cases h), (by intro _ h; cases h), List.nodup_nil⟩
  refine wpAny_mono h (fun v s' p => ?_) fun _ _ x => x
  obtain ⟨⟨h', tk, e, km⟩, _, hv'⟩ := p
  exact ⟨⟨h', tk, e, km.ks⟩, hv'⟩
/-- the pairs of texts, one behind the other -/
noncomputable def putL : List (List Nat × List Nat) → List Nat → List Nat
  | [], l => l
  | (a, b) :: r, l => putL r (joinL b (cutL a l))
noncomputable def PutOk : List (List Nat × List Nat) → List Nat → Prop
  | [], _ => True
  | (a, b) :: r, l => a ≠ [] ∧ a ≠ b ∧ b.length ≤ 20 ∧ l.length ≤ 100000 ∧ PutOk r (joinL b (cutL a l))
noncomputable def pairPs (prs : List (List Nat × List Nat)) : List (MV → Prop) := prs.map fun p => Pair p.1 p.2
theorem putL_snoc (a b : List Nat) : ∀ (prs : List (List Nat × List Nat)) (l : List Nat), putL (prs ++ [(a, b)]) l = joinL b (cutL a (putL prs l))
  | [], _ => rfl
  | (c, d) :: r, l => putL_snoc a b r _
theorem PutOk.at {a b : List Nat} : ∀ {prs rest : List (List Nat × List Nat)} {l : List Nat}, PutOk (prs ++ (a, b) :: rest) l → a ≠ [] ∧ a ≠ b ∧ b.length ≤ 20 ∧ (putL prs l).length ≤ 100000
  | [], _, _, h => ⟨h.1, h.2.1, h.2.2.1, h.2.2.2.1⟩
  | (c, d) :: r, _, l, h => PutOk.at (prs := r) h.2.2.2.2
theorem Sats.get {P : MV → Prop} : ∀ {Ps : List (MV → Prop)} {ms : List MV} {i : Nat} {m : MV}, Sats Ps ms → ms[i]? = some m → ∃ P, Ps[i]? = some P ∧ P m
  | _, _, 0, m, .cons h _, e => by simp at e; subst e; exact ⟨_, rfl, h⟩
  | _, _, i + 1, m, .cons _ r, e => by simpa using Sats.get (P := P) r (by simpa using e)
theorem cells_none {fd : FuncData} {L fa : Addr} (h : (cellsFrom (L + 1) fd.scope.names []) = []) : CellsOk (envAt fd L fa) := fun x c hm => by
  have : (envAt fd L fa).cells = [] := h
  rw [this] at hm; cases hm
end Mine
namespace Mine
open PySem PySem.W PyProof.Rows
noncomputable def compB (scope : Scope) (x : Str) (fr : List Str) : Bool := scope.kind == .function && scope.names.lookup x == some .local && scope.names.all fun p => match p.2 with | .local => (p.1 == x || p.1 == Str.ofString ".0") && scope.names.lookup p.1 == some .local | .cell => false | .free => fr.contains p.1 | _ => true
theorem compOk_of {scope : Scope} {env : Env} {x : Str} {fr : List Str} (h : compB scope x fr = true) (hf : ∀ y ∈ fr, env.kindOf y = some .cell ∧ ∃ c, env.cells.lookup y = some c) : CompOk scope env x := by
  unfold compB at h
  simp only [Bool.and_eq_true, beq_iff_eq] at h
  obtain ⟨⟨h1, h2⟩, h3⟩ := h
  have h3 := List.all_eq_true.mp h3
  refine ⟨h1, h2, fun p hp hl => ?_, fun p hp hl => ?_, fun p hp hl => ?_, fun p hp hl => ?_⟩
  · have := h3 p hp; rw [hl] at this
    simp only [Bool.and_eq_true, Bool.or_eq_true, beq_iff_eq] at this
    exact this.1
  · have := h3 p hp; rw [hl] at this
    simp only [Bool.and_eq_true, Bool.or_eq_true, beq_iff_eq] at this
    exact this.2
  · have := h3 p hp; rw [hl] at this; cases this
  · have := h3 p hp; rw [hl] at this; exact hf p.1 (by simpa using this)
theorem compRes_filter {α : Type} (d : α) (q : α → Bool) (g : α → MV) (items : List MV) : ∀ xs : List α, compRes items (fun i => q (xs.getD i d)) (fun i => g (xs.getD i d)) xs.length = (xs.filter q).map g
  | [] => rfl
  | x :: r => by
    have ih := compRes_filter d q g items r
    unfold compRes at ih ⊢
    rw [List.length_cons, List.range_succ_eq_map, List.filter_cons, List.filter_map]
    have e1 : (fun i => q ((x :: r).getD i d)) ∘ Nat.succ = fun i => q (r.getD i d) := by funext i; simp
    have e2 : (fun i => g ((x :: r).getD i d)) ∘ Nat.succ = fun i => g (r.getD i d) := by funext i; simp
    rw [e1]
    by_cases hx : q x = true
    · have h0 : q ((x :: r).getD 0 d) = true := by simpa using hx
      rw [if_pos h0, List.map_cons, List.map_map, e2, ih, List.filter_cons, if_pos hx, List.map_cons]
      simp
    · have h0 : ¬ q ((x :: r).getD 0 d) = true := by simpa using hx
      rw [if_neg h0, List.map_map, e2, ih, List.filter_cons, if_neg hx]
theorem compRes_map {α : Type} (d : α) (g : α → MV) (items : List MV) (xs : List α) : compRes items (fun _ => true) (fun i => g (xs.getD i d)) xs.length = xs.map g := by
  have := compRes_filter d (fun _ => true) g items xs
  rwa [List.filter_eq_self.mpr (fun _ _ => rfl)] at this
end Mine
namespace Mine
open PySem PySem.W PyProof.Rows
section
variable {C : Cx} {env : Env} {σ : St}
theorem pp_freeze {x : Str} {a : Addr} {xs : List MV} {sts : List Stmt} {Q : FM → St → Prop} {σ' : St} (hx : sget σ x = some (.own a xs)) (hp : sput σ x (.fz (.list xs)) = σ') (h : wpP C env sts σ' Q) : wpP C env sts σ Q := fun X s h0 R => h X s h0 (hp ▸ R.freeze hx)
theorem EvX.q {e : Expr} {P : MV → Prop} {m0 : MV} (h : EvX C env σ e P) (hP : ∀ m, P m → m = m0) : EvQ C env σ e m0 := fun s hp R => wpAny_mono (h s hp R) (fun v s' q => by obtain ⟨k, m, hm, hv⟩ := q; rw [hP m hm] at hv; exact ⟨k, hv⟩) fun _ _ z => z
end
/-- how far the stretches reach -/
noncomputable def placeAt : List (List Nat) → Nat
  | [] => 0
  | s :: r => s.length + s.count 0 + 1 + placeAt r
theorem placeAt_snoc (s : List Nat) : ∀ ls, placeAt (ls ++ [s]) = placeAt ls + (s.length + s.count 0 + 1)
  | [] => by simp [placeAt]
  | x :: r => by simp only [List.cons_append, placeAt, placeAt_snoc s r]; omega
end Mine
namespace Mine
open PySem PySem.W PyProof.Rows
open PySem.SeqAt
mutual
theorem same_self : ∀ m : MV, PySem.Spec.same (dat m) (dat m) = true
  | .none => by simp [dat, PySem.Spec.same]
  | .bool _ => by simp [dat, PySem.Spec.same]
  | .int _ => by simp [dat, PySem.Spec.same]
  | .str _ => by simp [dat, PySem.Spec.same]
  | .list xs => by rw [dat]; simp only [PySem.Spec.same]; exact sames_self xs
  | .tuple xs => by rw [dat]; simp only [PySem.Spec.same]; exact sames_self xs
  | .obj _ => by simp [dat, PySem.Spec.same]
  | .deq => by simp [dat, PySem.Spec.same]
theorem sames_self : ∀ ms : List MV, PySem.Spec.sameAll (dats ms) (dats ms) = true
  | [] => by simp [dats, PySem.Spec.sameAll]
  | m :: ms => by rw [dats]; simp only [PySem.Spec.sameAll, same_self m, sames_self ms, Bool.and_self]
end
mutual
theorem noMix_self : ∀ m : MV, noMix (dat m) (dat m) = true
  | .none => by simp [dat, noMix]
  | .bool _ => by simp [dat, noMix]
  | .int _ => by simp [dat, noMix]
  | .str _ => by simp [dat, noMix]
  | .list xs => by rw [dat]; simp only [noMix]; exact noMixs_self xs
  | .tuple xs => by rw [dat]; simp only [noMix]; exact noMixs_self xs
  | .obj _ => by simp [dat, noMix]
  | .deq => by simp [dat, noMix]
theorem noMixs_self : ∀ ms : List MV, noMixAll (dats ms) (dats ms) = true
  | [] => by simp [dats, noMixAll]
  | m :: ms => by rw [dats]; simp only [noMixAll, noMix_self m, noMixs_self ms, Bool.and_self]
end
/-- texts that hold code points alone -/
noncomputable def CpOk (ls : List (List Nat)) : Prop := ∀ l ∈ ls, ∀ c ∈ l, c < 1114112
theorem strOk_mk {l : List Nat} (h : ∀ c ∈ l, c < 1114112) : PyData.strOk (mk l) = true := by
  unfold PyData.strOk
  rw [← Array.all_toList, mk_toList, List.all_eq_true]
  intro c hc
  exact decide_eq_true (h c hc)
theorem isDats_tx : ∀ ls : List (List Nat), isDats (ls.map tx) = true
  | [] => by simp [isDats]
  | l :: r => by rw [List.map_cons, isDats, isDats_tx r]; simp [isDat]
theorem lay_tx : ∀ {ls : List (List Nat)}, CpOk ls → PyData.canLayAll0 (dats (ls.map tx)) = true ∧ PyData.depthAll (dats (ls.map tx)) = 0
  | [], _ => by simp [dats, PyData.canLayAll0, PyData.depthAll]
  | l :: r, h => by
    obtain ⟨a, b⟩ := lay_tx (ls := r) fun x hx => h x (List.mem_cons_of_mem _ hx)
    rw [List.map_cons, dats, dat]
    simp only [PyData.canLayAll0, PyData.canLay0, PyData.depthAll, PyData.depth, a, b, strOk_mk (h l List.mem_cons_self), Bool.and_self, Nat.max_self, and_self]
/-- three lists of texts -/
theorem shaped3 {a b c : List (List Nat)} (ha : CpOk a) (hb : CpOk b) (hc : CpOk c) : shaped (dat (.list [.list (a.map tx), .list (b.map tx), .list (c.map tx)])) = true ∧ isDat (.list [.list (a.map tx), .list (b.map tx), .list (c.map tx)]) = true := by
  obtain ⟨a1, a2⟩ := lay_tx ha
  obtain ⟨b1, b2⟩ := lay_tx hb
  obtain ⟨c1, c2⟩ := lay_tx hc
  constructor
  · unfold shaped
    simp only [dat, dats, PyData.canLay0, PyData.canLayAll0, PyData.depth, PyData.depthAll, a1, a2, b1, b2, c1, c2, Bool.and_self]
    decide
  · simp only [isDat, isDats, isDats_tx, Bool.and_self]
theorem eq3 {C : Cx} {a : List (List Nat)} (ha : CpOk a) : Cmp C .Eq (.list [.list (a.map tx), .list (a.map tx), .list (a.map tx)]) (.list [.list (a.map tx), .list (a.map tx), .list (a.map tx)]) true := by
  obtain ⟨h1, h2⟩ := shaped3 ha ha ha
  have := eq_dat (C := C) h2 h2 h1 h1 (noMix_self _)
  rwa [same_self] at this
theorem ne3 {C : Cx} {a : List (List Nat)} (ha : CpOk a) : Cmp C .NotEq (.list [.list (a.map tx), .list (a.map tx), .list (a.map tx)]) (.list [.list (a.map tx), .list (a.map tx), .list (a.map tx)]) false := by
  obtain ⟨h1, h2⟩ := shaped3 ha ha ha
  have := ne_dat (C := C) h2 h2 h1 h1 (noMix_self _)
  rwa [same_self] at this
theorem dats_int : ∀ ns : List Int, dats (ns.map .int) = ns.map PyData.int
  | [] => rfl
  | n :: r => by rw [List.map_cons, dats, dats_int r, dat]; rfl
theorem isDats_int : ∀ ns : List Int, isDats (ns.map .int) = true
  | [] => by simp [isDats]
  | n :: r => by rw [List.map_cons, isDats, isDats_int r]; simp [isDat]
theorem ne_nil_ints {C : Cx} (ns : List Int) : Cmp C .NotEq (.list (ns.map .int)) (.list []) (!ns.isEmpty) := by
  have hs : shaped (dat (.list (ns.map .int))) = true := by rw [dat, dats_int]; exact shaped_ints ns
  have hs0 : shaped (dat (.list [])) = true := by simp [dat, dats, shaped, PyData.canLay0, PyData.canLayAll0, PyData.depth, PyData.depthAll]
  have := ne_dat (C := C) (m := .list (ns.map .int)) (m' := .list []) (by rw [isDat]; exact isDats_int ns) (by simp [isDat, isDats]) hs hs0 (by rw [dat, dat, dats_int]; cases ns <;> simp [noMix, dats, noMixAll])
  have e : PySem.Spec.same (dat (.list (ns.map .int))) (dat (.list [])) = ns.isEmpty := by rw [dat, dat, dats_int]; cases ns <;> simp [PySem.Spec.same, dats, PySem.Spec.sameAll]
  rwa [e] at this
theorem lslice_to {α : Type} (xs : List α) (k : Nat) : lslice xs none (some (k : Int)) = xs.take k := by
  unfold lslice
  simp only [Option.elim_none, Option.elim_some, List.drop_zero, Nat.sub_zero]
  have : clipAt xs.length (k : Int) = min k xs.length := by unfold clipAt; rw [if_neg (by omega)]; omega
  rw [this]
  by_cases h : k ≤ xs.length
  · rw [Nat.min_eq_left h]
  · rw [Nat.min_eq_right (by omega), List.take_of_length_le (Nat.le_refl _), List.take_of_length_le (by omega)]
end Mine
namespace Mine
open PySem PySem.W PyProof.Rows
noncomputable section
noncomputable abbrev S (x : String) : Str := Str.ofString x
noncomputable abbrev E (P : Params) (k : Str) (t : Nat) (v : Value) : DictEntry := ⟨PyData.keyHash P k, .str k t, v⟩
noncomputable abbrev n (o : Obj) (a b : BT) : BT := .node o a b
noncomputable abbrev l : BT := .nil
noncomputable def st (k : Nat) : Stmt := (PySem.Challenge.pw_ny0304_03.main.body[k]?).getD (.Pass ⟨0, 0, 0, 0⟩)
noncomputable def kid (s : Stmt) (j : Nat) : Stmt := match s with
  | .ClassDef _ _ _ b _ _ _ _ _ _ _ => (b[j]?).getD (.Pass ⟨0, 0, 0, 0⟩)
  | _ => .Pass ⟨0, 0, 0, 0⟩
noncomputable def fA : Stmt → Arguments
  | .FunctionDef _ a _ _ _ _ _ _ _ _ => a
  | _ => default
noncomputable def fB : Stmt → List Stmt
  | .FunctionDef _ _ b _ _ _ _ _ _ _ => b
  | _ => []
noncomputable def fS : Stmt → Scope
  | .FunctionDef _ _ _ _ _ _ s _ _ _ => s
  | _ => default
noncomputable abbrev fn (name qual : Str) (s : Stmt) (g : Addr) (cl : List (Str × Addr)) (d k doc pm : Value) (an : Option Addr) (cd ct : Value) (b : Addr) : FuncData :=
  ⟨name, qual, fA s, .stmts (fB s), fS s, g, cl, d, k, doc, pm, an, cd, ct, b⟩
noncomputable def o0 (P : Params) : Obj := ⟨.type "dict", none, (.dict #[E P (S "__name__") 1 (.str (S "builtins") 160), E P (S "__doc__") 2 (.builtin "builtins.__doc__:str#opaque"), E P (S "__package__") 3 (.builtin "builtins.__package__:str#opaque"), E P (S "__loader__") 4 (.builtin "builtins.__loader__:shared#opaque"), E P (S "__spec__") 5 (.builtin "builtins.__spec__#opaque"), E P (S "__build_class__") 6 (.builtin "__build_class__"), E P (S "__import__") 7 (.builtin "__import__"), E P (S "abs") 8 (.builtin "abs"), E P (S "all") 9 (.builtin "all"), E P (S "any") 10 (.builtin "any"), E P (S "ascii") 11 (.builtin "ascii"), E P (S "bin") 12 (.builtin "bin"), E P (S "breakpoint") 13 (.builtin "breakpoint"), E P (S "callable") 14 (.builtin "callable"), E P (S "chr") 15 (.builtin "chr"), E P (S "compile") 16 (.builtin "compile"), E P (S "delattr") 17 (.builtin "delattr"), E P (S "dir") 18 (.builtin "dir"), E P (S "divmod") 19 (.builtin "divmod"), E P (S "eval") 20 (.builtin "eval"), E P (S "exec") 21 (.builtin "exec"), E P (S "format") 22 (.builtin "format"), E P (S "getattr") 23 (.builtin "getattr"), E P (S "globals") 24 (.builtin "globals"), E P (S "hasattr") 25 (.builtin "hasattr"), E P (S "hash") 26 (.builtin "hash"), E P (S "hex") 27 (.builtin "hex"), E P (S "id") 28 (.builtin "id"), E P (S "input") 29 (.builtin "input"), E P (S "isinstance") 30 (.builtin "isinstance"), E P (S "issubclass") 31 (.builtin "issubclass"), E P (S "iter") 32 (.builtin "iter"), E P (S "aiter") 33 (.builtin "aiter"), E P (S "len") 34 (.builtin "len"), E P (S "locals") 35 (.builtin "locals"), E P (S "max") 36 (.builtin "max"), E P (S "min") 37 (.builtin "min"), E P (S "next") 38 (.builtin "next"), E P (S "anext") 39 (.builtin "anext"), E P (S "oct") 40 (.builtin "oct"), E P (S "ord") 41 (.builtin "ord"), E P (S "pow") 42 (.builtin "pow"), E P (S "print") 43 (.builtin "print"), E P (S "repr") 44 (.builtin "repr"), E P (S "round") 45 (.builtin "round"), E P (S "setattr") 46 (.builtin "setattr"), E P (S "sorted") 47 (.builtin "sorted"), E P (S "sum") 48 (.builtin "sum"), E P (S "vars") 49 (.builtin "vars"), E P (S "None") 50 .none, E P (S "Ellipsis") 51 .ellipsis, E P (S "NotImplemented") 52 .notImplemented, E P (S "False") 53 (.bool false), E P (S "True") 54 (.bool true), E P (S "bool") 55 (.type "bool"), E P (S "memoryview") 56 (.type "memoryview"), E P (S "bytearray") 57 (.type "bytearray"), E P (S "bytes") 58 (.type "bytes"), E P (S "classmethod") 59 (.type "classmethod"), E P (S "complex") 60 (.type "complex"), E P (S "dict") 61 (.type "dict"), E P (S "enumerate") 62 (.type "enumerate"), E P (S "filter") 63 (.type "filter"), E P (S "float") 64 (.type "float"), E P (S "frozenset") 65 (.type "frozenset"), E P (S "property") 66 (.type "property"), E P (S "int") 67 (.type "int"), E P (S "list") 68 (.type "list"), E P (S "map") 69 (.type "map"), E P (S "object") 70 (.type "object"), E P (S "range") 71 (.type "range"), E P (S "reversed") 72 (.type "reversed"), E P (S "set") 73 (.type "set"), E P (S "slice") 74 (.type "slice"), E P (S "staticmethod") 75 (.type "staticmethod"), E P (S "str") 76 (.type "str"), E P (S "super") 77 (.type "super"), E P (S "tuple") 78 (.type "tuple"), E P (S "type") 79 (.type "type"), E P (S "zip") 80 (.type "zip"), E P (S "__debug__") 81 (.bool true), E P (S "BaseException") 82 (.type "BaseException"), E P (S "BaseExceptionGroup") 83 (.type "BaseExceptionGroup"), E P (S "Exception") 84 (.type "Exception"), E P (S "GeneratorExit") 85 (.type "GeneratorExit"), E P (S "KeyboardInterrupt") 86 (.type "KeyboardInterrupt"), E P (S "SystemExit") 87 (.type "SystemExit"), E P (S "ArithmeticError") 88 (.type "ArithmeticError"), E P (S "AssertionError") 89 (.type "AssertionError"), E P (S "AttributeError") 90 (.type "AttributeError"), E P (S "BufferError") 91 (.type "BufferError"), E P (S "EOFError") 92 (.type "EOFError"), E P (S "ImportError") 93 (.type "ImportError"), E P (S "LookupError") 94 (.type "LookupError"), E P (S "MemoryError") 95 (.type "MemoryError"), E P (S "NameError") 96 (.type "NameError"), E P (S "OSError") 97 (.type "OSError"), E P (S "ReferenceError") 98 (.type "ReferenceError"), E P (S "RuntimeError") 99 (.type "RuntimeError"), E P (S "StopAsyncIteration") 100 (.type "StopAsyncIteration"), E P (S "StopIteration") 101 (.type "StopIteration"), E P (S "SyntaxError") 102 (.type "SyntaxError"), E P (S "SystemError") 103 (.type "SystemError"), E P (S "TypeError") 104 (.type "TypeError"), E P (S "ValueError") 105 (.type "ValueError"), E P (S "Warning") 106 (.type "Warning"), E P (S "FloatingPointError") 107 (.type "FloatingPointError"), E P (S "OverflowError") 108 (.type "OverflowError"), E P (S "ZeroDivisionError") 109 (.type "ZeroDivisionError"), E P (S "BytesWarning") 110 (.type "BytesWarning"), E P (S "DeprecationWarning") 111 (.type "DeprecationWarning"), E P (S "EncodingWarning") 112 (.type "EncodingWarning"), E P (S "FutureWarning") 113 (.type "FutureWarning"), E P (S "ImportWarning") 114 (.type "ImportWarning"), E P (S "PendingDeprecationWarning") 115 (.type "PendingDeprecationWarning"), E P (S "ResourceWarning") 116 (.type "ResourceWarning"), E P (S "RuntimeWarning") 117 (.type "RuntimeWarning"), E P (S "SyntaxWarning") 118 (.type "SyntaxWarning"), E P (S "UnicodeWarning") 119 (.type "UnicodeWarning"), E P (S "UserWarning") 120 (.type "UserWarning"), E P (S "BlockingIOError") 121 (.type "BlockingIOError"), E P (S "ChildProcessError") 122 (.type "ChildProcessError"), E P (S "ConnectionError") 123 (.type "ConnectionError"), E P (S "FileExistsError") 124 (.type "FileExistsError"), E P (S "FileNotFoundError") 125 (.type "FileNotFoundError"), E P (S "InterruptedError") 126 (.type "InterruptedError"), E P (S "IsADirectoryError") 127 (.type "IsADirectoryError"), E P (S "NotADirectoryError") 128 (.type "NotADirectoryError"), E P (S "PermissionError") 129 (.type "PermissionError"), E P (S "ProcessLookupError") 130 (.type "ProcessLookupError"), E P (S "TimeoutError") 131 (.type "TimeoutError"), E P (S "IndentationError") 132 (.type "IndentationError"), E P (S "_IncompleteInputError") 133 (.type "_IncompleteInputError"), E P (S "IndexError") 134 (.type "IndexError"), E P (S "KeyError") 135 (.type "KeyError"), E P (S "ModuleNotFoundError") 136 (.type "ModuleNotFoundError"), E P (S "NotImplementedError") 137 (.type "NotImplementedError"), E P (S "PythonFinalizationError") 138 (.type "PythonFinalizationError"), E P (S "RecursionError") 139 (.type "RecursionError"), E P (S "UnboundLocalError") 140 (.type "UnboundLocalError"), E P (S "UnicodeError") 141 (.type "UnicodeError"), E P (S "BrokenPipeError") 142 (.type "BrokenPipeError"), E P (S "ConnectionAbortedError") 143 (.type "ConnectionAbortedError"), E P (S "ConnectionRefusedError") 144 (.type "ConnectionRefusedError"), E P (S "ConnectionResetError") 145 (.type "ConnectionResetError"), E P (S "TabError") 146 (.type "TabError"), E P (S "UnicodeDecodeError") 147 (.type "UnicodeDecodeError"), E P (S "UnicodeEncodeError") 148 (.type "UnicodeEncodeError"), E P (S "UnicodeTranslateError") 149 (.type "UnicodeTranslateError"), E P (S "ExceptionGroup") 150 (.type "ExceptionGroup"), E P (S "EnvironmentError") 151 (.type "OSError"), E P (S "IOError") 152 (.type "OSError"), E P (S "open") 153 (.builtin "open"), E P (S "quit") 154 (.builtin "builtins.quit#opaque"), E P (S "exit") 155 (.builtin "builtins.exit#opaque"), E P (S "copyright") 156 (.builtin "builtins.copyright#opaque"), E P (S "credits") 157 (.builtin "builtins.credits#opaque"), E P (S "license") 158 (.builtin "builtins.license#opaque"), E P (S "help") 159 (.builtin "builtins.help#opaque")] 159), #[]⟩
noncomputable def o1 (P : Params) : Obj := ⟨.type "dict", none, (.dict #[E P (S "builtins") 162 (.ref 4), E P (S "__main__") 163 (.ref 5), E P (S "_collections") 246 (.ref 13)] 3), #[]⟩
noncomputable def o2 (P : Params) : Obj := ⟨.none, none, (.dict #[E P (S "\x69mport.loaded._collections") 185 (.bool true), E P (S "class._frozen_importlib.BuiltinImporter") 187 (.ref 15), E P (S "watched.\x69mport") 208 (.ref 19), E P (S "class._frozen_importlib.ModuleSpec") 218 (.ref 23), E P (S "sys.modules.booked-epoch") 247 (.int 3 0), E P (S "sys.modules.landed._collections") 248 (.bool true), E P (S "\x69mport.later-laid._collections") 263 (.bool true), E P (S "watched.library") 265 (.ref 28), E P (S "watched.library-objects") 0 (.str (PySem.Str.mk #[13]) 0), E P (S "watched.library-deep._collections") 266 (.str (PySem.Str.mk #[4, 0, 0, 12, 4, 0, 0, 12, 4, 0, 0, 3, 4, 0, 0, 12, 8, 4, 100, 105, 99, 116, 2]) 0)] 10), #[]⟩
noncomputable def o3 (P : Params) : Obj := ⟨.type "dict", none, (.dict #[E P (S "__name__") 165 (.str (S "__main__") 164), E P (S "__doc__") 166 .none, E P (S "__package__") 167 .none, E P (S "__loader__") 168 (.builtin "__main__.__loader__#opaque"), E P (S "__spec__") 169 .none, E P (S "__annotations__") 170 (.ref 6), E P (S "__builtins__") 171 (.ref 4), E P (S "__file__") 173 (.str (S "/claim/cut.py") 172), E P (S "__cached__") 174 .none, E P (S "deque") 272 (.type "collections.deque")] 10), #[]⟩
noncomputable def o4 (P : Params) : Obj := ⟨.type "module", (some 0), .plain, #[]⟩
noncomputable def o5 (P : Params) : Obj := ⟨.type "module", (some 3), .plain, #[]⟩
noncomputable def o6 (P : Params) : Obj := ⟨.type "dict", none, (.dict #[] 0), #[]⟩
noncomputable def o7 (P : Params) : Obj := ⟨.type "tuple", none, (.seq #[] 0), #[]⟩
noncomputable def o8 (P : Params) : Obj := ⟨.none, none, (.fields #[]), #[]⟩
noncomputable def o9 (P : Params) : Obj := ⟨.type "code", none, (.fields #[.str (S "<module>") 176, .str (S "<module>") 177, .str (S "/claim/cut.py") 178, .int 1 0, .int 0 0, .int 0 0, .int 0 0, .int 0 0, .ref 7, .bool false, .int 175 0, .ref 8, .none, .none, .none, .none, .int 179 0, .int 1 0, .str (S "/claim/cut.py") 180]), #[]⟩
noncomputable def o10 (P : Params) : Obj := ⟨.type "frame", none, .plain, #[(some (.ref 9)), (some (.ref 3)), (some (.ref 3)), none, (some (.str (S "__main__") 164)), none, (some (.ref 0))]⟩
noncomputable def o11 (P : Params) : Obj := ⟨.type "tuple", none, (.seq #[.str (S "deque") 182] 0), #[]⟩
noncomputable def o12 (P : Params) : Obj := ⟨.type "dict", none, (.dict #[E P (S "__name__") 250 (.str (S "_collections") 249), E P (S "__doc__") 251 (.builtin "off-the-table:_collections.__doc__:shared#opaque"), E P (S "__package__") 253 (.str (S "") 252), E P (S "__loader__") 254 (.builtin "off-the-table:_collections.__loader__:shared#opaque"), E P (S "__spec__") 255 (.builtin "off-the-table:_collections.__spec__:shared#opaque"), E P (S "_count_elements") 256 (.builtin "_collections._count_elements"), E P (S "deque") 257 (.type "collections.deque"), E P (S "defaultdict") 258 (.type "collections.defaultdict"), E P (S "_deque_iterator") 259 (.builtin "off-the-table:_collections._deque_iterator:shared#opaque"), E P (S "_deque_reverse_iterator") 260 (.builtin "off-the-table:_collections._deque_reverse_iterator:shared#opaque"), E P (S "_tuplegetter") 261 (.type "collections._tuplegetter"), E P (S "OrderedDict") 262 (.type "collections.OrderedDict")] 12), #[]⟩
noncomputable def o13 (P : Params) : Obj := ⟨.type "module", (some 12), .plain, #[]⟩
noncomputable def o14 (P : Params) : Obj := ⟨.type "dict", none, (.dict #[E P (S "__module__") 191 (.str (S "_frozen_importlib") 188), E P (S "__firstlineno__") 192 (.int 971 189), E P (S "__doc__") 193 (.builtin "_frozen_importlib.BuiltinImporter.__doc__:str#opaque"), E P (S "_ORIGIN") 194 (.str (S "built-in") 190), E P (S "find_spec") 195 (.builtin "_frozen_importlib.BuiltinImporter.find_spec#opaque"), E P (S "create_module") 196 (.builtin "_frozen_importlib.BuiltinImporter.create_module#opaque"), E P (S "exec_module") 197 (.builtin "_frozen_importlib.BuiltinImporter.exec_module#opaque"), E P (S "get_code") 198 (.builtin "_frozen_importlib.BuiltinImporter.get_code#opaque"), E P (S "get_source") 199 (.builtin "_frozen_importlib.BuiltinImporter.get_source#opaque"), E P (S "is_package") 200 (.builtin "_frozen_importlib.BuiltinImporter.is_package#opaque"), E P (S "load_module") 201 (.builtin "_frozen_importlib.BuiltinImporter.load_module#opaque"), E P (S "__static_attributes__") 202 (.ref 16), E P (S "__dict__") 204 (.ref 17), E P (S "__weakref__") 206 (.ref 18)] 14), #[]⟩
noncomputable def o15 (P : Params) : Obj := ⟨.type "type", none, (.cls ⟨(S "BuiltinImporter"), [.type "object"], [.ref 15, .type "object"], 14, (S "BuiltinImporter"), true, [], [], false, none, false⟩), #[]⟩
noncomputable def o16 (P : Params) : Obj := ⟨.type "tuple", none, (.seq #[] 0), #[]⟩
noncomputable def o17 (P : Params) : Obj := ⟨.type "getset_descriptor", none, (.fields #[.str (S "__dict__") 203, .ref 15, .builtin "function.__dict__", .builtin "function.__dict__#set"]), #[]⟩
noncomputable def o18 (P : Params) : Obj := ⟨.type "getset_descriptor", none, (.fields #[.str (S "__weakref__") 205, .ref 15, .builtin "ExceptionGroup.__weakref__", .none]), #[]⟩
noncomputable def o19 (P : Params) : Obj := ⟨.none, none, (.seq #[.int 14 0, .str (PySem.Str.mk #[6, 191, 10, 95, 95, 109, 111, 100, 117, 108, 101, 95, 95, 6, 188, 17, 95, 102, 114, 111, 122, 101, 110, 95, 105, 109, 112, 111, 114, 116, 108, 105, 98, 6, 192, 15, 95, 95, 102, 105, 114, 115, 116, 108, 105, 110, 101, 110, 111, 95, 95, 4, 189, 0, 971, 6, 193, 7, 95, 95, 100, 111, 99, 95, 95, 9, 52, 95, 102, 114, 111, 122, 101, 110, 95, 105, 109, 112, 111, 114, 116, 108, 105, 98, 46, 66, 117, 105, 108, 116, 105, 110, 73, 109, 112, 111, 114, 116, 101, 114, 46, 95, 95, 100, 111, 99, 95, 95, 58, 115, 116, 114, 35, 111, 112, 97, 113, 117, 101, 6, 194, 7, 95, 79, 82, 73, 71, 73, 78, 6, 190, 8, 98, 117, 105, 108, 116, 45, 105, 110, 6, 195, 9, 102, 105, 110, 100, 95, 115, 112, 101, 99, 9, 50, 95, 102, 114, 111, 122, 101, 110, 95, 105, 109, 112, 111, 114, 116, 108, 105, 98, 46, 66, 117, 105, 108, 116, 105, 110, 73, 109, 112, 111, 114, 116, 101, 114, 46, 102, 105, 110, 100, 95, 115, 112, 101, 99, 35, 111, 112, 97, 113, 117, 101, 6, 196, 13, 99, 114, 101, 97, 116, 101, 95, 109, 111, 100, 117, 108, 101, 9, 54, 95, 102, 114, 111, 122, 101, 110, 95, 105, 109, 112, 111, 114, 116, 108, 105, 98, 46, 66, 117, 105, 108, 116, 105, 110, 73, 109, 112, 111, 114, 116, 101, 114, 46, 99, 114, 101, 97, 116, 101, 95, 109, 111, 100, 117, 108, 101, 35, 111, 112, 97, 113, 117, 101, 6, 197, 11, 101, 120, 101, 99, 95, 109, 111, 100, 117, 108, 101, 9, 52, 95, 102, 114, 111, 122, 101, 110, 95, 105, 109, 112, 111, 114, 116, 108, 105, 98, 46, 66, 117, 105, 108, 116, 105, 110, 73, 109, 112, 111, 114, 116, 101, 114, 46, 101, 120, 101, 99, 95, 109, 111, 100, 117, 108, 101, 35, 111, 112, 97, 113, 117, 101, 6, 198, 8, 103, 101, 116, 95, 99, 111, 100, 101, 9, 49, 95, 102, 114, 111, 122, 101, 110, 95, 105, 109, 112, 111, 114, 116, 108, 105, 98, 46, 66, 117, 105, 108, 116, 105, 110, 73, 109, 112, 111, 114, 116, 101, 114, 46, 103, 101, 116, 95, 99, 111, 100, 101, 35, 111, 112, 97, 113, 117, 101, 6, 199, 10, 103, 101, 116, 95, 115, 111, 117, 114, 99, 101, 9, 51, 95, 102, 114, 111, 122, 101, 110, 95, 105, 109, 112, 111, 114, 116, 108, 105, 98, 46, 66, 117, 105, 108, 116, 105, 110, 73, 109, 112, 111, 114, 116, 101, 114, 46, 103, 101, 116, 95, 115, 111, 117, 114, 99, 101, 35, 111, 112, 97, 113, 117, 101, 6, 200, 10, 105, 115, 95, 112, 97, 99, 107, 97, 103, 101, 9, 51, 95, 102, 114, 111, 122, 101, 110, 95, 105, 109, 112, 111, 114, 116, 108, 105, 98, 46, 66, 117, 105, 108, 116, 105, 110, 73, 109, 112, 111, 114, 116, 101, 114, 46, 105, 115, 95, 112, 97, 99, 107, 97, 103, 101, 35, 111, 112, 97, 113, 117, 101, 6, 201, 11, 108, 111, 97, 100, 95, 109, 111, 100, 117, 108, 101, 9, 52, 95, 102, 114, 111, 122, 101, 110, 95, 105, 109, 112, 111, 114, 116, 108, 105, 98, 46, 66, 117, 105, 108, 116, 105, 110, 73, 109, 112, 111, 114, 116, 101, 114, 46, 108, 111, 97, 100, 95, 109, 111, 100, 117, 108, 101, 35, 111, 112, 97, 113, 117, 101, 6, 202, 21, 95, 95, 115, 116, 97, 116, 105, 99, 95, 97, 116, 116, 114, 105, 98, 117, 116, 101, 115, 95, 95, 4, 0, 0, 16, 6, 204, 8, 95, 95, 100, 105, 99, 116, 95, 95, 4, 0, 0, 17, 6, 206, 11, 95, 95, 119, 101, 97, 107, 114, 101, 102, 95, 95, 4, 0, 0, 18]) 0, .bool true, .bool true, .str (S "") 207, .int 22 0, .str (PySem.Str.mk #[6, 229, 10, 95, 95, 109, 111, 100, 117, 108, 101, 95, 95, 6, 219, 17, 95, 102, 114, 111, 122, 101, 110, 95, 105, 109, 112, 111, 114, 116, 108, 105, 98, 6, 230, 15, 95, 95, 102, 105, 114, 115, 116, 108, 105, 110, 101, 110, 111, 95, 95, 4, 220, 0, 562, 6, 231, 7, 95, 95, 100, 111, 99, 95, 95, 9, 47, 95, 102, 114, 111, 122, 101, 110, 95, 105, 109, 112, 111, 114, 116, 108, 105, 98, 46, 77, 111, 100, 117, 108, 101, 83, 112, 101, 99, 46, 95, 95, 100, 111, 99, 95, 95, 58, 115, 116, 114, 35, 111, 112, 97, 113, 117, 101, 6, 232, 8, 95, 95, 105, 110, 105, 116, 95, 95, 9, 44, 95, 102, 114, 111, 122, 101, 110, 95, 105, 109, 112, 111, 114, 116, 108, 105, 98, 46, 77, 111, 100, 117, 108, 101, 83, 112, 101, 99, 46, 95, 95, 105, 110, 105, 116, 95, 95, 35, 111, 112, 97, 113, 117, 101, 6, 233, 8, 95, 95, 114, 101, 112, 114, 95, 95, 9, 44, 95, 102, 114, 111, 122, 101, 110, 95, 105, 109, 112, 111, 114, 116, 108, 105, 98, 46, 77, 111, 100, 117, 108, 101, 83, 112, 101, 99, 46, 95, 95, 114, 101, 112, 114, 95, 95, 35, 111, 112, 97, 113, 117, 101, 6, 234, 6, 95, 95, 101, 113, 95, 95, 9, 42, 95, 102, 114, 111, 122, 101, 110, 95, 105, 109, 112, 111, 114, 116, 108, 105, 98, 46, 77, 111, 100, 117, 108, 101, 83, 112, 101, 99, 46, 95, 95, 101, 113, 95, 95, 35, 111, 112, 97, 113, 117, 101, 6, 235, 6, 99, 97, 99, 104, 101, 100, 9, 42, 95, 102, 114, 111, 122, 101, 110, 95, 105, 109, 112, 111, 114, 116, 108, 105, 98, 46, 77, 111, 100, 117, 108, 101, 83, 112, 101, 99, 46, 99, 97, 99, 104, 101, 100, 35, 111, 112, 97, 113, 117, 101, 6, 236, 6, 112, 97, 114, 101, 110, 116, 9, 42, 95, 102, 114, 111, 122, 101, 110, 95, 105, 109, 112, 111, 114, 116, 108, 105, 98, 46, 77, 111, 100, 117, 108, 101, 83, 112, 101, 99, 46, 112, 97, 114, 101, 110, 116, 35, 111, 112, 97, 113, 117, 101, 6, 237, 12, 104, 97, 115, 95, 108, 111, 99, 97, 116, 105, 111, 110, 9, 48, 95, 102, 114, 111, 122, 101, 110, 95, 105, 109, 112, 111, 114, 116, 108, 105, 98, 46, 77, 111, 100, 117, 108, 101, 83, 112, 101, 99, 46, 104, 97, 115, 95, 108, 111, 99, 97, 116, 105, 111, 110, 35, 111, 112, 97, 113, 117, 101, 6, 238, 21, 95, 95, 115, 116, 97, 116, 105, 99, 95, 97, 116, 116, 114, 105, 98, 117, 116, 101, 115, 95, 95, 4, 0, 0, 24, 6, 240, 8, 95, 95, 100, 105, 99, 116, 95, 95, 4, 0, 0, 25, 6, 242, 11, 95, 95, 119, 101, 97, 107, 114, 101, 102, 95, 95, 4, 0, 0, 26, 6, 243, 8, 95, 95, 104, 97, 115, 104, 95, 95, 0]) 0, .bool true, .bool true, .str (S "") 244] 1), #[]⟩
noncomputable def o20 (P : Params) : Obj := ⟨.type "list", none, (.seq #[] 0), #[]⟩
noncomputable def o21 (P : Params) : Obj := ⟨.type "dict", none, (.dict #[E P (S "name") 210 (.str (S "_collections") 209), E P (S "loader") 211 (.ref 15), E P (S "origin") 212 (.str (S "built-in") 186), E P (S "loader_state") 213 .none, E P (S "submodule_search_locations") 214 .none, E P (S "_uninitialized_submodules") 215 (.ref 20), E P (S "_set_fileattr") 216 (.bool false), E P (S "_cached") 217 .none, E P (S "_initializing") 245 (.bool false)] 9), #[]⟩
noncomputable def o22 (P : Params) : Obj := ⟨.type "dict", none, (.dict #[E P (S "__module__") 229 (.str (S "_frozen_importlib") 219), E P (S "__firstlineno__") 230 (.int 562 220), E P (S "__doc__") 231 (.builtin "_frozen_importlib.ModuleSpec.__doc__:str#opaque"), E P (S "__init__") 232 (.builtin "_frozen_importlib.ModuleSpec.__init__#opaque"), E P (S "__repr__") 233 (.builtin "_frozen_importlib.ModuleSpec.__repr__#opaque"), E P (S "__eq__") 234 (.builtin "_frozen_importlib.ModuleSpec.__eq__#opaque"), E P (S "cached") 235 (.builtin "_frozen_importlib.ModuleSpec.cached#opaque"), E P (S "parent") 236 (.builtin "_frozen_importlib.ModuleSpec.parent#opaque"), E P (S "has_location") 237 (.builtin "_frozen_importlib.ModuleSpec.has_location#opaque"), E P (S "__static_attributes__") 238 (.ref 24), E P (S "__dict__") 240 (.ref 25), E P (S "__weakref__") 242 (.ref 26), E P (S "__hash__") 243 .none] 13), #[]⟩
noncomputable def o23 (P : Params) : Obj := ⟨.type "type", none, (.cls ⟨(S "ModuleSpec"), [.type "object"], [.ref 23, .type "object"], 22, (S "ModuleSpec"), true, [], [], false, none, false⟩), #[]⟩
noncomputable def o24 (P : Params) : Obj := ⟨.type "tuple", none, (.seq #[.str (S "_cached") 221, .str (S "_set_fileattr") 222, .str (S "_uninitialized_submodules") 223, .str (S "loader") 224, .str (S "loader_state") 225, .str (S "name") 226, .str (S "origin") 227, .str (S "submodule_search_locations") 228] 0), #[]⟩
noncomputable def o25 (P : Params) : Obj := ⟨.type "getset_descriptor", none, (.fields #[.str (S "__dict__") 239, .ref 23, .builtin "function.__dict__", .builtin "function.__dict__#set"]), #[]⟩
noncomputable def o26 (P : Params) : Obj := ⟨.type "getset_descriptor", none, (.fields #[.str (S "__weakref__") 241, .ref 23, .builtin "ExceptionGroup.__weakref__", .none]), #[]⟩
noncomputable def o27 (P : Params) : Obj := ⟨.ref 23, (some 21), .plain, #[]⟩
noncomputable def o28 (P : Params) : Obj := ⟨.none, none, (.seq #[.int 12 0, .str (PySem.Str.mk #[6, 250, 8, 95, 95, 110, 97, 109, 101, 95, 95, 6, 249, 12, 95, 99, 111, 108, 108, 101, 99, 116, 105, 111, 110, 115, 6, 251, 7, 95, 95, 100, 111, 99, 95, 95, 9, 31, 95, 99, 111, 108, 108, 101, 99, 116, 105, 111, 110, 115, 46, 95, 95, 100, 111, 99, 95, 95, 58, 115, 116, 114, 35, 111, 112, 97, 113, 117, 101, 6, 253, 11, 95, 95, 112, 97, 99, 107, 97, 103, 101, 95, 95, 6, 252, 0, 6, 254, 10, 95, 95, 108, 111, 97, 100, 101, 114, 95, 95, 4, 0, 0, 15, 6, 255, 8, 95, 95, 115, 112, 101, 99, 95, 95, 4, 0, 0, 27, 6, 256, 15, 95, 99, 111, 117, 110, 116, 95, 101, 108, 101, 109, 101, 110, 116, 115, 9, 28, 95, 99, 111, 108, 108, 101, 99, 116, 105, 111, 110, 115, 46, 95, 99, 111, 117, 110, 116, 95, 101, 108, 101, 109, 101, 110, 116, 115, 6, 257, 5, 100, 101, 113, 117, 101, 8, 17, 99, 111, 108, 108, 101, 99, 116, 105, 111, 110, 115, 46, 100, 101, 113, 117, 101, 6, 258, 11, 100, 101, 102, 97, 117, 108, 116, 100, 105, 99, 116, 8, 23, 99, 111, 108, 108, 101, 99, 116, 105, 111, 110, 115, 46, 100, 101, 102, 97, 117, 108, 116, 100, 105, 99, 116, 6, 259, 15, 95, 100, 101, 113, 117, 101, 95, 105, 116, 101, 114, 97, 116, 111, 114, 8, 27, 99, 111, 108, 108, 101, 99, 116, 105, 111, 110, 115, 46, 95, 100, 101, 113, 117, 101, 95, 105, 116, 101, 114, 97, 116, 111, 114, 6, 260, 23, 95, 100, 101, 113, 117, 101, 95, 114, 101, 118, 101, 114, 115, 101, 95, 105, 116, 101, 114, 97, 116, 111, 114, 8, 35, 99, 111, 108, 108, 101, 99, 116, 105, 111, 110, 115, 46, 95, 100, 101, 113, 117, 101, 95, 114, 101, 118, 101, 114, 115, 101, 95, 105, 116, 101, 114, 97, 116, 111, 114, 6, 261, 12, 95, 116, 117, 112, 108, 101, 103, 101, 116, 116, 101, 114, 8, 24, 99, 111, 108, 108, 101, 99, 116, 105, 111, 110, 115, 46, 95, 116, 117, 112, 108, 101, 103, 101, 116, 116, 101, 114, 6, 262, 11, 79, 114, 100, 101, 114, 101, 100, 68, 105, 99, 116, 8, 23, 99, 111, 108, 108, 101, 99, 116, 105, 111, 110, 115, 46, 79, 114, 100, 101, 114, 101, 100, 68, 105, 99, 116]) 0, .bool true, .bool false, .str (S "_collections") 264] 0), #[]⟩
noncomputable def H0 (P : Params) : Heap := ⟨⟨[o0 P, o1 P, o2 P, o3 P, o4 P, o5 P, o6 P, o7 P, o8 P, o9 P, o10 P, o11 P, o12 P, o13 P, o14 P, o15 P, o16 P, o17 P, o18 P, o19 P, o20 P, o21 P, o22 P, o23 P, o24 P, o25 P, o26 P, o27 P, o28 P]⟩, {}⟩
noncomputable def o29 (P : Params) : Obj := ⟨.type "tuple", none, (.seq #[] 0), #[]⟩
noncomputable def o30 (P : Params) : Obj := ⟨.none, none, (.fields #[]), #[]⟩
noncomputable def o31 (P : Params) : Obj := ⟨.type "code", none, (.fields #[.str (S "<module>") 274, .str (S "<module>") 275, .str (S "/claim/cut.py") 276, .int 1 0, .int 0 0, .int 0 0, .int 0 0, .int 0 0, .ref 29, .bool false, .int 273 0, .ref 30, .none, .none, .none, .none, .int 277 0, .int 1 0, .str (S "/claim/cut.py") 278]), #[]⟩
noncomputable def o32 (P : Params) : Obj := ⟨.type "frame", none, .plain, #[(some (.ref 31)), (some (.ref 3)), (some (.ref 3)), none, (some (.str (S "__main__") 164)), none, (some (.ref 0))]⟩
noncomputable def Ha (P : Params) : Heap := ⟨⟨[o0 P, o1 P, o2 P, o3 P, o4 P, o5 P, o6 P, o7 P, o8 P, o9 P, o10 P, o11 P, o12 P, o13 P, o14 P, o15 P, o16 P, o17 P, o18 P, o19 P, o20 P, o21 P, o22 P, o23 P, o24 P, o25 P, o26 P, o27 P, o28 P, o29 P, o30 P, o31 P, o32 P]⟩, {}⟩
noncomputable def T0 (P : Params) : BT := (n (o0 P) (n (o1 P) (n (o3 P) (n (o7 P) (n (o15 P) (n (o31 P) l l) l) (n (o23 P) l l)) (n (o11 P) (n (o19 P) l l) (n (o27 P) l l))) (n (o5 P) (n (o9 P) (n (o17 P) l l) (n (o25 P) l l)) (n (o13 P) (n (o21 P) l l) (n (o29 P) l l)))) (n (o2 P) (n (o4 P) (n (o8 P) (n (o16 P) (n (o32 P) l l) l) (n (o24 P) l l)) (n (o12 P) (n (o20 P) l l) (n (o28 P) l l))) (n (o6 P) (n (o10 P) (n (o18 P) l l) (n (o26 P) l l)) (n (o14 P) (n (o22 P) l l) (n (o30 P) l l)))))
noncomputable def S0 (w : World) (os : OsState) : SharedT := ⟨T0 w.params, 33, {}, #[], {}, 279, os⟩
noncomputable def en : Env := { scope := PySem.Challenge.pw_ny0304_03.main.scope, locals := mainNs, globals := mainNs, cells := [], code := .ref 31, frame := some 32 }
noncomputable def fq : Pos := ⟨0, 0, 0, 0⟩
theorem pre (w : World) (os : OsState) : topGo treeTable PySem.Challenge.pw_ny0304_03 w 29 (some (.ref 6)) 12 ⟨H0 w.params, #[], {}, 273, os⟩ (topStub PySem.Challenge.pw_ny0304_03) = some (⟨Ha w.params, #[], {}, 279, os⟩, ⟨denote treeTable (.body (behindTheImports PySem.Challenge.pw_ny0304_03) en), (.body (behindTheImports PySem.Challenge.pw_ny0304_03) en), ⟨0, 0, 0, 0⟩, [topFrame fq]⟩) := by kernel_rfl
theorem blk (w : World) (os : OsState) : segRun treeTable PySem.Challenge.pw_ny0304_03 w 29 (some (.ref 6)) 1 1 ⟨Ha w.params, #[], {}, 279, os⟩ (blockOf (behindTheImports PySem.Challenge.pw_ny0304_03) en (.body (behindTheImports PySem.Challenge.pw_ny0304_03) en) ⟨0, 0, 0, 0⟩ [topFrame fq]) = some (.next, (S0 w os).abs, (.body (behindTheImports PySem.Challenge.pw_ny0304_03) en), ⟨0, 0, 0, 0⟩) := by kernel_rfl
noncomputable def o33 (P : Params) : Obj := ⟨.none, none, (.dict #[E P (S "\x69mport.loaded._collections") 185 (.bool true), E P (S "class._frozen_importlib.BuiltinImporter") 187 (.ref 15), E P (S "watched.\x69mport") 208 (.ref 19), E P (S "class._frozen_importlib.ModuleSpec") 218 (.ref 23), E P (S "sys.modules.booked-epoch") 247 (.int 3 0), E P (S "sys.modules.landed._collections") 248 (.bool true), E P (S "\x69mport.later-laid._collections") 263 (.bool true), E P (S "watched.library") 265 (.ref 28), E P (S "watched.library-objects") 0 (.str (PySem.Str.mk #[13]) 0), E P (S "watched.library-deep._collections") 266 (.str (PySem.Str.mk #[4, 0, 0, 12, 4, 0, 0, 12, 4, 0, 0, 3, 4, 0, 0, 12, 8, 4, 100, 105, 99, 116, 2]) 0), E P (S "type.__subclasses__.OSError.0") 322 (.int 63 0), E P (S "type.__subclasses__.OSError.n") 323 (.int 1 0)] 12), #[]⟩
noncomputable def o34 (P : Params) : Obj := ⟨.type "dict", none, (.dict #[E P (S "__name__") 165 (.str (S "io") 286), E P (S "__doc__") 166 .none, E P (S "__package__") 167 .none, E P (S "__loader__") 168 (.builtin "__main__.__loader__#opaque"), E P (S "__spec__") 169 .none, E P (S "__annotations__") 170 (.ref 6), E P (S "__builtins__") 171 (.ref 4), E P (S "__file__") 173 (.str (S "/claim/cut.py") 172), E P (S "__cached__") 174 .none, E P (S "deque") 272 (.type "collections.deque"), E P (S "_wall") 285 (.ref 39), E P (S "_whence") 295 (.ref 46), E P (S "_index") 303 (.ref 53), E P (S "UnsupportedOperation") 325 (.ref 63)] 14), #[]⟩
noncomputable def o35 (P : Params) : Obj := ⟨.none, none, (.fields #[.int 2 0, .int 0 0, .ref 38, .int 6 0, .int 0 0, .ref 45, .int 11 0, .int 0 0, .ref 52, .int 18 0, .int 0 0, .ref 59]), #[]⟩
noncomputable def o36 (P : Params) : Obj := ⟨.type "tuple", none, (.seq #[] 0), #[]⟩
noncomputable def o37 (P : Params) : Obj := ⟨.none, none, (.fields #[]), #[]⟩
noncomputable def o38 (P : Params) : Obj := ⟨.type "tuple", none, (.seq #[.str (S "k") 282] 0), #[]⟩
noncomputable def o39 (P : Params) : Obj := ⟨.type "tuple", none, (.seq #[] 0), #[]⟩
noncomputable def o40 (P : Params) : Obj := ⟨.none, none, (.func (fn (S "_wall") (S "_wall") (st 1) 0 [] .none .none .none .none none .none .none 0)), #[]⟩
noncomputable def o41 (P : Params) : Obj := ⟨.type "code", none, (.fields #[.str (S "_wall") 279, .str (S "_wall") 280, .str (S "/claim/cut.py") 281, .int 2 0, .int 1 0, .int 0 0, .int 0 0, .int 3 0, .ref 33, .bool true, .int 273 0, .ref 34, .none, .ref 35, .ref 36, .ref 37, .int 283 0, .int 2 0, .str (S "/claim/cut.py") 284]), #[]⟩
noncomputable def o42 (P : Params) : Obj := ⟨.type "function", none, (.func (fn (S "_wall") (S "_wall") (st 1) 3 [] .none .none .none (.str (S "__main__") 164) none (.ref 38) .none 0)), #[]⟩
noncomputable def o43 (P : Params) : Obj := ⟨.type "tuple", none, (.seq #[] 0), #[]⟩
noncomputable def o44 (P : Params) : Obj := ⟨.none, none, (.fields #[]), #[]⟩
noncomputable def o45 (P : Params) : Obj := ⟨.type "tuple", none, (.seq #[.str (S "n") 291, .str (S "what") 292] 0), #[]⟩
noncomputable def o46 (P : Params) : Obj := ⟨.type "tuple", none, (.seq #[] 0), #[]⟩
noncomputable def o47 (P : Params) : Obj := ⟨.none, none, (.func (fn (S "_whence") (S "_whence") (st 3) 0 [] .none .none .none .none none .none .none 0)), #[]⟩
noncomputable def o48 (P : Params) : Obj := ⟨.type "code", none, (.fields #[.str (S "_whence") 288, .str (S "_whence") 289, .str (S "/claim/cut.py") 290, .int 6 0, .int 2 0, .int 0 0, .int 0 0, .int 3 0, .ref 40, .bool true, .int 273 0, .ref 41, .none, .ref 42, .ref 43, .ref 44, .int 293 0, .int 6 0, .str (S "/claim/cut.py") 294]), #[]⟩
noncomputable def o49 (P : Params) : Obj := ⟨.type "function", none, (.func (fn (S "_whence") (S "_whence") (st 3) 3 [] .none .none .none (.str (S "io") 286) none (.ref 45) .none 0)), #[]⟩
noncomputable def o50 (P : Params) : Obj := ⟨.type "tuple", none, (.seq #[] 0), #[]⟩
noncomputable def o51 (P : Params) : Obj := ⟨.none, none, (.fields #[]), #[]⟩
noncomputable def o52 (P : Params) : Obj := ⟨.type "tuple", none, (.seq #[.str (S "n") 299, .str (S "what") 300] 0), #[]⟩
noncomputable def o53 (P : Params) : Obj := ⟨.type "tuple", none, (.seq #[] 0), #[]⟩
noncomputable def o54 (P : Params) : Obj := ⟨.none, none, (.func (fn (S "_index") (S "_index") (st 4) 0 [] .none .none .none .none none .none .none 0)), #[]⟩
noncomputable def o55 (P : Params) : Obj := ⟨.type "code", none, (.fields #[.str (S "_index") 296, .str (S "_index") 297, .str (S "/claim/cut.py") 298, .int 11 0, .int 2 0, .int 0 0, .int 0 0, .int 3 0, .ref 47, .bool true, .int 273 0, .ref 48, .none, .ref 49, .ref 50, .ref 51, .int 301 0, .int 11 0, .str (S "/claim/cut.py") 302]), #[]⟩
noncomputable def o56 (P : Params) : Obj := ⟨.type "function", none, (.func (fn (S "_index") (S "_index") (st 4) 3 [] .none .none .none (.str (S "io") 286) none (.ref 52) .none 0)), #[]⟩
noncomputable def o57 (P : Params) : Obj := ⟨.type "tuple", none, (.seq #[.type "OSError", .type "ValueError"] 0), #[]⟩
noncomputable def o58 (P : Params) : Obj := ⟨.type "builtin_function_or_method", none, (.fields #[.builtin "type.__prepare__", .type "type"]), #[]⟩
noncomputable def o59 (P : Params) : Obj := ⟨.type "dict", none, (.dict #[E P (S "__module__") 311 (.str (S "io") 316), E P (S "__qualname__") 313 (.str (S "UnsupportedOperation") 312), E P (S "__firstlineno__") 315 (.int 18 314), E P (S "__static_attributes__") 318 (.ref 61)] 4), #[]⟩
noncomputable def o60 (P : Params) : Obj := ⟨.type "tuple", none, (.seq #[] 0), #[]⟩
noncomputable def o61 (P : Params) : Obj := ⟨.none, none, (.fields #[]), #[]⟩
noncomputable def o62 (P : Params) : Obj := ⟨.type "code", none, (.fields #[.str (S "UnsupportedOperation") 306, .str (S "UnsupportedOperation") 307, .str (S "/claim/cut.py") 308, .int 18 0, .int 0 0, .int 0 0, .int 0 0, .int 0 0, .ref 57, .bool false, .int 273 0, .ref 58, .none, .none, .none, .none, .int 309 0, .int 18 0, .str (S "/claim/cut.py") 310]), #[]⟩
noncomputable def o63 (P : Params) : Obj := ⟨.type "frame", none, .plain, #[(some (.ref 59)), (some (.ref 3)), (some (.ref 56)), none, (some (.str (S "io") 286)), none, (some (.ref 0))]⟩
noncomputable def o64 (P : Params) : Obj := ⟨.type "tuple", none, (.seq #[] 0), #[]⟩
noncomputable def o65 (P : Params) : Obj := ⟨.type "dict", none, (.dict #[E P (S "__module__") 311 (.str (S "io") 316), E P (S "__firstlineno__") 315 (.int 18 314), E P (S "__static_attributes__") 318 (.ref 61), E P (S "__weakref__") 320 (.ref 64), E P (S "__doc__") 321 .none] 3), #[]⟩
noncomputable def o66 (P : Params) : Obj := ⟨.type "type", none, (.cls ⟨(S "UnsupportedOperation"), [.type "OSError", .type "ValueError"], [.ref 63, .type "OSError", .type "ValueError", .type "Exception", .type "BaseException", .type "object"], 62, (S "UnsupportedOperation"), true, [], [], false, none, false⟩), #[(some (.ref 54)), none, (some (.str (S "UnsupportedOperation") 304)), (some (.str (S "UnsupportedOperation") 312)), (some (.builtin "OSError.__new__")), (some (.bool true))]⟩
noncomputable def o67 (P : Params) : Obj := ⟨.type "getset_descriptor", none, (.fields #[.str (S "__weakref__") 319, .ref 63, .builtin "ExceptionGroup.__weakref__", .none]), #[]⟩
noncomputable def o68 (P : Params) : Obj := ⟨.type "super", none, (.fields #[.ref 63, .ref 63, .ref 63]), #[]⟩
noncomputable def o69 (P : Params) : Obj := ⟨.type "builtin_function_or_method", none, (.fields #[.builtin "object.__init_subclass__", .ref 63]), #[]⟩
noncomputable def T1 (P : Params) : BT := (n (o0 P) (n (o1 P) (n (o34 P) (n (o7 P) (n (o15 P) (n (o31 P) (n (o66 P) l l) l) (n (o50 P) l l)) (n (o23 P) (n (o42 P) l l) (n (o58 P) l l))) (n (o11 P) (n (o19 P) (n (o38 P) l l) (n (o54 P) l l)) (n (o27 P) (n (o46 P) l l) (n (o62 P) l l)))) (n (o5 P) (n (o9 P) (n (o17 P) (n (o36 P) (n (o68 P) l l) l) (n (o52 P) l l)) (n (o25 P) (n (o44 P) l l) (n (o60 P) l l))) (n (o13 P) (n (o21 P) (n (o40 P) l l) (n (o56 P) l l)) (n (o29 P) (n (o48 P) l l) (n (o64 P) l l))))) (n (o33 P) (n (o4 P) (n (o8 P) (n (o16 P) (n (o32 P) (n (o67 P) l l) l) (n (o51 P) l l)) (n (o24 P) (n (o43 P) l l) (n (o59 P) l l))) (n (o12 P) (n (o20 P) (n (o39 P) l l) (n (o55 P) l l)) (n (o28 P) (n (o47 P) l l) (n (o63 P) l l)))) (n (o6 P) (n (o10 P) (n (o18 P) (n (o37 P) (n (o69 P) l l) l) (n (o53 P) l l)) (n (o26 P) (n (o45 P) l l) (n (o61 P) l l))) (n (o14 P) (n (o22 P) (n (o41 P) l l) (n (o57 P) l l)) (n (o35 P) (n (o49 P) l l) (n (o65 P) l l))))))
noncomputable def S1 (w : World) (os : OsState) : SharedT := ⟨T1 w.params, 67, {}, #[], {}, 326, os⟩
noncomputable def ss1 : List Stmt := [st 1, st 2, st 3, st 4, st 5]
theorem pc1 (w : World) (os : OsState) : segRunT treeTable PySem.Challenge.pw_ny0304_03 w 29 (some (.ref 6)) 1 307 (S0 w os) (piecesOf ss1 en (.body (behindTheImports PySem.Challenge.pw_ny0304_03) en) ⟨0, 0, 0, 0⟩ [topFrame fq]) = some (.next, S1 w os, (.body (behindTheImports PySem.Challenge.pw_ny0304_03) en), ⟨18, 0, 19, 21⟩) := by kernel_rfl
noncomputable def o70 (P : Params) : Obj := ⟨.type "dict", none, (.dict #[E P (S "__name__") 165 (.str (S "io") 286), E P (S "__doc__") 166 .none, E P (S "__package__") 167 .none, E P (S "__loader__") 168 (.builtin "__main__.__loader__#opaque"), E P (S "__spec__") 169 .none, E P (S "__annotations__") 170 (.ref 6), E P (S "__builtins__") 171 (.ref 4), E P (S "__file__") 173 (.str (S "/claim/cut.py") 172), E P (S "__cached__") 174 .none, E P (S "deque") 272 (.type "collections.deque"), E P (S "_wall") 285 (.ref 39), E P (S "_whence") 295 (.ref 46), E P (S "_index") 303 (.ref 53), E P (S "UnsupportedOperation") 325 (.ref 63), E P (S "IOBase") 357 (.ref 83)] 15), #[]⟩
noncomputable def o71 (P : Params) : Obj := ⟨.none, none, (.fields #[.int 2 0, .int 0 0, .ref 38, .int 6 0, .int 0 0, .ref 45, .int 11 0, .int 0 0, .ref 52, .int 18 0, .int 0 0, .ref 59, .int 20 0, .int 0 0, .ref 72]), #[]⟩
noncomputable def o72 (P : Params) : Obj := ⟨.type "tuple", none, (.seq #[] 0), #[]⟩
noncomputable def o73 (P : Params) : Obj := ⟨.type "builtin_function_or_method", none, (.fields #[.builtin "type.__prepare__", .type "type"]), #[]⟩
noncomputable def o74 (P : Params) : Obj := ⟨.type "dict", none, (.dict #[E P (S "__module__") 333 (.str (S "io") 338), E P (S "__qualname__") 335 (.str (S "IOBase") 334), E P (S "__firstlineno__") 337 (.int 20 336), E P (S "__new__") 348 (.ref 80), E P (S "__static_attributes__") 349 (.ref 81)] 5), #[]⟩
noncomputable def o75 (P : Params) : Obj := ⟨.type "tuple", none, (.seq #[] 0), #[]⟩
noncomputable def o76 (P : Params) : Obj := ⟨.none, none, (.fields #[.int 23 0, .int 4 0, .ref 79]), #[]⟩
noncomputable def o77 (P : Params) : Obj := ⟨.type "code", none, (.fields #[.str (S "IOBase") 328, .str (S "IOBase") 329, .str (S "/claim/cut.py") 330, .int 20 0, .int 0 0, .int 0 0, .int 0 0, .int 0 0, .ref 70, .bool false, .int 273 0, .ref 71, .none, .none, .none, .none, .int 331 0, .int 20 0, .str (S "/claim/cut.py") 332]), #[]⟩
noncomputable def o78 (P : Params) : Obj := ⟨.type "frame", none, .plain, #[(some (.ref 72)), (some (.ref 3)), (some (.ref 69)), none, (some (.str (S "io") 286)), none, (some (.ref 0))]⟩
noncomputable def o79 (P : Params) : Obj := ⟨.type "tuple", none, (.seq #[] 0), #[]⟩
noncomputable def o80 (P : Params) : Obj := ⟨.none, none, (.fields #[]), #[]⟩
noncomputable def o81 (P : Params) : Obj := ⟨.type "tuple", none, (.seq #[.str (S "cls") 343, .str (S "args") 344, .str (S "kwargs") 345] 0), #[]⟩
noncomputable def o82 (P : Params) : Obj := ⟨.type "tuple", none, (.seq #[] 0), #[]⟩
noncomputable def o83 (P : Params) : Obj := ⟨.none, none, (.func (fn (S "__new__") (S "IOBase.__new__") (kid (st 6) 1) 0 [] .none .none .none .none none .none .none 0)), #[]⟩
noncomputable def o84 (P : Params) : Obj := ⟨.type "code", none, (.fields #[.str (S "__new__") 340, .str (S "IOBase.__new__") 341, .str (S "/claim/cut.py") 342, .int 23 0, .int 1 0, .int 1 0, .int 0 0, .int 15 0, .ref 74, .bool true, .int 273 0, .ref 75, .none, .ref 76, .ref 77, .ref 78, .int 346 0, .int 23 0, .str (S "/claim/cut.py") 347]), #[]⟩
noncomputable def o85 (P : Params) : Obj := ⟨.type "function", none, (.func (fn (S "__new__") (S "IOBase.__new__") (kid (st 6) 1) 3 [] .none .none .none (.str (S "io") 286) none (.ref 79) .none 0)), #[]⟩
noncomputable def o86 (P : Params) : Obj := ⟨.type "tuple", none, (.seq #[] 0), #[]⟩
noncomputable def o87 (P : Params) : Obj := ⟨.type "dict", none, (.dict #[E P (S "__module__") 333 (.str (S "io") 338), E P (S "__firstlineno__") 337 (.int 20 336), E P (S "__new__") 348 (.ref 84), E P (S "__static_attributes__") 349 (.ref 81), E P (S "__dict__") 352 (.ref 85), E P (S "__weakref__") 354 (.ref 86), E P (S "__doc__") 355 .none] 4), #[]⟩
noncomputable def o88 (P : Params) : Obj := ⟨.type "type", none, (.cls ⟨(S "IOBase"), [.type "object"], [.ref 83, .type "object"], 82, (S "IOBase"), true, [], [], false, none, false⟩), #[none, none, (some (.str (S "IOBase") 326)), (some (.str (S "IOBase") 334)), (some .none), (some (.bool true))]⟩
noncomputable def o89 (P : Params) : Obj := ⟨.type "staticmethod", none, (.fields #[.ref 80]), #[]⟩
noncomputable def o90 (P : Params) : Obj := ⟨.type "getset_descriptor", none, (.fields #[.str (S "__dict__") 351, .ref 83, .builtin "function.__dict__", .builtin "function.__dict__#set"]), #[]⟩
noncomputable def o91 (P : Params) : Obj := ⟨.type "getset_descriptor", none, (.fields #[.str (S "__weakref__") 353, .ref 83, .builtin "ExceptionGroup.__weakref__", .none]), #[]⟩
noncomputable def o92 (P : Params) : Obj := ⟨.type "super", none, (.fields #[.ref 83, .ref 83, .ref 83]), #[]⟩
noncomputable def o93 (P : Params) : Obj := ⟨.type "builtin_function_or_method", none, (.fields #[.builtin "object.__init_subclass__", .ref 83]), #[]⟩
noncomputable def T2 (P : Params) : BT := (n (o0 P) (n (o1 P) (n (o70 P) (n (o7 P) (n (o15 P) (n (o31 P) (n (o66 P) l l) l) (n (o50 P) (n (o84 P) l l) l)) (n (o23 P) (n (o42 P) (n (o76 P) l l) l) (n (o58 P) (n (o92 P) l l) l))) (n (o11 P) (n (o19 P) (n (o38 P) (n (o72 P) l l) l) (n (o54 P) (n (o88 P) l l) l)) (n (o27 P) (n (o46 P) (n (o80 P) l l) l) (n (o62 P) l l)))) (n (o5 P) (n (o9 P) (n (o17 P) (n (o36 P) (n (o68 P) l l) l) (n (o52 P) (n (o86 P) l l) l)) (n (o25 P) (n (o44 P) (n (o78 P) l l) l) (n (o60 P) l l))) (n (o13 P) (n (o21 P) (n (o40 P) (n (o74 P) l l) l) (n (o56 P) (n (o90 P) l l) l)) (n (o29 P) (n (o48 P) (n (o82 P) l l) l) (n (o64 P) l l))))) (n (o33 P) (n (o4 P) (n (o8 P) (n (o16 P) (n (o32 P) (n (o67 P) l l) l) (n (o51 P) (n (o85 P) l l) l)) (n (o24 P) (n (o43 P) (n (o77 P) l l) l) (n (o59 P) (n (o93 P) l l) l))) (n (o12 P) (n (o20 P) (n (o39 P) (n (o73 P) l l) l) (n (o55 P) (n (o89 P) l l) l)) (n (o28 P) (n (o47 P) (n (o81 P) l l) l) (n (o63 P) l l)))) (n (o6 P) (n (o10 P) (n (o18 P) (n (o37 P) (n (o69 P) l l) l) (n (o53 P) (n (o87 P) l l) l)) (n (o26 P) (n (o45 P) (n (o79 P) l l) l) (n (o61 P) l l))) (n (o14 P) (n (o22 P) (n (o41 P) (n (o75 P) l l) l) (n (o57 P) (n (o91 P) l l) l)) (n (o71 P) (n (o49 P) (n (o83 P) l l) l) (n (o65 P) l l))))))
noncomputable def S2 (w : World) (os : OsState) : SharedT := ⟨T2 w.params, 89, {}, #[], {}, 358, os⟩
noncomputable def ss2 : List Stmt := [st 6]
theorem pc2 (w : World) (os : OsState) : segRunT treeTable PySem.Challenge.pw_ny0304_03 w 29 (some (.ref 6)) 1 240 (S1 w os) (piecesOf ss2 en (.body (behindTheImports PySem.Challenge.pw_ny0304_03) en) ⟨18, 0, 19, 21⟩ [topFrame fq]) = some (.next, S2 w os, (.body (behindTheImports PySem.Challenge.pw_ny0304_03) en), ⟨20, 0, 26, 34⟩) := by kernel_rfl
noncomputable def o94 (P : Params) : Obj := ⟨.type "dict", none, (.dict #[E P (S "__name__") 165 (.str (S "io") 286), E P (S "__doc__") 166 .none, E P (S "__package__") 167 .none, E P (S "__loader__") 168 (.builtin "__main__.__loader__#opaque"), E P (S "__spec__") 169 .none, E P (S "__annotations__") 170 (.ref 6), E P (S "__builtins__") 171 (.ref 4), E P (S "__file__") 173 (.str (S "/claim/cut.py") 172), E P (S "__cached__") 174 .none, E P (S "deque") 272 (.type "collections.deque"), E P (S "_wall") 285 (.ref 39), E P (S "_whence") 295 (.ref 46), E P (S "_index") 303 (.ref 53), E P (S "UnsupportedOperation") 325 (.ref 63), E P (S "IOBase") 357 (.ref 83), E P (S "BufferedIOBase") 375 (.ref 98), E P (S "TextIOBase") 393 (.ref 110)] 17), #[]⟩
noncomputable def o95 (P : Params) : Obj := ⟨.none, none, (.fields #[.int 2 0, .int 0 0, .ref 38, .int 6 0, .int 0 0, .ref 45, .int 11 0, .int 0 0, .ref 52, .int 18 0, .int 0 0, .ref 59, .int 20 0, .int 0 0, .ref 72, .int 27 0, .int 0 0, .ref 94, .int 29 0, .int 0 0, .ref 106]), #[]⟩
noncomputable def o96 (P : Params) : Obj := ⟨.type "type", none, (.cls ⟨(S "IOBase"), [.type "object"], [.ref 83, .type "object"], 82, (S "IOBase"), true, [], [.ref 98, .ref 110], false, none, false⟩), #[none, none, (some (.str (S "IOBase") 326)), (some (.str (S "IOBase") 334)), (some .none), (some (.bool true))]⟩
noncomputable def o97 (P : Params) : Obj := ⟨.type "tuple", none, (.seq #[.ref 83] 0), #[]⟩
noncomputable def o98 (P : Params) : Obj := ⟨.type "builtin_function_or_method", none, (.fields #[.builtin "type.__prepare__", .type "type"]), #[]⟩
noncomputable def o99 (P : Params) : Obj := ⟨.type "dict", none, (.dict #[E P (S "__module__") 365 (.str (S "io") 370), E P (S "__qualname__") 367 (.str (S "BufferedIOBase") 366), E P (S "__firstlineno__") 369 (.int 27 368), E P (S "__static_attributes__") 372 (.ref 96)] 4), #[]⟩
noncomputable def o100 (P : Params) : Obj := ⟨.type "tuple", none, (.seq #[] 0), #[]⟩
noncomputable def o101 (P : Params) : Obj := ⟨.none, none, (.fields #[]), #[]⟩
noncomputable def o102 (P : Params) : Obj := ⟨.type "code", none, (.fields #[.str (S "BufferedIOBase") 360, .str (S "BufferedIOBase") 361, .str (S "/claim/cut.py") 362, .int 27 0, .int 0 0, .int 0 0, .int 0 0, .int 0 0, .ref 92, .bool false, .int 273 0, .ref 93, .none, .none, .none, .none, .int 363 0, .int 27 0, .str (S "/claim/cut.py") 364]), #[]⟩
noncomputable def o103 (P : Params) : Obj := ⟨.type "frame", none, .plain, #[(some (.ref 94)), (some (.ref 3)), (some (.ref 91)), none, (some (.str (S "io") 286)), none, (some (.ref 0))]⟩
noncomputable def o104 (P : Params) : Obj := ⟨.type "tuple", none, (.seq #[] 0), #[]⟩
noncomputable def o105 (P : Params) : Obj := ⟨.type "dict", none, (.dict #[E P (S "__module__") 365 (.str (S "io") 370), E P (S "__firstlineno__") 369 (.int 27 368), E P (S "__static_attributes__") 372 (.ref 96), E P (S "__doc__") 373 .none] 2), #[]⟩
noncomputable def o106 (P : Params) : Obj := ⟨.type "type", none, (.cls ⟨(S "BufferedIOBase"), [.ref 83], [.ref 98, .ref 83, .type "object"], 97, (S "BufferedIOBase"), true, [], [], false, none, false⟩), #[(some (.ref 89)), none, (some (.str (S "BufferedIOBase") 358)), (some (.str (S "BufferedIOBase") 366)), (some .none), (some (.bool true))]⟩
noncomputable def o107 (P : Params) : Obj := ⟨.type "super", none, (.fields #[.ref 98, .ref 98, .ref 98]), #[]⟩
noncomputable def o108 (P : Params) : Obj := ⟨.type "builtin_function_or_method", none, (.fields #[.builtin "object.__init_subclass__", .ref 98]), #[]⟩
noncomputable def o109 (P : Params) : Obj := ⟨.type "tuple", none, (.seq #[.ref 83] 0), #[]⟩
noncomputable def o110 (P : Params) : Obj := ⟨.type "builtin_function_or_method", none, (.fields #[.builtin "type.__prepare__", .type "type"]), #[]⟩
noncomputable def o111 (P : Params) : Obj := ⟨.type "dict", none, (.dict #[E P (S "__module__") 383 (.str (S "io") 388), E P (S "__qualname__") 385 (.str (S "TextIOBase") 384), E P (S "__firstlineno__") 387 (.int 29 386), E P (S "__static_attributes__") 390 (.ref 108)] 4), #[]⟩
noncomputable def o112 (P : Params) : Obj := ⟨.type "tuple", none, (.seq #[] 0), #[]⟩
noncomputable def o113 (P : Params) : Obj := ⟨.none, none, (.fields #[]), #[]⟩
noncomputable def o114 (P : Params) : Obj := ⟨.type "code", none, (.fields #[.str (S "TextIOBase") 378, .str (S "TextIOBase") 379, .str (S "/claim/cut.py") 380, .int 29 0, .int 0 0, .int 0 0, .int 0 0, .int 0 0, .ref 104, .bool false, .int 273 0, .ref 105, .none, .none, .none, .none, .int 381 0, .int 29 0, .str (S "/claim/cut.py") 382]), #[]⟩
noncomputable def o115 (P : Params) : Obj := ⟨.type "frame", none, .plain, #[(some (.ref 106)), (some (.ref 3)), (some (.ref 103)), none, (some (.str (S "io") 286)), none, (some (.ref 0))]⟩
noncomputable def o116 (P : Params) : Obj := ⟨.type "tuple", none, (.seq #[] 0), #[]⟩
noncomputable def o117 (P : Params) : Obj := ⟨.type "dict", none, (.dict #[E P (S "__module__") 383 (.str (S "io") 388), E P (S "__firstlineno__") 387 (.int 29 386), E P (S "__static_attributes__") 390 (.ref 108), E P (S "__doc__") 391 .none] 2), #[]⟩
noncomputable def o118 (P : Params) : Obj := ⟨.type "type", none, (.cls ⟨(S "TextIOBase"), [.ref 83], [.ref 110, .ref 83, .type "object"], 109, (S "TextIOBase"), true, [], [], false, none, false⟩), #[(some (.ref 101)), none, (some (.str (S "TextIOBase") 376)), (some (.str (S "TextIOBase") 384)), (some .none), (some (.bool true))]⟩
noncomputable def o119 (P : Params) : Obj := ⟨.type "super", none, (.fields #[.ref 110, .ref 110, .ref 110]), #[]⟩
noncomputable def o120 (P : Params) : Obj := ⟨.type "builtin_function_or_method", none, (.fields #[.builtin "object.__init_subclass__", .ref 110]), #[]⟩
noncomputable def T3 (P : Params) : BT := (n (o0 P) (n (o1 P) (n (o94 P) (n (o7 P) (n (o15 P) (n (o31 P) (n (o66 P) l l) (n (o103 P) l l)) (n (o50 P) (n (o84 P) l l) (n (o119 P) l l))) (n (o23 P) (n (o42 P) (n (o76 P) l l) (n (o111 P) l l)) (n (o58 P) (n (o92 P) l l) l))) (n (o11 P) (n (o19 P) (n (o38 P) (n (o72 P) l l) (n (o107 P) l l)) (n (o54 P) (n (o96 P) l l) l)) (n (o27 P) (n (o46 P) (n (o80 P) l l) (n (o115 P) l l)) (n (o62 P) (n (o99 P) l l) l)))) (n (o5 P) (n (o9 P) (n (o17 P) (n (o36 P) (n (o68 P) l l) (n (o105 P) l l)) (n (o52 P) (n (o86 P) l l) l)) (n (o25 P) (n (o44 P) (n (o78 P) l l) (n (o113 P) l l)) (n (o60 P) (n (o97 P) l l) l))) (n (o13 P) (n (o21 P) (n (o40 P) (n (o74 P) l l) (n (o109 P) l l)) (n (o56 P) (n (o90 P) l l) l)) (n (o29 P) (n (o48 P) (n (o82 P) l l) (n (o117 P) l l)) (n (o64 P) (n (o101 P) l l) l))))) (n (o33 P) (n (o4 P) (n (o8 P) (n (o16 P) (n (o32 P) (n (o67 P) l l) (n (o104 P) l l)) (n (o51 P) (n (o85 P) l l) (n (o120 P) l l))) (n (o24 P) (n (o43 P) (n (o77 P) l l) (n (o112 P) l l)) (n (o59 P) (n (o93 P) l l) l))) (n (o12 P) (n (o20 P) (n (o39 P) (n (o73 P) l l) (n (o108 P) l l)) (n (o55 P) (n (o89 P) l l) l)) (n (o28 P) (n (o47 P) (n (o81 P) l l) (n (o116 P) l l)) (n (o63 P) (n (o100 P) l l) l)))) (n (o6 P) (n (o10 P) (n (o18 P) (n (o37 P) (n (o69 P) l l) (n (o106 P) l l)) (n (o53 P) (n (o87 P) l l) l)) (n (o26 P) (n (o45 P) (n (o79 P) l l) (n (o114 P) l l)) (n (o61 P) (n (o98 P) l l) l))) (n (o14 P) (n (o22 P) (n (o41 P) (n (o75 P) l l) (n (o110 P) l l)) (n (o57 P) (n (o91 P) l l) l)) (n (o95 P) (n (o49 P) (n (o83 P) l l) (n (o118 P) l l)) (n (o65 P) (n (o102 P) l l) l))))))
noncomputable def S3 (w : World) (os : OsState) : SharedT := ⟨T3 w.params, 113, {}, #[], {}, 394, os⟩
noncomputable def ss3 : List Stmt := [st 7, st 8]
theorem pc3 (w : World) (os : OsState) : segRunT treeTable PySem.Challenge.pw_ny0304_03 w 29 (some (.ref 6)) 1 447 (S2 w os) (piecesOf ss3 en (.body (behindTheImports PySem.Challenge.pw_ny0304_03) en) ⟨20, 0, 26, 34⟩ [topFrame fq]) = some (.next, S3 w os, (.body (behindTheImports PySem.Challenge.pw_ny0304_03) en), ⟨29, 0, 30, 21⟩) := by kernel_rfl
noncomputable def o121 (P : Params) : Obj := ⟨.type "dict", none, (.dict #[E P (S "__name__") 165 (.str (S "io") 286), E P (S "__doc__") 166 .none, E P (S "__package__") 167 .none, E P (S "__loader__") 168 (.builtin "__main__.__loader__#opaque"), E P (S "__spec__") 169 .none, E P (S "__annotations__") 170 (.ref 6), E P (S "__builtins__") 171 (.ref 4), E P (S "__file__") 173 (.str (S "/claim/cut.py") 172), E P (S "__cached__") 174 .none, E P (S "deque") 272 (.type "collections.deque"), E P (S "_wall") 285 (.ref 39), E P (S "_whence") 295 (.ref 46), E P (S "_index") 303 (.ref 53), E P (S "UnsupportedOperation") 325 (.ref 63), E P (S "IOBase") 357 (.ref 83), E P (S "BufferedIOBase") 375 (.ref 98), E P (S "TextIOBase") 393 (.ref 110), E P (S "BytesIO") 655 (.ref 340)] 18), #[]⟩
noncomputable def o122 (P : Params) : Obj := ⟨.none, none, (.fields #[.int 2 0, .int 0 0, .ref 38, .int 6 0, .int 0 0, .ref 45, .int 11 0, .int 0 0, .ref 52, .int 18 0, .int 0 0, .ref 59, .int 20 0, .int 0 0, .ref 72, .int 27 0, .int 0 0, .ref 94, .int 29 0, .int 0 0, .ref 106, .int 31 0, .int 0 0, .ref 118]), #[]⟩
noncomputable def o123 (P : Params) : Obj := ⟨.type "type", none, (.cls ⟨(S "BufferedIOBase"), [.ref 83], [.ref 98, .ref 83, .type "object"], 97, (S "BufferedIOBase"), true, [], [.ref 340], false, none, false⟩), #[(some (.ref 89)), none, (some (.str (S "BufferedIOBase") 358)), (some (.str (S "BufferedIOBase") 366)), (some .none), (some (.bool true))]⟩
noncomputable def o124 (P : Params) : Obj := ⟨.type "tuple", none, (.seq #[.ref 98] 0), #[]⟩
noncomputable def o125 (P : Params) : Obj := ⟨.type "builtin_function_or_method", none, (.fields #[.builtin "type.__prepare__", .type "type"]), #[]⟩
noncomputable def o126 (P : Params) : Obj := ⟨.type "dict", none, (.dict #[E P (S "__module__") 401 (.str (S "_io") 406), E P (S "__qualname__") 403 (.str (S "BytesIO") 402), E P (S "__firstlineno__") 405 (.int 31 404), E P (S "__init__") 415 (.ref 127), E P (S "_BytesIO__check") 422 (.ref 134), E P (S "_BytesIO__line") 433 (.ref 141), E P (S "closed") 441 (.ref 149), E P (S "close") 448 (.ref 156), E P (S "__enter__") 455 (.ref 163), E P (S "__exit__") 463 (.ref 170), E P (S "readable") 470 (.ref 177), E P (S "writable") 477 (.ref 184), E P (S "seekable") 484 (.ref 191), E P (S "isatty") 491 (.ref 198), E P (S "flush") 498 (.ref 205), E P (S "fileno") 505 (.ref 212), E P (S "detach") 512 (.ref 219), E P (S "getvalue") 519 (.ref 226), E P (S "getbuffer") 526 (.ref 233), E P (S "tell") 533 (.ref 240), E P (S "seek") 543 (.ref 248), E P (S "truncate") 551 (.ref 256), E P (S "read") 563 (.ref 264), E P (S "read1") 573 (.ref 272), E P (S "readinto") 583 (.ref 279), E P (S "readinto1") 591 (.ref 286), E P (S "readline") 601 (.ref 294), E P (S "readlines") 609 (.ref 302), E P (S "__iter__") 616 (.ref 309), E P (S "__next__") 624 (.ref 316), E P (S "write") 634 (.ref 323), E P (S "writelines") 642 (.ref 330), E P (S "__repr__") 649 (.ref 337), E P (S "__static_attributes__") 652 (.ref 338)] 34), #[]⟩
noncomputable def o127 (P : Params) : Obj := ⟨.type "tuple", none, (.seq #[] 0), #[]⟩
noncomputable def o128 (P : Params) : Obj := ⟨.none, none, (.fields #[.int 34 0, .int 4 0, .ref 126, .int 40 0, .int 4 0, .ref 133, .int 44 0, .int 4 0, .ref 140, .int 58 0, .int 4 0, .ref 147, .int 61 0, .int 4 0, .ref 155, .int 64 0, .int 4 0, .ref 162, .int 68 0, .int 4 0, .ref 169, .int 71 0, .int 4 0, .ref 176, .int 75 0, .int 4 0, .ref 183, .int 79 0, .int 4 0, .ref 190, .int 83 0, .int 4 0, .ref 197, .int 87 0, .int 4 0, .ref 204, .int 90 0, .int 4 0, .ref 211, .int 93 0, .int 4 0, .ref 218, .int 96 0, .int 4 0, .ref 225, .int 99 0, .int 4 0, .ref 232, .int 102 0, .int 4 0, .ref 239, .int 106 0, .int 4 0, .ref 247, .int 123 0, .int 4 0, .ref 255, .int 126 0, .int 4 0, .ref 263, .int 140 0, .int 4 0, .ref 271, .int 143 0, .int 4 0, .ref 278, .int 157 0, .int 4 0, .ref 285, .int 160 0, .int 4 0, .ref 293, .int 167 0, .int 4 0, .ref 301, .int 170 0, .int 4 0, .ref 308, .int 173 0, .int 4 0, .ref 315, .int 180 0, .int 4 0, .ref 322, .int 196 0, .int 4 0, .ref 329, .int 199 0, .int 4 0, .ref 336]), #[]⟩
noncomputable def o129 (P : Params) : Obj := ⟨.type "code", none, (.fields #[.str (S "BytesIO") 396, .str (S "BytesIO") 397, .str (S "/claim/cut.py") 398, .int 31 0, .int 0 0, .int 0 0, .int 0 0, .int 0 0, .ref 116, .bool false, .int 273 0, .ref 117, .none, .none, .none, .none, .int 399 0, .int 31 0, .str (S "/claim/cut.py") 400]), #[]⟩
noncomputable def o130 (P : Params) : Obj := ⟨.type "frame", none, .plain, #[(some (.ref 118)), (some (.ref 3)), (some (.ref 115)), none, (some (.str (S "io") 286)), none, (some (.ref 0))]⟩
noncomputable def o131 (P : Params) : Obj := ⟨.type "tuple", none, (.seq #[.none] 0), #[]⟩
noncomputable def o132 (P : Params) : Obj := ⟨.type "tuple", none, (.seq #[] 0), #[]⟩
noncomputable def o133 (P : Params) : Obj := ⟨.none, none, (.fields #[]), #[]⟩
noncomputable def o134 (P : Params) : Obj := ⟨.type "tuple", none, (.seq #[.str (S "self") 411, .str (S "initial_bytes") 412] 0), #[]⟩
noncomputable def o135 (P : Params) : Obj := ⟨.type "tuple", none, (.seq #[] 0), #[]⟩
noncomputable def o136 (P : Params) : Obj := ⟨.none, none, (.func (fn (S "__init__") (S "BytesIO.__init__") (kid (st 9) 1) 0 [] .none .none .none .none none .none .none 0)), #[]⟩
noncomputable def o137 (P : Params) : Obj := ⟨.type "code", none, (.fields #[.str (S "__init__") 408, .str (S "BytesIO.__init__") 409, .str (S "/claim/cut.py") 410, .int 34 0, .int 2 0, .int 0 0, .int 0 0, .int 3 0, .ref 121, .bool true, .int 273 0, .ref 122, .none, .ref 123, .ref 124, .ref 125, .int 413 0, .int 34 0, .str (S "/claim/cut.py") 414]), #[]⟩
noncomputable def o138 (P : Params) : Obj := ⟨.type "function", none, (.func (fn (S "__init__") (S "BytesIO.__init__") (kid (st 9) 1) 3 [] (.ref 120) .none .none (.str (S "io") 286) none (.ref 126) .none 0)), #[]⟩
noncomputable def o139 (P : Params) : Obj := ⟨.type "tuple", none, (.seq #[] 0), #[]⟩
noncomputable def o140 (P : Params) : Obj := ⟨.none, none, (.fields #[]), #[]⟩
noncomputable def o141 (P : Params) : Obj := ⟨.type "tuple", none, (.seq #[.str (S "self") 419] 0), #[]⟩
noncomputable def o142 (P : Params) : Obj := ⟨.type "tuple", none, (.seq #[] 0), #[]⟩
noncomputable def o143 (P : Params) : Obj := ⟨.none, none, (.func (fn (S "__check") (S "BytesIO.__check") (kid (st 9) 2) 0 [] .none .none .none .none none .none .none 0)), #[]⟩
noncomputable def o144 (P : Params) : Obj := ⟨.type "code", none, (.fields #[.str (S "__check") 416, .str (S "BytesIO.__check") 417, .str (S "/claim/cut.py") 418, .int 40 0, .int 1 0, .int 0 0, .int 0 0, .int 3 0, .ref 128, .bool true, .int 273 0, .ref 129, .none, .ref 130, .ref 131, .ref 132, .int 420 0, .int 40 0, .str (S "/claim/cut.py") 421]), #[]⟩
noncomputable def o145 (P : Params) : Obj := ⟨.type "function", none, (.func (fn (S "__check") (S "BytesIO.__check") (kid (st 9) 2) 3 [] .none .none .none (.str (S "io") 286) none (.ref 133) .none 0)), #[]⟩
noncomputable def o146 (P : Params) : Obj := ⟨.type "tuple", none, (.seq #[] 0), #[]⟩
noncomputable def o147 (P : Params) : Obj := ⟨.none, none, (.fields #[]), #[]⟩
noncomputable def o148 (P : Params) : Obj := ⟨.type "tuple", none, (.seq #[.str (S "self") 426, .str (S "limit") 427, .str (S "start") 428, .str (S "stop") 429, .str (S "i") 430] 0), #[]⟩
noncomputable def o149 (P : Params) : Obj := ⟨.type "tuple", none, (.seq #[] 0), #[]⟩
noncomputable def o150 (P : Params) : Obj := ⟨.none, none, (.func (fn (S "__line") (S "BytesIO.__line") (kid (st 9) 3) 0 [] .none .none .none .none none .none .none 0)), #[]⟩
noncomputable def o151 (P : Params) : Obj := ⟨.type "code", none, (.fields #[.str (S "__line") 423, .str (S "BytesIO.__line") 424, .str (S "/claim/cut.py") 425, .int 44 0, .int 2 0, .int 0 0, .int 0 0, .int 3 0, .ref 135, .bool true, .int 273 0, .ref 136, .none, .ref 137, .ref 138, .ref 139, .int 431 0, .int 44 0, .str (S "/claim/cut.py") 432]), #[]⟩
noncomputable def o152 (P : Params) : Obj := ⟨.type "function", none, (.func (fn (S "__line") (S "BytesIO.__line") (kid (st 9) 3) 3 [] .none .none .none (.str (S "io") 286) none (.ref 140) .none 0)), #[]⟩
noncomputable def o153 (P : Params) : Obj := ⟨.type "tuple", none, (.seq #[] 0), #[]⟩
noncomputable def o154 (P : Params) : Obj := ⟨.none, none, (.fields #[]), #[]⟩
noncomputable def o155 (P : Params) : Obj := ⟨.type "tuple", none, (.seq #[.str (S "self") 437] 0), #[]⟩
noncomputable def o156 (P : Params) : Obj := ⟨.type "tuple", none, (.seq #[] 0), #[]⟩
noncomputable def o157 (P : Params) : Obj := ⟨.none, none, (.func (fn (S "closed") (S "BytesIO.closed") (kid (st 9) 4) 0 [] .none .none .none .none none .none .none 0)), #[]⟩
noncomputable def o158 (P : Params) : Obj := ⟨.type "code", none, (.fields #[.str (S "closed") 434, .str (S "BytesIO.closed") 435, .str (S "/claim/cut.py") 436, .int 57 0, .int 1 0, .int 0 0, .int 0 0, .int 3 0, .ref 142, .bool true, .int 273 0, .ref 143, .none, .ref 144, .ref 145, .ref 146, .int 438 0, .int 57 0, .str (S "/claim/cut.py") 439]), #[]⟩
noncomputable def o159 (P : Params) : Obj := ⟨.type "function", none, (.func (fn (S "closed") (S "BytesIO.closed") (kid (st 9) 4) 3 [] .none .none .none (.str (S "io") 286) none (.ref 147) .none 0)), #[]⟩
noncomputable def o160 (P : Params) : Obj := ⟨.type "property", none, (.fields #[.ref 148, .none, .none, .none, .str (S "closed") 441, .bool false]), #[]⟩
noncomputable def o161 (P : Params) : Obj := ⟨.type "tuple", none, (.seq #[] 0), #[]⟩
noncomputable def o162 (P : Params) : Obj := ⟨.none, none, (.fields #[]), #[]⟩
noncomputable def o163 (P : Params) : Obj := ⟨.type "tuple", none, (.seq #[.str (S "self") 445] 0), #[]⟩
noncomputable def o164 (P : Params) : Obj := ⟨.type "tuple", none, (.seq #[] 0), #[]⟩
noncomputable def o165 (P : Params) : Obj := ⟨.none, none, (.func (fn (S "close") (S "BytesIO.close") (kid (st 9) 5) 0 [] .none .none .none .none none .none .none 0)), #[]⟩
noncomputable def o166 (P : Params) : Obj := ⟨.type "code", none, (.fields #[.str (S "close") 442, .str (S "BytesIO.close") 443, .str (S "/claim/cut.py") 444, .int 61 0, .int 1 0, .int 0 0, .int 0 0, .int 3 0, .ref 150, .bool true, .int 273 0, .ref 151, .none, .ref 152, .ref 153, .ref 154, .int 446 0, .int 61 0, .str (S "/claim/cut.py") 447]), #[]⟩
noncomputable def o167 (P : Params) : Obj := ⟨.type "function", none, (.func (fn (S "close") (S "BytesIO.close") (kid (st 9) 5) 3 [] .none .none .none (.str (S "io") 286) none (.ref 155) .none 0)), #[]⟩
noncomputable def o168 (P : Params) : Obj := ⟨.type "tuple", none, (.seq #[] 0), #[]⟩
noncomputable def o169 (P : Params) : Obj := ⟨.none, none, (.fields #[]), #[]⟩
noncomputable def o170 (P : Params) : Obj := ⟨.type "tuple", none, (.seq #[.str (S "self") 452] 0), #[]⟩
noncomputable def o171 (P : Params) : Obj := ⟨.type "tuple", none, (.seq #[] 0), #[]⟩
noncomputable def o172 (P : Params) : Obj := ⟨.none, none, (.func (fn (S "__enter__") (S "BytesIO.__enter__") (kid (st 9) 6) 0 [] .none .none .none .none none .none .none 0)), #[]⟩
noncomputable def o173 (P : Params) : Obj := ⟨.type "code", none, (.fields #[.str (S "__enter__") 449, .str (S "BytesIO.__enter__") 450, .str (S "/claim/cut.py") 451, .int 64 0, .int 1 0, .int 0 0, .int 0 0, .int 3 0, .ref 157, .bool true, .int 273 0, .ref 158, .none, .ref 159, .ref 160, .ref 161, .int 453 0, .int 64 0, .str (S "/claim/cut.py") 454]), #[]⟩
noncomputable def o174 (P : Params) : Obj := ⟨.type "function", none, (.func (fn (S "__enter__") (S "BytesIO.__enter__") (kid (st 9) 6) 3 [] .none .none .none (.str (S "io") 286) none (.ref 162) .none 0)), #[]⟩
noncomputable def o175 (P : Params) : Obj := ⟨.type "tuple", none, (.seq #[] 0), #[]⟩
noncomputable def o176 (P : Params) : Obj := ⟨.none, none, (.fields #[]), #[]⟩
noncomputable def o177 (P : Params) : Obj := ⟨.type "tuple", none, (.seq #[.str (S "self") 459, .str (S "args") 460] 0), #[]⟩
noncomputable def o178 (P : Params) : Obj := ⟨.type "tuple", none, (.seq #[] 0), #[]⟩
noncomputable def o179 (P : Params) : Obj := ⟨.none, none, (.func (fn (S "__exit__") (S "BytesIO.__exit__") (kid (st 9) 7) 0 [] .none .none .none .none none .none .none 0)), #[]⟩
noncomputable def o180 (P : Params) : Obj := ⟨.type "code", none, (.fields #[.str (S "__exit__") 456, .str (S "BytesIO.__exit__") 457, .str (S "/claim/cut.py") 458, .int 68 0, .int 1 0, .int 0 0, .int 0 0, .int 7 0, .ref 164, .bool true, .int 273 0, .ref 165, .none, .ref 166, .ref 167, .ref 168, .int 461 0, .int 68 0, .str (S "/claim/cut.py") 462]), #[]⟩
noncomputable def o181 (P : Params) : Obj := ⟨.type "function", none, (.func (fn (S "__exit__") (S "BytesIO.__exit__") (kid (st 9) 7) 3 [] .none .none .none (.str (S "io") 286) none (.ref 169) .none 0)), #[]⟩
noncomputable def o182 (P : Params) : Obj := ⟨.type "tuple", none, (.seq #[] 0), #[]⟩
noncomputable def o183 (P : Params) : Obj := ⟨.none, none, (.fields #[]), #[]⟩
noncomputable def o184 (P : Params) : Obj := ⟨.type "tuple", none, (.seq #[.str (S "self") 467] 0), #[]⟩
noncomputable def o185 (P : Params) : Obj := ⟨.type "tuple", none, (.seq #[] 0), #[]⟩
noncomputable def o186 (P : Params) : Obj := ⟨.none, none, (.func (fn (S "readable") (S "BytesIO.readable") (kid (st 9) 8) 0 [] .none .none .none .none none .none .none 0)), #[]⟩
noncomputable def o187 (P : Params) : Obj := ⟨.type "code", none, (.fields #[.str (S "readable") 464, .str (S "BytesIO.readable") 465, .str (S "/claim/cut.py") 466, .int 71 0, .int 1 0, .int 0 0, .int 0 0, .int 3 0, .ref 171, .bool true, .int 273 0, .ref 172, .none, .ref 173, .ref 174, .ref 175, .int 468 0, .int 71 0, .str (S "/claim/cut.py") 469]), #[]⟩
noncomputable def o188 (P : Params) : Obj := ⟨.type "function", none, (.func (fn (S "readable") (S "BytesIO.readable") (kid (st 9) 8) 3 [] .none .none .none (.str (S "io") 286) none (.ref 176) .none 0)), #[]⟩
noncomputable def o189 (P : Params) : Obj := ⟨.type "tuple", none, (.seq #[] 0), #[]⟩
noncomputable def o190 (P : Params) : Obj := ⟨.none, none, (.fields #[]), #[]⟩
noncomputable def o191 (P : Params) : Obj := ⟨.type "tuple", none, (.seq #[.str (S "self") 474] 0), #[]⟩
noncomputable def o192 (P : Params) : Obj := ⟨.type "tuple", none, (.seq #[] 0), #[]⟩
noncomputable def o193 (P : Params) : Obj := ⟨.none, none, (.func (fn (S "writable") (S "BytesIO.writable") (kid (st 9) 9) 0 [] .none .none .none .none none .none .none 0)), #[]⟩
noncomputable def o194 (P : Params) : Obj := ⟨.type "code", none, (.fields #[.str (S "writable") 471, .str (S "BytesIO.writable") 472, .str (S "/claim/cut.py") 473, .int 75 0, .int 1 0, .int 0 0, .int 0 0, .int 3 0, .ref 178, .bool true, .int 273 0, .ref 179, .none, .ref 180, .ref 181, .ref 182, .int 475 0, .int 75 0, .str (S "/claim/cut.py") 476]), #[]⟩
noncomputable def o195 (P : Params) : Obj := ⟨.type "function", none, (.func (fn (S "writable") (S "BytesIO.writable") (kid (st 9) 9) 3 [] .none .none .none (.str (S "io") 286) none (.ref 183) .none 0)), #[]⟩
noncomputable def o196 (P : Params) : Obj := ⟨.type "tuple", none, (.seq #[] 0), #[]⟩
noncomputable def o197 (P : Params) : Obj := ⟨.none, none, (.fields #[]), #[]⟩
noncomputable def o198 (P : Params) : Obj := ⟨.type "tuple", none, (.seq #[.str (S "self") 481] 0), #[]⟩
noncomputable def o199 (P : Params) : Obj := ⟨.type "tuple", none, (.seq #[] 0), #[]⟩
noncomputable def o200 (P : Params) : Obj := ⟨.none, none, (.func (fn (S "seekable") (S "BytesIO.seekable") (kid (st 9) 10) 0 [] .none .none .none .none none .none .none 0)), #[]⟩
noncomputable def o201 (P : Params) : Obj := ⟨.type "code", none, (.fields #[.str (S "seekable") 478, .str (S "BytesIO.seekable") 479, .str (S "/claim/cut.py") 480, .int 79 0, .int 1 0, .int 0 0, .int 0 0, .int 3 0, .ref 185, .bool true, .int 273 0, .ref 186, .none, .ref 187, .ref 188, .ref 189, .int 482 0, .int 79 0, .str (S "/claim/cut.py") 483]), #[]⟩
noncomputable def o202 (P : Params) : Obj := ⟨.type "function", none, (.func (fn (S "seekable") (S "BytesIO.seekable") (kid (st 9) 10) 3 [] .none .none .none (.str (S "io") 286) none (.ref 190) .none 0)), #[]⟩
noncomputable def o203 (P : Params) : Obj := ⟨.type "tuple", none, (.seq #[] 0), #[]⟩
noncomputable def o204 (P : Params) : Obj := ⟨.none, none, (.fields #[]), #[]⟩
noncomputable def o205 (P : Params) : Obj := ⟨.type "tuple", none, (.seq #[.str (S "self") 488] 0), #[]⟩
noncomputable def o206 (P : Params) : Obj := ⟨.type "tuple", none, (.seq #[] 0), #[]⟩
noncomputable def o207 (P : Params) : Obj := ⟨.none, none, (.func (fn (S "isatty") (S "BytesIO.isatty") (kid (st 9) 11) 0 [] .none .none .none .none none .none .none 0)), #[]⟩
noncomputable def o208 (P : Params) : Obj := ⟨.type "code", none, (.fields #[.str (S "isatty") 485, .str (S "BytesIO.isatty") 486, .str (S "/claim/cut.py") 487, .int 83 0, .int 1 0, .int 0 0, .int 0 0, .int 3 0, .ref 192, .bool true, .int 273 0, .ref 193, .none, .ref 194, .ref 195, .ref 196, .int 489 0, .int 83 0, .str (S "/claim/cut.py") 490]), #[]⟩
noncomputable def o209 (P : Params) : Obj := ⟨.type "function", none, (.func (fn (S "isatty") (S "BytesIO.isatty") (kid (st 9) 11) 3 [] .none .none .none (.str (S "io") 286) none (.ref 197) .none 0)), #[]⟩
noncomputable def o210 (P : Params) : Obj := ⟨.type "tuple", none, (.seq #[] 0), #[]⟩
noncomputable def o211 (P : Params) : Obj := ⟨.none, none, (.fields #[]), #[]⟩
noncomputable def o212 (P : Params) : Obj := ⟨.type "tuple", none, (.seq #[.str (S "self") 495] 0), #[]⟩
noncomputable def o213 (P : Params) : Obj := ⟨.type "tuple", none, (.seq #[] 0), #[]⟩
noncomputable def o214 (P : Params) : Obj := ⟨.none, none, (.func (fn (S "flush") (S "BytesIO.flush") (kid (st 9) 12) 0 [] .none .none .none .none none .none .none 0)), #[]⟩
noncomputable def o215 (P : Params) : Obj := ⟨.type "code", none, (.fields #[.str (S "flush") 492, .str (S "BytesIO.flush") 493, .str (S "/claim/cut.py") 494, .int 87 0, .int 1 0, .int 0 0, .int 0 0, .int 3 0, .ref 199, .bool true, .int 273 0, .ref 200, .none, .ref 201, .ref 202, .ref 203, .int 496 0, .int 87 0, .str (S "/claim/cut.py") 497]), #[]⟩
noncomputable def o216 (P : Params) : Obj := ⟨.type "function", none, (.func (fn (S "flush") (S "BytesIO.flush") (kid (st 9) 12) 3 [] .none .none .none (.str (S "io") 286) none (.ref 204) .none 0)), #[]⟩
noncomputable def o217 (P : Params) : Obj := ⟨.type "tuple", none, (.seq #[] 0), #[]⟩
noncomputable def o218 (P : Params) : Obj := ⟨.none, none, (.fields #[]), #[]⟩
noncomputable def o219 (P : Params) : Obj := ⟨.type "tuple", none, (.seq #[.str (S "self") 502] 0), #[]⟩
noncomputable def o220 (P : Params) : Obj := ⟨.type "tuple", none, (.seq #[] 0), #[]⟩
noncomputable def o221 (P : Params) : Obj := ⟨.none, none, (.func (fn (S "fileno") (S "BytesIO.fileno") (kid (st 9) 13) 0 [] .none .none .none .none none .none .none 0)), #[]⟩
noncomputable def o222 (P : Params) : Obj := ⟨.type "code", none, (.fields #[.str (S "fileno") 499, .str (S "BytesIO.fileno") 500, .str (S "/claim/cut.py") 501, .int 90 0, .int 1 0, .int 0 0, .int 0 0, .int 3 0, .ref 206, .bool true, .int 273 0, .ref 207, .none, .ref 208, .ref 209, .ref 210, .int 503 0, .int 90 0, .str (S "/claim/cut.py") 504]), #[]⟩
noncomputable def o223 (P : Params) : Obj := ⟨.type "function", none, (.func (fn (S "fileno") (S "BytesIO.fileno") (kid (st 9) 13) 3 [] .none .none .none (.str (S "io") 286) none (.ref 211) .none 0)), #[]⟩
noncomputable def o224 (P : Params) : Obj := ⟨.type "tuple", none, (.seq #[] 0), #[]⟩
noncomputable def o225 (P : Params) : Obj := ⟨.none, none, (.fields #[]), #[]⟩
noncomputable def o226 (P : Params) : Obj := ⟨.type "tuple", none, (.seq #[.str (S "self") 509] 0), #[]⟩
noncomputable def o227 (P : Params) : Obj := ⟨.type "tuple", none, (.seq #[] 0), #[]⟩
noncomputable def o228 (P : Params) : Obj := ⟨.none, none, (.func (fn (S "detach") (S "BytesIO.detach") (kid (st 9) 14) 0 [] .none .none .none .none none .none .none 0)), #[]⟩
noncomputable def o229 (P : Params) : Obj := ⟨.type "code", none, (.fields #[.str (S "detach") 506, .str (S "BytesIO.detach") 507, .str (S "/claim/cut.py") 508, .int 93 0, .int 1 0, .int 0 0, .int 0 0, .int 3 0, .ref 213, .bool true, .int 273 0, .ref 214, .none, .ref 215, .ref 216, .ref 217, .int 510 0, .int 93 0, .str (S "/claim/cut.py") 511]), #[]⟩
noncomputable def o230 (P : Params) : Obj := ⟨.type "function", none, (.func (fn (S "detach") (S "BytesIO.detach") (kid (st 9) 14) 3 [] .none .none .none (.str (S "io") 286) none (.ref 218) .none 0)), #[]⟩
noncomputable def o231 (P : Params) : Obj := ⟨.type "tuple", none, (.seq #[] 0), #[]⟩
noncomputable def o232 (P : Params) : Obj := ⟨.none, none, (.fields #[]), #[]⟩
noncomputable def o233 (P : Params) : Obj := ⟨.type "tuple", none, (.seq #[.str (S "self") 516] 0), #[]⟩
noncomputable def o234 (P : Params) : Obj := ⟨.type "tuple", none, (.seq #[] 0), #[]⟩
noncomputable def o235 (P : Params) : Obj := ⟨.none, none, (.func (fn (S "getvalue") (S "BytesIO.getvalue") (kid (st 9) 15) 0 [] .none .none .none .none none .none .none 0)), #[]⟩
noncomputable def o236 (P : Params) : Obj := ⟨.type "code", none, (.fields #[.str (S "getvalue") 513, .str (S "BytesIO.getvalue") 514, .str (S "/claim/cut.py") 515, .int 96 0, .int 1 0, .int 0 0, .int 0 0, .int 3 0, .ref 220, .bool true, .int 273 0, .ref 221, .none, .ref 222, .ref 223, .ref 224, .int 517 0, .int 96 0, .str (S "/claim/cut.py") 518]), #[]⟩
noncomputable def o237 (P : Params) : Obj := ⟨.type "function", none, (.func (fn (S "getvalue") (S "BytesIO.getvalue") (kid (st 9) 15) 3 [] .none .none .none (.str (S "io") 286) none (.ref 225) .none 0)), #[]⟩
noncomputable def o238 (P : Params) : Obj := ⟨.type "tuple", none, (.seq #[] 0), #[]⟩
noncomputable def o239 (P : Params) : Obj := ⟨.none, none, (.fields #[]), #[]⟩
noncomputable def o240 (P : Params) : Obj := ⟨.type "tuple", none, (.seq #[.str (S "self") 523] 0), #[]⟩
noncomputable def o241 (P : Params) : Obj := ⟨.type "tuple", none, (.seq #[] 0), #[]⟩
noncomputable def o242 (P : Params) : Obj := ⟨.none, none, (.func (fn (S "getbuffer") (S "BytesIO.getbuffer") (kid (st 9) 16) 0 [] .none .none .none .none none .none .none 0)), #[]⟩
noncomputable def o243 (P : Params) : Obj := ⟨.type "code", none, (.fields #[.str (S "getbuffer") 520, .str (S "BytesIO.getbuffer") 521, .str (S "/claim/cut.py") 522, .int 99 0, .int 1 0, .int 0 0, .int 0 0, .int 3 0, .ref 227, .bool true, .int 273 0, .ref 228, .none, .ref 229, .ref 230, .ref 231, .int 524 0, .int 99 0, .str (S "/claim/cut.py") 525]), #[]⟩
noncomputable def o244 (P : Params) : Obj := ⟨.type "function", none, (.func (fn (S "getbuffer") (S "BytesIO.getbuffer") (kid (st 9) 16) 3 [] .none .none .none (.str (S "io") 286) none (.ref 232) .none 0)), #[]⟩
noncomputable def o245 (P : Params) : Obj := ⟨.type "tuple", none, (.seq #[] 0), #[]⟩
noncomputable def o246 (P : Params) : Obj := ⟨.none, none, (.fields #[]), #[]⟩
noncomputable def o247 (P : Params) : Obj := ⟨.type "tuple", none, (.seq #[.str (S "self") 530] 0), #[]⟩
noncomputable def o248 (P : Params) : Obj := ⟨.type "tuple", none, (.seq #[] 0), #[]⟩
noncomputable def o249 (P : Params) : Obj := ⟨.none, none, (.func (fn (S "tell") (S "BytesIO.tell") (kid (st 9) 17) 0 [] .none .none .none .none none .none .none 0)), #[]⟩
noncomputable def o250 (P : Params) : Obj := ⟨.type "code", none, (.fields #[.str (S "tell") 527, .str (S "BytesIO.tell") 528, .str (S "/claim/cut.py") 529, .int 102 0, .int 1 0, .int 0 0, .int 0 0, .int 3 0, .ref 234, .bool true, .int 273 0, .ref 235, .none, .ref 236, .ref 237, .ref 238, .int 531 0, .int 102 0, .str (S "/claim/cut.py") 532]), #[]⟩
noncomputable def o251 (P : Params) : Obj := ⟨.type "function", none, (.func (fn (S "tell") (S "BytesIO.tell") (kid (st 9) 17) 3 [] .none .none .none (.str (S "io") 286) none (.ref 239) .none 0)), #[]⟩
noncomputable def o252 (P : Params) : Obj := ⟨.type "tuple", none, (.seq #[.int 0 534] 0), #[]⟩
noncomputable def o253 (P : Params) : Obj := ⟨.type "tuple", none, (.seq #[] 0), #[]⟩
noncomputable def o254 (P : Params) : Obj := ⟨.none, none, (.fields #[]), #[]⟩
noncomputable def o255 (P : Params) : Obj := ⟨.type "tuple", none, (.seq #[.str (S "self") 538, .str (S "pos") 539, .str (S "whence") 540] 0), #[]⟩
noncomputable def o256 (P : Params) : Obj := ⟨.type "tuple", none, (.seq #[] 0), #[]⟩
noncomputable def o257 (P : Params) : Obj := ⟨.none, none, (.func (fn (S "seek") (S "BytesIO.seek") (kid (st 9) 18) 0 [] .none .none .none .none none .none .none 0)), #[]⟩
noncomputable def o258 (P : Params) : Obj := ⟨.type "code", none, (.fields #[.str (S "seek") 535, .str (S "BytesIO.seek") 536, .str (S "/claim/cut.py") 537, .int 106 0, .int 3 0, .int 3 0, .int 0 0, .int 3 0, .ref 242, .bool true, .int 273 0, .ref 243, .none, .ref 244, .ref 245, .ref 246, .int 541 0, .int 106 0, .str (S "/claim/cut.py") 542]), #[]⟩
noncomputable def o259 (P : Params) : Obj := ⟨.type "function", none, (.func (fn (S "seek") (S "BytesIO.seek") (kid (st 9) 18) 3 [] (.ref 241) .none .none (.str (S "io") 286) none (.ref 247) .none 0)), #[]⟩
noncomputable def o260 (P : Params) : Obj := ⟨.type "tuple", none, (.seq #[.none] 0), #[]⟩
noncomputable def o261 (P : Params) : Obj := ⟨.type "tuple", none, (.seq #[] 0), #[]⟩
noncomputable def o262 (P : Params) : Obj := ⟨.none, none, (.fields #[]), #[]⟩
noncomputable def o263 (P : Params) : Obj := ⟨.type "tuple", none, (.seq #[.str (S "self") 547, .str (S "size") 548] 0), #[]⟩
noncomputable def o264 (P : Params) : Obj := ⟨.type "tuple", none, (.seq #[] 0), #[]⟩
noncomputable def o265 (P : Params) : Obj := ⟨.none, none, (.func (fn (S "truncate") (S "BytesIO.truncate") (kid (st 9) 19) 0 [] .none .none .none .none none .none .none 0)), #[]⟩
noncomputable def o266 (P : Params) : Obj := ⟨.type "code", none, (.fields #[.str (S "truncate") 544, .str (S "BytesIO.truncate") 545, .str (S "/claim/cut.py") 546, .int 123 0, .int 2 0, .int 2 0, .int 0 0, .int 3 0, .ref 250, .bool true, .int 273 0, .ref 251, .none, .ref 252, .ref 253, .ref 254, .int 549 0, .int 123 0, .str (S "/claim/cut.py") 550]), #[]⟩
noncomputable def o267 (P : Params) : Obj := ⟨.type "function", none, (.func (fn (S "truncate") (S "BytesIO.truncate") (kid (st 9) 19) 3 [] (.ref 249) .none .none (.str (S "io") 286) none (.ref 255) .none 0)), #[]⟩
noncomputable def o268 (P : Params) : Obj := ⟨.type "tuple", none, (.seq #[.int (-1) 553] 0), #[]⟩
noncomputable def o269 (P : Params) : Obj := ⟨.type "tuple", none, (.seq #[] 0), #[]⟩
noncomputable def o270 (P : Params) : Obj := ⟨.none, none, (.fields #[]), #[]⟩
noncomputable def o271 (P : Params) : Obj := ⟨.type "tuple", none, (.seq #[.str (S "self") 557, .str (S "size") 558, .str (S "start") 559, .str (S "stop") 560] 0), #[]⟩
noncomputable def o272 (P : Params) : Obj := ⟨.type "tuple", none, (.seq #[] 0), #[]⟩
noncomputable def o273 (P : Params) : Obj := ⟨.none, none, (.func (fn (S "read") (S "BytesIO.read") (kid (st 9) 20) 0 [] .none .none .none .none none .none .none 0)), #[]⟩
noncomputable def o274 (P : Params) : Obj := ⟨.type "code", none, (.fields #[.str (S "read") 554, .str (S "BytesIO.read") 555, .str (S "/claim/cut.py") 556, .int 126 0, .int 2 0, .int 2 0, .int 0 0, .int 3 0, .ref 258, .bool true, .int 273 0, .ref 259, .none, .ref 260, .ref 261, .ref 262, .int 561 0, .int 126 0, .str (S "/claim/cut.py") 562]), #[]⟩
noncomputable def o275 (P : Params) : Obj := ⟨.type "function", none, (.func (fn (S "read") (S "BytesIO.read") (kid (st 9) 20) 3 [] (.ref 257) .none .none (.str (S "io") 286) none (.ref 263) .none 0)), #[]⟩
noncomputable def o276 (P : Params) : Obj := ⟨.type "tuple", none, (.seq #[.int (-1) 565] 0), #[]⟩
noncomputable def o277 (P : Params) : Obj := ⟨.type "tuple", none, (.seq #[] 0), #[]⟩
noncomputable def o278 (P : Params) : Obj := ⟨.none, none, (.fields #[]), #[]⟩
noncomputable def o279 (P : Params) : Obj := ⟨.type "tuple", none, (.seq #[.str (S "self") 569, .str (S "size") 570] 0), #[]⟩
noncomputable def o280 (P : Params) : Obj := ⟨.type "tuple", none, (.seq #[] 0), #[]⟩
noncomputable def o281 (P : Params) : Obj := ⟨.none, none, (.func (fn (S "read1") (S "BytesIO.read1") (kid (st 9) 21) 0 [] .none .none .none .none none .none .none 0)), #[]⟩
noncomputable def o282 (P : Params) : Obj := ⟨.type "code", none, (.fields #[.str (S "read1") 566, .str (S "BytesIO.read1") 567, .str (S "/claim/cut.py") 568, .int 140 0, .int 2 0, .int 2 0, .int 0 0, .int 3 0, .ref 266, .bool true, .int 273 0, .ref 267, .none, .ref 268, .ref 269, .ref 270, .int 571 0, .int 140 0, .str (S "/claim/cut.py") 572]), #[]⟩
noncomputable def o283 (P : Params) : Obj := ⟨.type "function", none, (.func (fn (S "read1") (S "BytesIO.read1") (kid (st 9) 21) 3 [] (.ref 265) .none .none (.str (S "io") 286) none (.ref 271) .none 0)), #[]⟩
noncomputable def o284 (P : Params) : Obj := ⟨.type "tuple", none, (.seq #[] 0), #[]⟩
noncomputable def o285 (P : Params) : Obj := ⟨.none, none, (.fields #[]), #[]⟩
noncomputable def o286 (P : Params) : Obj := ⟨.type "tuple", none, (.seq #[.str (S "self") 577, .str (S "buffer") 578, .str (S "start") 579, .str (S "n") 580] 0), #[]⟩
noncomputable def o287 (P : Params) : Obj := ⟨.type "tuple", none, (.seq #[] 0), #[]⟩
noncomputable def o288 (P : Params) : Obj := ⟨.none, none, (.func (fn (S "readinto") (S "BytesIO.readinto") (kid (st 9) 22) 0 [] .none .none .none .none none .none .none 0)), #[]⟩
noncomputable def o289 (P : Params) : Obj := ⟨.type "code", none, (.fields #[.str (S "readinto") 574, .str (S "BytesIO.readinto") 575, .str (S "/claim/cut.py") 576, .int 143 0, .int 2 0, .int 2 0, .int 0 0, .int 3 0, .ref 273, .bool true, .int 273 0, .ref 274, .none, .ref 275, .ref 276, .ref 277, .int 581 0, .int 143 0, .str (S "/claim/cut.py") 582]), #[]⟩
noncomputable def o290 (P : Params) : Obj := ⟨.type "function", none, (.func (fn (S "readinto") (S "BytesIO.readinto") (kid (st 9) 22) 3 [] .none .none .none (.str (S "io") 286) none (.ref 278) .none 0)), #[]⟩
noncomputable def o291 (P : Params) : Obj := ⟨.type "tuple", none, (.seq #[] 0), #[]⟩
noncomputable def o292 (P : Params) : Obj := ⟨.none, none, (.fields #[]), #[]⟩
noncomputable def o293 (P : Params) : Obj := ⟨.type "tuple", none, (.seq #[.str (S "self") 587, .str (S "buffer") 588] 0), #[]⟩
noncomputable def o294 (P : Params) : Obj := ⟨.type "tuple", none, (.seq #[] 0), #[]⟩
noncomputable def o295 (P : Params) : Obj := ⟨.none, none, (.func (fn (S "readinto1") (S "BytesIO.readinto1") (kid (st 9) 23) 0 [] .none .none .none .none none .none .none 0)), #[]⟩
noncomputable def o296 (P : Params) : Obj := ⟨.type "code", none, (.fields #[.str (S "readinto1") 584, .str (S "BytesIO.readinto1") 585, .str (S "/claim/cut.py") 586, .int 157 0, .int 2 0, .int 2 0, .int 0 0, .int 3 0, .ref 280, .bool true, .int 273 0, .ref 281, .none, .ref 282, .ref 283, .ref 284, .int 589 0, .int 157 0, .str (S "/claim/cut.py") 590]), #[]⟩
noncomputable def o297 (P : Params) : Obj := ⟨.type "function", none, (.func (fn (S "readinto1") (S "BytesIO.readinto1") (kid (st 9) 23) 3 [] .none .none .none (.str (S "io") 286) none (.ref 285) .none 0)), #[]⟩
noncomputable def o298 (P : Params) : Obj := ⟨.type "tuple", none, (.seq #[.int (-1) 593] 0), #[]⟩
noncomputable def o299 (P : Params) : Obj := ⟨.type "tuple", none, (.seq #[] 0), #[]⟩
noncomputable def o300 (P : Params) : Obj := ⟨.none, none, (.fields #[]), #[]⟩
noncomputable def o301 (P : Params) : Obj := ⟨.type "tuple", none, (.seq #[.str (S "self") 597, .str (S "size") 598] 0), #[]⟩
noncomputable def o302 (P : Params) : Obj := ⟨.type "tuple", none, (.seq #[] 0), #[]⟩
noncomputable def o303 (P : Params) : Obj := ⟨.none, none, (.func (fn (S "readline") (S "BytesIO.readline") (kid (st 9) 24) 0 [] .none .none .none .none none .none .none 0)), #[]⟩
noncomputable def o304 (P : Params) : Obj := ⟨.type "code", none, (.fields #[.str (S "readline") 594, .str (S "BytesIO.readline") 595, .str (S "/claim/cut.py") 596, .int 160 0, .int 2 0, .int 2 0, .int 0 0, .int 3 0, .ref 288, .bool true, .int 273 0, .ref 289, .none, .ref 290, .ref 291, .ref 292, .int 599 0, .int 160 0, .str (S "/claim/cut.py") 600]), #[]⟩
noncomputable def o305 (P : Params) : Obj := ⟨.type "function", none, (.func (fn (S "readline") (S "BytesIO.readline") (kid (st 9) 24) 3 [] (.ref 287) .none .none (.str (S "io") 286) none (.ref 293) .none 0)), #[]⟩
noncomputable def o306 (P : Params) : Obj := ⟨.type "tuple", none, (.seq #[.none] 0), #[]⟩
noncomputable def o307 (P : Params) : Obj := ⟨.type "tuple", none, (.seq #[] 0), #[]⟩
noncomputable def o308 (P : Params) : Obj := ⟨.none, none, (.fields #[]), #[]⟩
noncomputable def o309 (P : Params) : Obj := ⟨.type "tuple", none, (.seq #[.str (S "self") 605, .str (S "size") 606] 0), #[]⟩
noncomputable def o310 (P : Params) : Obj := ⟨.type "tuple", none, (.seq #[] 0), #[]⟩
noncomputable def o311 (P : Params) : Obj := ⟨.none, none, (.func (fn (S "readlines") (S "BytesIO.readlines") (kid (st 9) 25) 0 [] .none .none .none .none none .none .none 0)), #[]⟩
noncomputable def o312 (P : Params) : Obj := ⟨.type "code", none, (.fields #[.str (S "readlines") 602, .str (S "BytesIO.readlines") 603, .str (S "/claim/cut.py") 604, .int 167 0, .int 2 0, .int 2 0, .int 0 0, .int 3 0, .ref 296, .bool true, .int 273 0, .ref 297, .none, .ref 298, .ref 299, .ref 300, .int 607 0, .int 167 0, .str (S "/claim/cut.py") 608]), #[]⟩
noncomputable def o313 (P : Params) : Obj := ⟨.type "function", none, (.func (fn (S "readlines") (S "BytesIO.readlines") (kid (st 9) 25) 3 [] (.ref 295) .none .none (.str (S "io") 286) none (.ref 301) .none 0)), #[]⟩
noncomputable def o314 (P : Params) : Obj := ⟨.type "tuple", none, (.seq #[] 0), #[]⟩
noncomputable def o315 (P : Params) : Obj := ⟨.none, none, (.fields #[]), #[]⟩
noncomputable def o316 (P : Params) : Obj := ⟨.type "tuple", none, (.seq #[.str (S "self") 613] 0), #[]⟩
noncomputable def o317 (P : Params) : Obj := ⟨.type "tuple", none, (.seq #[] 0), #[]⟩
noncomputable def o318 (P : Params) : Obj := ⟨.none, none, (.func (fn (S "__iter__") (S "BytesIO.__iter__") (kid (st 9) 26) 0 [] .none .none .none .none none .none .none 0)), #[]⟩
noncomputable def o319 (P : Params) : Obj := ⟨.type "code", none, (.fields #[.str (S "__iter__") 610, .str (S "BytesIO.__iter__") 611, .str (S "/claim/cut.py") 612, .int 170 0, .int 1 0, .int 0 0, .int 0 0, .int 3 0, .ref 303, .bool true, .int 273 0, .ref 304, .none, .ref 305, .ref 306, .ref 307, .int 614 0, .int 170 0, .str (S "/claim/cut.py") 615]), #[]⟩
noncomputable def o320 (P : Params) : Obj := ⟨.type "function", none, (.func (fn (S "__iter__") (S "BytesIO.__iter__") (kid (st 9) 26) 3 [] .none .none .none (.str (S "io") 286) none (.ref 308) .none 0)), #[]⟩
noncomputable def o321 (P : Params) : Obj := ⟨.type "tuple", none, (.seq #[] 0), #[]⟩
noncomputable def o322 (P : Params) : Obj := ⟨.none, none, (.fields #[]), #[]⟩
noncomputable def o323 (P : Params) : Obj := ⟨.type "tuple", none, (.seq #[.str (S "self") 620, .str (S "line") 621] 0), #[]⟩
noncomputable def o324 (P : Params) : Obj := ⟨.type "tuple", none, (.seq #[] 0), #[]⟩
noncomputable def o325 (P : Params) : Obj := ⟨.none, none, (.func (fn (S "__next__") (S "BytesIO.__next__") (kid (st 9) 27) 0 [] .none .none .none .none none .none .none 0)), #[]⟩
noncomputable def o326 (P : Params) : Obj := ⟨.type "code", none, (.fields #[.str (S "__next__") 617, .str (S "BytesIO.__next__") 618, .str (S "/claim/cut.py") 619, .int 173 0, .int 1 0, .int 0 0, .int 0 0, .int 3 0, .ref 310, .bool true, .int 273 0, .ref 311, .none, .ref 312, .ref 313, .ref 314, .int 622 0, .int 173 0, .str (S "/claim/cut.py") 623]), #[]⟩
noncomputable def o327 (P : Params) : Obj := ⟨.type "function", none, (.func (fn (S "__next__") (S "BytesIO.__next__") (kid (st 9) 27) 3 [] .none .none .none (.str (S "io") 286) none (.ref 315) .none 0)), #[]⟩
noncomputable def o328 (P : Params) : Obj := ⟨.type "tuple", none, (.seq #[] 0), #[]⟩
noncomputable def o329 (P : Params) : Obj := ⟨.none, none, (.fields #[]), #[]⟩
noncomputable def o330 (P : Params) : Obj := ⟨.type "tuple", none, (.seq #[.str (S "self") 628, .str (S "b") 629, .str (S "n") 630, .str (S "start") 631] 0), #[]⟩
noncomputable def o331 (P : Params) : Obj := ⟨.type "tuple", none, (.seq #[] 0), #[]⟩
noncomputable def o332 (P : Params) : Obj := ⟨.none, none, (.func (fn (S "write") (S "BytesIO.write") (kid (st 9) 28) 0 [] .none .none .none .none none .none .none 0)), #[]⟩
noncomputable def o333 (P : Params) : Obj := ⟨.type "code", none, (.fields #[.str (S "write") 625, .str (S "BytesIO.write") 626, .str (S "/claim/cut.py") 627, .int 180 0, .int 2 0, .int 2 0, .int 0 0, .int 3 0, .ref 317, .bool true, .int 273 0, .ref 318, .none, .ref 319, .ref 320, .ref 321, .int 632 0, .int 180 0, .str (S "/claim/cut.py") 633]), #[]⟩
noncomputable def o334 (P : Params) : Obj := ⟨.type "function", none, (.func (fn (S "write") (S "BytesIO.write") (kid (st 9) 28) 3 [] .none .none .none (.str (S "io") 286) none (.ref 322) .none 0)), #[]⟩
noncomputable def o335 (P : Params) : Obj := ⟨.type "tuple", none, (.seq #[] 0), #[]⟩
noncomputable def o336 (P : Params) : Obj := ⟨.none, none, (.fields #[]), #[]⟩
noncomputable def o337 (P : Params) : Obj := ⟨.type "tuple", none, (.seq #[.str (S "self") 638, .str (S "lines") 639] 0), #[]⟩
noncomputable def o338 (P : Params) : Obj := ⟨.type "tuple", none, (.seq #[] 0), #[]⟩
noncomputable def o339 (P : Params) : Obj := ⟨.none, none, (.func (fn (S "writelines") (S "BytesIO.writelines") (kid (st 9) 29) 0 [] .none .none .none .none none .none .none 0)), #[]⟩
noncomputable def o340 (P : Params) : Obj := ⟨.type "code", none, (.fields #[.str (S "writelines") 635, .str (S "BytesIO.writelines") 636, .str (S "/claim/cut.py") 637, .int 196 0, .int 2 0, .int 2 0, .int 0 0, .int 3 0, .ref 324, .bool true, .int 273 0, .ref 325, .none, .ref 326, .ref 327, .ref 328, .int 640 0, .int 196 0, .str (S "/claim/cut.py") 641]), #[]⟩
noncomputable def o341 (P : Params) : Obj := ⟨.type "function", none, (.func (fn (S "writelines") (S "BytesIO.writelines") (kid (st 9) 29) 3 [] .none .none .none (.str (S "io") 286) none (.ref 329) .none 0)), #[]⟩
noncomputable def o342 (P : Params) : Obj := ⟨.type "tuple", none, (.seq #[] 0), #[]⟩
noncomputable def o343 (P : Params) : Obj := ⟨.none, none, (.fields #[]), #[]⟩
noncomputable def o344 (P : Params) : Obj := ⟨.type "tuple", none, (.seq #[.str (S "self") 646] 0), #[]⟩
noncomputable def o345 (P : Params) : Obj := ⟨.type "tuple", none, (.seq #[] 0), #[]⟩
noncomputable def o346 (P : Params) : Obj := ⟨.none, none, (.func (fn (S "__repr__") (S "BytesIO.__repr__") (kid (st 9) 30) 0 [] .none .none .none .none none .none .none 0)), #[]⟩
noncomputable def o347 (P : Params) : Obj := ⟨.type "code", none, (.fields #[.str (S "__repr__") 643, .str (S "BytesIO.__repr__") 644, .str (S "/claim/cut.py") 645, .int 199 0, .int 1 0, .int 0 0, .int 0 0, .int 3 0, .ref 331, .bool true, .int 273 0, .ref 332, .none, .ref 333, .ref 334, .ref 335, .int 647 0, .int 199 0, .str (S "/claim/cut.py") 648]), #[]⟩
noncomputable def o348 (P : Params) : Obj := ⟨.type "function", none, (.func (fn (S "__repr__") (S "BytesIO.__repr__") (kid (st 9) 30) 3 [] .none .none .none (.str (S "io") 286) none (.ref 336) .none 0)), #[]⟩
noncomputable def o349 (P : Params) : Obj := ⟨.type "tuple", none, (.seq #[.str (S "__buf") 650, .str (S "__pos") 651] 0), #[]⟩
noncomputable def o350 (P : Params) : Obj := ⟨.type "dict", none, (.dict #[E P (S "__module__") 401 (.str (S "_io") 406), E P (S "__firstlineno__") 405 (.int 31 404), E P (S "__init__") 415 (.ref 127), E P (S "_BytesIO__check") 422 (.ref 134), E P (S "_BytesIO__line") 433 (.ref 141), E P (S "closed") 441 (.ref 149), E P (S "close") 448 (.ref 156), E P (S "__enter__") 455 (.ref 163), E P (S "__exit__") 463 (.ref 170), E P (S "readable") 470 (.ref 177), E P (S "writable") 477 (.ref 184), E P (S "seekable") 484 (.ref 191), E P (S "isatty") 491 (.ref 198), E P (S "flush") 498 (.ref 205), E P (S "fileno") 505 (.ref 212), E P (S "detach") 512 (.ref 219), E P (S "getvalue") 519 (.ref 226), E P (S "getbuffer") 526 (.ref 233), E P (S "tell") 533 (.ref 240), E P (S "seek") 543 (.ref 248), E P (S "truncate") 551 (.ref 256), E P (S "read") 563 (.ref 264), E P (S "read1") 573 (.ref 272), E P (S "readinto") 583 (.ref 279), E P (S "readinto1") 591 (.ref 286), E P (S "readline") 601 (.ref 294), E P (S "readlines") 609 (.ref 302), E P (S "__iter__") 616 (.ref 309), E P (S "__next__") 624 (.ref 316), E P (S "write") 634 (.ref 323), E P (S "writelines") 642 (.ref 330), E P (S "__repr__") 649 (.ref 337), E P (S "__static_attributes__") 652 (.ref 338), E P (S "__doc__") 653 .none] 2), #[]⟩
noncomputable def o351 (P : Params) : Obj := ⟨.type "type", none, (.cls ⟨(S "BytesIO"), [.ref 98], [.ref 340, .ref 98, .ref 83, .type "object"], 339, (S "BytesIO"), true, [], [], false, none, false⟩), #[(some (.ref 113)), none, (some (.str (S "BytesIO") 394)), (some (.str (S "BytesIO") 402)), (some .none), (some (.bool true))]⟩
noncomputable def o352 (P : Params) : Obj := ⟨.type "super", none, (.fields #[.ref 340, .ref 340, .ref 340]), #[]⟩
noncomputable def o353 (P : Params) : Obj := ⟨.type "builtin_function_or_method", none, (.fields #[.builtin "object.__init_subclass__", .ref 340]), #[]⟩
noncomputable def T4 (P : Params) : BT := (n (o0 P) (n (o1 P) (n (o121 P) (n (o7 P) (n (o15 P) (n (o31 P) (n (o66 P) (n (o138 P) (n (o266 P) l l) l) (n (o202 P) (n (o330 P) l l) l)) (n (o103 P) (n (o170 P) (n (o298 P) l l) l) (n (o234 P) l l))) (n (o50 P) (n (o84 P) (n (o154 P) (n (o282 P) l l) l) (n (o218 P) (n (o346 P) l l) l)) (n (o119 P) (n (o186 P) (n (o314 P) l l) l) (n (o250 P) l l)))) (n (o23 P) (n (o42 P) (n (o76 P) (n (o146 P) (n (o274 P) l l) l) (n (o210 P) (n (o338 P) l l) l)) (n (o111 P) (n (o178 P) (n (o306 P) l l) l) (n (o242 P) l l))) (n (o58 P) (n (o92 P) (n (o162 P) (n (o290 P) l l) l) (n (o226 P) l l)) (n (o130 P) (n (o194 P) (n (o322 P) l l) l) (n (o258 P) l l))))) (n (o11 P) (n (o19 P) (n (o38 P) (n (o72 P) (n (o142 P) (n (o270 P) l l) l) (n (o206 P) (n (o334 P) l l) l)) (n (o107 P) (n (o174 P) (n (o302 P) l l) l) (n (o238 P) l l))) (n (o54 P) (n (o96 P) (n (o158 P) (n (o286 P) l l) l) (n (o222 P) (n (o350 P) l l) l)) (n (o126 P) (n (o190 P) (n (o318 P) l l) l) (n (o254 P) l l)))) (n (o27 P) (n (o46 P) (n (o80 P) (n (o150 P) (n (o278 P) l l) l) (n (o214 P) (n (o342 P) l l) l)) (n (o115 P) (n (o182 P) (n (o310 P) l l) l) (n (o246 P) l l))) (n (o62 P) (n (o99 P) (n (o166 P) (n (o294 P) l l) l) (n (o230 P) l l)) (n (o134 P) (n (o198 P) (n (o326 P) l l) l) (n (o262 P) l l)))))) (n (o5 P) (n (o9 P) (n (o17 P) (n (o36 P) (n (o68 P) (n (o140 P) (n (o268 P) l l) l) (n (o204 P) (n (o332 P) l l) l)) (n (o105 P) (n (o172 P) (n (o300 P) l l) l) (n (o236 P) l l))) (n (o52 P) (n (o86 P) (n (o156 P) (n (o284 P) l l) l) (n (o220 P) (n (o348 P) l l) l)) (n (o124 P) (n (o188 P) (n (o316 P) l l) l) (n (o252 P) l l)))) (n (o25 P) (n (o44 P) (n (o78 P) (n (o148 P) (n (o276 P) l l) l) (n (o212 P) (n (o340 P) l l) l)) (n (o113 P) (n (o180 P) (n (o308 P) l l) l) (n (o244 P) l l))) (n (o60 P) (n (o97 P) (n (o164 P) (n (o292 P) l l) l) (n (o228 P) l l)) (n (o132 P) (n (o196 P) (n (o324 P) l l) l) (n (o260 P) l l))))) (n (o13 P) (n (o21 P) (n (o40 P) (n (o74 P) (n (o144 P) (n (o272 P) l l) l) (n (o208 P) (n (o336 P) l l) l)) (n (o109 P) (n (o176 P) (n (o304 P) l l) l) (n (o240 P) l l))) (n (o56 P) (n (o90 P) (n (o160 P) (n (o288 P) l l) l) (n (o224 P) (n (o352 P) l l) l)) (n (o128 P) (n (o192 P) (n (o320 P) l l) l) (n (o256 P) l l)))) (n (o29 P) (n (o48 P) (n (o82 P) (n (o152 P) (n (o280 P) l l) l) (n (o216 P) (n (o344 P) l l) l)) (n (o117 P) (n (o184 P) (n (o312 P) l l) l) (n (o248 P) l l))) (n (o64 P) (n (o101 P) (n (o168 P) (n (o296 P) l l) l) (n (o232 P) l l)) (n (o136 P) (n (o200 P) (n (o328 P) l l) l) (n (o264 P) l l))))))) (n (o33 P) (n (o4 P) (n (o8 P) (n (o16 P) (n (o32 P) (n (o67 P) (n (o139 P) (n (o267 P) l l) l) (n (o203 P) (n (o331 P) l l) l)) (n (o104 P) (n (o171 P) (n (o299 P) l l) l) (n (o235 P) l l))) (n (o51 P) (n (o85 P) (n (o155 P) (n (o283 P) l l) l) (n (o219 P) (n (o347 P) l l) l)) (n (o120 P) (n (o187 P) (n (o315 P) l l) l) (n (o251 P) l l)))) (n (o24 P) (n (o43 P) (n (o77 P) (n (o147 P) (n (o275 P) l l) l) (n (o211 P) (n (o339 P) l l) l)) (n (o112 P) (n (o179 P) (n (o307 P) l l) l) (n (o243 P) l l))) (n (o59 P) (n (o93 P) (n (o163 P) (n (o291 P) l l) l) (n (o227 P) l l)) (n (o131 P) (n (o195 P) (n (o323 P) l l) l) (n (o259 P) l l))))) (n (o12 P) (n (o20 P) (n (o39 P) (n (o73 P) (n (o143 P) (n (o271 P) l l) l) (n (o207 P) (n (o335 P) l l) l)) (n (o108 P) (n (o175 P) (n (o303 P) l l) l) (n (o239 P) l l))) (n (o55 P) (n (o89 P) (n (o159 P) (n (o287 P) l l) l) (n (o223 P) (n (o351 P) l l) l)) (n (o127 P) (n (o191 P) (n (o319 P) l l) l) (n (o255 P) l l)))) (n (o28 P) (n (o47 P) (n (o81 P) (n (o151 P) (n (o279 P) l l) l) (n (o215 P) (n (o343 P) l l) l)) (n (o116 P) (n (o183 P) (n (o311 P) l l) l) (n (o247 P) l l))) (n (o63 P) (n (o100 P) (n (o167 P) (n (o295 P) l l) l) (n (o231 P) l l)) (n (o135 P) (n (o199 P) (n (o327 P) l l) l) (n (o263 P) l l)))))) (n (o6 P) (n (o10 P) (n (o18 P) (n (o37 P) (n (o69 P) (n (o141 P) (n (o269 P) l l) l) (n (o205 P) (n (o333 P) l l) l)) (n (o123 P) (n (o173 P) (n (o301 P) l l) l) (n (o237 P) l l))) (n (o53 P) (n (o87 P) (n (o157 P) (n (o285 P) l l) l) (n (o221 P) (n (o349 P) l l) l)) (n (o125 P) (n (o189 P) (n (o317 P) l l) l) (n (o253 P) l l)))) (n (o26 P) (n (o45 P) (n (o79 P) (n (o149 P) (n (o277 P) l l) l) (n (o213 P) (n (o341 P) l l) l)) (n (o114 P) (n (o181 P) (n (o309 P) l l) l) (n (o245 P) l l))) (n (o61 P) (n (o98 P) (n (o165 P) (n (o293 P) l l) l) (n (o229 P) l l)) (n (o133 P) (n (o197 P) (n (o325 P) l l) l) (n (o261 P) l l))))) (n (o14 P) (n (o22 P) (n (o41 P) (n (o75 P) (n (o145 P) (n (o273 P) l l) l) (n (o209 P) (n (o337 P) l l) l)) (n (o110 P) (n (o177 P) (n (o305 P) l l) l) (n (o241 P) l l))) (n (o57 P) (n (o91 P) (n (o161 P) (n (o289 P) l l) l) (n (o225 P) (n (o353 P) l l) l)) (n (o129 P) (n (o193 P) (n (o321 P) l l) l) (n (o257 P) l l)))) (n (o122 P) (n (o49 P) (n (o83 P) (n (o153 P) (n (o281 P) l l) l) (n (o217 P) (n (o345 P) l l) l)) (n (o118 P) (n (o185 P) (n (o313 P) l l) l) (n (o249 P) l l))) (n (o65 P) (n (o102 P) (n (o169 P) (n (o297 P) l l) l) (n (o233 P) l l)) (n (o137 P) (n (o201 P) (n (o329 P) l l) l) (n (o265 P) l l))))))))
noncomputable def S4 (w : World) (os : OsState) : SharedT := ⟨T4 w.params, 343, {}, #[], {}, 656, os⟩
noncomputable def ss4 : List Stmt := [st 9]
theorem pc4 (w : World) (os : OsState) : segRunT treeTable PySem.Challenge.pw_ny0304_03 w 29 (some (.ref 6)) 1 1278 (S3 w os) (piecesOf ss4 en (.body (behindTheImports PySem.Challenge.pw_ny0304_03) en) ⟨29, 0, 30, 21⟩ [topFrame fq]) = some (.next, S4 w os, (.body (behindTheImports PySem.Challenge.pw_ny0304_03) en), ⟨31, 0, 200, 17⟩) := by kernel_rfl
noncomputable def o354 (P : Params) : Obj := ⟨.type "dict", none, (.dict #[E P (S "__name__") 165 (.str (S "io") 286), E P (S "__doc__") 166 .none, E P (S "__package__") 167 .none, E P (S "__loader__") 168 (.builtin "__main__.__loader__#opaque"), E P (S "__spec__") 169 .none, E P (S "__annotations__") 170 (.ref 6), E P (S "__builtins__") 171 (.ref 4), E P (S "__file__") 173 (.str (S "/claim/cut.py") 172), E P (S "__cached__") 174 .none, E P (S "deque") 272 (.type "collections.deque"), E P (S "_wall") 285 (.ref 39), E P (S "_whence") 295 (.ref 46), E P (S "_index") 303 (.ref 53), E P (S "UnsupportedOperation") 325 (.ref 63), E P (S "IOBase") 357 (.ref 83), E P (S "BufferedIOBase") 375 (.ref 98), E P (S "TextIOBase") 393 (.ref 110), E P (S "BytesIO") 655 (.ref 340), E P (S "StringIO") 942 (.ref 587)] 19), #[]⟩
noncomputable def o355 (P : Params) : Obj := ⟨.none, none, (.fields #[.int 2 0, .int 0 0, .ref 38, .int 6 0, .int 0 0, .ref 45, .int 11 0, .int 0 0, .ref 52, .int 18 0, .int 0 0, .ref 59, .int 20 0, .int 0 0, .ref 72, .int 27 0, .int 0 0, .ref 94, .int 29 0, .int 0 0, .ref 106, .int 31 0, .int 0 0, .ref 118, .int 201 0, .int 0 0, .ref 348]), #[]⟩
noncomputable def o356 (P : Params) : Obj := ⟨.type "type", none, (.cls ⟨(S "TextIOBase"), [.ref 83], [.ref 110, .ref 83, .type "object"], 109, (S "TextIOBase"), true, [], [.ref 587], false, none, false⟩), #[(some (.ref 101)), none, (some (.str (S "TextIOBase") 376)), (some (.str (S "TextIOBase") 384)), (some .none), (some (.bool true))]⟩
noncomputable def o357 (P : Params) : Obj := ⟨.type "tuple", none, (.seq #[.ref 110] 0), #[]⟩
noncomputable def o358 (P : Params) : Obj := ⟨.type "builtin_function_or_method", none, (.fields #[.builtin "type.__prepare__", .type "type"]), #[]⟩
noncomputable def o359 (P : Params) : Obj := ⟨.type "dict", none, (.dict #[E P (S "__module__") 663 (.str (S "_io") 668), E P (S "__qualname__") 665 (.str (S "StringIO") 664), E P (S "__firstlineno__") 667 (.int 201 666), E P (S "__init__") 680 (.ref 357), E P (S "_StringIO__translated") 689 (.ref 364), E P (S "_StringIO__check") 696 (.ref 371), E P (S "_StringIO__check_dot") 703 (.ref 378), E P (S "_StringIO__line") 718 (.ref 385), E P (S "closed") 726 (.ref 393), E P (S "line_buffering") 734 (.ref 401), E P (S "newlines") 742 (.ref 409), E P (S "encoding") 750 (.ref 417), E P (S "errors") 758 (.ref 425), E P (S "close") 765 (.ref 432), E P (S "__enter__") 772 (.ref 439), E P (S "__exit__") 780 (.ref 446), E P (S "readable") 787 (.ref 453), E P (S "writable") 794 (.ref 460), E P (S "seekable") 801 (.ref 467), E P (S "isatty") 808 (.ref 474), E P (S "flush") 815 (.ref 481), E P (S "fileno") 822 (.ref 488), E P (S "detach") 829 (.ref 495), E P (S "getvalue") 836 (.ref 502), E P (S "tell") 843 (.ref 509), E P (S "seek") 853 (.ref 517), E P (S "truncate") 861 (.ref 525), E P (S "read") 873 (.ref 533), E P (S "readline") 883 (.ref 541), E P (S "readlines") 893 (.ref 549), E P (S "__iter__") 900 (.ref 556), E P (S "__next__") 908 (.ref 563), E P (S "write") 920 (.ref 570), E P (S "writelines") 928 (.ref 577), E P (S "__repr__") 935 (.ref 584), E P (S "__static_attributes__") 939 (.ref 585)] 36), #[]⟩
noncomputable def o360 (P : Params) : Obj := ⟨.type "tuple", none, (.seq #[] 0), #[]⟩
noncomputable def o361 (P : Params) : Obj := ⟨.none, none, (.fields #[.int 204 0, .int 4 0, .ref 356, .int 217 0, .int 4 0, .ref 363, .int 225 0, .int 4 0, .ref 370, .int 229 0, .int 4 0, .ref 377, .int 233 0, .int 4 0, .ref 384, .int 266 0, .int 4 0, .ref 391, .int 270 0, .int 4 0, .ref 399, .int 274 0, .int 4 0, .ref 407, .int 278 0, .int 4 0, .ref 415, .int 282 0, .int 4 0, .ref 423, .int 285 0, .int 4 0, .ref 431, .int 288 0, .int 4 0, .ref 438, .int 292 0, .int 4 0, .ref 445, .int 295 0, .int 4 0, .ref 452, .int 299 0, .int 4 0, .ref 459, .int 303 0, .int 4 0, .ref 466, .int 307 0, .int 4 0, .ref 473, .int 311 0, .int 4 0, .ref 480, .int 314 0, .int 4 0, .ref 487, .int 317 0, .int 4 0, .ref 494, .int 320 0, .int 4 0, .ref 501, .int 323 0, .int 4 0, .ref 508, .int 327 0, .int 4 0, .ref 516, .int 344 0, .int 4 0, .ref 524, .int 347 0, .int 4 0, .ref 532, .int 361 0, .int 4 0, .ref 540, .int 368 0, .int 4 0, .ref 548, .int 371 0, .int 4 0, .ref 555, .int 375 0, .int 4 0, .ref 562, .int 382 0, .int 4 0, .ref 569, .int 401 0, .int 4 0, .ref 576, .int 404 0, .int 4 0, .ref 583]), #[]⟩
noncomputable def o362 (P : Params) : Obj := ⟨.type "code", none, (.fields #[.str (S "StringIO") 658, .str (S "StringIO") 659, .str (S "/claim/cut.py") 660, .int 201 0, .int 0 0, .int 0 0, .int 0 0, .int 0 0, .ref 346, .bool false, .int 273 0, .ref 347, .none, .none, .none, .none, .int 661 0, .int 201 0, .str (S "/claim/cut.py") 662]), #[]⟩
noncomputable def o363 (P : Params) : Obj := ⟨.type "frame", none, .plain, #[(some (.ref 348)), (some (.ref 3)), (some (.ref 345)), none, (some (.str (S "io") 286)), none, (some (.ref 0))]⟩
noncomputable def o364 (P : Params) : Obj := ⟨.type "tuple", none, (.seq #[.str (S "") 670, .str (PySem.Str.mk #[10]) 671] 0), #[]⟩
noncomputable def o365 (P : Params) : Obj := ⟨.type "tuple", none, (.seq #[] 0), #[]⟩
noncomputable def o366 (P : Params) : Obj := ⟨.none, none, (.fields #[]), #[]⟩
noncomputable def o367 (P : Params) : Obj := ⟨.type "tuple", none, (.seq #[.str (S "self") 675, .str (S "initial_value") 676, .str (S "newline") 677] 0), #[]⟩
noncomputable def o368 (P : Params) : Obj := ⟨.type "tuple", none, (.seq #[] 0), #[]⟩
noncomputable def o369 (P : Params) : Obj := ⟨.none, none, (.func (fn (S "__init__") (S "StringIO.__init__") (kid (st 10) 1) 0 [] .none .none .none .none none .none .none 0)), #[]⟩
noncomputable def o370 (P : Params) : Obj := ⟨.type "code", none, (.fields #[.str (S "__init__") 672, .str (S "StringIO.__init__") 673, .str (S "/claim/cut.py") 674, .int 204 0, .int 3 0, .int 0 0, .int 0 0, .int 3 0, .ref 351, .bool true, .int 273 0, .ref 352, .none, .ref 353, .ref 354, .ref 355, .int 678 0, .int 204 0, .str (S "/claim/cut.py") 679]), #[]⟩
noncomputable def o371 (P : Params) : Obj := ⟨.type "function", none, (.func (fn (S "__init__") (S "StringIO.__init__") (kid (st 10) 1) 3 [] (.ref 350) .none .none (.str (S "io") 286) none (.ref 356) .none 0)), #[]⟩
noncomputable def o372 (P : Params) : Obj := ⟨.type "tuple", none, (.seq #[] 0), #[]⟩
noncomputable def o373 (P : Params) : Obj := ⟨.none, none, (.fields #[]), #[]⟩
noncomputable def o374 (P : Params) : Obj := ⟨.type "tuple", none, (.seq #[.str (S "self") 684, .str (S "s") 685, .str (S "newline") 686] 0), #[]⟩
noncomputable def o375 (P : Params) : Obj := ⟨.type "tuple", none, (.seq #[] 0), #[]⟩
noncomputable def o376 (P : Params) : Obj := ⟨.none, none, (.func (fn (S "__translated") (S "StringIO.__translated") (kid (st 10) 2) 0 [] .none .none .none .none none .none .none 0)), #[]⟩
noncomputable def o377 (P : Params) : Obj := ⟨.type "code", none, (.fields #[.str (S "__translated") 681, .str (S "StringIO.__translated") 682, .str (S "/claim/cut.py") 683, .int 217 0, .int 2 0, .int 0 0, .int 0 0, .int 3 0, .ref 358, .bool true, .int 273 0, .ref 359, .none, .ref 360, .ref 361, .ref 362, .int 687 0, .int 217 0, .str (S "/claim/cut.py") 688]), #[]⟩
noncomputable def o378 (P : Params) : Obj := ⟨.type "function", none, (.func (fn (S "__translated") (S "StringIO.__translated") (kid (st 10) 2) 3 [] .none .none .none (.str (S "io") 286) none (.ref 363) .none 0)), #[]⟩
noncomputable def o379 (P : Params) : Obj := ⟨.type "tuple", none, (.seq #[] 0), #[]⟩
noncomputable def o380 (P : Params) : Obj := ⟨.none, none, (.fields #[]), #[]⟩
noncomputable def o381 (P : Params) : Obj := ⟨.type "tuple", none, (.seq #[.str (S "self") 693] 0), #[]⟩
noncomputable def o382 (P : Params) : Obj := ⟨.type "tuple", none, (.seq #[] 0), #[]⟩
noncomputable def o383 (P : Params) : Obj := ⟨.none, none, (.func (fn (S "__check") (S "StringIO.__check") (kid (st 10) 3) 0 [] .none .none .none .none none .none .none 0)), #[]⟩
noncomputable def o384 (P : Params) : Obj := ⟨.type "code", none, (.fields #[.str (S "__check") 690, .str (S "StringIO.__check") 691, .str (S "/claim/cut.py") 692, .int 225 0, .int 1 0, .int 0 0, .int 0 0, .int 3 0, .ref 365, .bool true, .int 273 0, .ref 366, .none, .ref 367, .ref 368, .ref 369, .int 694 0, .int 225 0, .str (S "/claim/cut.py") 695]), #[]⟩
noncomputable def o385 (P : Params) : Obj := ⟨.type "function", none, (.func (fn (S "__check") (S "StringIO.__check") (kid (st 10) 3) 3 [] .none .none .none (.str (S "io") 286) none (.ref 370) .none 0)), #[]⟩
noncomputable def o386 (P : Params) : Obj := ⟨.type "tuple", none, (.seq #[] 0), #[]⟩
noncomputable def o387 (P : Params) : Obj := ⟨.none, none, (.fields #[]), #[]⟩
noncomputable def o388 (P : Params) : Obj := ⟨.type "tuple", none, (.seq #[.str (S "self") 700] 0), #[]⟩
noncomputable def o389 (P : Params) : Obj := ⟨.type "tuple", none, (.seq #[] 0), #[]⟩
noncomputable def o390 (P : Params) : Obj := ⟨.none, none, (.func (fn (S "__check_dot") (S "StringIO.__check_dot") (kid (st 10) 4) 0 [] .none .none .none .none none .none .none 0)), #[]⟩
noncomputable def o391 (P : Params) : Obj := ⟨.type "code", none, (.fields #[.str (S "__check_dot") 697, .str (S "StringIO.__check_dot") 698, .str (S "/claim/cut.py") 699, .int 229 0, .int 1 0, .int 0 0, .int 0 0, .int 3 0, .ref 372, .bool true, .int 273 0, .ref 373, .none, .ref 374, .ref 375, .ref 376, .int 701 0, .int 229 0, .str (S "/claim/cut.py") 702]), #[]⟩
noncomputable def o392 (P : Params) : Obj := ⟨.type "function", none, (.func (fn (S "__check_dot") (S "StringIO.__check_dot") (kid (st 10) 4) 3 [] .none .none .none (.str (S "io") 286) none (.ref 377) .none 0)), #[]⟩
noncomputable def o393 (P : Params) : Obj := ⟨.type "tuple", none, (.seq #[] 0), #[]⟩
noncomputable def o394 (P : Params) : Obj := ⟨.none, none, (.fields #[]), #[]⟩
noncomputable def o395 (P : Params) : Obj := ⟨.type "tuple", none, (.seq #[.str (S "self") 707, .str (S "limit") 708, .str (S "start") 709, .str (S "stop") 710, .str (S "cut") 711, .str (S "newline") 712, .str (S "i") 713, .str (S "j") 714, .str (S "end") 715] 0), #[]⟩
noncomputable def o396 (P : Params) : Obj := ⟨.type "tuple", none, (.seq #[] 0), #[]⟩
noncomputable def o397 (P : Params) : Obj := ⟨.none, none, (.func (fn (S "__line") (S "StringIO.__line") (kid (st 10) 5) 0 [] .none .none .none .none none .none .none 0)), #[]⟩
noncomputable def o398 (P : Params) : Obj := ⟨.type "code", none, (.fields #[.str (S "__line") 704, .str (S "StringIO.__line") 705, .str (S "/claim/cut.py") 706, .int 233 0, .int 2 0, .int 0 0, .int 0 0, .int 3 0, .ref 379, .bool true, .int 273 0, .ref 380, .none, .ref 381, .ref 382, .ref 383, .int 716 0, .int 233 0, .str (S "/claim/cut.py") 717]), #[]⟩
noncomputable def o399 (P : Params) : Obj := ⟨.type "function", none, (.func (fn (S "__line") (S "StringIO.__line") (kid (st 10) 5) 3 [] .none .none .none (.str (S "io") 286) none (.ref 384) .none 0)), #[]⟩
noncomputable def o400 (P : Params) : Obj := ⟨.type "tuple", none, (.seq #[] 0), #[]⟩
noncomputable def o401 (P : Params) : Obj := ⟨.none, none, (.fields #[]), #[]⟩
noncomputable def o402 (P : Params) : Obj := ⟨.type "tuple", none, (.seq #[.str (S "self") 722] 0), #[]⟩
noncomputable def o403 (P : Params) : Obj := ⟨.type "tuple", none, (.seq #[] 0), #[]⟩
noncomputable def o404 (P : Params) : Obj := ⟨.none, none, (.func (fn (S "closed") (S "StringIO.closed") (kid (st 10) 6) 0 [] .none .none .none .none none .none .none 0)), #[]⟩
noncomputable def o405 (P : Params) : Obj := ⟨.type "code", none, (.fields #[.str (S "closed") 719, .str (S "StringIO.closed") 720, .str (S "/claim/cut.py") 721, .int 265 0, .int 1 0, .int 0 0, .int 0 0, .int 3 0, .ref 386, .bool true, .int 273 0, .ref 387, .none, .ref 388, .ref 389, .ref 390, .int 723 0, .int 265 0, .str (S "/claim/cut.py") 724]), #[]⟩
noncomputable def o406 (P : Params) : Obj := ⟨.type "function", none, (.func (fn (S "closed") (S "StringIO.closed") (kid (st 10) 6) 3 [] .none .none .none (.str (S "io") 286) none (.ref 391) .none 0)), #[]⟩
noncomputable def o407 (P : Params) : Obj := ⟨.type "property", none, (.fields #[.ref 392, .none, .none, .none, .str (S "closed") 726, .bool false]), #[]⟩
noncomputable def o408 (P : Params) : Obj := ⟨.type "tuple", none, (.seq #[] 0), #[]⟩
noncomputable def o409 (P : Params) : Obj := ⟨.none, none, (.fields #[]), #[]⟩
noncomputable def o410 (P : Params) : Obj := ⟨.type "tuple", none, (.seq #[.str (S "self") 730] 0), #[]⟩
noncomputable def o411 (P : Params) : Obj := ⟨.type "tuple", none, (.seq #[] 0), #[]⟩
noncomputable def o412 (P : Params) : Obj := ⟨.none, none, (.func (fn (S "line_buffering") (S "StringIO.line_buffering") (kid (st 10) 7) 0 [] .none .none .none .none none .none .none 0)), #[]⟩
noncomputable def o413 (P : Params) : Obj := ⟨.type "code", none, (.fields #[.str (S "line_buffering") 727, .str (S "StringIO.line_buffering") 728, .str (S "/claim/cut.py") 729, .int 269 0, .int 1 0, .int 0 0, .int 0 0, .int 3 0, .ref 394, .bool true, .int 273 0, .ref 395, .none, .ref 396, .ref 397, .ref 398, .int 731 0, .int 269 0, .str (S "/claim/cut.py") 732]), #[]⟩
noncomputable def o414 (P : Params) : Obj := ⟨.type "function", none, (.func (fn (S "line_buffering") (S "StringIO.line_buffering") (kid (st 10) 7) 3 [] .none .none .none (.str (S "io") 286) none (.ref 399) .none 0)), #[]⟩
noncomputable def o415 (P : Params) : Obj := ⟨.type "property", none, (.fields #[.ref 400, .none, .none, .none, .str (S "line_buffering") 734, .bool false]), #[]⟩
noncomputable def o416 (P : Params) : Obj := ⟨.type "tuple", none, (.seq #[] 0), #[]⟩
noncomputable def o417 (P : Params) : Obj := ⟨.none, none, (.fields #[]), #[]⟩
noncomputable def o418 (P : Params) : Obj := ⟨.type "tuple", none, (.seq #[.str (S "self") 738] 0), #[]⟩
noncomputable def o419 (P : Params) : Obj := ⟨.type "tuple", none, (.seq #[] 0), #[]⟩
noncomputable def o420 (P : Params) : Obj := ⟨.none, none, (.func (fn (S "newlines") (S "StringIO.newlines") (kid (st 10) 8) 0 [] .none .none .none .none none .none .none 0)), #[]⟩
noncomputable def o421 (P : Params) : Obj := ⟨.type "code", none, (.fields #[.str (S "newlines") 735, .str (S "StringIO.newlines") 736, .str (S "/claim/cut.py") 737, .int 273 0, .int 1 0, .int 0 0, .int 0 0, .int 3 0, .ref 402, .bool true, .int 273 0, .ref 403, .none, .ref 404, .ref 405, .ref 406, .int 739 0, .int 273 0, .str (S "/claim/cut.py") 740]), #[]⟩
noncomputable def o422 (P : Params) : Obj := ⟨.type "function", none, (.func (fn (S "newlines") (S "StringIO.newlines") (kid (st 10) 8) 3 [] .none .none .none (.str (S "io") 286) none (.ref 407) .none 0)), #[]⟩
noncomputable def o423 (P : Params) : Obj := ⟨.type "property", none, (.fields #[.ref 408, .none, .none, .none, .str (S "newlines") 742, .bool false]), #[]⟩
noncomputable def o424 (P : Params) : Obj := ⟨.type "tuple", none, (.seq #[] 0), #[]⟩
noncomputable def o425 (P : Params) : Obj := ⟨.none, none, (.fields #[]), #[]⟩
noncomputable def o426 (P : Params) : Obj := ⟨.type "tuple", none, (.seq #[.str (S "self") 746] 0), #[]⟩
noncomputable def o427 (P : Params) : Obj := ⟨.type "tuple", none, (.seq #[] 0), #[]⟩
noncomputable def o428 (P : Params) : Obj := ⟨.none, none, (.func (fn (S "encoding") (S "StringIO.encoding") (kid (st 10) 9) 0 [] .none .none .none .none none .none .none 0)), #[]⟩
noncomputable def o429 (P : Params) : Obj := ⟨.type "code", none, (.fields #[.str (S "encoding") 743, .str (S "StringIO.encoding") 744, .str (S "/claim/cut.py") 745, .int 277 0, .int 1 0, .int 0 0, .int 0 0, .int 3 0, .ref 410, .bool true, .int 273 0, .ref 411, .none, .ref 412, .ref 413, .ref 414, .int 747 0, .int 277 0, .str (S "/claim/cut.py") 748]), #[]⟩
noncomputable def o430 (P : Params) : Obj := ⟨.type "function", none, (.func (fn (S "encoding") (S "StringIO.encoding") (kid (st 10) 9) 3 [] .none .none .none (.str (S "io") 286) none (.ref 415) .none 0)), #[]⟩
noncomputable def o431 (P : Params) : Obj := ⟨.type "property", none, (.fields #[.ref 416, .none, .none, .none, .str (S "encoding") 750, .bool false]), #[]⟩
noncomputable def o432 (P : Params) : Obj := ⟨.type "tuple", none, (.seq #[] 0), #[]⟩
noncomputable def o433 (P : Params) : Obj := ⟨.none, none, (.fields #[]), #[]⟩
noncomputable def o434 (P : Params) : Obj := ⟨.type "tuple", none, (.seq #[.str (S "self") 754] 0), #[]⟩
noncomputable def o435 (P : Params) : Obj := ⟨.type "tuple", none, (.seq #[] 0), #[]⟩
noncomputable def o436 (P : Params) : Obj := ⟨.none, none, (.func (fn (S "errors") (S "StringIO.errors") (kid (st 10) 10) 0 [] .none .none .none .none none .none .none 0)), #[]⟩
noncomputable def o437 (P : Params) : Obj := ⟨.type "code", none, (.fields #[.str (S "errors") 751, .str (S "StringIO.errors") 752, .str (S "/claim/cut.py") 753, .int 281 0, .int 1 0, .int 0 0, .int 0 0, .int 3 0, .ref 418, .bool true, .int 273 0, .ref 419, .none, .ref 420, .ref 421, .ref 422, .int 755 0, .int 281 0, .str (S "/claim/cut.py") 756]), #[]⟩
noncomputable def o438 (P : Params) : Obj := ⟨.type "function", none, (.func (fn (S "errors") (S "StringIO.errors") (kid (st 10) 10) 3 [] .none .none .none (.str (S "io") 286) none (.ref 423) .none 0)), #[]⟩
noncomputable def o439 (P : Params) : Obj := ⟨.type "property", none, (.fields #[.ref 424, .none, .none, .none, .str (S "errors") 758, .bool false]), #[]⟩
noncomputable def o440 (P : Params) : Obj := ⟨.type "tuple", none, (.seq #[] 0), #[]⟩
noncomputable def o441 (P : Params) : Obj := ⟨.none, none, (.fields #[]), #[]⟩
noncomputable def o442 (P : Params) : Obj := ⟨.type "tuple", none, (.seq #[.str (S "self") 762] 0), #[]⟩
noncomputable def o443 (P : Params) : Obj := ⟨.type "tuple", none, (.seq #[] 0), #[]⟩
noncomputable def o444 (P : Params) : Obj := ⟨.none, none, (.func (fn (S "close") (S "StringIO.close") (kid (st 10) 11) 0 [] .none .none .none .none none .none .none 0)), #[]⟩
noncomputable def o445 (P : Params) : Obj := ⟨.type "code", none, (.fields #[.str (S "close") 759, .str (S "StringIO.close") 760, .str (S "/claim/cut.py") 761, .int 285 0, .int 1 0, .int 0 0, .int 0 0, .int 3 0, .ref 426, .bool true, .int 273 0, .ref 427, .none, .ref 428, .ref 429, .ref 430, .int 763 0, .int 285 0, .str (S "/claim/cut.py") 764]), #[]⟩
noncomputable def o446 (P : Params) : Obj := ⟨.type "function", none, (.func (fn (S "close") (S "StringIO.close") (kid (st 10) 11) 3 [] .none .none .none (.str (S "io") 286) none (.ref 431) .none 0)), #[]⟩
noncomputable def o447 (P : Params) : Obj := ⟨.type "tuple", none, (.seq #[] 0), #[]⟩
noncomputable def o448 (P : Params) : Obj := ⟨.none, none, (.fields #[]), #[]⟩
noncomputable def o449 (P : Params) : Obj := ⟨.type "tuple", none, (.seq #[.str (S "self") 769] 0), #[]⟩
noncomputable def o450 (P : Params) : Obj := ⟨.type "tuple", none, (.seq #[] 0), #[]⟩
noncomputable def o451 (P : Params) : Obj := ⟨.none, none, (.func (fn (S "__enter__") (S "StringIO.__enter__") (kid (st 10) 12) 0 [] .none .none .none .none none .none .none 0)), #[]⟩
noncomputable def o452 (P : Params) : Obj := ⟨.type "code", none, (.fields #[.str (S "__enter__") 766, .str (S "StringIO.__enter__") 767, .str (S "/claim/cut.py") 768, .int 288 0, .int 1 0, .int 0 0, .int 0 0, .int 3 0, .ref 433, .bool true, .int 273 0, .ref 434, .none, .ref 435, .ref 436, .ref 437, .int 770 0, .int 288 0, .str (S "/claim/cut.py") 771]), #[]⟩
noncomputable def o453 (P : Params) : Obj := ⟨.type "function", none, (.func (fn (S "__enter__") (S "StringIO.__enter__") (kid (st 10) 12) 3 [] .none .none .none (.str (S "io") 286) none (.ref 438) .none 0)), #[]⟩
noncomputable def o454 (P : Params) : Obj := ⟨.type "tuple", none, (.seq #[] 0), #[]⟩
noncomputable def o455 (P : Params) : Obj := ⟨.none, none, (.fields #[]), #[]⟩
noncomputable def o456 (P : Params) : Obj := ⟨.type "tuple", none, (.seq #[.str (S "self") 776, .str (S "args") 777] 0), #[]⟩
noncomputable def o457 (P : Params) : Obj := ⟨.type "tuple", none, (.seq #[] 0), #[]⟩
noncomputable def o458 (P : Params) : Obj := ⟨.none, none, (.func (fn (S "__exit__") (S "StringIO.__exit__") (kid (st 10) 13) 0 [] .none .none .none .none none .none .none 0)), #[]⟩
noncomputable def o459 (P : Params) : Obj := ⟨.type "code", none, (.fields #[.str (S "__exit__") 773, .str (S "StringIO.__exit__") 774, .str (S "/claim/cut.py") 775, .int 292 0, .int 1 0, .int 0 0, .int 0 0, .int 7 0, .ref 440, .bool true, .int 273 0, .ref 441, .none, .ref 442, .ref 443, .ref 444, .int 778 0, .int 292 0, .str (S "/claim/cut.py") 779]), #[]⟩
noncomputable def o460 (P : Params) : Obj := ⟨.type "function", none, (.func (fn (S "__exit__") (S "StringIO.__exit__") (kid (st 10) 13) 3 [] .none .none .none (.str (S "io") 286) none (.ref 445) .none 0)), #[]⟩
noncomputable def o461 (P : Params) : Obj := ⟨.type "tuple", none, (.seq #[] 0), #[]⟩
noncomputable def o462 (P : Params) : Obj := ⟨.none, none, (.fields #[]), #[]⟩
noncomputable def o463 (P : Params) : Obj := ⟨.type "tuple", none, (.seq #[.str (S "self") 784] 0), #[]⟩
noncomputable def o464 (P : Params) : Obj := ⟨.type "tuple", none, (.seq #[] 0), #[]⟩
noncomputable def o465 (P : Params) : Obj := ⟨.none, none, (.func (fn (S "readable") (S "StringIO.readable") (kid (st 10) 14) 0 [] .none .none .none .none none .none .none 0)), #[]⟩
noncomputable def o466 (P : Params) : Obj := ⟨.type "code", none, (.fields #[.str (S "readable") 781, .str (S "StringIO.readable") 782, .str (S "/claim/cut.py") 783, .int 295 0, .int 1 0, .int 0 0, .int 0 0, .int 3 0, .ref 447, .bool true, .int 273 0, .ref 448, .none, .ref 449, .ref 450, .ref 451, .int 785 0, .int 295 0, .str (S "/claim/cut.py") 786]), #[]⟩
noncomputable def o467 (P : Params) : Obj := ⟨.type "function", none, (.func (fn (S "readable") (S "StringIO.readable") (kid (st 10) 14) 3 [] .none .none .none (.str (S "io") 286) none (.ref 452) .none 0)), #[]⟩
noncomputable def o468 (P : Params) : Obj := ⟨.type "tuple", none, (.seq #[] 0), #[]⟩
noncomputable def o469 (P : Params) : Obj := ⟨.none, none, (.fields #[]), #[]⟩
noncomputable def o470 (P : Params) : Obj := ⟨.type "tuple", none, (.seq #[.str (S "self") 791] 0), #[]⟩
noncomputable def o471 (P : Params) : Obj := ⟨.type "tuple", none, (.seq #[] 0), #[]⟩
noncomputable def o472 (P : Params) : Obj := ⟨.none, none, (.func (fn (S "writable") (S "StringIO.writable") (kid (st 10) 15) 0 [] .none .none .none .none none .none .none 0)), #[]⟩
noncomputable def o473 (P : Params) : Obj := ⟨.type "code", none, (.fields #[.str (S "writable") 788, .str (S "StringIO.writable") 789, .str (S "/claim/cut.py") 790, .int 299 0, .int 1 0, .int 0 0, .int 0 0, .int 3 0, .ref 454, .bool true, .int 273 0, .ref 455, .none, .ref 456, .ref 457, .ref 458, .int 792 0, .int 299 0, .str (S "/claim/cut.py") 793]), #[]⟩
noncomputable def o474 (P : Params) : Obj := ⟨.type "function", none, (.func (fn (S "writable") (S "StringIO.writable") (kid (st 10) 15) 3 [] .none .none .none (.str (S "io") 286) none (.ref 459) .none 0)), #[]⟩
noncomputable def o475 (P : Params) : Obj := ⟨.type "tuple", none, (.seq #[] 0), #[]⟩
noncomputable def o476 (P : Params) : Obj := ⟨.none, none, (.fields #[]), #[]⟩
noncomputable def o477 (P : Params) : Obj := ⟨.type "tuple", none, (.seq #[.str (S "self") 798] 0), #[]⟩
noncomputable def o478 (P : Params) : Obj := ⟨.type "tuple", none, (.seq #[] 0), #[]⟩
noncomputable def o479 (P : Params) : Obj := ⟨.none, none, (.func (fn (S "seekable") (S "StringIO.seekable") (kid (st 10) 16) 0 [] .none .none .none .none none .none .none 0)), #[]⟩
noncomputable def o480 (P : Params) : Obj := ⟨.type "code", none, (.fields #[.str (S "seekable") 795, .str (S "StringIO.seekable") 796, .str (S "/claim/cut.py") 797, .int 303 0, .int 1 0, .int 0 0, .int 0 0, .int 3 0, .ref 461, .bool true, .int 273 0, .ref 462, .none, .ref 463, .ref 464, .ref 465, .int 799 0, .int 303 0, .str (S "/claim/cut.py") 800]), #[]⟩
noncomputable def o481 (P : Params) : Obj := ⟨.type "function", none, (.func (fn (S "seekable") (S "StringIO.seekable") (kid (st 10) 16) 3 [] .none .none .none (.str (S "io") 286) none (.ref 466) .none 0)), #[]⟩
noncomputable def o482 (P : Params) : Obj := ⟨.type "tuple", none, (.seq #[] 0), #[]⟩
noncomputable def o483 (P : Params) : Obj := ⟨.none, none, (.fields #[]), #[]⟩
noncomputable def o484 (P : Params) : Obj := ⟨.type "tuple", none, (.seq #[.str (S "self") 805] 0), #[]⟩
noncomputable def o485 (P : Params) : Obj := ⟨.type "tuple", none, (.seq #[] 0), #[]⟩
noncomputable def o486 (P : Params) : Obj := ⟨.none, none, (.func (fn (S "isatty") (S "StringIO.isatty") (kid (st 10) 17) 0 [] .none .none .none .none none .none .none 0)), #[]⟩
noncomputable def o487 (P : Params) : Obj := ⟨.type "code", none, (.fields #[.str (S "isatty") 802, .str (S "StringIO.isatty") 803, .str (S "/claim/cut.py") 804, .int 307 0, .int 1 0, .int 0 0, .int 0 0, .int 3 0, .ref 468, .bool true, .int 273 0, .ref 469, .none, .ref 470, .ref 471, .ref 472, .int 806 0, .int 307 0, .str (S "/claim/cut.py") 807]), #[]⟩
noncomputable def o488 (P : Params) : Obj := ⟨.type "function", none, (.func (fn (S "isatty") (S "StringIO.isatty") (kid (st 10) 17) 3 [] .none .none .none (.str (S "io") 286) none (.ref 473) .none 0)), #[]⟩
noncomputable def o489 (P : Params) : Obj := ⟨.type "tuple", none, (.seq #[] 0), #[]⟩
noncomputable def o490 (P : Params) : Obj := ⟨.none, none, (.fields #[]), #[]⟩
noncomputable def o491 (P : Params) : Obj := ⟨.type "tuple", none, (.seq #[.str (S "self") 812] 0), #[]⟩
noncomputable def o492 (P : Params) : Obj := ⟨.type "tuple", none, (.seq #[] 0), #[]⟩
noncomputable def o493 (P : Params) : Obj := ⟨.none, none, (.func (fn (S "flush") (S "StringIO.flush") (kid (st 10) 18) 0 [] .none .none .none .none none .none .none 0)), #[]⟩
noncomputable def o494 (P : Params) : Obj := ⟨.type "code", none, (.fields #[.str (S "flush") 809, .str (S "StringIO.flush") 810, .str (S "/claim/cut.py") 811, .int 311 0, .int 1 0, .int 0 0, .int 0 0, .int 3 0, .ref 475, .bool true, .int 273 0, .ref 476, .none, .ref 477, .ref 478, .ref 479, .int 813 0, .int 311 0, .str (S "/claim/cut.py") 814]), #[]⟩
noncomputable def o495 (P : Params) : Obj := ⟨.type "function", none, (.func (fn (S "flush") (S "StringIO.flush") (kid (st 10) 18) 3 [] .none .none .none (.str (S "io") 286) none (.ref 480) .none 0)), #[]⟩
noncomputable def o496 (P : Params) : Obj := ⟨.type "tuple", none, (.seq #[] 0), #[]⟩
noncomputable def o497 (P : Params) : Obj := ⟨.none, none, (.fields #[]), #[]⟩
noncomputable def o498 (P : Params) : Obj := ⟨.type "tuple", none, (.seq #[.str (S "self") 819] 0), #[]⟩
noncomputable def o499 (P : Params) : Obj := ⟨.type "tuple", none, (.seq #[] 0), #[]⟩
noncomputable def o500 (P : Params) : Obj := ⟨.none, none, (.func (fn (S "fileno") (S "StringIO.fileno") (kid (st 10) 19) 0 [] .none .none .none .none none .none .none 0)), #[]⟩
noncomputable def o501 (P : Params) : Obj := ⟨.type "code", none, (.fields #[.str (S "fileno") 816, .str (S "StringIO.fileno") 817, .str (S "/claim/cut.py") 818, .int 314 0, .int 1 0, .int 0 0, .int 0 0, .int 3 0, .ref 482, .bool true, .int 273 0, .ref 483, .none, .ref 484, .ref 485, .ref 486, .int 820 0, .int 314 0, .str (S "/claim/cut.py") 821]), #[]⟩
noncomputable def o502 (P : Params) : Obj := ⟨.type "function", none, (.func (fn (S "fileno") (S "StringIO.fileno") (kid (st 10) 19) 3 [] .none .none .none (.str (S "io") 286) none (.ref 487) .none 0)), #[]⟩
noncomputable def o503 (P : Params) : Obj := ⟨.type "tuple", none, (.seq #[] 0), #[]⟩
noncomputable def o504 (P : Params) : Obj := ⟨.none, none, (.fields #[]), #[]⟩
noncomputable def o505 (P : Params) : Obj := ⟨.type "tuple", none, (.seq #[.str (S "self") 826] 0), #[]⟩
noncomputable def o506 (P : Params) : Obj := ⟨.type "tuple", none, (.seq #[] 0), #[]⟩
noncomputable def o507 (P : Params) : Obj := ⟨.none, none, (.func (fn (S "detach") (S "StringIO.detach") (kid (st 10) 20) 0 [] .none .none .none .none none .none .none 0)), #[]⟩
noncomputable def o508 (P : Params) : Obj := ⟨.type "code", none, (.fields #[.str (S "detach") 823, .str (S "StringIO.detach") 824, .str (S "/claim/cut.py") 825, .int 317 0, .int 1 0, .int 0 0, .int 0 0, .int 3 0, .ref 489, .bool true, .int 273 0, .ref 490, .none, .ref 491, .ref 492, .ref 493, .int 827 0, .int 317 0, .str (S "/claim/cut.py") 828]), #[]⟩
noncomputable def o509 (P : Params) : Obj := ⟨.type "function", none, (.func (fn (S "detach") (S "StringIO.detach") (kid (st 10) 20) 3 [] .none .none .none (.str (S "io") 286) none (.ref 494) .none 0)), #[]⟩
noncomputable def o510 (P : Params) : Obj := ⟨.type "tuple", none, (.seq #[] 0), #[]⟩
noncomputable def o511 (P : Params) : Obj := ⟨.none, none, (.fields #[]), #[]⟩
noncomputable def o512 (P : Params) : Obj := ⟨.type "tuple", none, (.seq #[.str (S "self") 833] 0), #[]⟩
noncomputable def o513 (P : Params) : Obj := ⟨.type "tuple", none, (.seq #[] 0), #[]⟩
noncomputable def o514 (P : Params) : Obj := ⟨.none, none, (.func (fn (S "getvalue") (S "StringIO.getvalue") (kid (st 10) 21) 0 [] .none .none .none .none none .none .none 0)), #[]⟩
noncomputable def o515 (P : Params) : Obj := ⟨.type "code", none, (.fields #[.str (S "getvalue") 830, .str (S "StringIO.getvalue") 831, .str (S "/claim/cut.py") 832, .int 320 0, .int 1 0, .int 0 0, .int 0 0, .int 3 0, .ref 496, .bool true, .int 273 0, .ref 497, .none, .ref 498, .ref 499, .ref 500, .int 834 0, .int 320 0, .str (S "/claim/cut.py") 835]), #[]⟩
noncomputable def o516 (P : Params) : Obj := ⟨.type "function", none, (.func (fn (S "getvalue") (S "StringIO.getvalue") (kid (st 10) 21) 3 [] .none .none .none (.str (S "io") 286) none (.ref 501) .none 0)), #[]⟩
noncomputable def o517 (P : Params) : Obj := ⟨.type "tuple", none, (.seq #[] 0), #[]⟩
noncomputable def o518 (P : Params) : Obj := ⟨.none, none, (.fields #[]), #[]⟩
noncomputable def o519 (P : Params) : Obj := ⟨.type "tuple", none, (.seq #[.str (S "self") 840] 0), #[]⟩
noncomputable def o520 (P : Params) : Obj := ⟨.type "tuple", none, (.seq #[] 0), #[]⟩
noncomputable def o521 (P : Params) : Obj := ⟨.none, none, (.func (fn (S "tell") (S "StringIO.tell") (kid (st 10) 22) 0 [] .none .none .none .none none .none .none 0)), #[]⟩
noncomputable def o522 (P : Params) : Obj := ⟨.type "code", none, (.fields #[.str (S "tell") 837, .str (S "StringIO.tell") 838, .str (S "/claim/cut.py") 839, .int 323 0, .int 1 0, .int 0 0, .int 0 0, .int 3 0, .ref 503, .bool true, .int 273 0, .ref 504, .none, .ref 505, .ref 506, .ref 507, .int 841 0, .int 323 0, .str (S "/claim/cut.py") 842]), #[]⟩
noncomputable def o523 (P : Params) : Obj := ⟨.type "function", none, (.func (fn (S "tell") (S "StringIO.tell") (kid (st 10) 22) 3 [] .none .none .none (.str (S "io") 286) none (.ref 508) .none 0)), #[]⟩
noncomputable def o524 (P : Params) : Obj := ⟨.type "tuple", none, (.seq #[.int 0 844] 0), #[]⟩
noncomputable def o525 (P : Params) : Obj := ⟨.type "tuple", none, (.seq #[] 0), #[]⟩
noncomputable def o526 (P : Params) : Obj := ⟨.none, none, (.fields #[]), #[]⟩
noncomputable def o527 (P : Params) : Obj := ⟨.type "tuple", none, (.seq #[.str (S "self") 848, .str (S "pos") 849, .str (S "whence") 850] 0), #[]⟩
noncomputable def o528 (P : Params) : Obj := ⟨.type "tuple", none, (.seq #[] 0), #[]⟩
noncomputable def o529 (P : Params) : Obj := ⟨.none, none, (.func (fn (S "seek") (S "StringIO.seek") (kid (st 10) 23) 0 [] .none .none .none .none none .none .none 0)), #[]⟩
noncomputable def o530 (P : Params) : Obj := ⟨.type "code", none, (.fields #[.str (S "seek") 845, .str (S "StringIO.seek") 846, .str (S "/claim/cut.py") 847, .int 327 0, .int 3 0, .int 3 0, .int 0 0, .int 3 0, .ref 511, .bool true, .int 273 0, .ref 512, .none, .ref 513, .ref 514, .ref 515, .int 851 0, .int 327 0, .str (S "/claim/cut.py") 852]), #[]⟩
noncomputable def o531 (P : Params) : Obj := ⟨.type "function", none, (.func (fn (S "seek") (S "StringIO.seek") (kid (st 10) 23) 3 [] (.ref 510) .none .none (.str (S "io") 286) none (.ref 516) .none 0)), #[]⟩
noncomputable def o532 (P : Params) : Obj := ⟨.type "tuple", none, (.seq #[.none] 0), #[]⟩
noncomputable def o533 (P : Params) : Obj := ⟨.type "tuple", none, (.seq #[] 0), #[]⟩
noncomputable def o534 (P : Params) : Obj := ⟨.none, none, (.fields #[]), #[]⟩
noncomputable def o535 (P : Params) : Obj := ⟨.type "tuple", none, (.seq #[.str (S "self") 857, .str (S "pos") 858] 0), #[]⟩
noncomputable def o536 (P : Params) : Obj := ⟨.type "tuple", none, (.seq #[] 0), #[]⟩
noncomputable def o537 (P : Params) : Obj := ⟨.none, none, (.func (fn (S "truncate") (S "StringIO.truncate") (kid (st 10) 24) 0 [] .none .none .none .none none .none .none 0)), #[]⟩
noncomputable def o538 (P : Params) : Obj := ⟨.type "code", none, (.fields #[.str (S "truncate") 854, .str (S "StringIO.truncate") 855, .str (S "/claim/cut.py") 856, .int 344 0, .int 2 0, .int 2 0, .int 0 0, .int 3 0, .ref 519, .bool true, .int 273 0, .ref 520, .none, .ref 521, .ref 522, .ref 523, .int 859 0, .int 344 0, .str (S "/claim/cut.py") 860]), #[]⟩
noncomputable def o539 (P : Params) : Obj := ⟨.type "function", none, (.func (fn (S "truncate") (S "StringIO.truncate") (kid (st 10) 24) 3 [] (.ref 518) .none .none (.str (S "io") 286) none (.ref 524) .none 0)), #[]⟩
noncomputable def o540 (P : Params) : Obj := ⟨.type "tuple", none, (.seq #[.int (-1) 863] 0), #[]⟩
noncomputable def o541 (P : Params) : Obj := ⟨.type "tuple", none, (.seq #[] 0), #[]⟩
noncomputable def o542 (P : Params) : Obj := ⟨.none, none, (.fields #[]), #[]⟩
noncomputable def o543 (P : Params) : Obj := ⟨.type "tuple", none, (.seq #[.str (S "self") 867, .str (S "size") 868, .str (S "start") 869, .str (S "stop") 870] 0), #[]⟩
noncomputable def o544 (P : Params) : Obj := ⟨.type "tuple", none, (.seq #[] 0), #[]⟩
noncomputable def o545 (P : Params) : Obj := ⟨.none, none, (.func (fn (S "read") (S "StringIO.read") (kid (st 10) 25) 0 [] .none .none .none .none none .none .none 0)), #[]⟩
noncomputable def o546 (P : Params) : Obj := ⟨.type "code", none, (.fields #[.str (S "read") 864, .str (S "StringIO.read") 865, .str (S "/claim/cut.py") 866, .int 347 0, .int 2 0, .int 2 0, .int 0 0, .int 3 0, .ref 527, .bool true, .int 273 0, .ref 528, .none, .ref 529, .ref 530, .ref 531, .int 871 0, .int 347 0, .str (S "/claim/cut.py") 872]), #[]⟩
noncomputable def o547 (P : Params) : Obj := ⟨.type "function", none, (.func (fn (S "read") (S "StringIO.read") (kid (st 10) 25) 3 [] (.ref 526) .none .none (.str (S "io") 286) none (.ref 532) .none 0)), #[]⟩
noncomputable def o548 (P : Params) : Obj := ⟨.type "tuple", none, (.seq #[.int (-1) 875] 0), #[]⟩
noncomputable def o549 (P : Params) : Obj := ⟨.type "tuple", none, (.seq #[] 0), #[]⟩
noncomputable def o550 (P : Params) : Obj := ⟨.none, none, (.fields #[]), #[]⟩
noncomputable def o551 (P : Params) : Obj := ⟨.type "tuple", none, (.seq #[.str (S "self") 879, .str (S "size") 880] 0), #[]⟩
noncomputable def o552 (P : Params) : Obj := ⟨.type "tuple", none, (.seq #[] 0), #[]⟩
noncomputable def o553 (P : Params) : Obj := ⟨.none, none, (.func (fn (S "readline") (S "StringIO.readline") (kid (st 10) 26) 0 [] .none .none .none .none none .none .none 0)), #[]⟩
noncomputable def o554 (P : Params) : Obj := ⟨.type "code", none, (.fields #[.str (S "readline") 876, .str (S "StringIO.readline") 877, .str (S "/claim/cut.py") 878, .int 361 0, .int 2 0, .int 2 0, .int 0 0, .int 3 0, .ref 535, .bool true, .int 273 0, .ref 536, .none, .ref 537, .ref 538, .ref 539, .int 881 0, .int 361 0, .str (S "/claim/cut.py") 882]), #[]⟩
noncomputable def o555 (P : Params) : Obj := ⟨.type "function", none, (.func (fn (S "readline") (S "StringIO.readline") (kid (st 10) 26) 3 [] (.ref 534) .none .none (.str (S "io") 286) none (.ref 540) .none 0)), #[]⟩
noncomputable def o556 (P : Params) : Obj := ⟨.type "tuple", none, (.seq #[.int (-1) 885] 0), #[]⟩
noncomputable def o557 (P : Params) : Obj := ⟨.type "tuple", none, (.seq #[] 0), #[]⟩
noncomputable def o558 (P : Params) : Obj := ⟨.none, none, (.fields #[]), #[]⟩
noncomputable def o559 (P : Params) : Obj := ⟨.type "tuple", none, (.seq #[.str (S "self") 889, .str (S "hint") 890] 0), #[]⟩
noncomputable def o560 (P : Params) : Obj := ⟨.type "tuple", none, (.seq #[] 0), #[]⟩
noncomputable def o561 (P : Params) : Obj := ⟨.none, none, (.func (fn (S "readlines") (S "StringIO.readlines") (kid (st 10) 27) 0 [] .none .none .none .none none .none .none 0)), #[]⟩
noncomputable def o562 (P : Params) : Obj := ⟨.type "code", none, (.fields #[.str (S "readlines") 886, .str (S "StringIO.readlines") 887, .str (S "/claim/cut.py") 888, .int 368 0, .int 2 0, .int 2 0, .int 0 0, .int 3 0, .ref 543, .bool true, .int 273 0, .ref 544, .none, .ref 545, .ref 546, .ref 547, .int 891 0, .int 368 0, .str (S "/claim/cut.py") 892]), #[]⟩
noncomputable def o563 (P : Params) : Obj := ⟨.type "function", none, (.func (fn (S "readlines") (S "StringIO.readlines") (kid (st 10) 27) 3 [] (.ref 542) .none .none (.str (S "io") 286) none (.ref 548) .none 0)), #[]⟩
noncomputable def o564 (P : Params) : Obj := ⟨.type "tuple", none, (.seq #[] 0), #[]⟩
noncomputable def o565 (P : Params) : Obj := ⟨.none, none, (.fields #[]), #[]⟩
noncomputable def o566 (P : Params) : Obj := ⟨.type "tuple", none, (.seq #[.str (S "self") 897] 0), #[]⟩
noncomputable def o567 (P : Params) : Obj := ⟨.type "tuple", none, (.seq #[] 0), #[]⟩
noncomputable def o568 (P : Params) : Obj := ⟨.none, none, (.func (fn (S "__iter__") (S "StringIO.__iter__") (kid (st 10) 28) 0 [] .none .none .none .none none .none .none 0)), #[]⟩
noncomputable def o569 (P : Params) : Obj := ⟨.type "code", none, (.fields #[.str (S "__iter__") 894, .str (S "StringIO.__iter__") 895, .str (S "/claim/cut.py") 896, .int 371 0, .int 1 0, .int 0 0, .int 0 0, .int 3 0, .ref 550, .bool true, .int 273 0, .ref 551, .none, .ref 552, .ref 553, .ref 554, .int 898 0, .int 371 0, .str (S "/claim/cut.py") 899]), #[]⟩
noncomputable def o570 (P : Params) : Obj := ⟨.type "function", none, (.func (fn (S "__iter__") (S "StringIO.__iter__") (kid (st 10) 28) 3 [] .none .none .none (.str (S "io") 286) none (.ref 555) .none 0)), #[]⟩
noncomputable def o571 (P : Params) : Obj := ⟨.type "tuple", none, (.seq #[] 0), #[]⟩
noncomputable def o572 (P : Params) : Obj := ⟨.none, none, (.fields #[]), #[]⟩
noncomputable def o573 (P : Params) : Obj := ⟨.type "tuple", none, (.seq #[.str (S "self") 904, .str (S "line") 905] 0), #[]⟩
noncomputable def o574 (P : Params) : Obj := ⟨.type "tuple", none, (.seq #[] 0), #[]⟩
noncomputable def o575 (P : Params) : Obj := ⟨.none, none, (.func (fn (S "__next__") (S "StringIO.__next__") (kid (st 10) 29) 0 [] .none .none .none .none none .none .none 0)), #[]⟩
noncomputable def o576 (P : Params) : Obj := ⟨.type "code", none, (.fields #[.str (S "__next__") 901, .str (S "StringIO.__next__") 902, .str (S "/claim/cut.py") 903, .int 375 0, .int 1 0, .int 0 0, .int 0 0, .int 3 0, .ref 557, .bool true, .int 273 0, .ref 558, .none, .ref 559, .ref 560, .ref 561, .int 906 0, .int 375 0, .str (S "/claim/cut.py") 907]), #[]⟩
noncomputable def o577 (P : Params) : Obj := ⟨.type "function", none, (.func (fn (S "__next__") (S "StringIO.__next__") (kid (st 10) 29) 3 [] .none .none .none (.str (S "io") 286) none (.ref 562) .none 0)), #[]⟩
noncomputable def o578 (P : Params) : Obj := ⟨.type "tuple", none, (.seq #[] 0), #[]⟩
noncomputable def o579 (P : Params) : Obj := ⟨.none, none, (.fields #[]), #[]⟩
noncomputable def o580 (P : Params) : Obj := ⟨.type "tuple", none, (.seq #[.str (S "self") 912, .str (S "s") 913, .str (S "n") 914, .str (S "m") 915, .str (S "start") 916, .str (S "buf") 917] 0), #[]⟩
noncomputable def o581 (P : Params) : Obj := ⟨.type "tuple", none, (.seq #[] 0), #[]⟩
noncomputable def o582 (P : Params) : Obj := ⟨.none, none, (.func (fn (S "write") (S "StringIO.write") (kid (st 10) 30) 0 [] .none .none .none .none none .none .none 0)), #[]⟩
noncomputable def o583 (P : Params) : Obj := ⟨.type "code", none, (.fields #[.str (S "write") 909, .str (S "StringIO.write") 910, .str (S "/claim/cut.py") 911, .int 382 0, .int 2 0, .int 2 0, .int 0 0, .int 3 0, .ref 564, .bool true, .int 273 0, .ref 565, .none, .ref 566, .ref 567, .ref 568, .int 918 0, .int 382 0, .str (S "/claim/cut.py") 919]), #[]⟩
noncomputable def o584 (P : Params) : Obj := ⟨.type "function", none, (.func (fn (S "write") (S "StringIO.write") (kid (st 10) 30) 3 [] .none .none .none (.str (S "io") 286) none (.ref 569) .none 0)), #[]⟩
noncomputable def o585 (P : Params) : Obj := ⟨.type "tuple", none, (.seq #[] 0), #[]⟩
noncomputable def o586 (P : Params) : Obj := ⟨.none, none, (.fields #[]), #[]⟩
noncomputable def o587 (P : Params) : Obj := ⟨.type "tuple", none, (.seq #[.str (S "self") 924, .str (S "lines") 925] 0), #[]⟩
noncomputable def o588 (P : Params) : Obj := ⟨.type "tuple", none, (.seq #[] 0), #[]⟩
noncomputable def o589 (P : Params) : Obj := ⟨.none, none, (.func (fn (S "writelines") (S "StringIO.writelines") (kid (st 10) 31) 0 [] .none .none .none .none none .none .none 0)), #[]⟩
noncomputable def o590 (P : Params) : Obj := ⟨.type "code", none, (.fields #[.str (S "writelines") 921, .str (S "StringIO.writelines") 922, .str (S "/claim/cut.py") 923, .int 401 0, .int 2 0, .int 2 0, .int 0 0, .int 3 0, .ref 571, .bool true, .int 273 0, .ref 572, .none, .ref 573, .ref 574, .ref 575, .int 926 0, .int 401 0, .str (S "/claim/cut.py") 927]), #[]⟩
noncomputable def o591 (P : Params) : Obj := ⟨.type "function", none, (.func (fn (S "writelines") (S "StringIO.writelines") (kid (st 10) 31) 3 [] .none .none .none (.str (S "io") 286) none (.ref 576) .none 0)), #[]⟩
noncomputable def o592 (P : Params) : Obj := ⟨.type "tuple", none, (.seq #[] 0), #[]⟩
noncomputable def o593 (P : Params) : Obj := ⟨.none, none, (.fields #[]), #[]⟩
noncomputable def o594 (P : Params) : Obj := ⟨.type "tuple", none, (.seq #[.str (S "self") 932] 0), #[]⟩
noncomputable def o595 (P : Params) : Obj := ⟨.type "tuple", none, (.seq #[] 0), #[]⟩
noncomputable def o596 (P : Params) : Obj := ⟨.none, none, (.func (fn (S "__repr__") (S "StringIO.__repr__") (kid (st 10) 32) 0 [] .none .none .none .none none .none .none 0)), #[]⟩
noncomputable def o597 (P : Params) : Obj := ⟨.type "code", none, (.fields #[.str (S "__repr__") 929, .str (S "StringIO.__repr__") 930, .str (S "/claim/cut.py") 931, .int 404 0, .int 1 0, .int 0 0, .int 0 0, .int 3 0, .ref 578, .bool true, .int 273 0, .ref 579, .none, .ref 580, .ref 581, .ref 582, .int 933 0, .int 404 0, .str (S "/claim/cut.py") 934]), #[]⟩
noncomputable def o598 (P : Params) : Obj := ⟨.type "function", none, (.func (fn (S "__repr__") (S "StringIO.__repr__") (kid (st 10) 32) 3 [] .none .none .none (.str (S "io") 286) none (.ref 583) .none 0)), #[]⟩
noncomputable def o599 (P : Params) : Obj := ⟨.type "tuple", none, (.seq #[.str (S "__buf") 936, .str (S "__newline") 937, .str (S "__pos") 938] 0), #[]⟩
noncomputable def o600 (P : Params) : Obj := ⟨.type "dict", none, (.dict #[E P (S "__module__") 663 (.str (S "_io") 668), E P (S "__firstlineno__") 667 (.int 201 666), E P (S "__init__") 680 (.ref 357), E P (S "_StringIO__translated") 689 (.ref 364), E P (S "_StringIO__check") 696 (.ref 371), E P (S "_StringIO__check_dot") 703 (.ref 378), E P (S "_StringIO__line") 718 (.ref 385), E P (S "closed") 726 (.ref 393), E P (S "line_buffering") 734 (.ref 401), E P (S "newlines") 742 (.ref 409), E P (S "encoding") 750 (.ref 417), E P (S "errors") 758 (.ref 425), E P (S "close") 765 (.ref 432), E P (S "__enter__") 772 (.ref 439), E P (S "__exit__") 780 (.ref 446), E P (S "readable") 787 (.ref 453), E P (S "writable") 794 (.ref 460), E P (S "seekable") 801 (.ref 467), E P (S "isatty") 808 (.ref 474), E P (S "flush") 815 (.ref 481), E P (S "fileno") 822 (.ref 488), E P (S "detach") 829 (.ref 495), E P (S "getvalue") 836 (.ref 502), E P (S "tell") 843 (.ref 509), E P (S "seek") 853 (.ref 517), E P (S "truncate") 861 (.ref 525), E P (S "read") 873 (.ref 533), E P (S "readline") 883 (.ref 541), E P (S "readlines") 893 (.ref 549), E P (S "__iter__") 900 (.ref 556), E P (S "__next__") 908 (.ref 563), E P (S "write") 920 (.ref 570), E P (S "writelines") 928 (.ref 577), E P (S "__repr__") 935 (.ref 584), E P (S "__static_attributes__") 939 (.ref 585), E P (S "__doc__") 940 .none] 2), #[]⟩
noncomputable def o601 (P : Params) : Obj := ⟨.type "type", none, (.cls ⟨(S "StringIO"), [.ref 110], [.ref 587, .ref 110, .ref 83, .type "object"], 586, (S "StringIO"), true, [], [], false, none, false⟩), #[(some (.ref 343)), none, (some (.str (S "StringIO") 656)), (some (.str (S "StringIO") 664)), (some .none), (some (.bool true))]⟩
noncomputable def o602 (P : Params) : Obj := ⟨.type "super", none, (.fields #[.ref 587, .ref 587, .ref 587]), #[]⟩
noncomputable def o603 (P : Params) : Obj := ⟨.type "builtin_function_or_method", none, (.fields #[.builtin "object.__init_subclass__", .ref 587]), #[]⟩
noncomputable def T5 (P : Params) : BT := (n (o0 P) (n (o1 P) (n (o354 P) (n (o7 P) (n (o15 P) (n (o31 P) (n (o66 P) (n (o138 P) (n (o266 P) (n (o525 P) l l) l) (n (o397 P) l l)) (n (o202 P) (n (o330 P) (n (o589 P) l l) l) (n (o461 P) l l))) (n (o103 P) (n (o170 P) (n (o298 P) (n (o557 P) l l) l) (n (o429 P) l l)) (n (o234 P) (n (o365 P) l l) (n (o493 P) l l)))) (n (o50 P) (n (o84 P) (n (o154 P) (n (o282 P) (n (o541 P) l l) l) (n (o413 P) l l)) (n (o218 P) (n (o346 P) l l) (n (o477 P) l l))) (n (o119 P) (n (o186 P) (n (o314 P) (n (o573 P) l l) l) (n (o445 P) l l)) (n (o250 P) (n (o381 P) l l) (n (o509 P) l l))))) (n (o23 P) (n (o42 P) (n (o76 P) (n (o146 P) (n (o274 P) (n (o533 P) l l) l) (n (o405 P) l l)) (n (o210 P) (n (o338 P) (n (o597 P) l l) l) (n (o469 P) l l))) (n (o111 P) (n (o178 P) (n (o306 P) (n (o565 P) l l) l) (n (o437 P) l l)) (n (o242 P) (n (o373 P) l l) (n (o501 P) l l)))) (n (o58 P) (n (o92 P) (n (o162 P) (n (o290 P) (n (o549 P) l l) l) (n (o421 P) l l)) (n (o226 P) (n (o357 P) l l) (n (o485 P) l l))) (n (o130 P) (n (o194 P) (n (o322 P) (n (o581 P) l l) l) (n (o453 P) l l)) (n (o258 P) (n (o389 P) l l) (n (o517 P) l l)))))) (n (o11 P) (n (o19 P) (n (o38 P) (n (o72 P) (n (o142 P) (n (o270 P) (n (o529 P) l l) l) (n (o401 P) l l)) (n (o206 P) (n (o334 P) (n (o593 P) l l) l) (n (o465 P) l l))) (n (o107 P) (n (o174 P) (n (o302 P) (n (o561 P) l l) l) (n (o433 P) l l)) (n (o238 P) (n (o369 P) l l) (n (o497 P) l l)))) (n (o54 P) (n (o96 P) (n (o158 P) (n (o286 P) (n (o545 P) l l) l) (n (o417 P) l l)) (n (o222 P) (n (o350 P) l l) (n (o481 P) l l))) (n (o126 P) (n (o190 P) (n (o318 P) (n (o577 P) l l) l) (n (o449 P) l l)) (n (o254 P) (n (o385 P) l l) (n (o513 P) l l))))) (n (o27 P) (n (o46 P) (n (o80 P) (n (o150 P) (n (o278 P) (n (o537 P) l l) l) (n (o409 P) l l)) (n (o214 P) (n (o342 P) (n (o601 P) l l) l) (n (o473 P) l l))) (n (o115 P) (n (o182 P) (n (o310 P) (n (o569 P) l l) l) (n (o441 P) l l)) (n (o246 P) (n (o377 P) l l) (n (o505 P) l l)))) (n (o62 P) (n (o99 P) (n (o166 P) (n (o294 P) (n (o553 P) l l) l) (n (o425 P) l l)) (n (o230 P) (n (o361 P) l l) (n (o489 P) l l))) (n (o134 P) (n (o198 P) (n (o326 P) (n (o585 P) l l) l) (n (o457 P) l l)) (n (o262 P) (n (o393 P) l l) (n (o521 P) l l))))))) (n (o5 P) (n (o9 P) (n (o17 P) (n (o36 P) (n (o68 P) (n (o140 P) (n (o268 P) (n (o527 P) l l) l) (n (o399 P) l l)) (n (o204 P) (n (o332 P) (n (o591 P) l l) l) (n (o463 P) l l))) (n (o105 P) (n (o172 P) (n (o300 P) (n (o559 P) l l) l) (n (o431 P) l l)) (n (o236 P) (n (o367 P) l l) (n (o495 P) l l)))) (n (o52 P) (n (o86 P) (n (o156 P) (n (o284 P) (n (o543 P) l l) l) (n (o415 P) l l)) (n (o220 P) (n (o348 P) l l) (n (o479 P) l l))) (n (o124 P) (n (o188 P) (n (o316 P) (n (o575 P) l l) l) (n (o447 P) l l)) (n (o252 P) (n (o383 P) l l) (n (o511 P) l l))))) (n (o25 P) (n (o44 P) (n (o78 P) (n (o148 P) (n (o276 P) (n (o535 P) l l) l) (n (o407 P) l l)) (n (o212 P) (n (o340 P) (n (o599 P) l l) l) (n (o471 P) l l))) (n (o113 P) (n (o180 P) (n (o308 P) (n (o567 P) l l) l) (n (o439 P) l l)) (n (o244 P) (n (o375 P) l l) (n (o503 P) l l)))) (n (o60 P) (n (o97 P) (n (o164 P) (n (o292 P) (n (o551 P) l l) l) (n (o423 P) l l)) (n (o228 P) (n (o359 P) l l) (n (o487 P) l l))) (n (o132 P) (n (o196 P) (n (o324 P) (n (o583 P) l l) l) (n (o455 P) l l)) (n (o260 P) (n (o391 P) l l) (n (o519 P) l l)))))) (n (o13 P) (n (o21 P) (n (o40 P) (n (o74 P) (n (o144 P) (n (o272 P) (n (o531 P) l l) l) (n (o403 P) l l)) (n (o208 P) (n (o336 P) (n (o595 P) l l) l) (n (o467 P) l l))) (n (o109 P) (n (o176 P) (n (o304 P) (n (o563 P) l l) l) (n (o435 P) l l)) (n (o240 P) (n (o371 P) l l) (n (o499 P) l l)))) (n (o56 P) (n (o90 P) (n (o160 P) (n (o288 P) (n (o547 P) l l) l) (n (o419 P) l l)) (n (o224 P) (n (o352 P) l l) (n (o483 P) l l))) (n (o128 P) (n (o192 P) (n (o320 P) (n (o579 P) l l) l) (n (o451 P) l l)) (n (o256 P) (n (o387 P) l l) (n (o515 P) l l))))) (n (o29 P) (n (o48 P) (n (o82 P) (n (o152 P) (n (o280 P) (n (o539 P) l l) l) (n (o411 P) l l)) (n (o216 P) (n (o344 P) (n (o603 P) l l) l) (n (o475 P) l l))) (n (o117 P) (n (o184 P) (n (o312 P) (n (o571 P) l l) l) (n (o443 P) l l)) (n (o248 P) (n (o379 P) l l) (n (o507 P) l l)))) (n (o64 P) (n (o101 P) (n (o168 P) (n (o296 P) (n (o555 P) l l) l) (n (o427 P) l l)) (n (o232 P) (n (o363 P) l l) (n (o491 P) l l))) (n (o136 P) (n (o200 P) (n (o328 P) (n (o587 P) l l) l) (n (o459 P) l l)) (n (o264 P) (n (o395 P) l l) (n (o523 P) l l)))))))) (n (o33 P) (n (o4 P) (n (o8 P) (n (o16 P) (n (o32 P) (n (o67 P) (n (o139 P) (n (o267 P) (n (o526 P) l l) l) (n (o398 P) l l)) (n (o203 P) (n (o331 P) (n (o590 P) l l) l) (n (o462 P) l l))) (n (o104 P) (n (o171 P) (n (o299 P) (n (o558 P) l l) l) (n (o430 P) l l)) (n (o235 P) (n (o366 P) l l) (n (o494 P) l l)))) (n (o51 P) (n (o85 P) (n (o155 P) (n (o283 P) (n (o542 P) l l) l) (n (o414 P) l l)) (n (o219 P) (n (o347 P) l l) (n (o478 P) l l))) (n (o120 P) (n (o187 P) (n (o315 P) (n (o574 P) l l) l) (n (o446 P) l l)) (n (o251 P) (n (o382 P) l l) (n (o510 P) l l))))) (n (o24 P) (n (o43 P) (n (o77 P) (n (o147 P) (n (o275 P) (n (o534 P) l l) l) (n (o406 P) l l)) (n (o211 P) (n (o339 P) (n (o598 P) l l) l) (n (o470 P) l l))) (n (o112 P) (n (o179 P) (n (o307 P) (n (o566 P) l l) l) (n (o438 P) l l)) (n (o243 P) (n (o374 P) l l) (n (o502 P) l l)))) (n (o59 P) (n (o93 P) (n (o163 P) (n (o291 P) (n (o550 P) l l) l) (n (o422 P) l l)) (n (o227 P) (n (o358 P) l l) (n (o486 P) l l))) (n (o131 P) (n (o195 P) (n (o323 P) (n (o582 P) l l) l) (n (o454 P) l l)) (n (o259 P) (n (o390 P) l l) (n (o518 P) l l)))))) (n (o12 P) (n (o20 P) (n (o39 P) (n (o73 P) (n (o143 P) (n (o271 P) (n (o530 P) l l) l) (n (o402 P) l l)) (n (o207 P) (n (o335 P) (n (o594 P) l l) l) (n (o466 P) l l))) (n (o108 P) (n (o175 P) (n (o303 P) (n (o562 P) l l) l) (n (o434 P) l l)) (n (o239 P) (n (o370 P) l l) (n (o498 P) l l)))) (n (o55 P) (n (o89 P) (n (o159 P) (n (o287 P) (n (o546 P) l l) l) (n (o418 P) l l)) (n (o223 P) (n (o351 P) l l) (n (o482 P) l l))) (n (o127 P) (n (o191 P) (n (o319 P) (n (o578 P) l l) l) (n (o450 P) l l)) (n (o255 P) (n (o386 P) l l) (n (o514 P) l l))))) (n (o28 P) (n (o47 P) (n (o81 P) (n (o151 P) (n (o279 P) (n (o538 P) l l) l) (n (o410 P) l l)) (n (o215 P) (n (o343 P) (n (o602 P) l l) l) (n (o474 P) l l))) (n (o116 P) (n (o183 P) (n (o311 P) (n (o570 P) l l) l) (n (o442 P) l l)) (n (o247 P) (n (o378 P) l l) (n (o506 P) l l)))) (n (o63 P) (n (o100 P) (n (o167 P) (n (o295 P) (n (o554 P) l l) l) (n (o426 P) l l)) (n (o231 P) (n (o362 P) l l) (n (o490 P) l l))) (n (o135 P) (n (o199 P) (n (o327 P) (n (o586 P) l l) l) (n (o458 P) l l)) (n (o263 P) (n (o394 P) l l) (n (o522 P) l l))))))) (n (o6 P) (n (o10 P) (n (o18 P) (n (o37 P) (n (o69 P) (n (o141 P) (n (o269 P) (n (o528 P) l l) l) (n (o400 P) l l)) (n (o205 P) (n (o333 P) (n (o592 P) l l) l) (n (o464 P) l l))) (n (o123 P) (n (o173 P) (n (o301 P) (n (o560 P) l l) l) (n (o432 P) l l)) (n (o237 P) (n (o368 P) l l) (n (o496 P) l l)))) (n (o53 P) (n (o87 P) (n (o157 P) (n (o285 P) (n (o544 P) l l) l) (n (o416 P) l l)) (n (o221 P) (n (o349 P) l l) (n (o480 P) l l))) (n (o125 P) (n (o189 P) (n (o317 P) (n (o576 P) l l) l) (n (o448 P) l l)) (n (o253 P) (n (o384 P) l l) (n (o512 P) l l))))) (n (o26 P) (n (o45 P) (n (o79 P) (n (o149 P) (n (o277 P) (n (o536 P) l l) l) (n (o408 P) l l)) (n (o213 P) (n (o341 P) (n (o600 P) l l) l) (n (o472 P) l l))) (n (o114 P) (n (o181 P) (n (o309 P) (n (o568 P) l l) l) (n (o440 P) l l)) (n (o245 P) (n (o376 P) l l) (n (o504 P) l l)))) (n (o61 P) (n (o98 P) (n (o165 P) (n (o293 P) (n (o552 P) l l) l) (n (o424 P) l l)) (n (o229 P) (n (o360 P) l l) (n (o488 P) l l))) (n (o133 P) (n (o197 P) (n (o325 P) (n (o584 P) l l) l) (n (o456 P) l l)) (n (o261 P) (n (o392 P) l l) (n (o520 P) l l)))))) (n (o14 P) (n (o22 P) (n (o41 P) (n (o75 P) (n (o145 P) (n (o273 P) (n (o532 P) l l) l) (n (o404 P) l l)) (n (o209 P) (n (o337 P) (n (o596 P) l l) l) (n (o468 P) l l))) (n (o110 P) (n (o177 P) (n (o305 P) (n (o564 P) l l) l) (n (o436 P) l l)) (n (o241 P) (n (o372 P) l l) (n (o500 P) l l)))) (n (o57 P) (n (o91 P) (n (o161 P) (n (o289 P) (n (o548 P) l l) l) (n (o420 P) l l)) (n (o225 P) (n (o353 P) l l) (n (o484 P) l l))) (n (o129 P) (n (o193 P) (n (o321 P) (n (o580 P) l l) l) (n (o452 P) l l)) (n (o257 P) (n (o388 P) l l) (n (o516 P) l l))))) (n (o355 P) (n (o49 P) (n (o83 P) (n (o153 P) (n (o281 P) (n (o540 P) l l) l) (n (o412 P) l l)) (n (o217 P) (n (o345 P) l l) (n (o476 P) l l))) (n (o356 P) (n (o185 P) (n (o313 P) (n (o572 P) l l) l) (n (o444 P) l l)) (n (o249 P) (n (o380 P) l l) (n (o508 P) l l)))) (n (o65 P) (n (o102 P) (n (o169 P) (n (o297 P) (n (o556 P) l l) l) (n (o428 P) l l)) (n (o233 P) (n (o364 P) l l) (n (o492 P) l l))) (n (o137 P) (n (o201 P) (n (o329 P) (n (o588 P) l l) l) (n (o460 P) l l)) (n (o265 P) (n (o396 P) l l) (n (o524 P) l l)))))))))
noncomputable def S5 (w : World) (os : OsState) : SharedT := ⟨T5 w.params, 590, {}, #[], {}, 943, os⟩
noncomputable def ss5 : List Stmt := [st 10]
theorem pc5 (w : World) (os : OsState) : segRunT treeTable PySem.Challenge.pw_ny0304_03 w 29 (some (.ref 6)) 1 1578 (S4 w os) (piecesOf ss5 en (.body (behindTheImports PySem.Challenge.pw_ny0304_03) en) ⟨31, 0, 200, 17⟩ [topFrame fq]) = some (.next, S5 w os, (.body (behindTheImports PySem.Challenge.pw_ny0304_03) en), ⟨201, 0, 405, 17⟩) := by kernel_rfl
noncomputable def o604 (P : Params) : Obj := ⟨.type "dict", none, (.dict #[E P (S "__name__") 165 (.str (S "cpy313.shlex") 1001), E P (S "__doc__") 166 .none, E P (S "__package__") 167 .none, E P (S "__loader__") 168 (.builtin "__main__.__loader__#opaque"), E P (S "__spec__") 169 .none, E P (S "__annotations__") 170 (.ref 6), E P (S "__builtins__") 171 (.ref 4), E P (S "__file__") 173 (.str (S "/claim/cut.py") 172), E P (S "__cached__") 174 .none, E P (S "deque") 272 (.type "collections.deque"), E P (S "_wall") 285 (.ref 39), E P (S "_whence") 295 (.ref 46), E P (S "_index") 303 (.ref 53), E P (S "UnsupportedOperation") 325 (.ref 63), E P (S "IOBase") 357 (.ref 83), E P (S "BufferedIOBase") 375 (.ref 98), E P (S "TextIOBase") 393 (.ref 110), E P (S "BytesIO") 655 (.ref 340), E P (S "StringIO") 942 (.ref 587), E P (S "_kind") 953 (.ref 596), E P (S "_fspath") 962 (.ref 603), E P (S "_check_arg_types") 972 (.ref 610), E P (S "isabs") 979 (.ref 617), E P (S "join") 990 (.ref 624), E P (S "dirname") 1000 (.ref 631)] 25), #[]⟩
noncomputable def o605 (P : Params) : Obj := ⟨.none, none, (.fields #[.int 2 0, .int 0 0, .ref 38, .int 6 0, .int 0 0, .ref 45, .int 11 0, .int 0 0, .ref 52, .int 18 0, .int 0 0, .ref 59, .int 20 0, .int 0 0, .ref 72, .int 27 0, .int 0 0, .ref 94, .int 29 0, .int 0 0, .ref 106, .int 31 0, .int 0 0, .ref 118, .int 201 0, .int 0 0, .ref 348, .int 407 0, .int 0 0, .ref 595, .int 428 0, .int 0 0, .ref 602, .int 433 0, .int 0 0, .ref 609, .int 438 0, .int 0 0, .ref 616, .int 441 0, .int 0 0, .ref 623, .int 461 0, .int 0 0, .ref 630]), #[]⟩
noncomputable def o606 (P : Params) : Obj := ⟨.type "tuple", none, (.seq #[] 0), #[]⟩
noncomputable def o607 (P : Params) : Obj := ⟨.none, none, (.fields #[]), #[]⟩
noncomputable def o608 (P : Params) : Obj := ⟨.type "tuple", none, (.seq #[.str (S "name") 948, .str (S "x") 949, .str (S "t") 950] 0), #[]⟩
noncomputable def o609 (P : Params) : Obj := ⟨.type "tuple", none, (.seq #[] 0), #[]⟩
noncomputable def o610 (P : Params) : Obj := ⟨.none, none, (.func (fn (S "_kind") (S "_kind") (st 12) 0 [] .none .none .none .none none .none .none 0)), #[]⟩
noncomputable def o611 (P : Params) : Obj := ⟨.type "code", none, (.fields #[.str (S "_kind") 945, .str (S "_kind") 946, .str (S "/claim/cut.py") 947, .int 407 0, .int 2 0, .int 0 0, .int 0 0, .int 3 0, .ref 590, .bool true, .int 273 0, .ref 591, .none, .ref 592, .ref 593, .ref 594, .int 951 0, .int 407 0, .str (S "/claim/cut.py") 952]), #[]⟩
noncomputable def o612 (P : Params) : Obj := ⟨.type "function", none, (.func (fn (S "_kind") (S "_kind") (st 12) 3 [] .none .none .none (.str (S "os.path") 943) none (.ref 595) .none 0)), #[]⟩
noncomputable def o613 (P : Params) : Obj := ⟨.type "tuple", none, (.seq #[] 0), #[]⟩
noncomputable def o614 (P : Params) : Obj := ⟨.none, none, (.fields #[]), #[]⟩
noncomputable def o615 (P : Params) : Obj := ⟨.type "tuple", none, (.seq #[.str (S "name") 957, .str (S "x") 958, .str (S "k") 959] 0), #[]⟩
noncomputable def o616 (P : Params) : Obj := ⟨.type "tuple", none, (.seq #[] 0), #[]⟩
noncomputable def o617 (P : Params) : Obj := ⟨.none, none, (.func (fn (S "_fspath") (S "_fspath") (st 13) 0 [] .none .none .none .none none .none .none 0)), #[]⟩
noncomputable def o618 (P : Params) : Obj := ⟨.type "code", none, (.fields #[.str (S "_fspath") 954, .str (S "_fspath") 955, .str (S "/claim/cut.py") 956, .int 428 0, .int 2 0, .int 0 0, .int 0 0, .int 3 0, .ref 597, .bool true, .int 273 0, .ref 598, .none, .ref 599, .ref 600, .ref 601, .int 960 0, .int 428 0, .str (S "/claim/cut.py") 961]), #[]⟩
noncomputable def o619 (P : Params) : Obj := ⟨.type "function", none, (.func (fn (S "_fspath") (S "_fspath") (st 13) 3 [] .none .none .none (.str (S "os.path") 943) none (.ref 602) .none 0)), #[]⟩
noncomputable def o620 (P : Params) : Obj := ⟨.type "tuple", none, (.seq #[] 0), #[]⟩
noncomputable def o621 (P : Params) : Obj := ⟨.none, none, (.fields #[]), #[]⟩
noncomputable def o622 (P : Params) : Obj := ⟨.type "tuple", none, (.seq #[.str (S "funcname") 966, .str (S "args") 967, .str (S "s") 968, .str (S "k") 969] 0), #[]⟩
noncomputable def o623 (P : Params) : Obj := ⟨.type "tuple", none, (.seq #[] 0), #[]⟩
noncomputable def o624 (P : Params) : Obj := ⟨.none, none, (.func (fn (S "_check_arg_types") (S "_check_arg_types") (st 14) 0 [] .none .none .none .none none .none .none 0)), #[]⟩
noncomputable def o625 (P : Params) : Obj := ⟨.type "code", none, (.fields #[.str (S "_check_arg_types") 963, .str (S "_check_arg_types") 964, .str (S "/claim/cut.py") 965, .int 433 0, .int 1 0, .int 0 0, .int 0 0, .int 7 0, .ref 604, .bool true, .int 273 0, .ref 605, .none, .ref 606, .ref 607, .ref 608, .int 970 0, .int 433 0, .str (S "/claim/cut.py") 971]), #[]⟩
noncomputable def o626 (P : Params) : Obj := ⟨.type "function", none, (.func (fn (S "_check_arg_types") (S "_check_arg_types") (st 14) 3 [] .none .none .none (.str (S "os.path") 943) none (.ref 609) .none 0)), #[]⟩
noncomputable def o627 (P : Params) : Obj := ⟨.type "tuple", none, (.seq #[] 0), #[]⟩
noncomputable def o628 (P : Params) : Obj := ⟨.none, none, (.fields #[]), #[]⟩
noncomputable def o629 (P : Params) : Obj := ⟨.type "tuple", none, (.seq #[.str (S "s") 976] 0), #[]⟩
noncomputable def o630 (P : Params) : Obj := ⟨.type "tuple", none, (.seq #[] 0), #[]⟩
noncomputable def o631 (P : Params) : Obj := ⟨.none, none, (.func (fn (S "isabs") (S "isabs") (st 15) 0 [] .none .none .none .none none .none .none 0)), #[]⟩
noncomputable def o632 (P : Params) : Obj := ⟨.type "code", none, (.fields #[.str (S "isabs") 973, .str (S "isabs") 974, .str (S "/claim/cut.py") 975, .int 438 0, .int 1 0, .int 0 0, .int 0 0, .int 3 0, .ref 611, .bool true, .int 273 0, .ref 612, .none, .ref 613, .ref 614, .ref 615, .int 977 0, .int 438 0, .str (S "/claim/cut.py") 978]), #[]⟩
noncomputable def o633 (P : Params) : Obj := ⟨.type "function", none, (.func (fn (S "isabs") (S "isabs") (st 15) 3 [] .none .none .none (.str (S "os.path") 943) none (.ref 616) .none 0)), #[]⟩
noncomputable def o634 (P : Params) : Obj := ⟨.type "tuple", none, (.seq #[] 0), #[]⟩
noncomputable def o635 (P : Params) : Obj := ⟨.none, none, (.fields #[]), #[]⟩
noncomputable def o636 (P : Params) : Obj := ⟨.type "tuple", none, (.seq #[.str (S "a") 983, .str (S "p") 984, .str (S "b") 985, .str (S "sep") 986, .str (S "path") 987] 0), #[]⟩
noncomputable def o637 (P : Params) : Obj := ⟨.type "tuple", none, (.seq #[] 0), #[]⟩
noncomputable def o638 (P : Params) : Obj := ⟨.none, none, (.func (fn (S "join") (S "join") (st 16) 0 [] .none .none .none .none none .none .none 0)), #[]⟩
noncomputable def o639 (P : Params) : Obj := ⟨.type "code", none, (.fields #[.str (S "join") 980, .str (S "join") 981, .str (S "/claim/cut.py") 982, .int 441 0, .int 1 0, .int 0 0, .int 0 0, .int 7 0, .ref 618, .bool true, .int 273 0, .ref 619, .none, .ref 620, .ref 621, .ref 622, .int 988 0, .int 441 0, .str (S "/claim/cut.py") 989]), #[]⟩
noncomputable def o640 (P : Params) : Obj := ⟨.type "function", none, (.func (fn (S "join") (S "join") (st 16) 3 [] .none .none .none (.str (S "os.path") 943) none (.ref 623) .none 0)), #[]⟩
noncomputable def o641 (P : Params) : Obj := ⟨.type "tuple", none, (.seq #[] 0), #[]⟩
noncomputable def o642 (P : Params) : Obj := ⟨.none, none, (.fields #[]), #[]⟩
noncomputable def o643 (P : Params) : Obj := ⟨.type "tuple", none, (.seq #[.str (S "p") 994, .str (S "sep") 995, .str (S "i") 996, .str (S "head") 997] 0), #[]⟩
noncomputable def o644 (P : Params) : Obj := ⟨.type "tuple", none, (.seq #[] 0), #[]⟩
noncomputable def o645 (P : Params) : Obj := ⟨.none, none, (.func (fn (S "dirname") (S "dirname") (st 17) 0 [] .none .none .none .none none .none .none 0)), #[]⟩
noncomputable def o646 (P : Params) : Obj := ⟨.type "code", none, (.fields #[.str (S "dirname") 991, .str (S "dirname") 992, .str (S "/claim/cut.py") 993, .int 461 0, .int 1 0, .int 0 0, .int 0 0, .int 3 0, .ref 625, .bool true, .int 273 0, .ref 626, .none, .ref 627, .ref 628, .ref 629, .int 998 0, .int 461 0, .str (S "/claim/cut.py") 999]), #[]⟩
noncomputable def o647 (P : Params) : Obj := ⟨.type "function", none, (.func (fn (S "dirname") (S "dirname") (st 17) 3 [] .none .none .none (.str (S "os.path") 943) none (.ref 630) .none 0)), #[]⟩
noncomputable def T6 (P : Params) : BT := (n (o0 P) (n (o1 P) (n (o604 P) (n (o7 P) (n (o15 P) (n (o31 P) (n (o66 P) (n (o138 P) (n (o266 P) (n (o525 P) l l) l) (n (o397 P) l l)) (n (o202 P) (n (o330 P) (n (o589 P) l l) l) (n (o461 P) l l))) (n (o103 P) (n (o170 P) (n (o298 P) (n (o557 P) l l) l) (n (o429 P) l l)) (n (o234 P) (n (o365 P) (n (o623 P) l l) l) (n (o493 P) l l)))) (n (o50 P) (n (o84 P) (n (o154 P) (n (o282 P) (n (o541 P) l l) l) (n (o413 P) l l)) (n (o218 P) (n (o346 P) (n (o607 P) l l) l) (n (o477 P) l l))) (n (o119 P) (n (o186 P) (n (o314 P) (n (o573 P) l l) l) (n (o445 P) l l)) (n (o250 P) (n (o381 P) (n (o639 P) l l) l) (n (o509 P) l l))))) (n (o23 P) (n (o42 P) (n (o76 P) (n (o146 P) (n (o274 P) (n (o533 P) l l) l) (n (o405 P) l l)) (n (o210 P) (n (o338 P) (n (o597 P) l l) l) (n (o469 P) l l))) (n (o111 P) (n (o178 P) (n (o306 P) (n (o565 P) l l) l) (n (o437 P) l l)) (n (o242 P) (n (o373 P) (n (o631 P) l l) l) (n (o501 P) l l)))) (n (o58 P) (n (o92 P) (n (o162 P) (n (o290 P) (n (o549 P) l l) l) (n (o421 P) l l)) (n (o226 P) (n (o357 P) (n (o615 P) l l) l) (n (o485 P) l l))) (n (o130 P) (n (o194 P) (n (o322 P) (n (o581 P) l l) l) (n (o453 P) l l)) (n (o258 P) (n (o389 P) (n (o647 P) l l) l) (n (o517 P) l l)))))) (n (o11 P) (n (o19 P) (n (o38 P) (n (o72 P) (n (o142 P) (n (o270 P) (n (o529 P) l l) l) (n (o401 P) l l)) (n (o206 P) (n (o334 P) (n (o593 P) l l) l) (n (o465 P) l l))) (n (o107 P) (n (o174 P) (n (o302 P) (n (o561 P) l l) l) (n (o433 P) l l)) (n (o238 P) (n (o369 P) (n (o627 P) l l) l) (n (o497 P) l l)))) (n (o54 P) (n (o96 P) (n (o158 P) (n (o286 P) (n (o545 P) l l) l) (n (o417 P) l l)) (n (o222 P) (n (o350 P) (n (o611 P) l l) l) (n (o481 P) l l))) (n (o126 P) (n (o190 P) (n (o318 P) (n (o577 P) l l) l) (n (o449 P) l l)) (n (o254 P) (n (o385 P) (n (o643 P) l l) l) (n (o513 P) l l))))) (n (o27 P) (n (o46 P) (n (o80 P) (n (o150 P) (n (o278 P) (n (o537 P) l l) l) (n (o409 P) l l)) (n (o214 P) (n (o342 P) (n (o601 P) l l) l) (n (o473 P) l l))) (n (o115 P) (n (o182 P) (n (o310 P) (n (o569 P) l l) l) (n (o441 P) l l)) (n (o246 P) (n (o377 P) (n (o635 P) l l) l) (n (o505 P) l l)))) (n (o62 P) (n (o99 P) (n (o166 P) (n (o294 P) (n (o553 P) l l) l) (n (o425 P) l l)) (n (o230 P) (n (o361 P) (n (o619 P) l l) l) (n (o489 P) l l))) (n (o134 P) (n (o198 P) (n (o326 P) (n (o585 P) l l) l) (n (o457 P) l l)) (n (o262 P) (n (o393 P) l l) (n (o521 P) l l))))))) (n (o5 P) (n (o9 P) (n (o17 P) (n (o36 P) (n (o68 P) (n (o140 P) (n (o268 P) (n (o527 P) l l) l) (n (o399 P) l l)) (n (o204 P) (n (o332 P) (n (o591 P) l l) l) (n (o463 P) l l))) (n (o105 P) (n (o172 P) (n (o300 P) (n (o559 P) l l) l) (n (o431 P) l l)) (n (o236 P) (n (o367 P) (n (o625 P) l l) l) (n (o495 P) l l)))) (n (o52 P) (n (o86 P) (n (o156 P) (n (o284 P) (n (o543 P) l l) l) (n (o415 P) l l)) (n (o220 P) (n (o348 P) (n (o609 P) l l) l) (n (o479 P) l l))) (n (o124 P) (n (o188 P) (n (o316 P) (n (o575 P) l l) l) (n (o447 P) l l)) (n (o252 P) (n (o383 P) (n (o641 P) l l) l) (n (o511 P) l l))))) (n (o25 P) (n (o44 P) (n (o78 P) (n (o148 P) (n (o276 P) (n (o535 P) l l) l) (n (o407 P) l l)) (n (o212 P) (n (o340 P) (n (o599 P) l l) l) (n (o471 P) l l))) (n (o113 P) (n (o180 P) (n (o308 P) (n (o567 P) l l) l) (n (o439 P) l l)) (n (o244 P) (n (o375 P) (n (o633 P) l l) l) (n (o503 P) l l)))) (n (o60 P) (n (o97 P) (n (o164 P) (n (o292 P) (n (o551 P) l l) l) (n (o423 P) l l)) (n (o228 P) (n (o359 P) (n (o617 P) l l) l) (n (o487 P) l l))) (n (o132 P) (n (o196 P) (n (o324 P) (n (o583 P) l l) l) (n (o455 P) l l)) (n (o260 P) (n (o391 P) l l) (n (o519 P) l l)))))) (n (o13 P) (n (o21 P) (n (o40 P) (n (o74 P) (n (o144 P) (n (o272 P) (n (o531 P) l l) l) (n (o403 P) l l)) (n (o208 P) (n (o336 P) (n (o595 P) l l) l) (n (o467 P) l l))) (n (o109 P) (n (o176 P) (n (o304 P) (n (o563 P) l l) l) (n (o435 P) l l)) (n (o240 P) (n (o371 P) (n (o629 P) l l) l) (n (o499 P) l l)))) (n (o56 P) (n (o90 P) (n (o160 P) (n (o288 P) (n (o547 P) l l) l) (n (o419 P) l l)) (n (o224 P) (n (o352 P) (n (o613 P) l l) l) (n (o483 P) l l))) (n (o128 P) (n (o192 P) (n (o320 P) (n (o579 P) l l) l) (n (o451 P) l l)) (n (o256 P) (n (o387 P) (n (o645 P) l l) l) (n (o515 P) l l))))) (n (o29 P) (n (o48 P) (n (o82 P) (n (o152 P) (n (o280 P) (n (o539 P) l l) l) (n (o411 P) l l)) (n (o216 P) (n (o344 P) (n (o603 P) l l) l) (n (o475 P) l l))) (n (o117 P) (n (o184 P) (n (o312 P) (n (o571 P) l l) l) (n (o443 P) l l)) (n (o248 P) (n (o379 P) (n (o637 P) l l) l) (n (o507 P) l l)))) (n (o64 P) (n (o101 P) (n (o168 P) (n (o296 P) (n (o555 P) l l) l) (n (o427 P) l l)) (n (o232 P) (n (o363 P) (n (o621 P) l l) l) (n (o491 P) l l))) (n (o136 P) (n (o200 P) (n (o328 P) (n (o587 P) l l) l) (n (o459 P) l l)) (n (o264 P) (n (o395 P) l l) (n (o523 P) l l)))))))) (n (o33 P) (n (o4 P) (n (o8 P) (n (o16 P) (n (o32 P) (n (o67 P) (n (o139 P) (n (o267 P) (n (o526 P) l l) l) (n (o398 P) l l)) (n (o203 P) (n (o331 P) (n (o590 P) l l) l) (n (o462 P) l l))) (n (o104 P) (n (o171 P) (n (o299 P) (n (o558 P) l l) l) (n (o430 P) l l)) (n (o235 P) (n (o366 P) (n (o624 P) l l) l) (n (o494 P) l l)))) (n (o51 P) (n (o85 P) (n (o155 P) (n (o283 P) (n (o542 P) l l) l) (n (o414 P) l l)) (n (o219 P) (n (o347 P) (n (o608 P) l l) l) (n (o478 P) l l))) (n (o120 P) (n (o187 P) (n (o315 P) (n (o574 P) l l) l) (n (o446 P) l l)) (n (o251 P) (n (o382 P) (n (o640 P) l l) l) (n (o510 P) l l))))) (n (o24 P) (n (o43 P) (n (o77 P) (n (o147 P) (n (o275 P) (n (o534 P) l l) l) (n (o406 P) l l)) (n (o211 P) (n (o339 P) (n (o598 P) l l) l) (n (o470 P) l l))) (n (o112 P) (n (o179 P) (n (o307 P) (n (o566 P) l l) l) (n (o438 P) l l)) (n (o243 P) (n (o374 P) (n (o632 P) l l) l) (n (o502 P) l l)))) (n (o59 P) (n (o93 P) (n (o163 P) (n (o291 P) (n (o550 P) l l) l) (n (o422 P) l l)) (n (o227 P) (n (o358 P) (n (o616 P) l l) l) (n (o486 P) l l))) (n (o131 P) (n (o195 P) (n (o323 P) (n (o582 P) l l) l) (n (o454 P) l l)) (n (o259 P) (n (o390 P) l l) (n (o518 P) l l)))))) (n (o12 P) (n (o20 P) (n (o39 P) (n (o73 P) (n (o143 P) (n (o271 P) (n (o530 P) l l) l) (n (o402 P) l l)) (n (o207 P) (n (o335 P) (n (o594 P) l l) l) (n (o466 P) l l))) (n (o108 P) (n (o175 P) (n (o303 P) (n (o562 P) l l) l) (n (o434 P) l l)) (n (o239 P) (n (o370 P) (n (o628 P) l l) l) (n (o498 P) l l)))) (n (o55 P) (n (o89 P) (n (o159 P) (n (o287 P) (n (o546 P) l l) l) (n (o418 P) l l)) (n (o223 P) (n (o351 P) (n (o612 P) l l) l) (n (o482 P) l l))) (n (o127 P) (n (o191 P) (n (o319 P) (n (o578 P) l l) l) (n (o450 P) l l)) (n (o255 P) (n (o386 P) (n (o644 P) l l) l) (n (o514 P) l l))))) (n (o28 P) (n (o47 P) (n (o81 P) (n (o151 P) (n (o279 P) (n (o538 P) l l) l) (n (o410 P) l l)) (n (o215 P) (n (o343 P) (n (o602 P) l l) l) (n (o474 P) l l))) (n (o116 P) (n (o183 P) (n (o311 P) (n (o570 P) l l) l) (n (o442 P) l l)) (n (o247 P) (n (o378 P) (n (o636 P) l l) l) (n (o506 P) l l)))) (n (o63 P) (n (o100 P) (n (o167 P) (n (o295 P) (n (o554 P) l l) l) (n (o426 P) l l)) (n (o231 P) (n (o362 P) (n (o620 P) l l) l) (n (o490 P) l l))) (n (o135 P) (n (o199 P) (n (o327 P) (n (o586 P) l l) l) (n (o458 P) l l)) (n (o263 P) (n (o394 P) l l) (n (o522 P) l l))))))) (n (o6 P) (n (o10 P) (n (o18 P) (n (o37 P) (n (o69 P) (n (o141 P) (n (o269 P) (n (o528 P) l l) l) (n (o400 P) l l)) (n (o205 P) (n (o333 P) (n (o592 P) l l) l) (n (o464 P) l l))) (n (o123 P) (n (o173 P) (n (o301 P) (n (o560 P) l l) l) (n (o432 P) l l)) (n (o237 P) (n (o368 P) (n (o626 P) l l) l) (n (o496 P) l l)))) (n (o53 P) (n (o87 P) (n (o157 P) (n (o285 P) (n (o544 P) l l) l) (n (o416 P) l l)) (n (o221 P) (n (o349 P) (n (o610 P) l l) l) (n (o480 P) l l))) (n (o125 P) (n (o189 P) (n (o317 P) (n (o576 P) l l) l) (n (o448 P) l l)) (n (o253 P) (n (o384 P) (n (o642 P) l l) l) (n (o512 P) l l))))) (n (o26 P) (n (o45 P) (n (o79 P) (n (o149 P) (n (o277 P) (n (o536 P) l l) l) (n (o408 P) l l)) (n (o213 P) (n (o341 P) (n (o600 P) l l) l) (n (o472 P) l l))) (n (o114 P) (n (o181 P) (n (o309 P) (n (o568 P) l l) l) (n (o440 P) l l)) (n (o245 P) (n (o376 P) (n (o634 P) l l) l) (n (o504 P) l l)))) (n (o61 P) (n (o98 P) (n (o165 P) (n (o293 P) (n (o552 P) l l) l) (n (o424 P) l l)) (n (o229 P) (n (o360 P) (n (o618 P) l l) l) (n (o488 P) l l))) (n (o133 P) (n (o197 P) (n (o325 P) (n (o584 P) l l) l) (n (o456 P) l l)) (n (o261 P) (n (o392 P) l l) (n (o520 P) l l)))))) (n (o14 P) (n (o22 P) (n (o41 P) (n (o75 P) (n (o145 P) (n (o273 P) (n (o532 P) l l) l) (n (o404 P) l l)) (n (o209 P) (n (o337 P) (n (o596 P) l l) l) (n (o468 P) l l))) (n (o110 P) (n (o177 P) (n (o305 P) (n (o564 P) l l) l) (n (o436 P) l l)) (n (o241 P) (n (o372 P) (n (o630 P) l l) l) (n (o500 P) l l)))) (n (o57 P) (n (o91 P) (n (o161 P) (n (o289 P) (n (o548 P) l l) l) (n (o420 P) l l)) (n (o225 P) (n (o353 P) (n (o614 P) l l) l) (n (o484 P) l l))) (n (o129 P) (n (o193 P) (n (o321 P) (n (o580 P) l l) l) (n (o452 P) l l)) (n (o257 P) (n (o388 P) (n (o646 P) l l) l) (n (o516 P) l l))))) (n (o605 P) (n (o49 P) (n (o83 P) (n (o153 P) (n (o281 P) (n (o540 P) l l) l) (n (o412 P) l l)) (n (o217 P) (n (o345 P) (n (o606 P) l l) l) (n (o476 P) l l))) (n (o356 P) (n (o185 P) (n (o313 P) (n (o572 P) l l) l) (n (o444 P) l l)) (n (o249 P) (n (o380 P) (n (o638 P) l l) l) (n (o508 P) l l)))) (n (o65 P) (n (o102 P) (n (o169 P) (n (o297 P) (n (o556 P) l l) l) (n (o428 P) l l)) (n (o233 P) (n (o364 P) (n (o622 P) l l) l) (n (o492 P) l l))) (n (o137 P) (n (o201 P) (n (o329 P) (n (o588 P) l l) l) (n (o460 P) l l)) (n (o265 P) (n (o396 P) l l) (n (o524 P) l l)))))))))
noncomputable def S6 (w : World) (os : OsState) : SharedT := ⟨T6 w.params, 632, {}, #[], {}, 1003, os⟩
noncomputable def ss6 : List Stmt := [st 11, st 12, st 13, st 14, st 15, st 16, st 17, st 18]
theorem pc6 (w : World) (os : OsState) : segRunT treeTable PySem.Challenge.pw_ny0304_03 w 29 (some (.ref 6)) 1 207 (S5 w os) (piecesOf ss6 en (.body (behindTheImports PySem.Challenge.pw_ny0304_03) en) ⟨201, 0, 405, 17⟩ [topFrame fq]) = some (.next, S6 w os, (.body (behindTheImports PySem.Challenge.pw_ny0304_03) en), ⟨469, 0, 469, 8⟩) := by kernel_rfl
noncomputable def o648 (P : Params) : Obj := ⟨.type "dict", none, (.dict #[E P (S "__name__") 165 (.str (S "cpy313.shlex") 1001), E P (S "__doc__") 166 .none, E P (S "__package__") 167 .none, E P (S "__loader__") 168 (.builtin "__main__.__loader__#opaque"), E P (S "__spec__") 169 .none, E P (S "__annotations__") 170 (.ref 6), E P (S "__builtins__") 171 (.ref 4), E P (S "__file__") 173 (.str (S "/claim/cut.py") 172), E P (S "__cached__") 174 .none, E P (S "deque") 272 (.type "collections.deque"), E P (S "_wall") 285 (.ref 39), E P (S "_whence") 295 (.ref 46), E P (S "_index") 303 (.ref 53), E P (S "UnsupportedOperation") 325 (.ref 63), E P (S "IOBase") 357 (.ref 83), E P (S "BufferedIOBase") 375 (.ref 98), E P (S "TextIOBase") 393 (.ref 110), E P (S "BytesIO") 655 (.ref 340), E P (S "StringIO") 942 (.ref 587), E P (S "_kind") 953 (.ref 596), E P (S "_fspath") 962 (.ref 603), E P (S "_check_arg_types") 972 (.ref 610), E P (S "isabs") 979 (.ref 617), E P (S "join") 990 (.ref 624), E P (S "dirname") 1000 (.ref 631), E P (S "shlex") 1141 (.ref 722)] 26), #[]⟩
noncomputable def o649 (P : Params) : Obj := ⟨.none, none, (.fields #[.int 2 0, .int 0 0, .ref 38, .int 6 0, .int 0 0, .ref 45, .int 11 0, .int 0 0, .ref 52, .int 18 0, .int 0 0, .ref 59, .int 20 0, .int 0 0, .ref 72, .int 27 0, .int 0 0, .ref 94, .int 29 0, .int 0 0, .ref 106, .int 31 0, .int 0 0, .ref 118, .int 201 0, .int 0 0, .ref 348, .int 407 0, .int 0 0, .ref 595, .int 428 0, .int 0 0, .ref 602, .int 433 0, .int 0 0, .ref 609, .int 438 0, .int 0 0, .ref 616, .int 441 0, .int 0 0, .ref 623, .int 461 0, .int 0 0, .ref 630, .int 470 0, .int 0 0, .ref 637]), #[]⟩
noncomputable def o650 (P : Params) : Obj := ⟨.type "tuple", none, (.seq #[] 0), #[]⟩
noncomputable def o651 (P : Params) : Obj := ⟨.type "builtin_function_or_method", none, (.fields #[.builtin "type.__prepare__", .type "type"]), #[]⟩
noncomputable def o652 (P : Params) : Obj := ⟨.type "dict", none, (.dict #[E P (S "__module__") 1010 (.str (S "cpy313.shlex") 1001), E P (S "__qualname__") 1012 (.str (S "shlex") 1011), E P (S "__firstlineno__") 1014 (.int 470 1013), E P (S "__init__") 1026 (.ref 646), E P (S "punctuation_chars") 1034 (.ref 654), E P (S "push_token") 1042 (.ref 661), E P (S "push_source") 1051 (.ref 669), E P (S "pop_source") 1058 (.ref 676), E P (S "get_token") 1070 (.ref 683), E P (S "read_token") 1081 (.ref 690), E P (S "sourcehook") 1089 (.ref 697), E P (S "error_leader") 1098 (.ref 705), E P (S "__iter__") 1105 (.ref 712), E P (S "__next__") 1113 (.ref 719), E P (S "__static_attributes__") 1134 (.ref 720)] 15), #[]⟩
noncomputable def o653 (P : Params) : Obj := ⟨.type "tuple", none, (.seq #[] 0), #[]⟩
noncomputable def o654 (P : Params) : Obj := ⟨.none, none, (.fields #[.int 472 0, .int 4 0, .ref 645, .int 514 0, .int 4 0, .ref 652, .int 517 0, .int 4 0, .ref 660, .int 520 0, .int 4 0, .ref 668, .int 533 0, .int 4 0, .ref 675, .int 540 0, .int 4 0, .ref 682, .int 567 0, .int 4 0, .ref 689, .int 704 0, .int 4 0, .ref 696, .int 711 0, .int 4 0, .ref 704, .int 714 0, .int 4 0, .ref 711, .int 717 0, .int 4 0, .ref 718]), #[]⟩
noncomputable def o655 (P : Params) : Obj := ⟨.type "code", none, (.fields #[.str (S "shlex") 1005, .str (S "shlex") 1006, .str (S "/claim/cut.py") 1007, .int 470 0, .int 0 0, .int 0 0, .int 0 0, .int 0 0, .ref 635, .bool false, .int 273 0, .ref 636, .none, .none, .none, .none, .int 1008 0, .int 470 0, .str (S "/claim/cut.py") 1009]), #[]⟩
noncomputable def o656 (P : Params) : Obj := ⟨.type "frame", none, .plain, #[(some (.ref 637)), (some (.ref 3)), (some (.ref 634)), none, (some (.str (S "cpy313.shlex") 1001)), none, (some (.ref 0))]⟩
noncomputable def o657 (P : Params) : Obj := ⟨.type "tuple", none, (.seq #[.none, .none, .bool false, .bool false] 0), #[]⟩
noncomputable def o658 (P : Params) : Obj := ⟨.type "tuple", none, (.seq #[] 0), #[]⟩
noncomputable def o659 (P : Params) : Obj := ⟨.none, none, (.fields #[]), #[]⟩
noncomputable def o660 (P : Params) : Obj := ⟨.type "tuple", none, (.seq #[.str (S "self") 1018, .str (S "instream") 1019, .str (S "infile") 1020, .str (S "posix") 1021, .str (S "punctuation_chars") 1022, .str (S "t") 1023] 0), #[]⟩
noncomputable def o661 (P : Params) : Obj := ⟨.type "tuple", none, (.seq #[] 0), #[]⟩
noncomputable def o662 (P : Params) : Obj := ⟨.none, none, (.func (fn (S "__init__") (S "shlex.__init__") (kid (st 19) 0) 0 [] .none .none .none .none none .none .none 0)), #[]⟩
noncomputable def o663 (P : Params) : Obj := ⟨.type "code", none, (.fields #[.str (S "__init__") 1015, .str (S "shlex.__init__") 1016, .str (S "/claim/cut.py") 1017, .int 472 0, .int 5 0, .int 0 0, .int 0 0, .int 3 0, .ref 640, .bool true, .int 273 0, .ref 641, .none, .ref 642, .ref 643, .ref 644, .int 1024 0, .int 472 0, .str (S "/claim/cut.py") 1025]), #[]⟩
noncomputable def o664 (P : Params) : Obj := ⟨.type "function", none, (.func (fn (S "__init__") (S "shlex.__init__") (kid (st 19) 0) 3 [] (.ref 639) .none .none (.str (S "cpy313.shlex") 1001) none (.ref 645) .none 0)), #[]⟩
noncomputable def o665 (P : Params) : Obj := ⟨.type "tuple", none, (.seq #[] 0), #[]⟩
noncomputable def o666 (P : Params) : Obj := ⟨.none, none, (.fields #[]), #[]⟩
noncomputable def o667 (P : Params) : Obj := ⟨.type "tuple", none, (.seq #[.str (S "self") 1030] 0), #[]⟩
noncomputable def o668 (P : Params) : Obj := ⟨.type "tuple", none, (.seq #[] 0), #[]⟩
noncomputable def o669 (P : Params) : Obj := ⟨.none, none, (.func (fn (S "punctuation_chars") (S "shlex.punctuation_chars") (kid (st 19) 1) 0 [] .none .none .none .none none .none .none 0)), #[]⟩
noncomputable def o670 (P : Params) : Obj := ⟨.type "code", none, (.fields #[.str (S "punctuation_chars") 1027, .str (S "shlex.punctuation_chars") 1028, .str (S "/claim/cut.py") 1029, .int 513 0, .int 1 0, .int 0 0, .int 0 0, .int 3 0, .ref 647, .bool true, .int 273 0, .ref 648, .none, .ref 649, .ref 650, .ref 651, .int 1031 0, .int 513 0, .str (S "/claim/cut.py") 1032]), #[]⟩
noncomputable def o671 (P : Params) : Obj := ⟨.type "function", none, (.func (fn (S "punctuation_chars") (S "shlex.punctuation_chars") (kid (st 19) 1) 3 [] .none .none .none (.str (S "cpy313.shlex") 1001) none (.ref 652) .none 0)), #[]⟩
noncomputable def o672 (P : Params) : Obj := ⟨.type "property", none, (.fields #[.ref 653, .none, .none, .none, .str (S "punctuation_chars") 1034, .bool false]), #[]⟩
noncomputable def o673 (P : Params) : Obj := ⟨.type "tuple", none, (.seq #[] 0), #[]⟩
noncomputable def o674 (P : Params) : Obj := ⟨.none, none, (.fields #[]), #[]⟩
noncomputable def o675 (P : Params) : Obj := ⟨.type "tuple", none, (.seq #[.str (S "self") 1038, .str (S "tok") 1039] 0), #[]⟩
noncomputable def o676 (P : Params) : Obj := ⟨.type "tuple", none, (.seq #[] 0), #[]⟩
noncomputable def o677 (P : Params) : Obj := ⟨.none, none, (.func (fn (S "push_token") (S "shlex.push_token") (kid (st 19) 2) 0 [] .none .none .none .none none .none .none 0)), #[]⟩
noncomputable def o678 (P : Params) : Obj := ⟨.type "code", none, (.fields #[.str (S "push_token") 1035, .str (S "shlex.push_token") 1036, .str (S "/claim/cut.py") 1037, .int 517 0, .int 2 0, .int 0 0, .int 0 0, .int 3 0, .ref 655, .bool true, .int 273 0, .ref 656, .none, .ref 657, .ref 658, .ref 659, .int 1040 0, .int 517 0, .str (S "/claim/cut.py") 1041]), #[]⟩
noncomputable def o679 (P : Params) : Obj := ⟨.type "function", none, (.func (fn (S "push_token") (S "shlex.push_token") (kid (st 19) 2) 3 [] .none .none .none (.str (S "cpy313.shlex") 1001) none (.ref 660) .none 0)), #[]⟩
noncomputable def o680 (P : Params) : Obj := ⟨.type "tuple", none, (.seq #[.none] 0), #[]⟩
noncomputable def o681 (P : Params) : Obj := ⟨.type "tuple", none, (.seq #[] 0), #[]⟩
noncomputable def o682 (P : Params) : Obj := ⟨.none, none, (.fields #[]), #[]⟩
noncomputable def o683 (P : Params) : Obj := ⟨.type "tuple", none, (.seq #[.str (S "self") 1046, .str (S "newstream") 1047, .str (S "newfile") 1048] 0), #[]⟩
noncomputable def o684 (P : Params) : Obj := ⟨.type "tuple", none, (.seq #[] 0), #[]⟩
noncomputable def o685 (P : Params) : Obj := ⟨.none, none, (.func (fn (S "push_source") (S "shlex.push_source") (kid (st 19) 3) 0 [] .none .none .none .none none .none .none 0)), #[]⟩
noncomputable def o686 (P : Params) : Obj := ⟨.type "code", none, (.fields #[.str (S "push_source") 1043, .str (S "shlex.push_source") 1044, .str (S "/claim/cut.py") 1045, .int 520 0, .int 3 0, .int 0 0, .int 0 0, .int 3 0, .ref 663, .bool true, .int 273 0, .ref 664, .none, .ref 665, .ref 666, .ref 667, .int 1049 0, .int 520 0, .str (S "/claim/cut.py") 1050]), #[]⟩
noncomputable def o687 (P : Params) : Obj := ⟨.type "function", none, (.func (fn (S "push_source") (S "shlex.push_source") (kid (st 19) 3) 3 [] (.ref 662) .none .none (.str (S "cpy313.shlex") 1001) none (.ref 668) .none 0)), #[]⟩
noncomputable def o688 (P : Params) : Obj := ⟨.type "tuple", none, (.seq #[] 0), #[]⟩
noncomputable def o689 (P : Params) : Obj := ⟨.none, none, (.fields #[]), #[]⟩
noncomputable def o690 (P : Params) : Obj := ⟨.type "tuple", none, (.seq #[.str (S "self") 1055] 0), #[]⟩
noncomputable def o691 (P : Params) : Obj := ⟨.type "tuple", none, (.seq #[] 0), #[]⟩
noncomputable def o692 (P : Params) : Obj := ⟨.none, none, (.func (fn (S "pop_source") (S "shlex.pop_source") (kid (st 19) 4) 0 [] .none .none .none .none none .none .none 0)), #[]⟩
noncomputable def o693 (P : Params) : Obj := ⟨.type "code", none, (.fields #[.str (S "pop_source") 1052, .str (S "shlex.pop_source") 1053, .str (S "/claim/cut.py") 1054, .int 533 0, .int 1 0, .int 0 0, .int 0 0, .int 3 0, .ref 670, .bool true, .int 273 0, .ref 671, .none, .ref 672, .ref 673, .ref 674, .int 1056 0, .int 533 0, .str (S "/claim/cut.py") 1057]), #[]⟩
noncomputable def o694 (P : Params) : Obj := ⟨.type "function", none, (.func (fn (S "pop_source") (S "shlex.pop_source") (kid (st 19) 4) 3 [] .none .none .none (.str (S "cpy313.shlex") 1001) none (.ref 675) .none 0)), #[]⟩
noncomputable def o695 (P : Params) : Obj := ⟨.type "tuple", none, (.seq #[] 0), #[]⟩
noncomputable def o696 (P : Params) : Obj := ⟨.none, none, (.fields #[]), #[]⟩
noncomputable def o697 (P : Params) : Obj := ⟨.type "tuple", none, (.seq #[.str (S "self") 1062, .str (S "tok") 1063, .str (S "raw") 1064, .str (S "spec") 1065, .str (S "newfile") 1066, .str (S "newstream") 1067] 0), #[]⟩
noncomputable def o698 (P : Params) : Obj := ⟨.type "tuple", none, (.seq #[] 0), #[]⟩
noncomputable def o699 (P : Params) : Obj := ⟨.none, none, (.func (fn (S "get_token") (S "shlex.get_token") (kid (st 19) 5) 0 [] .none .none .none .none none .none .none 0)), #[]⟩
noncomputable def o700 (P : Params) : Obj := ⟨.type "code", none, (.fields #[.str (S "get_token") 1059, .str (S "shlex.get_token") 1060, .str (S "/claim/cut.py") 1061, .int 540 0, .int 1 0, .int 0 0, .int 0 0, .int 3 0, .ref 677, .bool true, .int 273 0, .ref 678, .none, .ref 679, .ref 680, .ref 681, .int 1068 0, .int 540 0, .str (S "/claim/cut.py") 1069]), #[]⟩
noncomputable def o701 (P : Params) : Obj := ⟨.type "function", none, (.func (fn (S "get_token") (S "shlex.get_token") (kid (st 19) 5) 3 [] .none .none .none (.str (S "cpy313.shlex") 1001) none (.ref 682) .none 0)), #[]⟩
noncomputable def o702 (P : Params) : Obj := ⟨.type "tuple", none, (.seq #[] 0), #[]⟩
noncomputable def o703 (P : Params) : Obj := ⟨.none, none, (.fields #[]), #[]⟩
noncomputable def o704 (P : Params) : Obj := ⟨.type "tuple", none, (.seq #[.str (S "self") 1074, .str (S "quoted") 1075, .str (S "escapedstate") 1076, .str (S "nextchar") 1077, .str (S "result") 1078] 0), #[]⟩
noncomputable def o705 (P : Params) : Obj := ⟨.type "tuple", none, (.seq #[] 0), #[]⟩
noncomputable def o706 (P : Params) : Obj := ⟨.none, none, (.func (fn (S "read_token") (S "shlex.read_token") (kid (st 19) 6) 0 [] .none .none .none .none none .none .none 0)), #[]⟩
noncomputable def o707 (P : Params) : Obj := ⟨.type "code", none, (.fields #[.str (S "read_token") 1071, .str (S "shlex.read_token") 1072, .str (S "/claim/cut.py") 1073, .int 567 0, .int 1 0, .int 0 0, .int 0 0, .int 3 0, .ref 684, .bool true, .int 273 0, .ref 685, .none, .ref 686, .ref 687, .ref 688, .int 1079 0, .int 567 0, .str (S "/claim/cut.py") 1080]), #[]⟩
noncomputable def o708 (P : Params) : Obj := ⟨.type "function", none, (.func (fn (S "read_token") (S "shlex.read_token") (kid (st 19) 6) 3 [] .none .none .none (.str (S "cpy313.shlex") 1001) none (.ref 689) .none 0)), #[]⟩
noncomputable def o709 (P : Params) : Obj := ⟨.type "tuple", none, (.seq #[] 0), #[]⟩
noncomputable def o710 (P : Params) : Obj := ⟨.none, none, (.fields #[]), #[]⟩
noncomputable def o711 (P : Params) : Obj := ⟨.type "tuple", none, (.seq #[.str (S "self") 1085, .str (S "newfile") 1086] 0), #[]⟩
noncomputable def o712 (P : Params) : Obj := ⟨.type "tuple", none, (.seq #[] 0), #[]⟩
noncomputable def o713 (P : Params) : Obj := ⟨.none, none, (.func (fn (S "sourcehook") (S "shlex.sourcehook") (kid (st 19) 7) 0 [] .none .none .none .none none .none .none 0)), #[]⟩
noncomputable def o714 (P : Params) : Obj := ⟨.type "code", none, (.fields #[.str (S "sourcehook") 1082, .str (S "shlex.sourcehook") 1083, .str (S "/claim/cut.py") 1084, .int 704 0, .int 2 0, .int 0 0, .int 0 0, .int 3 0, .ref 691, .bool true, .int 273 0, .ref 692, .none, .ref 693, .ref 694, .ref 695, .int 1087 0, .int 704 0, .str (S "/claim/cut.py") 1088]), #[]⟩
noncomputable def o715 (P : Params) : Obj := ⟨.type "function", none, (.func (fn (S "sourcehook") (S "shlex.sourcehook") (kid (st 19) 7) 3 [] .none .none .none (.str (S "cpy313.shlex") 1001) none (.ref 696) .none 0)), #[]⟩
noncomputable def o716 (P : Params) : Obj := ⟨.type "tuple", none, (.seq #[.none, .none] 0), #[]⟩
noncomputable def o717 (P : Params) : Obj := ⟨.type "tuple", none, (.seq #[] 0), #[]⟩
noncomputable def o718 (P : Params) : Obj := ⟨.none, none, (.fields #[]), #[]⟩
noncomputable def o719 (P : Params) : Obj := ⟨.type "tuple", none, (.seq #[.str (S "self") 1093, .str (S "infile") 1094, .str (S "lineno") 1095] 0), #[]⟩
noncomputable def o720 (P : Params) : Obj := ⟨.type "tuple", none, (.seq #[] 0), #[]⟩
noncomputable def o721 (P : Params) : Obj := ⟨.none, none, (.func (fn (S "error_leader") (S "shlex.error_leader") (kid (st 19) 8) 0 [] .none .none .none .none none .none .none 0)), #[]⟩
noncomputable def o722 (P : Params) : Obj := ⟨.type "code", none, (.fields #[.str (S "error_leader") 1090, .str (S "shlex.error_leader") 1091, .str (S "/claim/cut.py") 1092, .int 711 0, .int 3 0, .int 0 0, .int 0 0, .int 3 0, .ref 699, .bool true, .int 273 0, .ref 700, .none, .ref 701, .ref 702, .ref 703, .int 1096 0, .int 711 0, .str (S "/claim/cut.py") 1097]), #[]⟩
noncomputable def o723 (P : Params) : Obj := ⟨.type "function", none, (.func (fn (S "error_leader") (S "shlex.error_leader") (kid (st 19) 8) 3 [] (.ref 698) .none .none (.str (S "cpy313.shlex") 1001) none (.ref 704) .none 0)), #[]⟩
noncomputable def o724 (P : Params) : Obj := ⟨.type "tuple", none, (.seq #[] 0), #[]⟩
noncomputable def o725 (P : Params) : Obj := ⟨.none, none, (.fields #[]), #[]⟩
noncomputable def o726 (P : Params) : Obj := ⟨.type "tuple", none, (.seq #[.str (S "self") 1102] 0), #[]⟩
noncomputable def o727 (P : Params) : Obj := ⟨.type "tuple", none, (.seq #[] 0), #[]⟩
noncomputable def o728 (P : Params) : Obj := ⟨.none, none, (.func (fn (S "__iter__") (S "shlex.__iter__") (kid (st 19) 9) 0 [] .none .none .none .none none .none .none 0)), #[]⟩
noncomputable def o729 (P : Params) : Obj := ⟨.type "code", none, (.fields #[.str (S "__iter__") 1099, .str (S "shlex.__iter__") 1100, .str (S "/claim/cut.py") 1101, .int 714 0, .int 1 0, .int 0 0, .int 0 0, .int 3 0, .ref 706, .bool true, .int 273 0, .ref 707, .none, .ref 708, .ref 709, .ref 710, .int 1103 0, .int 714 0, .str (S "/claim/cut.py") 1104]), #[]⟩
noncomputable def o730 (P : Params) : Obj := ⟨.type "function", none, (.func (fn (S "__iter__") (S "shlex.__iter__") (kid (st 19) 9) 3 [] .none .none .none (.str (S "cpy313.shlex") 1001) none (.ref 711) .none 0)), #[]⟩
noncomputable def o731 (P : Params) : Obj := ⟨.type "tuple", none, (.seq #[] 0), #[]⟩
noncomputable def o732 (P : Params) : Obj := ⟨.none, none, (.fields #[]), #[]⟩
noncomputable def o733 (P : Params) : Obj := ⟨.type "tuple", none, (.seq #[.str (S "self") 1109, .str (S "token") 1110] 0), #[]⟩
noncomputable def o734 (P : Params) : Obj := ⟨.type "tuple", none, (.seq #[] 0), #[]⟩
noncomputable def o735 (P : Params) : Obj := ⟨.none, none, (.func (fn (S "__next__") (S "shlex.__next__") (kid (st 19) 10) 0 [] .none .none .none .none none .none .none 0)), #[]⟩
noncomputable def o736 (P : Params) : Obj := ⟨.type "code", none, (.fields #[.str (S "__next__") 1106, .str (S "shlex.__next__") 1107, .str (S "/claim/cut.py") 1108, .int 717 0, .int 1 0, .int 0 0, .int 0 0, .int 3 0, .ref 713, .bool true, .int 273 0, .ref 714, .none, .ref 715, .ref 716, .ref 717, .int 1111 0, .int 717 0, .str (S "/claim/cut.py") 1112]), #[]⟩
noncomputable def o737 (P : Params) : Obj := ⟨.type "function", none, (.func (fn (S "__next__") (S "shlex.__next__") (kid (st 19) 10) 3 [] .none .none .none (.str (S "cpy313.shlex") 1001) none (.ref 718) .none 0)), #[]⟩
noncomputable def o738 (P : Params) : Obj := ⟨.type "tuple", none, (.seq #[.str (S "_punctuation_chars") 1114, .str (S "_pushback_chars") 1115, .str (S "commenters") 1116, .str (S "debug") 1117, .str (S "eof") 1118, .str (S "escape") 1119, .str (S "escapedquotes") 1120, .str (S "filestack") 1121, .str (S "infile") 1122, .str (S "instream") 1123, .str (S "lineno") 1124, .str (S "posix") 1125, .str (S "pushback") 1126, .str (S "quotes") 1127, .str (S "source") 1128, .str (S "state") 1129, .str (S "token") 1130, .str (S "whitespace") 1131, .str (S "whitespace_split") 1132, .str (S "wordchars") 1133] 0), #[]⟩
noncomputable def o739 (P : Params) : Obj := ⟨.type "dict", none, (.dict #[E P (S "__module__") 1010 (.str (S "cpy313.shlex") 1001), E P (S "__firstlineno__") 1014 (.int 470 1013), E P (S "__init__") 1026 (.ref 646), E P (S "punctuation_chars") 1034 (.ref 654), E P (S "push_token") 1042 (.ref 661), E P (S "push_source") 1051 (.ref 669), E P (S "pop_source") 1058 (.ref 676), E P (S "get_token") 1070 (.ref 683), E P (S "read_token") 1081 (.ref 690), E P (S "sourcehook") 1089 (.ref 697), E P (S "error_leader") 1098 (.ref 705), E P (S "__iter__") 1105 (.ref 712), E P (S "__next__") 1113 (.ref 719), E P (S "__static_attributes__") 1134 (.ref 720), E P (S "__dict__") 1136 (.ref 723), E P (S "__weakref__") 1138 (.ref 724), E P (S "__doc__") 1139 .none] 4), #[]⟩
noncomputable def o740 (P : Params) : Obj := ⟨.type "type", none, (.cls ⟨(S "shlex"), [.type "object"], [.ref 722, .type "object"], 721, (S "shlex"), true, [], [], false, none, false⟩), #[none, none, (some (.str (S "shlex") 1003)), (some (.str (S "shlex") 1011)), (some (.builtin "object.__new__")), (some (.bool true))]⟩
noncomputable def o741 (P : Params) : Obj := ⟨.type "getset_descriptor", none, (.fields #[.str (S "__dict__") 1135, .ref 722, .builtin "function.__dict__", .builtin "function.__dict__#set"]), #[]⟩
noncomputable def o742 (P : Params) : Obj := ⟨.type "getset_descriptor", none, (.fields #[.str (S "__weakref__") 1137, .ref 722, .builtin "ExceptionGroup.__weakref__", .none]), #[]⟩
noncomputable def o743 (P : Params) : Obj := ⟨.type "super", none, (.fields #[.ref 722, .ref 722, .ref 722]), #[]⟩
noncomputable def o744 (P : Params) : Obj := ⟨.type "builtin_function_or_method", none, (.fields #[.builtin "object.__init_subclass__", .ref 722]), #[]⟩
noncomputable def T7 (P : Params) : BT := (n (o0 P) (n (o1 P) (n (o648 P) (n (o7 P) (n (o15 P) (n (o31 P) (n (o66 P) (n (o138 P) (n (o266 P) (n (o525 P) l l) l) (n (o397 P) (n (o657 P) l l) l)) (n (o202 P) (n (o330 P) (n (o589 P) l l) l) (n (o461 P) (n (o721 P) l l) l))) (n (o103 P) (n (o170 P) (n (o298 P) (n (o557 P) l l) l) (n (o429 P) (n (o689 P) l l) l)) (n (o234 P) (n (o365 P) (n (o623 P) l l) l) (n (o493 P) l l)))) (n (o50 P) (n (o84 P) (n (o154 P) (n (o282 P) (n (o541 P) l l) l) (n (o413 P) (n (o673 P) l l) l)) (n (o218 P) (n (o346 P) (n (o607 P) l l) l) (n (o477 P) (n (o737 P) l l) l))) (n (o119 P) (n (o186 P) (n (o314 P) (n (o573 P) l l) l) (n (o445 P) (n (o705 P) l l) l)) (n (o250 P) (n (o381 P) (n (o639 P) l l) l) (n (o509 P) l l))))) (n (o23 P) (n (o42 P) (n (o76 P) (n (o146 P) (n (o274 P) (n (o533 P) l l) l) (n (o405 P) (n (o665 P) l l) l)) (n (o210 P) (n (o338 P) (n (o597 P) l l) l) (n (o469 P) (n (o729 P) l l) l))) (n (o111 P) (n (o178 P) (n (o306 P) (n (o565 P) l l) l) (n (o437 P) (n (o697 P) l l) l)) (n (o242 P) (n (o373 P) (n (o631 P) l l) l) (n (o501 P) l l)))) (n (o58 P) (n (o92 P) (n (o162 P) (n (o290 P) (n (o549 P) l l) l) (n (o421 P) (n (o681 P) l l) l)) (n (o226 P) (n (o357 P) (n (o615 P) l l) l) (n (o485 P) l l))) (n (o130 P) (n (o194 P) (n (o322 P) (n (o581 P) l l) l) (n (o453 P) (n (o713 P) l l) l)) (n (o258 P) (n (o389 P) (n (o647 P) l l) l) (n (o517 P) l l)))))) (n (o11 P) (n (o19 P) (n (o38 P) (n (o72 P) (n (o142 P) (n (o270 P) (n (o529 P) l l) l) (n (o401 P) (n (o661 P) l l) l)) (n (o206 P) (n (o334 P) (n (o593 P) l l) l) (n (o465 P) (n (o725 P) l l) l))) (n (o107 P) (n (o174 P) (n (o302 P) (n (o561 P) l l) l) (n (o433 P) (n (o693 P) l l) l)) (n (o238 P) (n (o369 P) (n (o627 P) l l) l) (n (o497 P) l l)))) (n (o54 P) (n (o96 P) (n (o158 P) (n (o286 P) (n (o545 P) l l) l) (n (o417 P) (n (o677 P) l l) l)) (n (o222 P) (n (o350 P) (n (o611 P) l l) l) (n (o481 P) (n (o741 P) l l) l))) (n (o126 P) (n (o190 P) (n (o318 P) (n (o577 P) l l) l) (n (o449 P) (n (o709 P) l l) l)) (n (o254 P) (n (o385 P) (n (o643 P) l l) l) (n (o513 P) l l))))) (n (o27 P) (n (o46 P) (n (o80 P) (n (o150 P) (n (o278 P) (n (o537 P) l l) l) (n (o409 P) (n (o669 P) l l) l)) (n (o214 P) (n (o342 P) (n (o601 P) l l) l) (n (o473 P) (n (o733 P) l l) l))) (n (o115 P) (n (o182 P) (n (o310 P) (n (o569 P) l l) l) (n (o441 P) (n (o701 P) l l) l)) (n (o246 P) (n (o377 P) (n (o635 P) l l) l) (n (o505 P) l l)))) (n (o62 P) (n (o99 P) (n (o166 P) (n (o294 P) (n (o553 P) l l) l) (n (o425 P) (n (o685 P) l l) l)) (n (o230 P) (n (o361 P) (n (o619 P) l l) l) (n (o489 P) l l))) (n (o134 P) (n (o198 P) (n (o326 P) (n (o585 P) l l) l) (n (o457 P) (n (o717 P) l l) l)) (n (o262 P) (n (o393 P) (n (o653 P) l l) l) (n (o521 P) l l))))))) (n (o5 P) (n (o9 P) (n (o17 P) (n (o36 P) (n (o68 P) (n (o140 P) (n (o268 P) (n (o527 P) l l) l) (n (o399 P) (n (o659 P) l l) l)) (n (o204 P) (n (o332 P) (n (o591 P) l l) l) (n (o463 P) (n (o723 P) l l) l))) (n (o105 P) (n (o172 P) (n (o300 P) (n (o559 P) l l) l) (n (o431 P) (n (o691 P) l l) l)) (n (o236 P) (n (o367 P) (n (o625 P) l l) l) (n (o495 P) l l)))) (n (o52 P) (n (o86 P) (n (o156 P) (n (o284 P) (n (o543 P) l l) l) (n (o415 P) (n (o675 P) l l) l)) (n (o220 P) (n (o348 P) (n (o609 P) l l) l) (n (o479 P) (n (o739 P) l l) l))) (n (o124 P) (n (o188 P) (n (o316 P) (n (o575 P) l l) l) (n (o447 P) (n (o707 P) l l) l)) (n (o252 P) (n (o383 P) (n (o641 P) l l) l) (n (o511 P) l l))))) (n (o25 P) (n (o44 P) (n (o78 P) (n (o148 P) (n (o276 P) (n (o535 P) l l) l) (n (o407 P) (n (o667 P) l l) l)) (n (o212 P) (n (o340 P) (n (o599 P) l l) l) (n (o471 P) (n (o731 P) l l) l))) (n (o113 P) (n (o180 P) (n (o308 P) (n (o567 P) l l) l) (n (o439 P) (n (o699 P) l l) l)) (n (o244 P) (n (o375 P) (n (o633 P) l l) l) (n (o503 P) l l)))) (n (o60 P) (n (o97 P) (n (o164 P) (n (o292 P) (n (o551 P) l l) l) (n (o423 P) (n (o683 P) l l) l)) (n (o228 P) (n (o359 P) (n (o617 P) l l) l) (n (o487 P) l l))) (n (o132 P) (n (o196 P) (n (o324 P) (n (o583 P) l l) l) (n (o455 P) (n (o715 P) l l) l)) (n (o260 P) (n (o391 P) (n (o651 P) l l) l) (n (o519 P) l l)))))) (n (o13 P) (n (o21 P) (n (o40 P) (n (o74 P) (n (o144 P) (n (o272 P) (n (o531 P) l l) l) (n (o403 P) (n (o663 P) l l) l)) (n (o208 P) (n (o336 P) (n (o595 P) l l) l) (n (o467 P) (n (o727 P) l l) l))) (n (o109 P) (n (o176 P) (n (o304 P) (n (o563 P) l l) l) (n (o435 P) (n (o695 P) l l) l)) (n (o240 P) (n (o371 P) (n (o629 P) l l) l) (n (o499 P) l l)))) (n (o56 P) (n (o90 P) (n (o160 P) (n (o288 P) (n (o547 P) l l) l) (n (o419 P) (n (o679 P) l l) l)) (n (o224 P) (n (o352 P) (n (o613 P) l l) l) (n (o483 P) (n (o743 P) l l) l))) (n (o128 P) (n (o192 P) (n (o320 P) (n (o579 P) l l) l) (n (o451 P) (n (o711 P) l l) l)) (n (o256 P) (n (o387 P) (n (o645 P) l l) l) (n (o515 P) l l))))) (n (o29 P) (n (o48 P) (n (o82 P) (n (o152 P) (n (o280 P) (n (o539 P) l l) l) (n (o411 P) (n (o671 P) l l) l)) (n (o216 P) (n (o344 P) (n (o603 P) l l) l) (n (o475 P) (n (o735 P) l l) l))) (n (o117 P) (n (o184 P) (n (o312 P) (n (o571 P) l l) l) (n (o443 P) (n (o703 P) l l) l)) (n (o248 P) (n (o379 P) (n (o637 P) l l) l) (n (o507 P) l l)))) (n (o64 P) (n (o101 P) (n (o168 P) (n (o296 P) (n (o555 P) l l) l) (n (o427 P) (n (o687 P) l l) l)) (n (o232 P) (n (o363 P) (n (o621 P) l l) l) (n (o491 P) l l))) (n (o136 P) (n (o200 P) (n (o328 P) (n (o587 P) l l) l) (n (o459 P) (n (o719 P) l l) l)) (n (o264 P) (n (o395 P) (n (o655 P) l l) l) (n (o523 P) l l)))))))) (n (o33 P) (n (o4 P) (n (o8 P) (n (o16 P) (n (o32 P) (n (o67 P) (n (o139 P) (n (o267 P) (n (o526 P) l l) l) (n (o398 P) (n (o658 P) l l) l)) (n (o203 P) (n (o331 P) (n (o590 P) l l) l) (n (o462 P) (n (o722 P) l l) l))) (n (o104 P) (n (o171 P) (n (o299 P) (n (o558 P) l l) l) (n (o430 P) (n (o690 P) l l) l)) (n (o235 P) (n (o366 P) (n (o624 P) l l) l) (n (o494 P) l l)))) (n (o51 P) (n (o85 P) (n (o155 P) (n (o283 P) (n (o542 P) l l) l) (n (o414 P) (n (o674 P) l l) l)) (n (o219 P) (n (o347 P) (n (o608 P) l l) l) (n (o478 P) (n (o738 P) l l) l))) (n (o120 P) (n (o187 P) (n (o315 P) (n (o574 P) l l) l) (n (o446 P) (n (o706 P) l l) l)) (n (o251 P) (n (o382 P) (n (o640 P) l l) l) (n (o510 P) l l))))) (n (o24 P) (n (o43 P) (n (o77 P) (n (o147 P) (n (o275 P) (n (o534 P) l l) l) (n (o406 P) (n (o666 P) l l) l)) (n (o211 P) (n (o339 P) (n (o598 P) l l) l) (n (o470 P) (n (o730 P) l l) l))) (n (o112 P) (n (o179 P) (n (o307 P) (n (o566 P) l l) l) (n (o438 P) (n (o698 P) l l) l)) (n (o243 P) (n (o374 P) (n (o632 P) l l) l) (n (o502 P) l l)))) (n (o59 P) (n (o93 P) (n (o163 P) (n (o291 P) (n (o550 P) l l) l) (n (o422 P) (n (o682 P) l l) l)) (n (o227 P) (n (o358 P) (n (o616 P) l l) l) (n (o486 P) l l))) (n (o131 P) (n (o195 P) (n (o323 P) (n (o582 P) l l) l) (n (o454 P) (n (o714 P) l l) l)) (n (o259 P) (n (o390 P) (n (o650 P) l l) l) (n (o518 P) l l)))))) (n (o12 P) (n (o20 P) (n (o39 P) (n (o73 P) (n (o143 P) (n (o271 P) (n (o530 P) l l) l) (n (o402 P) (n (o662 P) l l) l)) (n (o207 P) (n (o335 P) (n (o594 P) l l) l) (n (o466 P) (n (o726 P) l l) l))) (n (o108 P) (n (o175 P) (n (o303 P) (n (o562 P) l l) l) (n (o434 P) (n (o694 P) l l) l)) (n (o239 P) (n (o370 P) (n (o628 P) l l) l) (n (o498 P) l l)))) (n (o55 P) (n (o89 P) (n (o159 P) (n (o287 P) (n (o546 P) l l) l) (n (o418 P) (n (o678 P) l l) l)) (n (o223 P) (n (o351 P) (n (o612 P) l l) l) (n (o482 P) (n (o742 P) l l) l))) (n (o127 P) (n (o191 P) (n (o319 P) (n (o578 P) l l) l) (n (o450 P) (n (o710 P) l l) l)) (n (o255 P) (n (o386 P) (n (o644 P) l l) l) (n (o514 P) l l))))) (n (o28 P) (n (o47 P) (n (o81 P) (n (o151 P) (n (o279 P) (n (o538 P) l l) l) (n (o410 P) (n (o670 P) l l) l)) (n (o215 P) (n (o343 P) (n (o602 P) l l) l) (n (o474 P) (n (o734 P) l l) l))) (n (o116 P) (n (o183 P) (n (o311 P) (n (o570 P) l l) l) (n (o442 P) (n (o702 P) l l) l)) (n (o247 P) (n (o378 P) (n (o636 P) l l) l) (n (o506 P) l l)))) (n (o63 P) (n (o100 P) (n (o167 P) (n (o295 P) (n (o554 P) l l) l) (n (o426 P) (n (o686 P) l l) l)) (n (o231 P) (n (o362 P) (n (o620 P) l l) l) (n (o490 P) l l))) (n (o135 P) (n (o199 P) (n (o327 P) (n (o586 P) l l) l) (n (o458 P) (n (o718 P) l l) l)) (n (o263 P) (n (o394 P) (n (o654 P) l l) l) (n (o522 P) l l))))))) (n (o6 P) (n (o10 P) (n (o18 P) (n (o37 P) (n (o69 P) (n (o141 P) (n (o269 P) (n (o528 P) l l) l) (n (o400 P) (n (o660 P) l l) l)) (n (o205 P) (n (o333 P) (n (o592 P) l l) l) (n (o464 P) (n (o724 P) l l) l))) (n (o123 P) (n (o173 P) (n (o301 P) (n (o560 P) l l) l) (n (o432 P) (n (o692 P) l l) l)) (n (o237 P) (n (o368 P) (n (o626 P) l l) l) (n (o496 P) l l)))) (n (o53 P) (n (o87 P) (n (o157 P) (n (o285 P) (n (o544 P) l l) l) (n (o416 P) (n (o676 P) l l) l)) (n (o221 P) (n (o349 P) (n (o610 P) l l) l) (n (o480 P) (n (o740 P) l l) l))) (n (o125 P) (n (o189 P) (n (o317 P) (n (o576 P) l l) l) (n (o448 P) (n (o708 P) l l) l)) (n (o253 P) (n (o384 P) (n (o642 P) l l) l) (n (o512 P) l l))))) (n (o26 P) (n (o45 P) (n (o79 P) (n (o149 P) (n (o277 P) (n (o536 P) l l) l) (n (o408 P) (n (o668 P) l l) l)) (n (o213 P) (n (o341 P) (n (o600 P) l l) l) (n (o472 P) (n (o732 P) l l) l))) (n (o114 P) (n (o181 P) (n (o309 P) (n (o568 P) l l) l) (n (o440 P) (n (o700 P) l l) l)) (n (o245 P) (n (o376 P) (n (o634 P) l l) l) (n (o504 P) l l)))) (n (o61 P) (n (o98 P) (n (o165 P) (n (o293 P) (n (o552 P) l l) l) (n (o424 P) (n (o684 P) l l) l)) (n (o229 P) (n (o360 P) (n (o618 P) l l) l) (n (o488 P) l l))) (n (o133 P) (n (o197 P) (n (o325 P) (n (o584 P) l l) l) (n (o456 P) (n (o716 P) l l) l)) (n (o261 P) (n (o392 P) (n (o652 P) l l) l) (n (o520 P) l l)))))) (n (o14 P) (n (o22 P) (n (o41 P) (n (o75 P) (n (o145 P) (n (o273 P) (n (o532 P) l l) l) (n (o404 P) (n (o664 P) l l) l)) (n (o209 P) (n (o337 P) (n (o596 P) l l) l) (n (o468 P) (n (o728 P) l l) l))) (n (o110 P) (n (o177 P) (n (o305 P) (n (o564 P) l l) l) (n (o436 P) (n (o696 P) l l) l)) (n (o241 P) (n (o372 P) (n (o630 P) l l) l) (n (o500 P) l l)))) (n (o57 P) (n (o91 P) (n (o161 P) (n (o289 P) (n (o548 P) l l) l) (n (o420 P) (n (o680 P) l l) l)) (n (o225 P) (n (o353 P) (n (o614 P) l l) l) (n (o484 P) (n (o744 P) l l) l))) (n (o129 P) (n (o193 P) (n (o321 P) (n (o580 P) l l) l) (n (o452 P) (n (o712 P) l l) l)) (n (o257 P) (n (o388 P) (n (o646 P) l l) l) (n (o516 P) l l))))) (n (o649 P) (n (o49 P) (n (o83 P) (n (o153 P) (n (o281 P) (n (o540 P) l l) l) (n (o412 P) (n (o672 P) l l) l)) (n (o217 P) (n (o345 P) (n (o606 P) l l) l) (n (o476 P) (n (o736 P) l l) l))) (n (o356 P) (n (o185 P) (n (o313 P) (n (o572 P) l l) l) (n (o444 P) (n (o704 P) l l) l)) (n (o249 P) (n (o380 P) (n (o638 P) l l) l) (n (o508 P) l l)))) (n (o65 P) (n (o102 P) (n (o169 P) (n (o297 P) (n (o556 P) l l) l) (n (o428 P) (n (o688 P) l l) l)) (n (o233 P) (n (o364 P) (n (o622 P) l l) l) (n (o492 P) l l))) (n (o137 P) (n (o201 P) (n (o329 P) (n (o588 P) l l) l) (n (o460 P) (n (o720 P) l l) l)) (n (o265 P) (n (o396 P) (n (o656 P) l l) l) (n (o524 P) l l)))))))))
noncomputable def S7 (w : World) (os : OsState) : SharedT := ⟨T7 w.params, 727, {}, #[], {}, 1142, os⟩
noncomputable def ss7 : List Stmt := [st 19]
theorem pc7 (w : World) (os : OsState) : segRunT treeTable PySem.Challenge.pw_ny0304_03 w 29 (some (.ref 6)) 1 633 (S6 w os) (piecesOf ss7 en (.body (behindTheImports PySem.Challenge.pw_ny0304_03) en) ⟨469, 0, 469, 8⟩ [topFrame fq]) = some (.next, S7 w os, (.body (behindTheImports PySem.Challenge.pw_ny0304_03) en), ⟨470, 0, 721, 20⟩) := by kernel_rfl
noncomputable def o745 (P : Params) : Obj := ⟨.none, none, (.dict #[E P (S "\x69mport.loaded._collections") 185 (.bool true), E P (S "class._frozen_importlib.BuiltinImporter") 187 (.ref 15), E P (S "watched.\x69mport") 208 (.ref 19), E P (S "class._frozen_importlib.ModuleSpec") 218 (.ref 23), E P (S "sys.modules.booked-epoch") 247 (.int 3 0), E P (S "sys.modules.landed._collections") 248 (.bool true), E P (S "\x69mport.later-laid._collections") 263 (.bool true), E P (S "watched.library") 265 (.ref 28), E P (S "watched.library-objects") 0 (.str (PySem.Str.mk #[13]) 0), E P (S "watched.library-deep._collections") 266 (.str (PySem.Str.mk #[4, 0, 0, 12, 4, 0, 0, 12, 4, 0, 0, 3, 4, 0, 0, 12, 8, 4, 100, 105, 99, 116, 2]) 0), E P (S "type.__subclasses__.OSError.0") 322 (.int 63 0), E P (S "type.__subclasses__.OSError.n") 323 (.int 1 0), E P (S "type.__subclasses__.Exception.0") 1170 (.int 744 0), E P (S "type.__subclasses__.Exception.n") 1171 (.int 1 0)] 14), #[]⟩
noncomputable def o746 (P : Params) : Obj := ⟨.type "dict", none, (.dict #[E P (S "__name__") 165 (.str (S "cpy313.ftplib") 1152), E P (S "__doc__") 166 .none, E P (S "__package__") 167 .none, E P (S "__loader__") 168 (.builtin "__main__.__loader__#opaque"), E P (S "__spec__") 169 .none, E P (S "__annotations__") 170 (.ref 6), E P (S "__builtins__") 171 (.ref 4), E P (S "__file__") 173 (.str (S "/claim/cut.py") 172), E P (S "__cached__") 174 .none, E P (S "deque") 272 (.type "collections.deque"), E P (S "_wall") 285 (.ref 39), E P (S "_whence") 295 (.ref 46), E P (S "_index") 303 (.ref 53), E P (S "UnsupportedOperation") 325 (.ref 63), E P (S "IOBase") 357 (.ref 83), E P (S "BufferedIOBase") 375 (.ref 98), E P (S "TextIOBase") 393 (.ref 110), E P (S "BytesIO") 655 (.ref 340), E P (S "StringIO") 942 (.ref 587), E P (S "_kind") 953 (.ref 596), E P (S "_fspath") 962 (.ref 603), E P (S "_check_arg_types") 972 (.ref 610), E P (S "isabs") 979 (.ref 617), E P (S "join") 990 (.ref 624), E P (S "dirname") 1000 (.ref 631), E P (S "shlex") 1141 (.ref 722), E P (S "split") 1151 (.ref 734), E P (S "Error") 1173 (.ref 744)] 28), #[]⟩
noncomputable def o747 (P : Params) : Obj := ⟨.none, none, (.fields #[.int 2 0, .int 0 0, .ref 38, .int 6 0, .int 0 0, .ref 45, .int 11 0, .int 0 0, .ref 52, .int 18 0, .int 0 0, .ref 59, .int 20 0, .int 0 0, .ref 72, .int 27 0, .int 0 0, .ref 94, .int 29 0, .int 0 0, .ref 106, .int 31 0, .int 0 0, .ref 118, .int 201 0, .int 0 0, .ref 348, .int 407 0, .int 0 0, .ref 595, .int 428 0, .int 0 0, .ref 602, .int 433 0, .int 0 0, .ref 609, .int 438 0, .int 0 0, .ref 616, .int 441 0, .int 0 0, .ref 623, .int 461 0, .int 0 0, .ref 630, .int 470 0, .int 0 0, .ref 637, .int 722 0, .int 0 0, .ref 733, .int 731 0, .int 0 0, .ref 740]), #[]⟩
noncomputable def o748 (P : Params) : Obj := ⟨.type "tuple", none, (.seq #[.bool false, .bool true] 0), #[]⟩
noncomputable def o749 (P : Params) : Obj := ⟨.type "tuple", none, (.seq #[] 0), #[]⟩
noncomputable def o750 (P : Params) : Obj := ⟨.none, none, (.fields #[]), #[]⟩
noncomputable def o751 (P : Params) : Obj := ⟨.type "tuple", none, (.seq #[.str (S "s") 1145, .str (S "comments") 1146, .str (S "posix") 1147, .str (S "lex") 1148] 0), #[]⟩
noncomputable def o752 (P : Params) : Obj := ⟨.type "tuple", none, (.seq #[] 0), #[]⟩
noncomputable def o753 (P : Params) : Obj := ⟨.none, none, (.func (fn (S "split") (S "split") (st 20) 0 [] .none .none .none .none none .none .none 0)), #[]⟩
noncomputable def o754 (P : Params) : Obj := ⟨.type "code", none, (.fields #[.str (S "split") 1142, .str (S "split") 1143, .str (S "/claim/cut.py") 1144, .int 722 0, .int 3 0, .int 0 0, .int 0 0, .int 3 0, .ref 728, .bool true, .int 273 0, .ref 729, .none, .ref 730, .ref 731, .ref 732, .int 1149 0, .int 722 0, .str (S "/claim/cut.py") 1150]), #[]⟩
noncomputable def o755 (P : Params) : Obj := ⟨.type "function", none, (.func (fn (S "split") (S "split") (st 20) 3 [] (.ref 727) .none .none (.str (S "cpy313.shlex") 1001) none (.ref 733) .none 0)), #[]⟩
noncomputable def o756 (P : Params) : Obj := ⟨.type "tuple", none, (.seq #[.type "Exception"] 0), #[]⟩
noncomputable def o757 (P : Params) : Obj := ⟨.type "builtin_function_or_method", none, (.fields #[.builtin "type.__prepare__", .type "type"]), #[]⟩
noncomputable def o758 (P : Params) : Obj := ⟨.type "dict", none, (.dict #[E P (S "__module__") 1161 (.str (S "cpy313.ftplib") 1152), E P (S "__qualname__") 1163 (.str (S "Error") 1162), E P (S "__firstlineno__") 1165 (.int 731 1164), E P (S "__static_attributes__") 1166 (.ref 742)] 4), #[]⟩
noncomputable def o759 (P : Params) : Obj := ⟨.type "tuple", none, (.seq #[] 0), #[]⟩
noncomputable def o760 (P : Params) : Obj := ⟨.none, none, (.fields #[]), #[]⟩
noncomputable def o761 (P : Params) : Obj := ⟨.type "code", none, (.fields #[.str (S "Error") 1156, .str (S "Error") 1157, .str (S "/claim/cut.py") 1158, .int 731 0, .int 0 0, .int 0 0, .int 0 0, .int 0 0, .ref 738, .bool false, .int 273 0, .ref 739, .none, .none, .none, .none, .int 1159 0, .int 731 0, .str (S "/claim/cut.py") 1160]), #[]⟩
noncomputable def o762 (P : Params) : Obj := ⟨.type "frame", none, .plain, #[(some (.ref 740)), (some (.ref 3)), (some (.ref 737)), none, (some (.str (S "cpy313.ftplib") 1152)), none, (some (.ref 0))]⟩
noncomputable def o763 (P : Params) : Obj := ⟨.type "tuple", none, (.seq #[] 0), #[]⟩
noncomputable def o764 (P : Params) : Obj := ⟨.type "dict", none, (.dict #[E P (S "__module__") 1161 (.str (S "cpy313.ftplib") 1152), E P (S "__firstlineno__") 1165 (.int 731 1164), E P (S "__static_attributes__") 1166 (.ref 742), E P (S "__weakref__") 1168 (.ref 745), E P (S "__doc__") 1169 .none] 3), #[]⟩
noncomputable def o765 (P : Params) : Obj := ⟨.type "type", none, (.cls ⟨(S "Error"), [.type "Exception"], [.ref 744, .type "Exception", .type "BaseException", .type "object"], 743, (S "Error"), true, [], [], false, none, false⟩), #[(some (.ref 735)), none, (some (.str (S "Error") 1154)), (some (.str (S "Error") 1162)), (some (.builtin "Exception.__new__")), (some (.bool true))]⟩
noncomputable def o766 (P : Params) : Obj := ⟨.type "getset_descriptor", none, (.fields #[.str (S "__weakref__") 1167, .ref 744, .builtin "ExceptionGroup.__weakref__", .none]), #[]⟩
noncomputable def o767 (P : Params) : Obj := ⟨.type "super", none, (.fields #[.ref 744, .ref 744, .ref 744]), #[]⟩
noncomputable def o768 (P : Params) : Obj := ⟨.type "builtin_function_or_method", none, (.fields #[.builtin "object.__init_subclass__", .ref 744]), #[]⟩
noncomputable def T8 (P : Params) : BT := (n (o0 P) (n (o1 P) (n (o746 P) (n (o7 P) (n (o15 P) (n (o31 P) (n (o66 P) (n (o138 P) (n (o266 P) (n (o525 P) l l) l) (n (o397 P) (n (o657 P) l l) l)) (n (o202 P) (n (o330 P) (n (o589 P) l l) l) (n (o461 P) (n (o721 P) l l) l))) (n (o103 P) (n (o170 P) (n (o298 P) (n (o557 P) l l) l) (n (o429 P) (n (o689 P) l l) l)) (n (o234 P) (n (o365 P) (n (o623 P) l l) l) (n (o493 P) (n (o756 P) l l) l)))) (n (o50 P) (n (o84 P) (n (o154 P) (n (o282 P) (n (o541 P) l l) l) (n (o413 P) (n (o673 P) l l) l)) (n (o218 P) (n (o346 P) (n (o607 P) l l) l) (n (o477 P) (n (o737 P) l l) l))) (n (o119 P) (n (o186 P) (n (o314 P) (n (o573 P) l l) l) (n (o445 P) (n (o705 P) l l) l)) (n (o250 P) (n (o381 P) (n (o639 P) l l) l) (n (o509 P) l l))))) (n (o23 P) (n (o42 P) (n (o76 P) (n (o146 P) (n (o274 P) (n (o533 P) l l) l) (n (o405 P) (n (o665 P) l l) l)) (n (o210 P) (n (o338 P) (n (o597 P) l l) l) (n (o469 P) (n (o729 P) l l) l))) (n (o111 P) (n (o178 P) (n (o306 P) (n (o565 P) l l) l) (n (o437 P) (n (o697 P) l l) l)) (n (o242 P) (n (o373 P) (n (o631 P) l l) l) (n (o501 P) (n (o764 P) l l) l)))) (n (o58 P) (n (o92 P) (n (o162 P) (n (o290 P) (n (o549 P) l l) l) (n (o421 P) (n (o681 P) l l) l)) (n (o226 P) (n (o357 P) (n (o615 P) l l) l) (n (o485 P) (n (o748 P) l l) l))) (n (o130 P) (n (o194 P) (n (o322 P) (n (o581 P) l l) l) (n (o453 P) (n (o713 P) l l) l)) (n (o258 P) (n (o389 P) (n (o647 P) l l) l) (n (o517 P) l l)))))) (n (o11 P) (n (o19 P) (n (o38 P) (n (o72 P) (n (o142 P) (n (o270 P) (n (o529 P) l l) l) (n (o401 P) (n (o661 P) l l) l)) (n (o206 P) (n (o334 P) (n (o593 P) l l) l) (n (o465 P) (n (o725 P) l l) l))) (n (o107 P) (n (o174 P) (n (o302 P) (n (o561 P) l l) l) (n (o433 P) (n (o693 P) l l) l)) (n (o238 P) (n (o369 P) (n (o627 P) l l) l) (n (o497 P) (n (o760 P) l l) l)))) (n (o54 P) (n (o96 P) (n (o158 P) (n (o286 P) (n (o545 P) l l) l) (n (o417 P) (n (o677 P) l l) l)) (n (o222 P) (n (o350 P) (n (o611 P) l l) l) (n (o481 P) (n (o741 P) l l) l))) (n (o126 P) (n (o190 P) (n (o318 P) (n (o577 P) l l) l) (n (o449 P) (n (o709 P) l l) l)) (n (o254 P) (n (o385 P) (n (o643 P) l l) l) (n (o513 P) l l))))) (n (o27 P) (n (o46 P) (n (o80 P) (n (o150 P) (n (o278 P) (n (o537 P) l l) l) (n (o409 P) (n (o669 P) l l) l)) (n (o214 P) (n (o342 P) (n (o601 P) l l) l) (n (o473 P) (n (o733 P) l l) l))) (n (o115 P) (n (o182 P) (n (o310 P) (n (o569 P) l l) l) (n (o441 P) (n (o701 P) l l) l)) (n (o246 P) (n (o377 P) (n (o635 P) l l) l) (n (o505 P) (n (o768 P) l l) l)))) (n (o62 P) (n (o99 P) (n (o166 P) (n (o294 P) (n (o553 P) l l) l) (n (o425 P) (n (o685 P) l l) l)) (n (o230 P) (n (o361 P) (n (o619 P) l l) l) (n (o489 P) (n (o752 P) l l) l))) (n (o134 P) (n (o198 P) (n (o326 P) (n (o585 P) l l) l) (n (o457 P) (n (o717 P) l l) l)) (n (o262 P) (n (o393 P) (n (o653 P) l l) l) (n (o521 P) l l))))))) (n (o5 P) (n (o9 P) (n (o17 P) (n (o36 P) (n (o68 P) (n (o140 P) (n (o268 P) (n (o527 P) l l) l) (n (o399 P) (n (o659 P) l l) l)) (n (o204 P) (n (o332 P) (n (o591 P) l l) l) (n (o463 P) (n (o723 P) l l) l))) (n (o105 P) (n (o172 P) (n (o300 P) (n (o559 P) l l) l) (n (o431 P) (n (o691 P) l l) l)) (n (o236 P) (n (o367 P) (n (o625 P) l l) l) (n (o495 P) (n (o758 P) l l) l)))) (n (o52 P) (n (o86 P) (n (o156 P) (n (o284 P) (n (o543 P) l l) l) (n (o415 P) (n (o675 P) l l) l)) (n (o220 P) (n (o348 P) (n (o609 P) l l) l) (n (o479 P) (n (o739 P) l l) l))) (n (o124 P) (n (o188 P) (n (o316 P) (n (o575 P) l l) l) (n (o447 P) (n (o707 P) l l) l)) (n (o252 P) (n (o383 P) (n (o641 P) l l) l) (n (o511 P) l l))))) (n (o25 P) (n (o44 P) (n (o78 P) (n (o148 P) (n (o276 P) (n (o535 P) l l) l) (n (o407 P) (n (o667 P) l l) l)) (n (o212 P) (n (o340 P) (n (o599 P) l l) l) (n (o471 P) (n (o731 P) l l) l))) (n (o113 P) (n (o180 P) (n (o308 P) (n (o567 P) l l) l) (n (o439 P) (n (o699 P) l l) l)) (n (o244 P) (n (o375 P) (n (o633 P) l l) l) (n (o503 P) (n (o766 P) l l) l)))) (n (o60 P) (n (o97 P) (n (o164 P) (n (o292 P) (n (o551 P) l l) l) (n (o423 P) (n (o683 P) l l) l)) (n (o228 P) (n (o359 P) (n (o617 P) l l) l) (n (o487 P) (n (o750 P) l l) l))) (n (o132 P) (n (o196 P) (n (o324 P) (n (o583 P) l l) l) (n (o455 P) (n (o715 P) l l) l)) (n (o260 P) (n (o391 P) (n (o651 P) l l) l) (n (o519 P) l l)))))) (n (o13 P) (n (o21 P) (n (o40 P) (n (o74 P) (n (o144 P) (n (o272 P) (n (o531 P) l l) l) (n (o403 P) (n (o663 P) l l) l)) (n (o208 P) (n (o336 P) (n (o595 P) l l) l) (n (o467 P) (n (o727 P) l l) l))) (n (o109 P) (n (o176 P) (n (o304 P) (n (o563 P) l l) l) (n (o435 P) (n (o695 P) l l) l)) (n (o240 P) (n (o371 P) (n (o629 P) l l) l) (n (o499 P) (n (o762 P) l l) l)))) (n (o56 P) (n (o90 P) (n (o160 P) (n (o288 P) (n (o547 P) l l) l) (n (o419 P) (n (o679 P) l l) l)) (n (o224 P) (n (o352 P) (n (o613 P) l l) l) (n (o483 P) (n (o743 P) l l) l))) (n (o128 P) (n (o192 P) (n (o320 P) (n (o579 P) l l) l) (n (o451 P) (n (o711 P) l l) l)) (n (o256 P) (n (o387 P) (n (o645 P) l l) l) (n (o515 P) l l))))) (n (o29 P) (n (o48 P) (n (o82 P) (n (o152 P) (n (o280 P) (n (o539 P) l l) l) (n (o411 P) (n (o671 P) l l) l)) (n (o216 P) (n (o344 P) (n (o603 P) l l) l) (n (o475 P) (n (o735 P) l l) l))) (n (o117 P) (n (o184 P) (n (o312 P) (n (o571 P) l l) l) (n (o443 P) (n (o703 P) l l) l)) (n (o248 P) (n (o379 P) (n (o637 P) l l) l) (n (o507 P) l l)))) (n (o64 P) (n (o101 P) (n (o168 P) (n (o296 P) (n (o555 P) l l) l) (n (o427 P) (n (o687 P) l l) l)) (n (o232 P) (n (o363 P) (n (o621 P) l l) l) (n (o491 P) (n (o754 P) l l) l))) (n (o136 P) (n (o200 P) (n (o328 P) (n (o587 P) l l) l) (n (o459 P) (n (o719 P) l l) l)) (n (o264 P) (n (o395 P) (n (o655 P) l l) l) (n (o523 P) l l)))))))) (n (o745 P) (n (o4 P) (n (o8 P) (n (o16 P) (n (o32 P) (n (o67 P) (n (o139 P) (n (o267 P) (n (o526 P) l l) l) (n (o398 P) (n (o658 P) l l) l)) (n (o203 P) (n (o331 P) (n (o590 P) l l) l) (n (o462 P) (n (o722 P) l l) l))) (n (o104 P) (n (o171 P) (n (o299 P) (n (o558 P) l l) l) (n (o430 P) (n (o690 P) l l) l)) (n (o235 P) (n (o366 P) (n (o624 P) l l) l) (n (o494 P) (n (o757 P) l l) l)))) (n (o51 P) (n (o85 P) (n (o155 P) (n (o283 P) (n (o542 P) l l) l) (n (o414 P) (n (o674 P) l l) l)) (n (o219 P) (n (o347 P) (n (o608 P) l l) l) (n (o478 P) (n (o738 P) l l) l))) (n (o120 P) (n (o187 P) (n (o315 P) (n (o574 P) l l) l) (n (o446 P) (n (o706 P) l l) l)) (n (o251 P) (n (o382 P) (n (o640 P) l l) l) (n (o510 P) l l))))) (n (o24 P) (n (o43 P) (n (o77 P) (n (o147 P) (n (o275 P) (n (o534 P) l l) l) (n (o406 P) (n (o666 P) l l) l)) (n (o211 P) (n (o339 P) (n (o598 P) l l) l) (n (o470 P) (n (o730 P) l l) l))) (n (o112 P) (n (o179 P) (n (o307 P) (n (o566 P) l l) l) (n (o438 P) (n (o698 P) l l) l)) (n (o243 P) (n (o374 P) (n (o632 P) l l) l) (n (o502 P) (n (o765 P) l l) l)))) (n (o59 P) (n (o93 P) (n (o163 P) (n (o291 P) (n (o550 P) l l) l) (n (o422 P) (n (o682 P) l l) l)) (n (o227 P) (n (o358 P) (n (o616 P) l l) l) (n (o486 P) (n (o749 P) l l) l))) (n (o131 P) (n (o195 P) (n (o323 P) (n (o582 P) l l) l) (n (o454 P) (n (o714 P) l l) l)) (n (o259 P) (n (o390 P) (n (o650 P) l l) l) (n (o518 P) l l)))))) (n (o12 P) (n (o20 P) (n (o39 P) (n (o73 P) (n (o143 P) (n (o271 P) (n (o530 P) l l) l) (n (o402 P) (n (o662 P) l l) l)) (n (o207 P) (n (o335 P) (n (o594 P) l l) l) (n (o466 P) (n (o726 P) l l) l))) (n (o108 P) (n (o175 P) (n (o303 P) (n (o562 P) l l) l) (n (o434 P) (n (o694 P) l l) l)) (n (o239 P) (n (o370 P) (n (o628 P) l l) l) (n (o498 P) (n (o761 P) l l) l)))) (n (o55 P) (n (o89 P) (n (o159 P) (n (o287 P) (n (o546 P) l l) l) (n (o418 P) (n (o678 P) l l) l)) (n (o223 P) (n (o351 P) (n (o612 P) l l) l) (n (o482 P) (n (o742 P) l l) l))) (n (o127 P) (n (o191 P) (n (o319 P) (n (o578 P) l l) l) (n (o450 P) (n (o710 P) l l) l)) (n (o255 P) (n (o386 P) (n (o644 P) l l) l) (n (o514 P) l l))))) (n (o28 P) (n (o47 P) (n (o81 P) (n (o151 P) (n (o279 P) (n (o538 P) l l) l) (n (o410 P) (n (o670 P) l l) l)) (n (o215 P) (n (o343 P) (n (o602 P) l l) l) (n (o474 P) (n (o734 P) l l) l))) (n (o116 P) (n (o183 P) (n (o311 P) (n (o570 P) l l) l) (n (o442 P) (n (o702 P) l l) l)) (n (o247 P) (n (o378 P) (n (o636 P) l l) l) (n (o506 P) l l)))) (n (o63 P) (n (o100 P) (n (o167 P) (n (o295 P) (n (o554 P) l l) l) (n (o426 P) (n (o686 P) l l) l)) (n (o231 P) (n (o362 P) (n (o620 P) l l) l) (n (o490 P) (n (o753 P) l l) l))) (n (o135 P) (n (o199 P) (n (o327 P) (n (o586 P) l l) l) (n (o458 P) (n (o718 P) l l) l)) (n (o263 P) (n (o394 P) (n (o654 P) l l) l) (n (o522 P) l l))))))) (n (o6 P) (n (o10 P) (n (o18 P) (n (o37 P) (n (o69 P) (n (o141 P) (n (o269 P) (n (o528 P) l l) l) (n (o400 P) (n (o660 P) l l) l)) (n (o205 P) (n (o333 P) (n (o592 P) l l) l) (n (o464 P) (n (o724 P) l l) l))) (n (o123 P) (n (o173 P) (n (o301 P) (n (o560 P) l l) l) (n (o432 P) (n (o692 P) l l) l)) (n (o237 P) (n (o368 P) (n (o626 P) l l) l) (n (o496 P) (n (o759 P) l l) l)))) (n (o53 P) (n (o87 P) (n (o157 P) (n (o285 P) (n (o544 P) l l) l) (n (o416 P) (n (o676 P) l l) l)) (n (o221 P) (n (o349 P) (n (o610 P) l l) l) (n (o480 P) (n (o740 P) l l) l))) (n (o125 P) (n (o189 P) (n (o317 P) (n (o576 P) l l) l) (n (o448 P) (n (o708 P) l l) l)) (n (o253 P) (n (o384 P) (n (o642 P) l l) l) (n (o512 P) l l))))) (n (o26 P) (n (o45 P) (n (o79 P) (n (o149 P) (n (o277 P) (n (o536 P) l l) l) (n (o408 P) (n (o668 P) l l) l)) (n (o213 P) (n (o341 P) (n (o600 P) l l) l) (n (o472 P) (n (o732 P) l l) l))) (n (o114 P) (n (o181 P) (n (o309 P) (n (o568 P) l l) l) (n (o440 P) (n (o700 P) l l) l)) (n (o245 P) (n (o376 P) (n (o634 P) l l) l) (n (o504 P) (n (o767 P) l l) l)))) (n (o61 P) (n (o98 P) (n (o165 P) (n (o293 P) (n (o552 P) l l) l) (n (o424 P) (n (o684 P) l l) l)) (n (o229 P) (n (o360 P) (n (o618 P) l l) l) (n (o488 P) (n (o751 P) l l) l))) (n (o133 P) (n (o197 P) (n (o325 P) (n (o584 P) l l) l) (n (o456 P) (n (o716 P) l l) l)) (n (o261 P) (n (o392 P) (n (o652 P) l l) l) (n (o520 P) l l)))))) (n (o14 P) (n (o22 P) (n (o41 P) (n (o75 P) (n (o145 P) (n (o273 P) (n (o532 P) l l) l) (n (o404 P) (n (o664 P) l l) l)) (n (o209 P) (n (o337 P) (n (o596 P) l l) l) (n (o468 P) (n (o728 P) l l) l))) (n (o110 P) (n (o177 P) (n (o305 P) (n (o564 P) l l) l) (n (o436 P) (n (o696 P) l l) l)) (n (o241 P) (n (o372 P) (n (o630 P) l l) l) (n (o500 P) (n (o763 P) l l) l)))) (n (o57 P) (n (o91 P) (n (o161 P) (n (o289 P) (n (o548 P) l l) l) (n (o420 P) (n (o680 P) l l) l)) (n (o225 P) (n (o353 P) (n (o614 P) l l) l) (n (o484 P) (n (o744 P) l l) l))) (n (o129 P) (n (o193 P) (n (o321 P) (n (o580 P) l l) l) (n (o452 P) (n (o712 P) l l) l)) (n (o257 P) (n (o388 P) (n (o646 P) l l) l) (n (o516 P) l l))))) (n (o747 P) (n (o49 P) (n (o83 P) (n (o153 P) (n (o281 P) (n (o540 P) l l) l) (n (o412 P) (n (o672 P) l l) l)) (n (o217 P) (n (o345 P) (n (o606 P) l l) l) (n (o476 P) (n (o736 P) l l) l))) (n (o356 P) (n (o185 P) (n (o313 P) (n (o572 P) l l) l) (n (o444 P) (n (o704 P) l l) l)) (n (o249 P) (n (o380 P) (n (o638 P) l l) l) (n (o508 P) l l)))) (n (o65 P) (n (o102 P) (n (o169 P) (n (o297 P) (n (o556 P) l l) l) (n (o428 P) (n (o688 P) l l) l)) (n (o233 P) (n (o364 P) (n (o622 P) l l) l) (n (o492 P) (n (o755 P) l l) l))) (n (o137 P) (n (o201 P) (n (o329 P) (n (o588 P) l l) l) (n (o460 P) (n (o720 P) l l) l)) (n (o265 P) (n (o396 P) (n (o656 P) l l) l) (n (o524 P) l l)))))))))
noncomputable def S8 (w : World) (os : OsState) : SharedT := ⟨T8 w.params, 748, {}, #[], {}, 1174, os⟩
noncomputable def ss8 : List Stmt := [st 20, st 21, st 22]
theorem pc8 (w : World) (os : OsState) : segRunT treeTable PySem.Challenge.pw_ny0304_03 w 29 (some (.ref 6)) 1 239 (S7 w os) (piecesOf ss8 en (.body (behindTheImports PySem.Challenge.pw_ny0304_03) en) ⟨470, 0, 721, 20⟩ [topFrame fq]) = some (.next, S8 w os, (.body (behindTheImports PySem.Challenge.pw_ny0304_03) en), ⟨731, 0, 732, 8⟩) := by kernel_rfl
noncomputable def o769 (P : Params) : Obj := ⟨.type "dict", none, (.dict #[E P (S "__name__") 165 (.str (S "law_ny0304_03") 1201), E P (S "__doc__") 166 .none, E P (S "__package__") 167 .none, E P (S "__loader__") 168 (.builtin "__main__.__loader__#opaque"), E P (S "__spec__") 169 .none, E P (S "__annotations__") 170 (.ref 6), E P (S "__builtins__") 171 (.ref 4), E P (S "__file__") 173 (.str (S "/claim/cut.py") 172), E P (S "__cached__") 174 .none, E P (S "deque") 272 (.type "collections.deque"), E P (S "_wall") 285 (.ref 39), E P (S "_whence") 295 (.ref 46), E P (S "_index") 303 (.ref 53), E P (S "UnsupportedOperation") 325 (.ref 63), E P (S "IOBase") 357 (.ref 83), E P (S "BufferedIOBase") 375 (.ref 98), E P (S "TextIOBase") 393 (.ref 110), E P (S "BytesIO") 655 (.ref 340), E P (S "StringIO") 942 (.ref 587), E P (S "_kind") 953 (.ref 596), E P (S "_fspath") 962 (.ref 603), E P (S "_check_arg_types") 972 (.ref 610), E P (S "isabs") 979 (.ref 617), E P (S "join") 990 (.ref 624), E P (S "dirname") 1000 (.ref 631), E P (S "shlex") 1141 (.ref 722), E P (S "split") 1151 (.ref 734), E P (S "Error") 1173 (.ref 744), E P (S "error_reply") 1189 (.ref 757), E P (S "parse257") 1200 (.ref 766), E P (S "_law_piece") 1211 (.ref 773), E P (S "_law_put") 1221 (.ref 780), E P (S "_law_line") 1227 (.ref 785), E P (S "_law_told") 1240 (.ref 792), E P (S "_law_names_along") 1251 (.ref 799), E P (S "law") 1257 (.ref 804)] 36), #[]⟩
noncomputable def o770 (P : Params) : Obj := ⟨.none, none, (.fields #[.int 2 0, .int 0 0, .ref 38, .int 6 0, .int 0 0, .ref 45, .int 11 0, .int 0 0, .ref 52, .int 18 0, .int 0 0, .ref 59, .int 20 0, .int 0 0, .ref 72, .int 27 0, .int 0 0, .ref 94, .int 29 0, .int 0 0, .ref 106, .int 31 0, .int 0 0, .ref 118, .int 201 0, .int 0 0, .ref 348, .int 407 0, .int 0 0, .ref 595, .int 428 0, .int 0 0, .ref 602, .int 433 0, .int 0 0, .ref 609, .int 438 0, .int 0 0, .ref 616, .int 441 0, .int 0 0, .ref 623, .int 461 0, .int 0 0, .ref 630, .int 470 0, .int 0 0, .ref 637, .int 722 0, .int 0 0, .ref 733, .int 731 0, .int 0 0, .ref 740, .int 733 0, .int 0 0, .ref 753, .int 735 0, .int 0 0, .ref 765, .int 753 0, .int 0 0, .ref 772, .int 761 0, .int 0 0, .ref 779, .int 765 0, .int 0 0, .ref 784, .int 767 0, .int 0 0, .ref 791, .int 773 0, .int 0 0, .ref 798, .int 780 0, .int 0 0, .ref 803]), #[]⟩
noncomputable def o771 (P : Params) : Obj := ⟨.type "type", none, (.cls ⟨(S "Error"), [.type "Exception"], [.ref 744, .type "Exception", .type "BaseException", .type "object"], 743, (S "Error"), true, [], [.ref 757], false, none, false⟩), #[(some (.ref 735)), none, (some (.str (S "Error") 1154)), (some (.str (S "Error") 1162)), (some (.builtin "Exception.__new__")), (some (.bool true))]⟩
noncomputable def o772 (P : Params) : Obj := ⟨.type "tuple", none, (.seq #[.ref 744] 0), #[]⟩
noncomputable def o773 (P : Params) : Obj := ⟨.type "builtin_function_or_method", none, (.fields #[.builtin "type.__prepare__", .type "type"]), #[]⟩
noncomputable def o774 (P : Params) : Obj := ⟨.type "dict", none, (.dict #[E P (S "__module__") 1181 (.str (S "cpy313.ftplib") 1152), E P (S "__qualname__") 1183 (.str (S "error_reply") 1182), E P (S "__firstlineno__") 1185 (.int 733 1184), E P (S "__static_attributes__") 1186 (.ref 755)] 4), #[]⟩
noncomputable def o775 (P : Params) : Obj := ⟨.type "tuple", none, (.seq #[] 0), #[]⟩
noncomputable def o776 (P : Params) : Obj := ⟨.none, none, (.fields #[]), #[]⟩
noncomputable def o777 (P : Params) : Obj := ⟨.type "code", none, (.fields #[.str (S "error_reply") 1176, .str (S "error_reply") 1177, .str (S "/claim/cut.py") 1178, .int 733 0, .int 0 0, .int 0 0, .int 0 0, .int 0 0, .ref 751, .bool false, .int 273 0, .ref 752, .none, .none, .none, .none, .int 1179 0, .int 733 0, .str (S "/claim/cut.py") 1180]), #[]⟩
noncomputable def o778 (P : Params) : Obj := ⟨.type "frame", none, .plain, #[(some (.ref 753)), (some (.ref 3)), (some (.ref 750)), none, (some (.str (S "cpy313.ftplib") 1152)), none, (some (.ref 0))]⟩
noncomputable def o779 (P : Params) : Obj := ⟨.type "tuple", none, (.seq #[] 0), #[]⟩
noncomputable def o780 (P : Params) : Obj := ⟨.type "dict", none, (.dict #[E P (S "__module__") 1181 (.str (S "cpy313.ftplib") 1152), E P (S "__firstlineno__") 1185 (.int 733 1184), E P (S "__static_attributes__") 1186 (.ref 755), E P (S "__doc__") 1187 .none] 2), #[]⟩
noncomputable def o781 (P : Params) : Obj := ⟨.type "type", none, (.cls ⟨(S "error_reply"), [.ref 744], [.ref 757, .ref 744, .type "Exception", .type "BaseException", .type "object"], 756, (S "error_reply"), true, [], [], false, none, false⟩), #[(some (.ref 748)), none, (some (.str (S "error_reply") 1174)), (some (.str (S "error_reply") 1182)), (some (.builtin "Exception.__new__")), (some (.bool true))]⟩
noncomputable def o782 (P : Params) : Obj := ⟨.type "super", none, (.fields #[.ref 757, .ref 757, .ref 757]), #[]⟩
noncomputable def o783 (P : Params) : Obj := ⟨.type "builtin_function_or_method", none, (.fields #[.builtin "object.__init_subclass__", .ref 757]), #[]⟩
noncomputable def o784 (P : Params) : Obj := ⟨.type "tuple", none, (.seq #[] 0), #[]⟩
noncomputable def o785 (P : Params) : Obj := ⟨.none, none, (.fields #[]), #[]⟩
noncomputable def o786 (P : Params) : Obj := ⟨.type "tuple", none, (.seq #[.str (S "resp") 1193, .str (S "dirname") 1194, .str (S "i") 1195, .str (S "n") 1196, .str (S "c") 1197] 0), #[]⟩
noncomputable def o787 (P : Params) : Obj := ⟨.type "tuple", none, (.seq #[] 0), #[]⟩
noncomputable def o788 (P : Params) : Obj := ⟨.none, none, (.func (fn (S "parse257") (S "parse257") (st 24) 0 [] .none .none .none .none none .none .none 0)), #[]⟩
noncomputable def o789 (P : Params) : Obj := ⟨.type "code", none, (.fields #[.str (S "parse257") 1190, .str (S "parse257") 1191, .str (S "/claim/cut.py") 1192, .int 735 0, .int 1 0, .int 0 0, .int 0 0, .int 3 0, .ref 760, .bool true, .int 273 0, .ref 761, .none, .ref 762, .ref 763, .ref 764, .int 1198 0, .int 735 0, .str (S "/claim/cut.py") 1199]), #[]⟩
noncomputable def o790 (P : Params) : Obj := ⟨.type "function", none, (.func (fn (S "parse257") (S "parse257") (st 24) 3 [] .none .none .none (.str (S "cpy313.ftplib") 1152) none (.ref 765) .none 0)), #[]⟩
noncomputable def o791 (P : Params) : Obj := ⟨.type "tuple", none, (.seq #[] 0), #[]⟩
noncomputable def o792 (P : Params) : Obj := ⟨.none, none, (.fields #[]), #[]⟩
noncomputable def o793 (P : Params) : Obj := ⟨.type "tuple", none, (.seq #[.str (S "number") 1206, .str (S "kind") 1207, .str (S "code") 1208] 0), #[]⟩
noncomputable def o794 (P : Params) : Obj := ⟨.type "tuple", none, (.seq #[] 0), #[]⟩
noncomputable def o795 (P : Params) : Obj := ⟨.none, none, (.func (fn (S "_law_piece") (S "_law_piece") (st 26) 0 [] .none .none .none .none none .none .none 0)), #[]⟩
noncomputable def o796 (P : Params) : Obj := ⟨.type "code", none, (.fields #[.str (S "_law_piece") 1203, .str (S "_law_piece") 1204, .str (S "/claim/cut.py") 1205, .int 753 0, .int 1 0, .int 0 0, .int 0 0, .int 3 0, .ref 767, .bool true, .int 273 0, .ref 768, .none, .ref 769, .ref 770, .ref 771, .int 1209 0, .int 753 0, .str (S "/claim/cut.py") 1210]), #[]⟩
noncomputable def o797 (P : Params) : Obj := ⟨.type "function", none, (.func (fn (S "_law_piece") (S "_law_piece") (st 26) 3 [] .none .none .none (.str (S "law_ny0304_03") 1201) none (.ref 772) .none 0)), #[]⟩
noncomputable def o798 (P : Params) : Obj := ⟨.type "tuple", none, (.seq #[] 0), #[]⟩
noncomputable def o799 (P : Params) : Obj := ⟨.none, none, (.fields #[]), #[]⟩
noncomputable def o800 (P : Params) : Obj := ⟨.type "tuple", none, (.seq #[.str (S "text") 1215, .str (S "pairs") 1216, .str (S "old") 1217, .str (S "new") 1218] 0), #[]⟩
noncomputable def o801 (P : Params) : Obj := ⟨.type "tuple", none, (.seq #[] 0), #[]⟩
noncomputable def o802 (P : Params) : Obj := ⟨.none, none, (.func (fn (S "_law_put") (S "_law_put") (st 27) 0 [] .none .none .none .none none .none .none 0)), #[]⟩
noncomputable def o803 (P : Params) : Obj := ⟨.type "code", none, (.fields #[.str (S "_law_put") 1212, .str (S "_law_put") 1213, .str (S "/claim/cut.py") 1214, .int 761 0, .int 2 0, .int 0 0, .int 0 0, .int 3 0, .ref 774, .bool true, .int 273 0, .ref 775, .none, .ref 776, .ref 777, .ref 778, .int 1219 0, .int 761 0, .str (S "/claim/cut.py") 1220]), #[]⟩
noncomputable def o804 (P : Params) : Obj := ⟨.type "function", none, (.func (fn (S "_law_put") (S "_law_put") (st 27) 3 [] .none .none .none (.str (S "law_ny0304_03") 1201) none (.ref 779) .none 0)), #[]⟩
noncomputable def o805 (P : Params) : Obj := ⟨.type "tuple", none, (.seq #[] 0), #[]⟩
noncomputable def o806 (P : Params) : Obj := ⟨.none, none, (.fields #[]), #[]⟩
noncomputable def o807 (P : Params) : Obj := ⟨.none, none, (.func (fn (S "_law_line") (S "_law_line") (st 28) 0 [] .none .none .none .none none .none .none 0)), #[]⟩
noncomputable def o808 (P : Params) : Obj := ⟨.type "code", none, (.fields #[.str (S "_law_line") 1222, .str (S "_law_line") 1223, .str (S "/claim/cut.py") 1224, .int 765 0, .int 3 0, .int 0 0, .int 0 0, .int 3 0, .ref 781, .bool true, .int 273 0, .ref 782, .none, .none, .none, .ref 783, .int 1225 0, .int 765 0, .str (S "/claim/cut.py") 1226]), #[]⟩
noncomputable def o809 (P : Params) : Obj := ⟨.type "function", none, (.func (fn (S "_law_line") (S "_law_line") (st 28) 3 [] .none .none .none (.str (S "law_ny0304_03") 1201) none (.ref 784) .none 0)), #[]⟩
noncomputable def o810 (P : Params) : Obj := ⟨.type "tuple", none, (.seq #[] 0), #[]⟩
noncomputable def o811 (P : Params) : Obj := ⟨.none, none, (.fields #[]), #[]⟩
noncomputable def o812 (P : Params) : Obj := ⟨.type "tuple", none, (.seq #[.str (S "stretches") 1231, .str (S "marked") 1232, .str (S "quoted") 1233, .str (S "doubled") 1234, .str (S "names") 1235, .str (S "stretch") 1236, .str (S "lines") 1237] 0), #[]⟩
noncomputable def o813 (P : Params) : Obj := ⟨.type "tuple", none, (.seq #[] 0), #[]⟩
noncomputable def o814 (P : Params) : Obj := ⟨.none, none, (.func (fn (S "_law_told") (S "_law_told") (st 29) 0 [] .none .none .none .none none .none .none 0)), #[]⟩
noncomputable def o815 (P : Params) : Obj := ⟨.type "code", none, (.fields #[.str (S "_law_told") 1228, .str (S "_law_told") 1229, .str (S "/claim/cut.py") 1230, .int 767 0, .int 4 0, .int 0 0, .int 0 0, .int 3 0, .ref 786, .bool true, .int 273 0, .ref 787, .none, .ref 788, .ref 789, .ref 790, .int 1238 0, .int 767 0, .str (S "/claim/cut.py") 1239]), #[]⟩
noncomputable def o816 (P : Params) : Obj := ⟨.type "function", none, (.func (fn (S "_law_told") (S "_law_told") (st 29) 3 [] .none .none .none (.str (S "law_ny0304_03") 1201) none (.ref 791) .none 0)), #[]⟩
noncomputable def o817 (P : Params) : Obj := ⟨.type "tuple", none, (.seq #[] 0), #[]⟩
noncomputable def o818 (P : Params) : Obj := ⟨.none, none, (.fields #[]), #[]⟩
noncomputable def o819 (P : Params) : Obj := ⟨.type "tuple", none, (.seq #[.str (S "text") 1244, .str (S "stretches") 1245, .str (S "names") 1246, .str (S "place") 1247, .str (S "stretch") 1248] 0), #[]⟩
noncomputable def o820 (P : Params) : Obj := ⟨.type "tuple", none, (.seq #[] 0), #[]⟩
noncomputable def o821 (P : Params) : Obj := ⟨.none, none, (.func (fn (S "_law_names_along") (S "_law_names_along") (st 30) 0 [] .none .none .none .none none .none .none 0)), #[]⟩
noncomputable def o822 (P : Params) : Obj := ⟨.type "code", none, (.fields #[.str (S "_law_names_along") 1241, .str (S "_law_names_along") 1242, .str (S "/claim/cut.py") 1243, .int 773 0, .int 2 0, .int 0 0, .int 0 0, .int 3 0, .ref 793, .bool true, .int 273 0, .ref 794, .none, .ref 795, .ref 796, .ref 797, .int 1249 0, .int 773 0, .str (S "/claim/cut.py") 1250]), #[]⟩
noncomputable def o823 (P : Params) : Obj := ⟨.type "function", none, (.func (fn (S "_law_names_along") (S "_law_names_along") (st 30) 3 [] .none .none .none (.str (S "law_ny0304_03") 1201) none (.ref 798) .none 0)), #[]⟩
noncomputable def o824 (P : Params) : Obj := ⟨.type "tuple", none, (.seq #[] 0), #[]⟩
noncomputable def o825 (P : Params) : Obj := ⟨.none, none, (.fields #[]), #[]⟩
noncomputable def o826 (P : Params) : Obj := ⟨.none, none, (.func (fn (S "law") (S "law") (st 31) 0 [] .none .none .none .none none .none .none 0)), #[]⟩
noncomputable def o827 (P : Params) : Obj := ⟨.type "code", none, (.fields #[.str (S "law") 1252, .str (S "law") 1253, .str (S "/claim/cut.py") 1254, .int 780 0, .int 1 0, .int 0 0, .int 0 0, .int 3 0, .ref 800, .bool true, .int 273 0, .ref 801, .none, .none, .none, .ref 802, .int 1255 0, .int 780 0, .str (S "/claim/cut.py") 1256]), #[]⟩
noncomputable def o828 (P : Params) : Obj := ⟨.type "function", none, (.func (fn (S "law") (S "law") (st 31) 3 [] .none .none .none (.str (S "law_ny0304_03") 1201) none (.ref 803) .none 0)), #[]⟩
noncomputable def T9 (P : Params) : BT := (n (o0 P) (n (o1 P) (n (o769 P) (n (o7 P) (n (o15 P) (n (o31 P) (n (o66 P) (n (o138 P) (n (o266 P) (n (o525 P) l l) (n (o791 P) l l)) (n (o397 P) (n (o657 P) l l) l)) (n (o202 P) (n (o330 P) (n (o589 P) l l) l) (n (o461 P) (n (o721 P) l l) l))) (n (o103 P) (n (o170 P) (n (o298 P) (n (o557 P) l l) (n (o823 P) l l)) (n (o429 P) (n (o689 P) l l) l)) (n (o234 P) (n (o365 P) (n (o623 P) l l) l) (n (o493 P) (n (o756 P) l l) l)))) (n (o50 P) (n (o84 P) (n (o154 P) (n (o282 P) (n (o541 P) l l) (n (o807 P) l l)) (n (o413 P) (n (o673 P) l l) l)) (n (o218 P) (n (o346 P) (n (o607 P) l l) l) (n (o477 P) (n (o737 P) l l) l))) (n (o119 P) (n (o186 P) (n (o314 P) (n (o573 P) l l) l) (n (o445 P) (n (o705 P) l l) l)) (n (o250 P) (n (o381 P) (n (o639 P) l l) l) (n (o509 P) (n (o775 P) l l) l))))) (n (o23 P) (n (o42 P) (n (o76 P) (n (o146 P) (n (o274 P) (n (o533 P) l l) (n (o799 P) l l)) (n (o405 P) (n (o665 P) l l) l)) (n (o210 P) (n (o338 P) (n (o597 P) l l) l) (n (o469 P) (n (o729 P) l l) l))) (n (o111 P) (n (o178 P) (n (o306 P) (n (o565 P) l l) l) (n (o437 P) (n (o697 P) l l) l)) (n (o242 P) (n (o373 P) (n (o631 P) l l) l) (n (o501 P) (n (o764 P) l l) l)))) (n (o58 P) (n (o92 P) (n (o162 P) (n (o290 P) (n (o549 P) l l) (n (o815 P) l l)) (n (o421 P) (n (o681 P) l l) l)) (n (o226 P) (n (o357 P) (n (o615 P) l l) l) (n (o485 P) (n (o748 P) l l) l))) (n (o130 P) (n (o194 P) (n (o322 P) (n (o581 P) l l) l) (n (o453 P) (n (o713 P) l l) l)) (n (o258 P) (n (o389 P) (n (o647 P) l l) l) (n (o517 P) (n (o783 P) l l) l)))))) (n (o11 P) (n (o19 P) (n (o38 P) (n (o72 P) (n (o142 P) (n (o270 P) (n (o529 P) l l) (n (o795 P) l l)) (n (o401 P) (n (o661 P) l l) l)) (n (o206 P) (n (o334 P) (n (o593 P) l l) l) (n (o465 P) (n (o725 P) l l) l))) (n (o107 P) (n (o174 P) (n (o302 P) (n (o561 P) l l) (n (o827 P) l l)) (n (o433 P) (n (o693 P) l l) l)) (n (o238 P) (n (o369 P) (n (o627 P) l l) l) (n (o497 P) (n (o760 P) l l) l)))) (n (o54 P) (n (o96 P) (n (o158 P) (n (o286 P) (n (o545 P) l l) (n (o811 P) l l)) (n (o417 P) (n (o677 P) l l) l)) (n (o222 P) (n (o350 P) (n (o611 P) l l) l) (n (o481 P) (n (o741 P) l l) l))) (n (o126 P) (n (o190 P) (n (o318 P) (n (o577 P) l l) l) (n (o449 P) (n (o709 P) l l) l)) (n (o254 P) (n (o385 P) (n (o643 P) l l) l) (n (o513 P) (n (o779 P) l l) l))))) (n (o27 P) (n (o46 P) (n (o80 P) (n (o150 P) (n (o278 P) (n (o537 P) l l) (n (o803 P) l l)) (n (o409 P) (n (o669 P) l l) l)) (n (o214 P) (n (o342 P) (n (o601 P) l l) l) (n (o473 P) (n (o733 P) l l) l))) (n (o115 P) (n (o182 P) (n (o310 P) (n (o569 P) l l) l) (n (o441 P) (n (o701 P) l l) l)) (n (o246 P) (n (o377 P) (n (o635 P) l l) l) (n (o505 P) (n (o768 P) l l) l)))) (n (o62 P) (n (o99 P) (n (o166 P) (n (o294 P) (n (o553 P) l l) (n (o819 P) l l)) (n (o425 P) (n (o685 P) l l) l)) (n (o230 P) (n (o361 P) (n (o619 P) l l) l) (n (o489 P) (n (o752 P) l l) l))) (n (o134 P) (n (o198 P) (n (o326 P) (n (o585 P) l l) l) (n (o457 P) (n (o717 P) l l) l)) (n (o262 P) (n (o393 P) (n (o653 P) l l) l) (n (o521 P) (n (o787 P) l l) l))))))) (n (o5 P) (n (o9 P) (n (o17 P) (n (o36 P) (n (o68 P) (n (o140 P) (n (o268 P) (n (o527 P) l l) (n (o793 P) l l)) (n (o399 P) (n (o659 P) l l) l)) (n (o204 P) (n (o332 P) (n (o591 P) l l) l) (n (o463 P) (n (o723 P) l l) l))) (n (o105 P) (n (o172 P) (n (o300 P) (n (o559 P) l l) (n (o825 P) l l)) (n (o431 P) (n (o691 P) l l) l)) (n (o236 P) (n (o367 P) (n (o625 P) l l) l) (n (o495 P) (n (o758 P) l l) l)))) (n (o52 P) (n (o86 P) (n (o156 P) (n (o284 P) (n (o543 P) l l) (n (o809 P) l l)) (n (o415 P) (n (o675 P) l l) l)) (n (o220 P) (n (o348 P) (n (o609 P) l l) l) (n (o479 P) (n (o739 P) l l) l))) (n (o124 P) (n (o188 P) (n (o316 P) (n (o575 P) l l) l) (n (o447 P) (n (o707 P) l l) l)) (n (o252 P) (n (o383 P) (n (o641 P) l l) l) (n (o511 P) (n (o777 P) l l) l))))) (n (o25 P) (n (o44 P) (n (o78 P) (n (o148 P) (n (o276 P) (n (o535 P) l l) (n (o801 P) l l)) (n (o407 P) (n (o667 P) l l) l)) (n (o212 P) (n (o340 P) (n (o599 P) l l) l) (n (o471 P) (n (o731 P) l l) l))) (n (o113 P) (n (o180 P) (n (o308 P) (n (o567 P) l l) l) (n (o439 P) (n (o699 P) l l) l)) (n (o244 P) (n (o375 P) (n (o633 P) l l) l) (n (o503 P) (n (o766 P) l l) l)))) (n (o60 P) (n (o97 P) (n (o164 P) (n (o292 P) (n (o551 P) l l) (n (o817 P) l l)) (n (o423 P) (n (o683 P) l l) l)) (n (o228 P) (n (o359 P) (n (o617 P) l l) l) (n (o487 P) (n (o750 P) l l) l))) (n (o132 P) (n (o196 P) (n (o324 P) (n (o583 P) l l) l) (n (o455 P) (n (o715 P) l l) l)) (n (o260 P) (n (o391 P) (n (o651 P) l l) l) (n (o519 P) (n (o785 P) l l) l)))))) (n (o13 P) (n (o21 P) (n (o40 P) (n (o74 P) (n (o144 P) (n (o272 P) (n (o531 P) l l) (n (o797 P) l l)) (n (o403 P) (n (o663 P) l l) l)) (n (o208 P) (n (o336 P) (n (o595 P) l l) l) (n (o467 P) (n (o727 P) l l) l))) (n (o109 P) (n (o176 P) (n (o304 P) (n (o563 P) l l) l) (n (o435 P) (n (o695 P) l l) l)) (n (o240 P) (n (o371 P) (n (o629 P) l l) l) (n (o499 P) (n (o762 P) l l) l)))) (n (o56 P) (n (o90 P) (n (o160 P) (n (o288 P) (n (o547 P) l l) (n (o813 P) l l)) (n (o419 P) (n (o679 P) l l) l)) (n (o224 P) (n (o352 P) (n (o613 P) l l) l) (n (o483 P) (n (o743 P) l l) l))) (n (o128 P) (n (o192 P) (n (o320 P) (n (o579 P) l l) l) (n (o451 P) (n (o711 P) l l) l)) (n (o256 P) (n (o387 P) (n (o645 P) l l) l) (n (o515 P) (n (o781 P) l l) l))))) (n (o29 P) (n (o48 P) (n (o82 P) (n (o152 P) (n (o280 P) (n (o539 P) l l) (n (o805 P) l l)) (n (o411 P) (n (o671 P) l l) l)) (n (o216 P) (n (o344 P) (n (o603 P) l l) l) (n (o475 P) (n (o735 P) l l) l))) (n (o117 P) (n (o184 P) (n (o312 P) (n (o571 P) l l) l) (n (o443 P) (n (o703 P) l l) l)) (n (o248 P) (n (o379 P) (n (o637 P) l l) l) (n (o507 P) (n (o773 P) l l) l)))) (n (o64 P) (n (o101 P) (n (o168 P) (n (o296 P) (n (o555 P) l l) (n (o821 P) l l)) (n (o427 P) (n (o687 P) l l) l)) (n (o232 P) (n (o363 P) (n (o621 P) l l) l) (n (o491 P) (n (o754 P) l l) l))) (n (o136 P) (n (o200 P) (n (o328 P) (n (o587 P) l l) l) (n (o459 P) (n (o719 P) l l) l)) (n (o264 P) (n (o395 P) (n (o655 P) l l) l) (n (o523 P) (n (o789 P) l l) l)))))))) (n (o745 P) (n (o4 P) (n (o8 P) (n (o16 P) (n (o32 P) (n (o67 P) (n (o139 P) (n (o267 P) (n (o526 P) l l) (n (o792 P) l l)) (n (o398 P) (n (o658 P) l l) l)) (n (o203 P) (n (o331 P) (n (o590 P) l l) l) (n (o462 P) (n (o722 P) l l) l))) (n (o104 P) (n (o171 P) (n (o299 P) (n (o558 P) l l) (n (o824 P) l l)) (n (o430 P) (n (o690 P) l l) l)) (n (o235 P) (n (o366 P) (n (o624 P) l l) l) (n (o494 P) (n (o757 P) l l) l)))) (n (o51 P) (n (o85 P) (n (o155 P) (n (o283 P) (n (o542 P) l l) (n (o808 P) l l)) (n (o414 P) (n (o674 P) l l) l)) (n (o219 P) (n (o347 P) (n (o608 P) l l) l) (n (o478 P) (n (o738 P) l l) l))) (n (o120 P) (n (o187 P) (n (o315 P) (n (o574 P) l l) l) (n (o446 P) (n (o706 P) l l) l)) (n (o251 P) (n (o382 P) (n (o640 P) l l) l) (n (o510 P) (n (o776 P) l l) l))))) (n (o24 P) (n (o43 P) (n (o77 P) (n (o147 P) (n (o275 P) (n (o534 P) l l) (n (o800 P) l l)) (n (o406 P) (n (o666 P) l l) l)) (n (o211 P) (n (o339 P) (n (o598 P) l l) l) (n (o470 P) (n (o730 P) l l) l))) (n (o112 P) (n (o179 P) (n (o307 P) (n (o566 P) l l) l) (n (o438 P) (n (o698 P) l l) l)) (n (o243 P) (n (o374 P) (n (o632 P) l l) l) (n (o502 P) (n (o771 P) l l) l)))) (n (o59 P) (n (o93 P) (n (o163 P) (n (o291 P) (n (o550 P) l l) (n (o816 P) l l)) (n (o422 P) (n (o682 P) l l) l)) (n (o227 P) (n (o358 P) (n (o616 P) l l) l) (n (o486 P) (n (o749 P) l l) l))) (n (o131 P) (n (o195 P) (n (o323 P) (n (o582 P) l l) l) (n (o454 P) (n (o714 P) l l) l)) (n (o259 P) (n (o390 P) (n (o650 P) l l) l) (n (o518 P) (n (o784 P) l l) l)))))) (n (o12 P) (n (o20 P) (n (o39 P) (n (o73 P) (n (o143 P) (n (o271 P) (n (o530 P) l l) (n (o796 P) l l)) (n (o402 P) (n (o662 P) l l) l)) (n (o207 P) (n (o335 P) (n (o594 P) l l) l) (n (o466 P) (n (o726 P) l l) l))) (n (o108 P) (n (o175 P) (n (o303 P) (n (o562 P) l l) (n (o828 P) l l)) (n (o434 P) (n (o694 P) l l) l)) (n (o239 P) (n (o370 P) (n (o628 P) l l) l) (n (o498 P) (n (o761 P) l l) l)))) (n (o55 P) (n (o89 P) (n (o159 P) (n (o287 P) (n (o546 P) l l) (n (o812 P) l l)) (n (o418 P) (n (o678 P) l l) l)) (n (o223 P) (n (o351 P) (n (o612 P) l l) l) (n (o482 P) (n (o742 P) l l) l))) (n (o127 P) (n (o191 P) (n (o319 P) (n (o578 P) l l) l) (n (o450 P) (n (o710 P) l l) l)) (n (o255 P) (n (o386 P) (n (o644 P) l l) l) (n (o514 P) (n (o780 P) l l) l))))) (n (o28 P) (n (o47 P) (n (o81 P) (n (o151 P) (n (o279 P) (n (o538 P) l l) (n (o804 P) l l)) (n (o410 P) (n (o670 P) l l) l)) (n (o215 P) (n (o343 P) (n (o602 P) l l) l) (n (o474 P) (n (o734 P) l l) l))) (n (o116 P) (n (o183 P) (n (o311 P) (n (o570 P) l l) l) (n (o442 P) (n (o702 P) l l) l)) (n (o247 P) (n (o378 P) (n (o636 P) l l) l) (n (o506 P) (n (o772 P) l l) l)))) (n (o63 P) (n (o100 P) (n (o167 P) (n (o295 P) (n (o554 P) l l) (n (o820 P) l l)) (n (o426 P) (n (o686 P) l l) l)) (n (o231 P) (n (o362 P) (n (o620 P) l l) l) (n (o490 P) (n (o753 P) l l) l))) (n (o135 P) (n (o199 P) (n (o327 P) (n (o586 P) l l) l) (n (o458 P) (n (o718 P) l l) l)) (n (o263 P) (n (o394 P) (n (o654 P) l l) l) (n (o522 P) (n (o788 P) l l) l))))))) (n (o6 P) (n (o10 P) (n (o18 P) (n (o37 P) (n (o69 P) (n (o141 P) (n (o269 P) (n (o528 P) l l) (n (o794 P) l l)) (n (o400 P) (n (o660 P) l l) l)) (n (o205 P) (n (o333 P) (n (o592 P) l l) l) (n (o464 P) (n (o724 P) l l) l))) (n (o123 P) (n (o173 P) (n (o301 P) (n (o560 P) l l) (n (o826 P) l l)) (n (o432 P) (n (o692 P) l l) l)) (n (o237 P) (n (o368 P) (n (o626 P) l l) l) (n (o496 P) (n (o759 P) l l) l)))) (n (o53 P) (n (o87 P) (n (o157 P) (n (o285 P) (n (o544 P) l l) (n (o810 P) l l)) (n (o416 P) (n (o676 P) l l) l)) (n (o221 P) (n (o349 P) (n (o610 P) l l) l) (n (o480 P) (n (o740 P) l l) l))) (n (o125 P) (n (o189 P) (n (o317 P) (n (o576 P) l l) l) (n (o448 P) (n (o708 P) l l) l)) (n (o253 P) (n (o384 P) (n (o642 P) l l) l) (n (o512 P) (n (o778 P) l l) l))))) (n (o26 P) (n (o45 P) (n (o79 P) (n (o149 P) (n (o277 P) (n (o536 P) l l) (n (o802 P) l l)) (n (o408 P) (n (o668 P) l l) l)) (n (o213 P) (n (o341 P) (n (o600 P) l l) l) (n (o472 P) (n (o732 P) l l) l))) (n (o114 P) (n (o181 P) (n (o309 P) (n (o568 P) l l) l) (n (o440 P) (n (o700 P) l l) l)) (n (o245 P) (n (o376 P) (n (o634 P) l l) l) (n (o504 P) (n (o767 P) l l) l)))) (n (o61 P) (n (o98 P) (n (o165 P) (n (o293 P) (n (o552 P) l l) (n (o818 P) l l)) (n (o424 P) (n (o684 P) l l) l)) (n (o229 P) (n (o360 P) (n (o618 P) l l) l) (n (o488 P) (n (o751 P) l l) l))) (n (o133 P) (n (o197 P) (n (o325 P) (n (o584 P) l l) l) (n (o456 P) (n (o716 P) l l) l)) (n (o261 P) (n (o392 P) (n (o652 P) l l) l) (n (o520 P) (n (o786 P) l l) l)))))) (n (o14 P) (n (o22 P) (n (o41 P) (n (o75 P) (n (o145 P) (n (o273 P) (n (o532 P) l l) (n (o798 P) l l)) (n (o404 P) (n (o664 P) l l) l)) (n (o209 P) (n (o337 P) (n (o596 P) l l) l) (n (o468 P) (n (o728 P) l l) l))) (n (o110 P) (n (o177 P) (n (o305 P) (n (o564 P) l l) l) (n (o436 P) (n (o696 P) l l) l)) (n (o241 P) (n (o372 P) (n (o630 P) l l) l) (n (o500 P) (n (o763 P) l l) l)))) (n (o57 P) (n (o91 P) (n (o161 P) (n (o289 P) (n (o548 P) l l) (n (o814 P) l l)) (n (o420 P) (n (o680 P) l l) l)) (n (o225 P) (n (o353 P) (n (o614 P) l l) l) (n (o484 P) (n (o744 P) l l) l))) (n (o129 P) (n (o193 P) (n (o321 P) (n (o580 P) l l) l) (n (o452 P) (n (o712 P) l l) l)) (n (o257 P) (n (o388 P) (n (o646 P) l l) l) (n (o516 P) (n (o782 P) l l) l))))) (n (o770 P) (n (o49 P) (n (o83 P) (n (o153 P) (n (o281 P) (n (o540 P) l l) (n (o806 P) l l)) (n (o412 P) (n (o672 P) l l) l)) (n (o217 P) (n (o345 P) (n (o606 P) l l) l) (n (o476 P) (n (o736 P) l l) l))) (n (o356 P) (n (o185 P) (n (o313 P) (n (o572 P) l l) l) (n (o444 P) (n (o704 P) l l) l)) (n (o249 P) (n (o380 P) (n (o638 P) l l) l) (n (o508 P) (n (o774 P) l l) l)))) (n (o65 P) (n (o102 P) (n (o169 P) (n (o297 P) (n (o556 P) l l) (n (o822 P) l l)) (n (o428 P) (n (o688 P) l l) l)) (n (o233 P) (n (o364 P) (n (o622 P) l l) l) (n (o492 P) (n (o755 P) l l) l))) (n (o137 P) (n (o201 P) (n (o329 P) (n (o588 P) l l) l) (n (o460 P) (n (o720 P) l l) l)) (n (o265 P) (n (o396 P) (n (o656 P) l l) l) (n (o524 P) (n (o790 P) l l) l)))))))))
noncomputable def S9 (w : World) (os : OsState) : SharedT := ⟨T9 w.params, 805, {}, #[], {}, 1258, os⟩
noncomputable def ss9 : List Stmt := [st 23, st 24, st 25, st 26, st 27, st 28, st 29, st 30, st 31]
theorem pc9 (w : World) (os : OsState) : segRunT treeTable PySem.Challenge.pw_ny0304_03 w 29 (some (.ref 6)) 1 439 (S8 w os) (piecesOf ss9 en (.body (behindTheImports PySem.Challenge.pw_ny0304_03) en) ⟨731, 0, 732, 8⟩ [topFrame fq]) = some (.next, S9 w os, (.body (behindTheImports PySem.Challenge.pw_ny0304_03) en), ⟨780, 0, 793, 93⟩) := by kernel_rfl
noncomputable def H1 (P : Params) : Heap := ⟨⟨[o0 P, o1 P, o745 P, o769 P, o4 P, o5 P, o6 P, o7 P, o8 P, o9 P, o10 P, o11 P, o12 P, o13 P, o14 P, o15 P, o16 P, o17 P, o18 P, o19 P, o20 P, o21 P, o22 P, o23 P, o24 P, o25 P, o26 P, o27 P, o28 P, o29 P, o770 P, o31 P, o32 P, o36 P, o37 P, o38 P, o39 P, o40 P, o41 P, o42 P, o43 P, o44 P, o45 P, o46 P, o47 P, o48 P, o49 P, o50 P, o51 P, o52 P, o53 P, o54 P, o55 P, o56 P, o57 P, o58 P, o59 P, o60 P, o61 P, o62 P, o63 P, o64 P, o65 P, o66 P, o67 P, o68 P, o69 P, o72 P, o73 P, o74 P, o75 P, o76 P, o77 P, o78 P, o79 P, o80 P, o81 P, o82 P, o83 P, o84 P, o85 P, o86 P, o87 P, o96 P, o89 P, o90 P, o91 P, o92 P, o93 P, o97 P, o98 P, o99 P, o100 P, o101 P, o102 P, o103 P, o104 P, o105 P, o123 P, o107 P, o108 P, o109 P, o110 P, o111 P, o112 P, o113 P, o114 P, o115 P, o116 P, o117 P, o356 P, o119 P, o120 P, o124 P, o125 P, o126 P, o127 P, o128 P, o129 P, o130 P, o131 P, o132 P, o133 P, o134 P, o135 P, o136 P, o137 P, o138 P, o139 P, o140 P, o141 P, o142 P, o143 P, o144 P, o145 P, o146 P, o147 P, o148 P, o149 P, o150 P, o151 P, o152 P, o153 P, o154 P, o155 P, o156 P, o157 P, o158 P, o159 P, o160 P, o161 P, o162 P, o163 P, o164 P, o165 P, o166 P, o167 P, o168 P, o169 P, o170 P, o171 P, o172 P, o173 P, o174 P, o175 P, o176 P, o177 P, o178 P, o179 P, o180 P, o181 P, o182 P, o183 P, o184 P, o185 P, o186 P, o187 P, o188 P, o189 P, o190 P, o191 P, o192 P, o193 P, o194 P, o195 P, o196 P, o197 P, o198 P, o199 P, o200 P, o201 P, o202 P, o203 P, o204 P, o205 P, o206 P, o207 P, o208 P, o209 P, o210 P, o211 P, o212 P, o213 P, o214 P, o215 P, o216 P, o217 P, o218 P, o219 P, o220 P, o221 P, o222 P, o223 P, o224 P, o225 P, o226 P, o227 P, o228 P, o229 P, o230 P, o231 P, o232 P, o233 P, o234 P, o235 P, o236 P, o237 P, o238 P, o239 P, o240 P, o241 P, o242 P, o243 P, o244 P, o245 P, o246 P, o247 P, o248 P, o249 P, o250 P, o251 P, o252 P, o253 P, o254 P, o255 P, o256 P, o257 P, o258 P, o259 P, o260 P, o261 P, o262 P, o263 P, o264 P, o265 P, o266 P, o267 P, o268 P, o269 P, o270 P, o271 P, o272 P, o273 P, o274 P, o275 P, o276 P, o277 P, o278 P, o279 P, o280 P, o281 P, o282 P, o283 P, o284 P, o285 P, o286 P, o287 P, o288 P, o289 P, o290 P, o291 P, o292 P, o293 P, o294 P, o295 P, o296 P, o297 P, o298 P, o299 P, o300 P, o301 P, o302 P, o303 P, o304 P, o305 P, o306 P, o307 P, o308 P, o309 P, o310 P, o311 P, o312 P, o313 P, o314 P, o315 P, o316 P, o317 P, o318 P, o319 P, o320 P, o321 P, o322 P, o323 P, o324 P, o325 P, o326 P, o327 P, o328 P, o329 P, o330 P, o331 P, o332 P, o333 P, o334 P, o335 P, o336 P, o337 P, o338 P, o339 P, o340 P, o341 P, o342 P, o343 P, o344 P, o345 P, o346 P, o347 P, o348 P, o349 P, o350 P, o351 P, o352 P, o353 P, o357 P, o358 P, o359 P, o360 P, o361 P, o362 P, o363 P, o364 P, o365 P, o366 P, o367 P, o368 P, o369 P, o370 P, o371 P, o372 P, o373 P, o374 P, o375 P, o376 P, o377 P, o378 P, o379 P, o380 P, o381 P, o382 P, o383 P, o384 P, o385 P, o386 P, o387 P, o388 P, o389 P, o390 P, o391 P, o392 P, o393 P, o394 P, o395 P, o396 P, o397 P, o398 P, o399 P, o400 P, o401 P, o402 P, o403 P, o404 P, o405 P, o406 P, o407 P, o408 P, o409 P, o410 P, o411 P, o412 P, o413 P, o414 P, o415 P, o416 P, o417 P, o418 P, o419 P, o420 P, o421 P, o422 P, o423 P, o424 P, o425 P, o426 P, o427 P, o428 P, o429 P, o430 P, o431 P, o432 P, o433 P, o434 P, o435 P, o436 P, o437 P, o438 P, o439 P, o440 P, o441 P, o442 P, o443 P, o444 P, o445 P, o446 P, o447 P, o448 P, o449 P, o450 P, o451 P, o452 P, o453 P, o454 P, o455 P, o456 P, o457 P, o458 P, o459 P, o460 P, o461 P, o462 P, o463 P, o464 P, o465 P, o466 P, o467 P, o468 P, o469 P, o470 P, o471 P, o472 P, o473 P, o474 P, o475 P, o476 P, o477 P, o478 P, o479 P, o480 P, o481 P, o482 P, o483 P, o484 P, o485 P, o486 P, o487 P, o488 P, o489 P, o490 P, o491 P, o492 P, o493 P, o494 P, o495 P, o496 P, o497 P, o498 P, o499 P, o500 P, o501 P, o502 P, o503 P, o504 P, o505 P, o506 P, o507 P, o508 P, o509 P, o510 P, o511 P, o512 P, o513 P, o514 P, o515 P, o516 P, o517 P, o518 P, o519 P, o520 P, o521 P, o522 P, o523 P, o524 P, o525 P, o526 P, o527 P, o528 P, o529 P, o530 P, o531 P, o532 P, o533 P, o534 P, o535 P, o536 P, o537 P, o538 P, o539 P, o540 P, o541 P, o542 P, o543 P, o544 P, o545 P, o546 P, o547 P, o548 P, o549 P, o550 P, o551 P, o552 P, o553 P, o554 P, o555 P, o556 P, o557 P, o558 P, o559 P, o560 P, o561 P, o562 P, o563 P, o564 P, o565 P, o566 P, o567 P, o568 P, o569 P, o570 P, o571 P, o572 P, o573 P, o574 P, o575 P, o576 P, o577 P, o578 P, o579 P, o580 P, o581 P, o582 P, o583 P, o584 P, o585 P, o586 P, o587 P, o588 P, o589 P, o590 P, o591 P, o592 P, o593 P, o594 P, o595 P, o596 P, o597 P, o598 P, o599 P, o600 P, o601 P, o602 P, o603 P, o606 P, o607 P, o608 P, o609 P, o610 P, o611 P, o612 P, o613 P, o614 P, o615 P, o616 P, o617 P, o618 P, o619 P, o620 P, o621 P, o622 P, o623 P, o624 P, o625 P, o626 P, o627 P, o628 P, o629 P, o630 P, o631 P, o632 P, o633 P, o634 P, o635 P, o636 P, o637 P, o638 P, o639 P, o640 P, o641 P, o642 P, o643 P, o644 P, o645 P, o646 P, o647 P, o650 P, o651 P, o652 P, o653 P, o654 P, o655 P, o656 P, o657 P, o658 P, o659 P, o660 P, o661 P, o662 P, o663 P, o664 P, o665 P, o666 P, o667 P, o668 P, o669 P, o670 P, o671 P, o672 P, o673 P, o674 P, o675 P, o676 P, o677 P, o678 P, o679 P, o680 P, o681 P, o682 P, o683 P, o684 P, o685 P, o686 P, o687 P, o688 P, o689 P, o690 P, o691 P, o692 P, o693 P, o694 P, o695 P, o696 P, o697 P, o698 P, o699 P, o700 P, o701 P, o702 P, o703 P, o704 P, o705 P, o706 P, o707 P, o708 P, o709 P, o710 P, o711 P, o712 P, o713 P, o714 P, o715 P, o716 P, o717 P, o718 P, o719 P, o720 P, o721 P, o722 P, o723 P, o724 P, o725 P, o726 P, o727 P, o728 P, o729 P, o730 P, o731 P, o732 P, o733 P, o734 P, o735 P, o736 P, o737 P, o738 P, o739 P, o740 P, o741 P, o742 P, o743 P, o744 P, o748 P, o749 P, o750 P, o751 P, o752 P, o753 P, o754 P, o755 P, o756 P, o757 P, o758 P, o759 P, o760 P, o761 P, o762 P, o763 P, o764 P, o771 P, o766 P, o767 P, o768 P, o772 P, o773 P, o774 P, o775 P, o776 P, o777 P, o778 P, o779 P, o780 P, o781 P, o782 P, o783 P, o784 P, o785 P, o786 P, o787 P, o788 P, o789 P, o790 P, o791 P, o792 P, o793 P, o794 P, o795 P, o796 P, o797 P, o798 P, o799 P, o800 P, o801 P, o802 P, o803 P, o804 P, o805 P, o806 P, o807 P, o808 P, o809 P, o810 P, o811 P, o812 P, o813 P, o814 P, o815 P, o816 P, o817 P, o818 P, o819 P, o820 P, o821 P, o822 P, o823 P, o824 P, o825 P, o826 P, o827 P, o828 P]⟩, {}⟩
theorem fin (w : World) (os : OsState) : topRun treeTable PySem.Challenge.pw_ny0304_03 w 29 (some (.ref 6)) 2 (S9 w os).abs ⟨doneF .next, (.body (behindTheImports PySem.Challenge.pw_ny0304_03) en), ⟨780, 0, 793, 93⟩, [topFrame fq]⟩ = some ⟨H1 w.params, #[], {}, 1258, os⟩ := by kernel_rfl
theorem body_is : behindTheImports PySem.Challenge.pw_ny0304_03 = (ss1 ++ (ss2 ++ (ss3 ++ (ss4 ++ (ss5 ++ (ss6 ++ (ss7 ++ (ss8 ++ (ss9 ++ []))))))))) := by kernel_rfl
theorem tail (w : World) (os : OsState) : topRun treeTable PySem.Challenge.pw_ny0304_03 w 29 (some (.ref 6)) (307 + (240 + (447 + (1278 + (1578 + (207 + (633 + (239 + (439 + 2))))))))) (S0 w os).abs (restOf (ss1 ++ (ss2 ++ (ss3 ++ (ss4 ++ (ss5 ++ (ss6 ++ (ss7 ++ (ss8 ++ (ss9 ++ []))))))))) en (.body (behindTheImports PySem.Challenge.pw_ny0304_03) en) ⟨0, 0, 0, 0⟩ [topFrame fq]) = some ⟨H1 w.params, #[], {}, 1258, os⟩ := (piece_app (env := en) (rest := (ss2 ++ (ss3 ++ (ss4 ++ (ss5 ++ (ss6 ++ (ss7 ++ (ss8 ++ (ss9 ++ []))))))))) (segRun_of (pc1 w os)) (piece_app (env := en) (rest := (ss3 ++ (ss4 ++ (ss5 ++ (ss6 ++ (ss7 ++ (ss8 ++ (ss9 ++ [])))))))) (segRun_of (pc2 w os)) (piece_app (env := en) (rest := (ss4 ++ (ss5 ++ (ss6 ++ (ss7 ++ (ss8 ++ (ss9 ++ []))))))) (segRun_of (pc3 w os)) (piece_app (env := en) (rest := (ss5 ++ (ss6 ++ (ss7 ++ (ss8 ++ (ss9 ++ [])))))) (segRun_of (pc4 w os)) (piece_app (env := en) (rest := (ss6 ++ (ss7 ++ (ss8 ++ (ss9 ++ []))))) (segRun_of (pc5 w os)) (piece_app (env := en) (rest := (ss7 ++ (ss8 ++ (ss9 ++ [])))) (segRun_of (pc6 w os)) (piece_app (env := en) (rest := (ss8 ++ (ss9 ++ []))) (segRun_of (pc7 w os)) (piece_app (env := en) (rest := (ss9 ++ [])) (segRun_of (pc8 w os)) (piece_app (env := en) (rest := []) (segRun_of (pc9 w os)) (piece_nil (fin w os)))))))))))
theorem run (w : World) (os : OsState) : topRun treeTable PySem.Challenge.pw_ny0304_03 w 29 (some (.ref 6)) (12 + (1 + (307 + (240 + (447 + (1278 + (1578 + (207 + (633 + (239 + (439 + 2))))))))))) ⟨H0 w.params, #[], {}, 273, os⟩ (topStub PySem.Challenge.pw_ny0304_03) = some ⟨H1 w.params, #[], {}, 1258, os⟩ :=
  go_top (pre w os) (piece_block (blk w os) (by have h := tail w os; rw [← body_is] at h; exact h))
noncomputable def lo : List Str := [(S "UnsupportedOperation"), (S "IOBase"), (S "BufferedIOBase"), (S "TextIOBase"), (S "BytesIO"), (S "StringIO"), (S "shlex"), (S "split")]
noncomputable def vw : Program := view PySem.Challenge.pw_ny0304_03 [0, 1, 3, 4, 5, 6, 7, 8, 9, 10, 12, 13, 14, 15, 16, 17, 19, 22, 23, 24, 26, 27, 28, 29, 30, 31]
/-- the heap holds all that the top has made -/
noncomputable def BaseOk (P : Params) (h : Heap) : Prop := ∀ i o, Nat.blt i 805 = true → (T9 P).get i = some o → h.get? i = some o
noncomputable def obs (s : Shared) : List (Option Obj) := (List.range 805).map s.heap.get?
noncomputable def vals (w : World) : List (Option Obj) := (List.range 805).map (T9 w.params).get
theorem base_of (w : World) (s : Shared) (e : obs s = vals w) : BaseOk w.params s.heap := fun i o hi h => by
  have hi : i < 805 := Nat.le_of_ble_eq_true hi
  have := congrArg (fun l => l[i]?) e
  simp only [obs, vals, List.getElem?_map, List.getElem?_range hi, Option.map_some, Option.some.injEq] at this
  rw [this, h]
theorem base_keeps (w : World) (h h' : Heap) (x : BaseOk w.params h) (k : ∀ b o, h.get? b = some o → h'.get? b = some o) : BaseOk w.params h' := fun i o hi e => k i o (x i o hi e)
theorem opened (w : World) : (fencedOpening treeTable PySem.Challenge.pw_ny0304_03 w 10844).map (fun s => (s.heap, s.gens, s.drawn, s.toks)) = some (H0 w.params, #[], {}, 273) := by kernel_rfl
theorem sized (w : World) : ((H0 w.params).isNs mainGlobals && (#[] : Array GenState).size == 0, (H0 w.params).objs.size, (H0 w.params).nsMap mainGlobals "__annotations__") = (true, 29, (some (.ref 6))) := by kernel_rfl
noncomputable def Xt (s : Shared) : Bool := xlAt vw [] s && recOk (RowW.records (PySem.Challenge.rw_ny0304_03.row.toRowW)) s
noncomputable abbrev SF (w : World) (os : OsState) : Shared := ⟨H1 w.params, #[], {}, 1258, os⟩
theorem look1 (w : World) (os : OsState) : (staticsOk (importedModules PySem.Challenge.pw_ny0304_03.main.body) (H0 w.params) (H1 w.params) && namesBound PySem.Challenge.pw_ny0304_03 (H1 w.params) && gensDone (SF w os) && laidKept (H0 w.params) (H1 w.params)) = true := by kernel_rfl
theorem look2 (w : World) (os : OsState) : openSeen vw lo (importedModules PySem.Challenge.pw_ny0304_03.main.body) Xt true (SF w os) = openGood vw lo := by kernel_rfl
theorem look3 (w : World) (os : OsState) : obs (SF w os) = vals w := by kernel_rfl
theorem left : LeftO PySem.Challenge.pw_ny0304_03 vw lo Xt obs vals 10844 :=
  LeftO.of_pieces opened sized run (by decide +kernel) fun w => funext fun os => looks_pair (look1 w os) (looks_pair (look2 w os) (look3 w os))
theorem said : PySem.Challenge.rw_ny0304_03.wellSaid = true := by kernel_rfl
noncomputable def lawD : DefRec := ⟨S "law", fA (st 31), fB (st 31), fS (st 31), ⟨780, 0, 793, 93⟩⟩
theorem head (call : WalkO vw lo (XL vw []) (fun w h => BaseOk w.params h) PySem.Challenge.rw_ny0304_03.row.toRowW lawD [] fun f vs => PySem.call f vs) : PySem.Challenge.rw_ny0304_03.Holds := by
  refine holds_law said fun k1 => ?_
  refine holds_open (q := vw) (loose := lo) (Xt := Xt) (XP := XL vw []) (Yf := obs) (Ya := vals) (YP := fun w h => BaseOk w.params h) (N := 10844) left base_of base_keeps (fun s e => xl_of s (Bool.and_eq_true_iff.mp e).1) XL.keeps ?d1 ?d2 ?d3 (fun s e => recFacts_of (Bool.and_eq_true_iff.mp e).2) ?d4 k1 ?d5 ?d6 ?hw call
  case d1 => kernel_rfl
  case d2 => kernel_rfl
  case d3 => kernel_rfl
  case d4 => rfl
  case d5 => decide +kernel
  case d6 => exact ⟨rfl, rfl, rfl, rfl, rfl, by decide +kernel⟩
  case hw => w_witness2
noncomputable def MainLaw : Prop := ∀ (w : World) (s : Shared) (a : Addr) (vs : List Value) (ns : List Int), BaseOk w.params s.heap → s.gens = #[] → s.heap.IsList a vs.toArray → IntsAre vs ns → ns.length ≤ 63 →
      ∀ f, (∃ mg, s.heap.Ns mainGlobals mg ∧ mg (S "law") = some (.ref f)) →
      wpAny (model PySem.Challenge.pw_ny0304_03 w) callerA (call (.ref f) [.ref a]) (fun v s' => v = .bool true ∧ Keeps s s') (fun _ _ => False) s
theorem walk_of (main : MainLaw) : WalkO vw lo (XL vw []) (fun w h => BaseOk w.params h) PySem.Challenge.rw_ny0304_03.row.toRowW lawD [] fun f vs => PySem.call f vs := by
  intro w s₀ s₁ mg mb G Y fa o pm cd doc dV kV ho hd hcd hD hmg hg args vals as hpre hlay hrd hwl hlo
  have hT := G.T.g
  wrow_args hpre hlay hrd hwl hlo
  refine wpAny_mono (main w s₁ _ _ _ Y hg (by assumption) (by assumption) (by omega) fa ⟨mg, hT, hmg⟩) (fun v s' h => ?_) (fun _ _ f => f.elim)
  obtain ⟨rfl, h', tk, rfl, hk⟩ := h
  exact GoodW.toG ⟨.inl ⟨_, .bool true, [], rfl, fun _ => rfl, by exact ReadsW.bool _, by kernel_rfl, fun _ => ⟨.nil, fun _ h => nomatch h⟩⟩, hk, rfl, hg⟩
theorem law_holds (main : MainLaw) : PySem.Challenge.rw_ny0304_03.Holds := head (walk_of main)
end
end Mine
namespace Mine
open PySem PySem.W PyProof.Rows
theorem ns_of {h : Heap} {a : Addr} {o : Obj} {es : Array DictEntry} {ep : Nat} (e : h.get? a = some o) (hd : o.data = .dict es ep) (hk : (es.toList.all fun x => match x.key with | .str _ _ => true | _ => false) = true) : h.Ns a (nsFind es) := by
  refine ⟨o, es, ep, e, hd, fun x hx => ?_, fun _ => rfl⟩
  have := List.all_eq_true.mp hk x (Array.mem_toList_iff.mpr hx)
  revert this
  cases x.key <;> simp
noncomputable def objAt (P : Params) (i : Nat) : Obj := ((T9 P).get i).getD default
noncomputable def esOf : Obj → Array DictEntry | ⟨_, _, .dict es _, _⟩ => es | _ => #[]
noncomputable def epOf : Obj → Nat | ⟨_, _, .dict _ n, _⟩ => n | _ => 0
noncomputable def fdOf : Obj → FuncData | ⟨_, _, .func f, _⟩ => f | _ => default
noncomputable def fdAt (P : Params) (i : Nat) : FuncData := fdOf (objAt P i)
noncomputable def keysOk (o : Obj) : Bool := (esOf o).toList.all fun x => match x.key with | .str _ _ => true | _ => false
theorem at_ {P : Params} {h : Heap} (B : BaseOk P h) (i : Nat) (hi : Nat.blt i 805 = true) (e : (T9 P).get i = some (objAt P i)) : h.get? i = some (objAt P i) := B i _ hi e
theorem ns_at {P : Params} {h : Heap} (B : BaseOk P h) (i : Nat) (hi : Nat.blt i 805 = true) (e : (T9 P).get i = some (objAt P i)) (hd : (objAt P i).data = .dict (esOf (objAt P i)) (epOf (objAt P i))) (hk : keysOk (objAt P i) = true) : h.Ns i (nsFind (esOf (objAt P i))) :=
  ns_of (at_ B i hi e) hd hk
theorem ns_main {P : Params} {h : Heap} (B : BaseOk P h) : h.Ns mainGlobals (nsFind (esOf (objAt P 3))) := ns_at B 3 rfl (by kernel_rfl) (by kernel_rfl) (by kernel_rfl)
theorem ns_blt {P : Params} {h : Heap} (B : BaseOk P h) : h.Ns builtinsNs (nsFind (esOf (objAt P 0))) := ns_at B 0 rfl (by kernel_rfl) (by kernel_rfl) (by kernel_rfl)
theorem ns_sta {P : Params} {h : Heap} (B : BaseOk P h) : h.Ns cStatics (nsFind (esOf (objAt P 2))) := ns_at B 2 rfl (by kernel_rfl) (by kernel_rfl) (by kernel_rfl)
noncomputable def G (w : World) : Gx where
  prog := PySem.Challenge.pw_ny0304_03
  w := w
  n₀ := 805
  ok := BaseOk w.params
  mono := fun h h' k B i o hi e => k i o (Nat.le_of_ble_eq_true hi) (B i o hi e)
  low := fun h B => Heap.lt_size (at_ B 804 rfl (by kernel_rfl))
  nolim := fun h B => ⟨_, ns_sta B, by kernel_rfl⟩
theorem gv_glob {C : Cx} {w : World} (hC : C.G = G w) {x : Str} {v : Value} (h : nsFind (esOf (objAt w.params 3)) x = some v) : GV C x v := fun hp hok => by
  have hok : (C.G).ok hp := hok
  rw [hC] at hok
  exact .inl ⟨_, ns_main hok, h⟩
theorem gv_blt {C : Cx} {w : World} (hC : C.G = G w) {x : Str} {v : Value} (h0 : nsFind (esOf (objAt w.params 3)) x = none) (h : nsFind (esOf (objAt w.params 0)) x = some v) : GV C x v := fun hp hok => by
  have hok : (C.G).ok hp := hok
  rw [hC] at hok
  exact .inr ⟨_, _, ns_main hok, h0, ns_blt hok, h⟩
theorem code_at {P : Params} {h : Heap} (B : BaseOk P h) {c : Addr} {q : Str} {t : Tok} {vs : Array Value} (hi : Nat.blt c 805 = true) (e : (T9 P).get c = some (objAt P c)) (hd : (objAt P c).data = .fields vs) (hv : vs[1]? = some (.str q t)) : h.CodeRec (.ref c) q :=
  ⟨c, _, vs, t, rfl, at_ B c hi e, hd, hv⟩
noncomputable def vsOf : Obj → Array Value | ⟨_, _, .fields vs, _⟩ => vs | _ => #[]
noncomputable def tokOf : Option Value → Tok | some (.str _ t) => t | _ => 0
theorem def_ofL (w : World) (fa c : Addr) (names : List Str) (s : Stmt) (hi : Nat.blt fa 805 = true) (e : (T9 w.params).get fa = some (objAt w.params fa)) (hd : (objAt w.params fa).data = .func (fdAt w.params fa))
    (hci : Nat.blt c 805 = true) (hce : (T9 w.params).get c = some (objAt w.params c)) (hcd : (objAt w.params c).data = .fields (vsOf (objAt w.params c))) (hcv : (vsOf (objAt w.params c))[1]? = some (.str (fdAt w.params fa).qualname (tokOf (vsOf (objAt w.params c))[1]?)))
    (hc : (fdAt w.params fa).code = .ref c) (hb : (fdAt w.params fa).body = .stmts (fB s)) (hcl : (fdAt w.params fa).closure = []) (co : (fdAt w.params fa).scope.isCoroutine = false) (gen : (fdAt w.params fa).scope.isGenerator = false)
    (kind : (fdAt w.params fa).scope.kind = .function) (g1 : (fdAt w.params fa).globals = mainGlobals) (g2 : (fdAt w.params fa).builtins = builtinsNs) (nd : names.Nodup)
    (binds : ∀ (M : Model) (h : Heap), (G w).ok h → ∀ vals : List Value, vals.length = names.length → Looks M h (bindArgs (fdAt w.params fa) ⟨vals, []⟩) (names.zip vals))
    (kinds : ∀ x ∈ names, (fdAt w.params fa).scope.names.lookup x = some .local ∨ (fdAt w.params fa).scope.names.lookup x = some .cell) : IsDef (G w) fa (fdAt w.params fa) (fB s) names where
  at_ := fun h B => ⟨_, at_ B fa hi e, hd⟩
  code := fun h B => by rw [hc]; exact code_at B hci hce hcd hcv
  body := hb
  clo := hcl
  co := co
  gen := gen
  kind := kind
  glob := ⟨g1, g2⟩
  nodup := nd
  binds := binds
  kinds := kinds
theorem def_of (w : World) (fa c : Addr) (names : List Str) (s : Stmt) (hi : Nat.blt fa 805 = true) (e : (T9 w.params).get fa = some (objAt w.params fa)) (hd : (objAt w.params fa).data = .func (fdAt w.params fa))
    (hci : Nat.blt c 805 = true) (hce : (T9 w.params).get c = some (objAt w.params c)) (hcd : (objAt w.params c).data = .fields (vsOf (objAt w.params c))) (hcv : (vsOf (objAt w.params c))[1]? = some (.str (fdAt w.params fa).qualname (tokOf (vsOf (objAt w.params c))[1]?)))
    (hc : (fdAt w.params fa).code = .ref c) (hb : (fdAt w.params fa).body = .stmts (fB s)) (hcl : (fdAt w.params fa).closure = []) (co : (fdAt w.params fa).scope.isCoroutine = false) (gen : (fdAt w.params fa).scope.isGenerator = false)
    (kind : (fdAt w.params fa).scope.kind = .function) (g1 : (fdAt w.params fa).globals = mainGlobals) (g2 : (fdAt w.params fa).builtins = builtinsNs) (nd : names.Nodup)
    (binds : ∀ vals : List Value, vals.length = names.length → bindArgs (fdAt w.params fa) ⟨vals, []⟩ = pure (names.zip vals))
    (kinds : ∀ x ∈ names, (fdAt w.params fa).scope.names.lookup x = some .local ∨ (fdAt w.params fa).scope.names.lookup x = some .cell) : IsDef (G w) fa (fdAt w.params fa) (fB s) names where
  at_ := fun h B => ⟨_, at_ B fa hi e, hd⟩
  code := fun h B => by rw [hc]; exact code_at B hci hce hcd hcv
  body := hb
  clo := hcl
  co := co
  gen := gen
  kind := kind
  glob := ⟨g1, g2⟩
  nodup := nd
  binds := fun _ _ _ vals hv => .of_pure (binds vals hv)
  kinds := kinds
theorem def_parse (w : World) : IsDef (G w) 766 (fdAt w.params 766) (fB (st 24)) [S "resp"] := by
  refine def_of w 766 765 [S "resp"] (st 24) rfl ?_ ?_ rfl ?_ ?_ ?_ ?_ ?_ ?_ ?_ ?_ ?_ ?_ ?_ (by decide) ?bb ?kk
  case bb =>
    intro vs hv
    match vs, hv with
    | [a], _ => kernel_rfl
  case kk => intro x hx; simp only [List.mem_singleton] at hx; subst hx; exact .inl (by kernel_rfl)
  all_goals kernel_rfl
theorem gv_len {C : Cx} {w : World} (hC : C.G = G w) : GV C (S "len") (.builtin "len") := gv_blt hC (by kernel_rfl) (by kernel_rfl)
local macro_rules | `(tactic| tm_at "hm") => `(tactic| focus (intro _ h; cases h <;> rfl))
local macro_rules | `(tactic| tm_at "tr") => `(tactic| with_reducible first | exact tr_bool | exact tr_none | exact tr_int | exact tr_deq)
local macro_rules | `(tactic| tm_at "evs") => `(tactic| first | with_reducible exact Evs.nil | (apply Evs.cons; tm_at "ev"; (intro _ _ h; cases h); tm_at "evs"))
local macro_rules | `(tactic| tm_at "tfn") => `(tactic| with_reducible first | exact fn_type_int | exact fn_type_str | exact fn_int_int)
local macro_rules | `(tactic| tm_at "side") => `(tactic| first | assumption | rfl | omega | (simp only [List.length_append, List.length_cons, List.length_nil, List.length_take, List.length_drop, List.length_replicate] at *; omega) | (simp <;> omega))
local macro_rules | `(tactic| tm_at "sg") => `(tactic| first | with_reducible exact sget_here | (apply sget_there; (kernel_rfl); tm_at "sg"))
local macro_rules | `(tactic| tm_at "sp") => `(tactic| first | with_reducible exact sput_here | with_reducible exact sput_nil | (apply sput_there; (kernel_rfl); tm_at "sp"))
local macro_rules | `(tactic| tm_at "fg") => `(tactic| first | with_reducible exact fget_here | (apply fget_there; (kernel_rfl); tm_at "fg"))
local macro_rules | `(tactic| tm_at "fn0") => `(tactic| first | with_reducible exact fget_not | (apply fget_next; (kernel_rfl); tm_at "fn0"))
local macro_rules | `(tactic| tm_at "fp") => `(tactic| first | with_reducible exact fput_here | with_reducible exact fput_nil | (apply fput_there; (kernel_rfl); tm_at "fp"))
local macro_rules | `(tactic| tm_at "lk") => `(tactic| first | with_reducible exact lk_here | (apply lk_there; (kernel_rfl); tm_at "lk"))
local macro_rules | `(tactic| tm_at "kind") => `(tactic| apply kind_lk (by assumption); tm_at "lk")
local macro_rules | `(tactic| tm_at "str") => `(tactic| with_reducible first | exact c_nil | exact c_q | exact c_b | exact c_n257 | exact c_bq | exact c_lf | exact c_a | exact c_c | exact c_cr | exact c_crlf | exact c_hash)
local macro_rules | `(tactic| tm_at "stores") => `(tactic| refine Or.inl ?_; tm_at "kind")
local macro_rules | `(tactic| tm_at "name") => `(tactic| ((with_reducible apply ev_name_local)); (tm_at "sg"); (tm_at "kind"); (rfl))
local macro_rules | `(tactic| tm_at "glob") => `(tactic| first | ((with_reducible refine ev_global (gv_len (by assumption)) ?_ ?_); (tm_at "kind"); (rfl)))
local macro_rules | `(tactic| tm_at "bin") => `(tactic| first | with_reducible exact add_int_ | with_reducible exact sub_int_ | ((with_reducible refine cat_tx ?_); tm_at "side"))
local macro_rules | `(tactic| tm_at "inp") => `(tactic| first | with_reducible exact inp_add_int | with_reducible exact inp_sub_int | ((with_reducible refine icat_tx ?_); tm_at "side"))
local macro_rules | `(tactic| tm_at "cmp") => `(tactic| first | (with_reducible first | exact eq_int_ | exact ne_int_ | exact lt_int_ | exact gt_int_ | exact ge_int_ | exact eq_tx | exact ne_tx | exact in_tx | exact notin_tx | exact is_int_none | exact is_str_none | exact is_none_none | exact isnot_none_none | exact isnot_str_none | exact isnot_ref_none | exact isnot_type_self | exact eq_str_none_ | exact eq_none_none_ ) | exact eq_tx | exact ne_tx | exact in_tx | exact notin_tx | exact eq_int_ | exact lt_int_ | exact gt_int_ | exact ge_int_)
local macro_rules | `(tactic| tm_at "item") => `(tactic| first | ((with_reducible refine item_tx ?_ ?_ ?_) <;> tm_at "side"))
local macro_rules | `(tactic| tm_at "slice") => `(tactic| first | ((with_reducible refine slice_tx ?_ ?_) <;> tm_at "side") | ((with_reducible refine slice_tx_to ?_ ?_) <;> tm_at "side") | ((with_reducible refine slice_tx_from ?_ ?_) <;> tm_at "side"))
local macro_rules | `(tactic| tm_at "fn") => `(tactic| first | ((with_reducible refine len_tx ?_); tm_at "side"))
local macro_rules | `(tactic| tm_at "part") => `(tactic| first | with_reducible exact EvP.none | (apply EvP.some; tm_at "evt"))
local macro_rules | `(tactic| tm_at "args") => `(tactic| first | with_reducible exact EvTs.nil | (apply EvTs.cons; tm_at "evt"; (intro _ _ h; cases h); tm_at "args"))
local macro_rules | `(tactic| tm_at "evt") => `(tactic| apply Ev.t; tm_at "ev")
local macro_rules | `(tactic| tm_at "ev") => `(tactic| first
  | tm_at "name" | with_reducible exact ev_int | tm_at "str" | with_reducible exact ev_none | with_reducible exact ev_bool
  | tm_at "attr"
  | ((with_reducible apply ev_binop); tm_at "evt"; tm_at "evt"; tm_at "bin")
  | ((with_reducible apply ev_cmp (hm := rfl)); tm_at "evt"; tm_at "evt"; tm_at "cmp")
  | ((with_reducible apply ev_slice); tm_at "evt"; tm_at "part"; tm_at "part"; tm_at "slice")
  | ((with_reducible apply ev_sub); tm_at "evt"; tm_at "evt"; tm_at "item")
  | ((with_reducible apply ev_neg); tm_at "ev")
  | ((with_reducible apply ev_call_b); tm_at "glob"; tm_at "args"; tm_at "fn")
  | ((with_reducible apply ev_call_t); tm_at "typ"; tm_at "args"; tm_at "tfn") | ((with_reducible apply ev_tuple); (tm_at "evs"); (exact Nat.le_of_ble_eq_true rfl)) | tm_at "typ")
local macro_rules | `(tactic| tm_at "evb") => `(tactic| first | ((with_reducible apply evB_cmp (hm := rfl)); tm_at "evt"; tm_at "evt"; tm_at "cmp") | ((with_reducible apply evB_not); tm_at "evb") | ((with_reducible apply evB_or); (tm_at "evb"); (intro _; tm_at "evb")) | ((with_reducible apply evB_and); (tm_at "evb"); (intro _; tm_at "evb")) | with_reducible exact evB_or_nil | with_reducible exact evB_and_nil | ((apply evB_plain (he := fun _ => rfl)); tm_at "evt"; first | tm_at "tr" | ((with_reducible refine tr_tx ?_); tm_at "side")))
local macro_rules | `(tactic| tm_at "set") => `(tactic| (apply ss_assign (hs := rfl)); (tm_at "ev"); (tm_at "stores"); (tm_at "sp"))
noncomputable def p257 : List Nat → List Nat
  | [] => []
  | c :: r => if c = 34 then (match r with | [] => [] | d :: r' => if d = 34 then 34 :: p257 r' else []) else c :: p257 r
variable {C : Cx} {w : World}
noncomputable def pJ (w t : List Nat) (n : Nat) (σ : St) : Prop := ∃ (k : Nat) (acc : List Nat) (tail : St), k ≤ w.length ∧ n = w.length - k ∧ acc ++ p257 (w.drop k) = t ∧ acc.length ≤ k ∧
  σ = (S "resp", .fz (tx w)) :: (S "dirname", .fz (tx acc)) :: (S "i", .fz (.int k)) :: (S "n", .fz (.int w.length)) :: tail ∧ (tail = [] ∨ ∃ m, tail = [(S "c", .fz m)])
theorem p257_other {c : Nat} (r : List Nat) (h : c ≠ 34) : p257 (c :: r) = c :: p257 r := by rw [p257.eq_def]; simp [h]
theorem p257_two (r : List Nat) : p257 (34 :: 34 :: r) = 34 :: p257 r := by rw [p257.eq_def]; simp
theorem p257_one {d : Nat} (r : List Nat) (h : d ≠ 34) : p257 (34 :: d :: r) = [] := by rw [p257.eq_def]; simp [h]
theorem p257_end : p257 [34] = [] := by rw [p257.eq_def]; simp
theorem p257_nil : p257 [] = [] := by rw [p257.eq_def]
theorem drop_at {w : List Nat} {k : Nat} (h : k < w.length) : ∃ c, w[k]? = some c ∧ w.drop k = c :: w.drop (k + 1) :=
  ⟨w[k], List.getElem?_eq_getElem h, List.drop_eq_getElem_cons h⟩
theorem parse_body (hC : C.G = G w) {env : Env} (hs : env.scope = fS (st 24)) (t : List Nat) (ht : t.length ≤ 1000000) :
    wpSs C env (fB (st 24)) [(S "resp", .fz (tx ([50, 53, 55, 32, 34] ++ t)))] fun fm _ => match fm with | .ret m => m = tx (p257 t) | .next => tx (p257 t) = .none | _ => False := by
  have hn : env.scope.names = (fS (st 24)).names := by rw [hs]
  conv at hn => rhs; whnf
  refine wpSs_cons (wpS_if (b := false) ?_ (fun h => nomatch h) fun _ => wpSs_nil ?_)
  · tm_at "evb"
  refine wpSs_cons (wpS_if (b := false) ?_ (fun h => nomatch h) fun _ => wpSs_nil ?_)
  · tm_at "evb"
  tm_at "set"
  tm_at "set"
  tm_at "set"
  obtain ⟨wd, hw⟩ : ∃ wd, wd = [50, 53, 55, 32, 34] ++ t := ⟨_, rfl⟩
  have hwl : wd.length = 5 + t.length := by rw [hw]; simp; omega
  have hret : ∀ τ, sget τ (S "dirname") = some (.fz (tx (p257 t))) → wpSs C env ((fB (st 24)).drop 6) τ fun fm _ => match fm with | .ret m => m = tx (p257 t) | .next => tx (p257 t) = .none | _ => False := fun τ hτ =>
    wpSs_cons (wpS_return (ev_name_local hτ (by tm_at "kind") rfl) rfl)
  refine wpSs_cons (wpS_while (pJ wd (p257 t)) ?_ (wd.length - 5) ?_)
  · rintro n σ ⟨k, acc, tail, hk, hn, hp, ha, rfl, htl⟩
    refine ⟨decide ((k : Int) < wd.length), ?_, fun hb => ?_, fun hb => wpSs_nil ?_⟩
    · tm_at "evb"
    · have hk' : k < wd.length := by simpa using hb
      obtain ⟨c, hc, hd⟩ := drop_at hk'
      have hki : (k : Int).toNat = k := by omega
      refine wpSs_cons (wpS_assign (ev_sub (a := tx wd) (i := .int k) (by tm_at "evt") (by tm_at "evt") (item_tx (by omega) (by omega) (by rw [hki]; exact hc))) ?_ rfl ?_); tm_at "stores"
      have hσ : sput ((S "resp", .fz (tx wd)) :: (S "dirname", .fz (tx acc)) :: (S "i", .fz (.int k)) :: (S "n", .fz (.int wd.length)) :: tail) (S "c") (.fz (tx [c])) = [(S "resp", .fz (tx wd)), (S "dirname", .fz (tx acc)), (S "i", .fz (.int k)), (S "n", .fz (.int wd.length)), (S "c", .fz (tx [c]))] := by
        rcases htl with rfl | ⟨m, rfl⟩ <;> rfl
      show wpSs _ _ _ (sput _ (S "c") _) _
      rw [hσ]
      tm_at "set"
      have hk1 : ((k : Int) + 1) = ((k + 1 : Nat) : Int) := by omega
      have hj : ∀ (k' : Nat) (acc' : List Nat), k < k' → k' ≤ wd.length → acc'.length ≤ k' → acc' ++ p257 (wd.drop k') = p257 t → ∃ m, m < n ∧ pJ wd (p257 t) m [(S "resp", .fz (tx wd)), (S "dirname", .fz (tx acc')), (S "i", .fz (.int k')), (S "n", .fz (.int wd.length)), (S "c", .fz (tx [c]))] :=
        fun k' acc' h1 h2 h3 h4 => ⟨wd.length - k', by omega, k', acc', [(S "c", .fz (tx [c]))], h2, rfl, h4, h3, rfl, .inr ⟨_, rfl⟩⟩
      rw [hd] at hp
      by_cases hq : c = 34
      · subst hq
        refine wpSs_cons (wpS_if (b := true) ?_ (fun _ => ?_) fun h => nomatch h)
        · tm_at "evb"
        by_cases hk2 : k + 1 < wd.length
        · obtain ⟨d, hd1, hd2⟩ := drop_at hk2
          rw [hd2] at hp
          by_cases hq2 : d = 34
          · subst hq2
            rw [p257_two] at hp
            refine wpSs_cons (wpS_if (b := false) ?_ (fun h => nomatch h) fun _ => wpSs_nil ?_)
            · refine evB_or (b := false) (c := false) ?_ fun _ => evB_or (b := false) (c := false) ?_ fun _ => evB_or_nil
              · apply evB_cmp (hm := rfl) (ho := ?_)
                tm_at "evt"; tm_at "evt"
                have := ge_int_ (C := C) (a := (k : Int) + 1) (b := wd.length)
                rwa [decide_eq_false (by omega)] at this
              · apply evB_cmp (hm := rfl)
                · exact Ev.t (ev_sub (a := tx wd) (i := .int ((k : Int) + 1)) (by tm_at "evt") (by tm_at "evt") (item_tx (by omega) (by omega) (by rw [hk1]; exact hd1)))
                · tm_at "evt"
                · exact ne_tx
            tm_at "set"
            refine wpSs_nil ?_
            tm_at "set"
            refine wpSs_nil ?_
            have := hj (k + 2) (acc ++ [34]) (by omega) (by omega) (by simp; omega) (by rw [List.append_assoc]; exact hp)
            rw [show ((k + 2 : Nat) : Int) = (k : Int) + 1 + 1 by omega] at this
            exact this
          · rw [p257_one _ hq2, List.append_nil] at hp
            refine wpSs_cons (wpS_if (b := true) ?_ (fun _ => ?_) fun h => nomatch h)
            · refine evB_or (b := false) (c := true) ?_ fun _ => evB_or (b := true) (c := false) ?_ fun h => nomatch h
              · apply evB_cmp (hm := rfl) (ho := ?_)
                tm_at "evt"; tm_at "evt"
                have := ge_int_ (C := C) (a := (k : Int) + 1) (b := wd.length)
                rwa [decide_eq_false (by omega)] at this
              · apply evB_cmp (hm := rfl) (ho := ?_)
                · exact Ev.t (ev_sub (a := tx wd) (i := .int ((k : Int) + 1)) (by tm_at "evt") (by tm_at "evt") (item_tx (by omega) (by omega) (by rw [hk1]; exact hd1)))
                · tm_at "evt"
                · have := ne_tx (C := C) (a := [d]) (b := [34])
                  rwa [show ([d] != [34]) = true by simp [hq2]] at this
            exact wpSs_cons (wpS_break (show wpSs _ _ _ _ _ from hret _ (by rw [← hp]; rfl)))
        · have : wd.drop (k + 1) = [] := List.drop_eq_nil_of_le (by omega)
          rw [this, p257_end, List.append_nil] at hp
          refine wpSs_cons (wpS_if (b := true) ?_ (fun _ => ?_) fun h => nomatch h)
          · refine evB_or (b := true) (c := false) ?_ fun h => nomatch h
            apply evB_cmp (hm := rfl) (ho := ?_)
            tm_at "evt"; tm_at "evt"
            have := ge_int_ (C := C) (a := (k : Int) + 1) (b := wd.length)
            rwa [decide_eq_true (by omega)] at this
          exact wpSs_cons (wpS_break (show wpSs _ _ _ _ _ from hret _ (by rw [← hp]; rfl)))
      · rw [p257_other _ hq] at hp
        refine wpSs_cons (wpS_if (b := false) ?_ (fun h => nomatch h) fun _ => wpSs_nil ?_)
        · apply evB_cmp (hm := rfl) (ho := ?_)
          tm_at "evt"; tm_at "evt"
          have := eq_tx (C := C) (a := [c]) (b := [34])
          rwa [show ([c] == [34]) = false by simp [hq]] at this
        tm_at "set"
        refine wpSs_nil ?_
        have := hj (k + 1) (acc ++ [c]) (by omega) (by omega) (by simp; omega) (by rw [List.append_assoc]; exact hp)
        rw [show ((k + 1 : Nat) : Int) = (k : Int) + 1 by omega] at this
        exact this
    · have hk' : wd.drop k = [] := List.drop_eq_nil_of_le (by simp at hb; omega)
      rw [hk', p257_nil, List.append_nil] at hp
      exact hret _ (by rw [← hp]; rfl)
  · exact ⟨5, [], [], by omega, rfl, by rw [hw]; simp, by simp, by rw [hw]; rfl, .inl rfl⟩
theorem spec_parse (w : World) (t : List Nat) (ht : t.length ≤ 1000000) {k : Nat} (hk : k + 1 ≤ 100) : Spec (G w) false k (.ref 766) [tx ([50, 53, 55, 32, 34] ++ t)] (tx (p257 t)) :=
  spec_of (def_parse w) hk rfl fun C hC _ _ L => parse_body hC (by kernel_rfl) t ht
noncomputable def kAdr : List Addr := [722, 721, 646, 653, 654, 683, 690, 712, 719, 587, 586, 110, 109, 83, 82, 84, 80, 357, 364, 371, 533, 2, 639, 350, 526, 727, 734, 53]
noncomputable def Kf (P : Params) : Frag := kAdr.map fun a => (a, objAt P a)
theorem k_in {P : Params} {h : Heap} (B : BaseOk P h) : (Kf P).In h := by
  have hall : (kAdr.all fun a => Nat.blt a 805 && ((T9 P).get a).isSome) = true := by kernel_rfl
  intro a o e
  have key : ∀ l : List Addr, (l.map fun a => (a, objAt P a)).lookup a = some o → a ∈ l ∧ o = objAt P a := by
    intro l
    induction l with
    | nil => intro e; cases e
    | cons b r ih =>
      intro e
      simp only [List.map_cons, List.lookup] at e
      split at e
      · rename_i q; cases e; rw [beq_iff_eq.mp q]; exact ⟨List.mem_cons_self, rfl⟩
      · exact ⟨List.mem_cons_of_mem _ (ih e).1, (ih e).2⟩
  obtain ⟨hm, rfl⟩ := key kAdr e
  have := List.all_eq_true.mp hall a hm
  obtain ⟨h1, h2⟩ := Bool.and_eq_true_iff.mp this
  refine B a _ h1 ?_
  unfold objAt
  cases q : (T9 P).get a with
  | none => rw [q] at h2; cases h2
  | some o => rfl
theorem kok {C : Cx} {w : World} (hC : C.G = G w) : KOk C (Kf w.params) := fun h hok => by
  have hok : C.G.ok h := hok
  rw [hC] at hok
  exact k_in hok
theorem cls_shlex (P : Params) : ClsOk (Kf P) 722 := ⟨by kernel_rfl, by kernel_rfl, by kernel_rfl, by kernel_rfl, by kernel_rfl⟩
theorem cls_sio (P : Params) : ClsOk (Kf P) 587 := ⟨by kernel_rfl, by kernel_rfl, by kernel_rfl, by kernel_rfl, by kernel_rfl⟩
theorem fn_shlex (P : Params) : findIn (Kf P) (.ref 722) (S "read_token") = some (some (.ref 690)) ∧ typeIn (Kf P) (.ref 690) = some (.type "function") := ⟨by kernel_rfl, by kernel_rfl⟩
theorem at_shlex (P : Params) : findIn (Kf P) (.ref 722) (S "token") = some none := by kernel_rfl
theorem prop_shlex (P : Params) (od : Obj) : findObj (Kf P) 722 (some od) (S "punctuation_chars") = some (.bind (.builtin "property.__get__") (.ref 654)) := by kernel_rfl
theorem propr_shlex (P : Params) : recIn (Kf P) 654 "property" = some [.ref 653, .none, .none, .none, .str (S "punctuation_chars") 1034, .bool false] := by kernel_rfl
theorem mk_shlex (P : Params) : makesIn (Kf P) 722 = true := by kernel_rfl
theorem gv_type {C : Cx} {w : World} (hC : C.G = G w) : GV C (S "type") (.type "type") := gv_blt hC (by kernel_rfl) (by kernel_rfl)
theorem gv_int {C : Cx} {w : World} (hC : C.G = G w) : GV C (S "int") (.type "int") := gv_blt hC (by kernel_rfl) (by kernel_rfl)
theorem gv_index {C : Cx} {w : World} (hC : C.G = G w) : GV C (S "_index") (.ref 53) := gv_glob hC (by kernel_rfl)
local macro_rules | `(tactic| tm_at "typ") => `(tactic| first | ((with_reducible refine ev_global (gv_type (by assumption)) ?_ ?_); (tm_at "kind"); (rfl)) | ((with_reducible refine ev_global (gv_int (by assumption)) ?_ ?_); (tm_at "kind"); (rfl)))
local macro_rules | `(tactic| tm_at "attr") => `(tactic| (with_reducible show Ev _ _ _ (Expr.Attribute _ _ _) _); first | ((apply ev_attr (x := S "@lex") (kok (by assumption)) (cls_shlex _)); (tm_at "ev"); (tm_at "sg"); (tm_at "fg"); (kernel_rfl); (tm_at "hm"); (rfl)) | ((apply ev_attr (x := S "@in") (kok (by assumption)) (cls_sio _)); (tm_at "ev"); (tm_at "sg"); (tm_at "fg"); (kernel_rfl); (tm_at "hm"); (rfl)))
local macro_rules | `(tactic| tm_at "self") => `(tactic| first | ((apply ss_setattr (x := S "@lex") (hs := rfl) (by assumption) (kok (by assumption)) (cls_shlex _)); (tm_at "ev"); (tm_at "ev"); (tm_at "sg"); (kernel_rfl); (rfl); (rfl); (tm_at "fp"); (tm_at "sp")) | ((apply ss_setattr (x := S "@in") (hs := rfl) (by assumption) (kok (by assumption)) (cls_sio _)); (tm_at "ev"); (tm_at "ev"); (tm_at "sg"); (kernel_rfl); (rfl); (rfl); (tm_at "fp"); (tm_at "sp")))
local macro_rules | `(tactic| tm_at "aug") => `(tactic| first | ((apply ss_augattr (x := S "@lex") (by assumption) (kok (by assumption)) (cls_shlex _)); (tm_at "ev"); (tm_at "ev"); (tm_at "sg"); (tm_at "fg"); (kernel_rfl); (rfl); (rfl); (tm_at "hm"); (rfl); (tm_at "inp"); (tm_at "fp"); (tm_at "sp")) | ((apply ss_augattr (x := S "@in") (by assumption) (kok (by assumption)) (cls_sio _)); (tm_at "ev"); (tm_at "ev"); (tm_at "sg"); (tm_at "fg"); (kernel_rfl); (rfl); (rfl); (tm_at "hm"); (rfl); (tm_at "inp"); (tm_at "fp"); (tm_at "sp")))
theorem def_index (w : World) : IsDef (G w) 53 (fdAt w.params 53) (fB (st 4)) [S "n", S "what"] := by
  refine def_of w 53 52 [S "n", S "what"] (st 4) rfl ?_ ?_ rfl ?_ ?_ ?_ ?_ ?_ ?_ ?_ ?_ ?_ ?_ ?_ (by decide +kernel) ?bb ?kk
  case bb =>
    intro vs hv
    match vs, hv with
    | [a, b], _ => kernel_rfl
  case kk =>
    intro x hx
    simp only [List.mem_cons, List.not_mem_nil, or_false] at hx
    rcases hx with rfl | rfl <;> exact .inl (by kernel_rfl)
  all_goals kernel_rfl
theorem index_body (hC : C.G = G w) {env : Env} (hs : env.scope = fS (st 4)) (n : Int) (hn1 : -1099511627776 ≤ n) (hn2 : n ≤ 1099511627776) (m : MV) :
    wpSs C env (fB (st 4)) [(S "n", .fz (.int n)), (S "what", .fz m)] fun fm _ => match fm with | .ret r => r = .int n | .next => MV.int n = .none | _ => False := by
  have hnm : env.scope.names = (fS (st 4)).names := by rw [hs]
  conv at hnm => rhs; whnf
  apply ss_if_no
  · refine evB_and (b := false) (c := false) ?_ fun h => nomatch h
    apply evB_cmp (hm := rfl)
    · tm_at "evt"
    · apply Ev.t; tm_at "typ"
    · tm_at "cmp"
  tm_at "set"
  apply ss_if_no
  · refine evB_or (b := false) (c := false) ?_ fun _ => evB_or (b := false) (c := false) ?_ fun _ => evB_or_nil
    · apply evB_cmp (hm := rfl)
      · tm_at "evt"
      · tm_at "evt"
      · have := gt_int_ (C := C) (a := n) (b := 1099511627776)
        rwa [decide_eq_false (by omega)] at this
    · apply evB_cmp (hm := rfl)
      · tm_at "evt"
      · tm_at "evt"
      · have := lt_int_ (C := C) (a := n) (b := -1099511627776)
        rwa [decide_eq_false (by omega)] at this
  refine ss_ret (m := .int n) ?_ rfl
  tm_at "ev"
theorem spec_index (w : World) (n : Int) (hn1 : -1099511627776 ≤ n) (hn2 : n ≤ 1099511627776) (m : MV) {k : Nat} (hk : k + 1 ≤ 100) : Spec (G w) false k (.ref 53) [.int n, m] (.int n) :=
  spec_of (def_index w) hk rfl fun C hC _ _ L => index_body hC (by kernel_rfl) n hn1 hn2 m
theorem def_check (w : World) : IsDef (G w) 371 (fdAt w.params 371) (fB (kid (st 10) 3)) [S "self"] := by
  refine def_of w 371 370 [S "self"] (kid (st 10) 3) rfl ?_ ?_ rfl ?_ ?_ ?_ ?_ ?_ ?_ ?_ ?_ ?_ ?_ ?_ (by decide +kernel) ?bb ?kk
  case bb =>
    intro vs hv
    match vs, hv with
    | [a0], _ => kernel_rfl
  case kk =>
    intro x hx
    simp only [List.mem_cons, List.not_mem_nil, or_false] at hx
    rcases hx with rfl <;> exact .inl (by kernel_rfl)
  all_goals kernel_rfl
theorem def_read (w : World) : IsDef (G w) 533 (fdAt w.params 533) (fB (kid (st 10) 25)) [S "self", S "size"] := by
  refine def_ofL w 533 532 [S "self", S "size"] (kid (st 10) 25) rfl ?_ ?_ rfl ?_ ?_ ?_ ?_ ?_ ?_ ?_ ?_ ?_ ?_ ?_ (by decide +kernel) ?bb ?kk
  case bb =>
    intro M h B vs hv
    match vs, hv with
    | [a0, a1], _ => exact Looks.of_peek (k_in B) (by kernel_rfl)
  case kk =>
    intro x hx
    simp only [List.mem_cons, List.not_mem_nil, or_false] at hx
    rcases hx with rfl | rfl <;> exact .inl (by kernel_rfl)
  all_goals kernel_rfl
noncomputable abbrev inB (b e : Addr) (buf : List Nat) (pos : Int) : Bd := .inst b 587 e [(S "_StringIO__newline", tx [10]), (S "_StringIO__buf", tx buf), (S "_StringIO__pos", .int pos)]
theorem check_body (hC : C.G = G w) {env : Env} (hs : env.scope = fS (kid (st 10) 3)) (b e : Addr) (buf : List Nat) (pos : Int) :
    wpSs C env (fB (kid (st 10) 3)) [(S "self", .fz (.obj (.ref b))), (S "@in", inB b e buf pos)] fun fm _ => match fm with | .ret r => r = MV.none | .next => MV.none = .none | _ => False := by
  have hnm : env.scope.names = (fS (kid (st 10) 3)).names := by rw [hs]
  conv at hnm => rhs; whnf
  apply ss_if_no
  · tm_at "evb"
  exact wpSs_nil rfl
theorem spec_check (w : World) (b e : Addr) (buf : List Nat) (pos : Int) {k : Nat} (hk : k + 1 ≤ 100) : SpecR (G w) false k (.ref 371) [.obj (.ref b)] [(S "@in", inB b e buf pos)] .none :=
  specR_of (def_check w) hk rfl rfl (by intro p hp; rw [List.mem_singleton.mp hp]; kernel_rfl) fun C hC _ _ L _ => check_body hC (by kernel_rfl) b e buf pos
theorem fn_at (hC : C.G = G w) {f : Addr} (hi : Nat.blt f 805 = true) (e : (T9 w.params).get f = some (objAt w.params f)) (hd : (objAt w.params f).data = .func (fdAt w.params f)) : ∀ h, C.ok h → ∃ o fd, h.get? f = some o ∧ o.data = .func fd := fun h hok => by
  have hok : C.G.ok h := hok
  rw [hC] at hok
  exact ⟨_, _, at_ hok f hi e, hd⟩
theorem read_body (hC : C.G = G w) (hro : C.ro = false) (hl : C.lvl ≤ 90) {env : Env} (hs : env.scope = fS (kid (st 10) 25)) (hi : interactive env = false) (b e : Addr) (hnd : [b, e].Nodup) (buf : List Nat) (pos : Nat) (hb : buf.length ≤ 10000000) (r : List Nat) (pos' : Nat) (hr : (pos < buf.length → r = (buf.drop pos).take 1 ∧ pos' = pos + 1) ∧ (buf.length ≤ pos → r = [] ∧ pos' = pos)) :
    wpSs C env (fB (kid (st 10) 25)) [(S "self", .fz (.obj (.ref b))), (S "size", .fz (.int 1)), (S "@in", inB b e buf pos)] fun fm σ' => (match fm with | .ret m => m = tx r | .next => tx r = .none | _ => False) ∧ ∀ p ∈ [(S "@in", inB b e buf pos')], sget σ' p.1 = some p.2 := by
  have hnm : env.scope.names = (fS (kid (st 10) 25)).names := by rw [hs]
  conv at hnm => rhs; whnf
  have hb' : buf.length ≤ 16777216 := by omega
  apply ss_if_no
  · tm_at "evb"
  apply ss_assign (hs := rfl)
  · apply ev_call_f (k := 95) (full := false) (hs := by rw [hC]; exact spec_index w 1 (by omega) (by omega) (.str (S "StringIO.read of a size that is no exact int")) (by omega)) (hk := by omega) (hfull := fun h => nomatch h) (hfn := fn_at hC rfl (by kernel_rfl) (by kernel_rfl))
    · exact ev_global (gv_index hC) (by tm_at "kind") rfl
    · exact .cons (by tm_at "ev") (by intro _ _ h; cases h) (.cons ev_str (by intro _ _ h; cases h) .nil)
  · tm_at "stores"
  · tm_at "sp"
  apply ss_expr (hi := hi) (hs := rfl)
  · apply ev_imeth (x := S "@in") (k := 95) (full := false) (γ := [(S "@in", inB b e buf pos)]) (hK := kok hC) (hC := cls_sio _) (hs := by rw [hC]; exact spec_check w b e buf pos (by omega)) (hk := by omega) (hfull := fun h => nomatch h) (hfn := fn_at hC rfl (by kernel_rfl) (by kernel_rfl)) (hbase := rfl) (hline := rfl) (hfew := by decide) (ha := .nil)
    · tm_at "ev"
    · tm_at "sg"
    · tm_at "fn0"
    · kernel_rfl
    · kernel_rfl
    · intro p hp; rw [List.mem_singleton.mp hp]; tm_at "sg"
    · exact hnd
  tm_at "set"
  tm_at "set"
  by_cases hp : pos < buf.length
  · obtain ⟨rfl, rfl⟩ := hr.1 hp
    apply ss_if_no
    · apply evB_cmp (hm := rfl)
      · tm_at "evt"
      · tm_at "evt"
      · have := ge_int_ (C := C) (a := (pos : Int)) (b := buf.length)
        rwa [decide_eq_false (by omega)] at this
    have hσ : ∀ m, sput [(S "self", .fz (.obj (.ref b))), (S "size", .fz (.int 1)), (S "@in", inB b e buf pos), (S "start", .fz (.int pos)), (S "stop", .fz (.int buf.length))] (S "stop") (.fz m) = [(S "self", .fz (.obj (.ref b))), (S "size", .fz (.int 1)), (S "@in", inB b e buf pos), (S "start", .fz (.int pos)), (S "stop", .fz m)] := fun m => by tm_at "sp"
    have rest : ∀ stop : Int, stop = pos + 1 → wpSs C env ((fB (kid (st 10) 25)).drop 7) [(S "self", .fz (.obj (.ref b))), (S "size", .fz (.int 1)), (S "@in", inB b e buf pos), (S "start", .fz (.int pos)), (S "stop", .fz (.int stop))] fun fm σ' => (match fm with | .ret m => m = tx ((buf.drop pos).take 1) | .next => tx ((buf.drop pos).take 1) = .none | _ => False) ∧ ∀ p ∈ [(S "@in", inB b e buf ((pos + 1 : Nat)))], sget σ' p.1 = some p.2 := by
      rintro stop rfl
      tm_at "self"
      refine ss_ret (m := tx ((buf.drop pos).take 1)) ?_ ⟨rfl, ?_⟩
      · have := slice_tx (C := C) (l := buf) (i := pos) (j := (pos : Int) + 1) (by omega) hb'
        rw [show ((pos : Int) + 1 - pos).toNat = 1 by omega, show (pos : Int).toNat = pos by omega] at this
        apply ev_slice (ho := this)
        · tm_at "evt"
        · tm_at "part"
        · tm_at "part"
      · intro p hp
        rw [List.mem_singleton.mp hp, show ((pos + 1 : Nat) : Int) = pos + 1 by omega]
        tm_at "sg"
    apply ss_if (b := decide ((pos : Int) + 1 < buf.length))
    · rw [show decide ((pos : Int) + 1 < buf.length) = (true && (decide ((pos : Int) + 1 < buf.length) && true)) by simp]
      refine evB_and (b := true) ?_ fun _ => evB_and ?_ fun _ => evB_and_nil
      · apply evB_cmp (hm := rfl)
        · tm_at "evt"
        · tm_at "evt"
        · exact ge_int_
      · tm_at "evb"
    · intro _
      tm_at "set"
      exact wpSs_nil (rest _ rfl)
    · intro hn
      exact wpSs_nil (rest _ (by simp at hn; omega))
  · obtain ⟨h1, h2⟩ := hr.2 (by omega)
    have h2' := h2.symm
    subst h1
    subst h2'
    apply ss_if (b := true)
    · apply evB_cmp (hm := rfl)
      · tm_at "evt"
      · tm_at "evt"
      · have := ge_int_ (C := C) (a := (pos : Int)) (b := buf.length)
        rwa [decide_eq_true (by omega)] at this
    · intro _
      refine ss_ret (m := tx []) ?_ ⟨rfl, ?_⟩
      · tm_at "ev"
      · intro p hp
        rw [List.mem_singleton.mp hp]
        tm_at "sg"
    · intro h; cases h
theorem spec_read (w : World) (b e : Addr) (buf : List Nat) (pos : Nat) (hb : buf.length ≤ 10000000) (r : List Nat) (pos' : Nat) (hr : (pos < buf.length → r = (buf.drop pos).take 1 ∧ pos' = pos + 1) ∧ (buf.length ≤ pos → r = [] ∧ pos' = pos)) :
    SpecO (G w) false 89 (.ref 533) [.obj (.ref b), .int 1] [(S "@in", inB b e buf pos)] (tx r) [(S "@in", inB b e buf pos')] :=
  (codeO_of (γ := [(S "@in", inB b e buf pos)]) (γ' := [(S "@in", inB b e buf pos')]) (def_read w) (by omega) rfl rfl (by intro p hp; rw [List.mem_singleton.mp hp]; kernel_rfl) (fun C hC hl _ L _ hro hnd => read_body hC hro hl (by kernel_rfl) (by kernel_rfl) b e hnd buf pos hb r pos' hr) (by intro p hp; rw [List.mem_singleton.mp hp]; kernel_rfl)).spec (def_read w) rfl
theorem in_tup2 {C : Cx} {l a b : List Nat} : Cmp C .In (tx l) (.tuple [tx a, tx b]) ([a, b].any (· == l)) := in_tup_tx (ls := [a, b])
noncomputable def WC : List Nat := (S "abcdfeghijklmnopqrstuvwxyzABCDEFGHIJKLMNOPQRSTUVWXYZ0123456789_ßàáâãäåæçèéêëìíîïðñòóôõöøùúûüýþÿÀÁÂÃÄÅÆÇÈÉÊËÌÍÎÏÐÑÒÓÔÕÖØÙÚÛÜÝÞ").cps.toList
noncomputable def WS : List Nat := [32, 9, 13, 10]
noncomputable abbrev lexB (a d b : Addr) (st : MV) (ln : Int) (tok : List Nat) : Bd := .inst a 722 d [(S "instream", .obj (.ref b)), (S "infile", .none), (S "posix", .bool true), (S "eof", .none), (S "commenters", tx []), (S "wordchars", tx WC), (S "whitespace", tx WS), (S "whitespace_split", .bool true), (S "quotes", tx [39, 34]), (S "escape", tx [92]), (S "escapedquotes", tx [34]), (S "state", st), (S "pushback", .deq), (S "lineno", .int ln), (S "debug", .int 0), (S "token", tx tok), (S "filestack", .deq), (S "source", .none), (S "_punctuation_chars", tx [])]
local macro_rules | `(tactic| tm_at "cmp") => `(tactic| with_reducible exact in_tup2)
local macro_rules | `(tactic| tm_at "prop") => `(tactic| (apply ev_prop (x := S "@lex") (k := 90) (full := false) (kok (by assumption)) (cls_shlex _) (hf := prop_shlex _) (hp := propr_shlex _) (hfull := fun h => nomatch h) (hh := by intro _ h; cases h) (hbase := rfl) (nm := S "self") (fd := fdAt _ 653)))
theorem def_punct (w : World) : IsDef (G w) 653 (fdAt w.params 653) (fB (kid (st 19) 1)) [S "self"] := by
  refine def_of w 653 652 [S "self"] (kid (st 19) 1) rfl ?_ ?_ rfl ?_ ?_ ?_ ?_ ?_ ?_ ?_ ?_ ?_ ?_ ?_ (by decide +kernel) ?bb ?kk
  case bb =>
    intro vs hv
    match vs, hv with
    | [a0], _ => kernel_rfl
  case kk =>
    intro x hx
    simp only [List.mem_cons, List.not_mem_nil, or_false] at hx
    rcases hx with rfl <;> exact .inl (by kernel_rfl)
  all_goals kernel_rfl
theorem punct_body (hC : C.G = G w) {env : Env} (hs : env.scope = fS (kid (st 19) 1)) (a d b : Addr) (z : MV) (ln : Int) (tok : List Nat) :
    wpSs C env (fB (kid (st 19) 1)) [(S "self", .fz (.obj (.ref a))), (S "@lex", lexB a d b z ln tok)] fun fm _ => match fm with | .ret r => r = tx [] | .next => tx [] = .none | _ => False := by
  have hnm : env.scope.names = (fS (kid (st 19) 1)).names := by rw [hs]
  conv at hnm => rhs; whnf
  refine ss_ret (m := tx []) ?_ rfl
  tm_at "ev"
theorem code_punct (w : World) (a d b : Addr) (z : MV) (ln : Int) (tok : List Nat) : CodeG (G w) false 90 653 (fdAt w.params 653) [S "self"] [.obj (.ref a)] [(S "@lex", lexB a d b z ln tok)] [] (tx []) [] :=
  codeG_of (γ := [(S "@lex", lexB a d b z ln tok)]) (γ' := []) [] true (.inl rfl) (def_punct w) (by omega) rfl rfl (by intro p hp; rw [List.mem_singleton.mp hp]; kernel_rfl) (fun C hC hl _ L _ _ hnd => by
    intro X s R
    refine wpAny_mono (punct_body hC (by kernel_rfl) a d b z ln tok X s R) (fun fl s' p => ?_) fun _ _ x => x
    obtain ⟨h', tk, e, fm, σ', fr, R', q⟩ := p
    exact ⟨h', tk, e, fm, σ', fr, R', q, fun _ h => nomatch h⟩) (by intro p hp; cases hp)
theorem ev_punct (hC : C.G = G w) (hl : C.lvl ≤ 80) {env : Env} {σ : St} {a d b : Addr} {z : MV} {ln : Int} {tok : List Nat} (hnd : [a, d].Nodup) {o : Expr} {p : Pos} (ho : Ev C env σ o (.obj (.ref a))) (hx : sget σ (S "@lex") = some (lexB a d b z ln tok)) (hbase : attributeBase o (S "punctuation_chars") env (eval o env) = eval o env) : Ev C env σ (.Attribute o (S "punctuation_chars") p) (tx []) :=
  ev_prop (x := S "@lex") (k := 90) (full := false) (γ := [(S "@lex", lexB a d b z ln tok)]) (fd := fdAt w.params 653) (nm := S "self") (kok hC) (cls_shlex _) ho hx (prop_shlex _) (propr_shlex _) (fun v => by kernel_rfl) (by rw [hC]; exact code_punct w a d b z ln tok) (by omega) (by omega) (fun h => nomatch h) (by intro p hp; rw [List.mem_singleton.mp hp]; exact hx) hnd rfl (by intro _ h; cases h) hbase
local macro_rules | `(tactic| tm_at "attr") => `(tactic| (with_reducible show Ev _ _ _ (Expr.Attribute _ _ _) _); (with_reducible apply ev_punct (by assumption) (by assumption) (by assumption) (hbase := rfl)); (tm_at "ev"); (tm_at "sg"))
inductive Stp (c : Nat) : Nat → Nat → Bool → List Nat → FM → Nat → Nat → Bool → List Nat → Prop
  | b_brk {esc q tok} : c ∈ WS → (tok ≠ [] ∨ q = true) → Stp c 32 esc q tok .brk 32 esc q tok
  | b_ws {esc} : c ∈ WS → Stp c 32 esc false [] .cont 32 esc false []
  | b_esc {esc q tok} : c = 92 → Stp c 32 esc q tok .next 92 97 q tok
  | b_quo {esc q tok} : c = 34 ∨ c = 39 → Stp c 32 esc q tok .next c esc q tok
  | b_chr {esc q tok} : c ∉ WS → c ≠ 92 → c ≠ 34 → c ≠ 39 → Stp c 32 esc q tok .next 97 esc q [c]
  | q_close {st esc q tok} : st = 34 ∨ st = 39 → c = st → Stp c st esc q tok .next 97 esc true tok
  | q_esc {esc q tok} : c = 92 → Stp c 34 esc q tok .next 92 34 true tok
  | q_chr {st esc q tok} : st = 34 ∨ st = 39 → c ≠ st → ¬ (c = 92 ∧ st = 34) → Stp c st esc q tok .next st esc true (tok ++ [c])
  | e_both {esc q tok} : esc = 34 ∨ esc = 39 → c ≠ 92 → c ≠ esc → Stp c 92 esc q tok .next esc esc q (tok ++ [92] ++ [c])
  | e_one {esc q tok} : ¬ ((esc = 34 ∨ esc = 39) ∧ c ≠ 92 ∧ c ≠ esc) → Stp c 92 esc q tok .next esc esc q (tok ++ [c])
  | a_brk {esc q tok} : c ∈ WS → (tok ≠ [] ∨ q = true) → Stp c 97 esc q tok .brk 32 esc q tok
  | a_ws {esc} : c ∈ WS → Stp c 97 esc false [] .cont 32 esc false []
  | a_esc {esc q tok} : c = 92 → Stp c 97 esc q tok .next 92 97 q tok
  | a_quo {esc q tok} : c = 34 ∨ c = 39 → Stp c 97 esc q tok .next c esc q tok
  | a_chr {esc q tok} : c ∉ WS → c ≠ 92 → c ≠ 34 → c ≠ 39 → Stp c 97 esc q tok .next 97 esc q (tok ++ [c])
noncomputable def wB : Stmt → List Stmt
  | .While _ b _ _ => b
  | _ => []
noncomputable def rtB : List Stmt := wB ((fB (kid (st 19) 6)).getD 2 (.Pass ⟨0, 0, 0, 0⟩))
noncomputable abbrev rtS (a d b : Addr) (ib : Bd) (z : MV) (ln : Int) (tok : List Nat) (q : Bool) (esc : List Nat) (c : List Nat) : St := [(S "self", .fz (.obj (.ref a))), (S "@lex", lexB a d b z ln tok), (S "@in", ib), (S "quoted", .fz (.bool q)), (S "escapedstate", .fz (tx esc)), (S "nextchar", .fz (tx c))]
theorem not_wc : (34 ∉ WC ∧ 39 ∉ WC) := by decide +kernel
theorem step_b (hC : C.G = G w) (hro : C.ro = false) (hl : C.lvl ≤ 80) {env : Env} (hs : env.scope = fS (kid (st 19) 6)) {a d b : Addr} (hnd : [a, d].Nodup) (ib : Bd) (ln : Int) (tok : List Nat) (ht : tok.length ≤ 10000000) (q : Bool) (esc c : Nat) (Q : FM → St → Prop)
    (hQ : ∀ fl st' esc' q' tok', Stp c 32 esc q tok fl st' esc' q' tok' → Q fl (rtS a d b ib (tx [st']) ln tok' q' [esc'] [c])) : wpSs C env (rtB.drop 3) (rtS a d b ib (tx [32]) ln tok q [esc] [c]) Q := by
  have hnm : env.scope.names = (fS (kid (st 19) 6)).names := by rw [hs]
  conv at hnm => rhs; whnf
  have ht' : tok.length ≤ 16777216 := by omega
  apply ss_if1
  · tm_at "evb"
  · intro h; cases h
  intro _
  apply ss_if1
  · tm_at "evb"
  rotate_left
  · intro h; exact absurd h (by decide)
  intro _
  apply ss_if1
  · tm_at "evb"
  · intro h; cases h
  intro _
  apply ss_if1
  · tm_at "evb"
  · intro hw
    have hw := of_decide_eq_true hw
    apply ss_no
    · tm_at "evb"
    · rfl
    apply ss_if1
    · tm_at "evb"
    · intro hb
      refine wpSs_cons (wpS_break ?_)
      refine hQ _ _ _ _ _ (.b_brk hw ?_)
      cases tok <;> cases q <;> simp_all
    · intro hb
      refine wpSs_cons (wpS_continue ?_)
      have : tok = [] ∧ q = false := by cases tok <;> cases q <;> simp_all
      obtain ⟨rfl, rfl⟩ := this
      exact hQ _ _ _ _ _ (.b_ws hw)
  intro hw
  have hw := of_decide_eq_false hw
  apply ss_if1
  · tm_at "evb"
  · intro h; cases h
  intro _
  apply ss_if1
  · tm_at "evb"
  · intro h
    have h : c = 92 := by simpa using h
    tm_at "set"
    tm_at "self"
    refine wpSs_nil (hQ _ _ _ _ _ ?_)
    subst h
    exact .b_esc rfl
  intro h1
  have h1 : c ≠ 92 := by simpa using h1
  have chr : c ≠ 34 → c ≠ 39 → Q .next (rtS a d b ib (tx [97]) ln [c] q [esc] [c]) := fun h2 h3 => hQ _ _ _ _ _ (.b_chr hw h1 h2 h3)
  apply ss_if1
  · tm_at "evb"
  · intro h
    have h := of_decide_eq_true h
    tm_at "self"
    tm_at "self"
    exact wpSs_nil (chr (fun q => not_wc.1 (q ▸ h)) (fun q => not_wc.2 (q ▸ h)))
  intro h2
  apply ss_if1
  · tm_at "evb"
  · intro h; cases h
  intro _
  apply ss_if1
  · tm_at "evb"
  · intro h
    have h : c = 39 ∨ c = 34 := by simpa using h
    apply ss_no
    · tm_at "evb"
    · rfl
    tm_at "self"
    exact wpSs_nil (hQ _ _ _ _ _ (.b_quo h.symm))
  intro h3
  have h3 : c ≠ 39 ∧ c ≠ 34 := by simpa using h3
  apply ss_if1
  · tm_at "evb"
  · intro _
    tm_at "self"
    tm_at "self"
    exact wpSs_nil (chr h3.2 h3.1)
  · intro h; cases h
theorem step_q (hC : C.G = G w) (hro : C.ro = false) (hl : C.lvl ≤ 80) {env : Env} (hs : env.scope = fS (kid (st 19) 6)) {a d b : Addr} (hnd : [a, d].Nodup) (ib : Bd) (ln : Int) (tok : List Nat) (ht : tok.length ≤ 10000000) (q : Bool) (st' esc c : Nat) (hst : st' = 34 ∨ st' = 39) (Q : FM → St → Prop)
    (hQ : ∀ fl st₁ esc' q' tok', Stp c st' esc q tok fl st₁ esc' q' tok' → Q fl (rtS a d b ib (tx [st₁]) ln tok' q' [esc'] [c])) : wpSs C env (rtB.drop 3) (rtS a d b ib (tx [st']) ln tok q [esc] [c]) Q := by
  have hnm : env.scope.names = (fS (kid (st 19) 6)).names := by rw [hs]
  conv at hnm => rhs; whnf
  have ht' : tok.length ≤ 16777216 := by omega
  apply ss_if1
  · tm_at "evb"
  · intro h; first | cases h | exact absurd h (by decide)
  intro _
  apply ss_if1
  · tm_at "evb"
  · intro h; exfalso; simp at h; omega
  intro _
  apply ss_if1
  · tm_at "evb"
  rotate_left
  · intro h; exfalso; simp at h; omega
  intro _
  tm_at "set"
  apply ss_no
  · tm_at "evb"
  · rfl
  apply ss_if1
  · tm_at "evb"
  · intro h
    have h : c = st' := by simpa using h
    apply ss_if1
    · tm_at "evb"
    · intro h; cases h
    intro _
    tm_at "self"
    exact wpSs_nil (hQ _ _ _ _ _ (.q_close hst h))
  intro h
  have h : c ≠ st' := by simpa using h
  apply ss_if1
  · tm_at "evb"
  · intro h2
    have h2 : c = 92 ∧ st' = 34 := by simpa using h2
    obtain ⟨rfl, rfl⟩ := h2
    tm_at "set"
    tm_at "self"
    exact wpSs_nil (hQ _ _ _ _ _ (.q_esc rfl))
  intro h2
  tm_at "aug"
  exact wpSs_nil (hQ _ _ _ _ _ (.q_chr hst h (fun z => by simp [z.1, z.2] at h2)))
theorem step_e (hC : C.G = G w) (hro : C.ro = false) (hl : C.lvl ≤ 80) {env : Env} (hs : env.scope = fS (kid (st 19) 6)) {a d b : Addr} (hnd : [a, d].Nodup) (ib : Bd) (ln : Int) (tok : List Nat) (ht : tok.length ≤ 10000000) (q : Bool) (esc c : Nat) (Q : FM → St → Prop)
    (hQ : ∀ fl st₁ esc' q' tok', Stp c 92 esc q tok fl st₁ esc' q' tok' → Q fl (rtS a d b ib (tx [st₁]) ln tok' q' [esc'] [c])) : wpSs C env (rtB.drop 3) (rtS a d b ib (tx [92]) ln tok q [esc] [c]) Q := by
  have hnm : env.scope.names = (fS (kid (st 19) 6)).names := by rw [hs]
  conv at hnm => rhs; whnf
  have ht' : tok.length ≤ 16777216 := by omega
  apply ss_if1
  · tm_at "evb"
  · intro h; first | cases h | exact absurd h (by decide)
  intro _
  apply ss_if1
  · tm_at "evb"
  · intro h; first | cases h | exact absurd h (by decide)
  intro _
  apply ss_if1
  · tm_at "evb"
  · intro h; first | cases h | exact absurd h (by decide)
  intro _
  apply ss_if1
  · tm_at "evb"
  rotate_left
  · intro h; exact absurd h (by decide)
  intro _
  apply ss_no
  · tm_at "evb"
  · rfl
  apply ss_if
  · tm_at "evb"
  · intro h
    have h : (esc = 39 ∨ esc = 34) ∧ c ≠ 92 ∧ c ≠ esc := by simpa using h
    tm_at "aug"
    refine wpSs_nil ?_
    tm_at "aug"
    tm_at "self"
    exact wpSs_nil (hQ _ _ _ _ _ (.e_both h.1.symm h.2.1 h.2.2))
  · intro h
    have h : ¬ ((esc = 34 ∨ esc = 39) ∧ c ≠ 92 ∧ c ≠ esc) := fun z => by
      obtain ⟨z1, z2, z3⟩ := z
      rcases z1 with rfl | rfl <;> simp [z2, z3] at h
    refine wpSs_nil ?_
    tm_at "aug"
    tm_at "self"
    exact wpSs_nil (hQ _ _ _ _ _ (.e_one h))
theorem step_a (hC : C.G = G w) (hro : C.ro = false) (hl : C.lvl ≤ 80) {env : Env} (hs : env.scope = fS (kid (st 19) 6)) {a d b : Addr} (hnd : [a, d].Nodup) (ib : Bd) (ln : Int) (tok : List Nat) (ht : tok.length ≤ 10000000) (q : Bool) (esc c : Nat) (Q : FM → St → Prop)
    (hQ : ∀ fl st₁ esc' q' tok', Stp c 97 esc q tok fl st₁ esc' q' tok' → Q fl (rtS a d b ib (tx [st₁]) ln tok' q' [esc'] [c])) : wpSs C env (rtB.drop 3) (rtS a d b ib (tx [97]) ln tok q [esc] [c]) Q := by
  have hnm : env.scope.names = (fS (kid (st 19) 6)).names := by rw [hs]
  conv at hnm => rhs; whnf
  have ht' : tok.length ≤ 16777216 := by omega
  apply ss_if1
  · tm_at "evb"
  · intro h; first | cases h | exact absurd h (by decide)
  intro _
  apply ss_if1
  · tm_at "evb"
  · intro h; first | cases h | exact absurd h (by decide)
  intro _
  apply ss_if1
  · tm_at "evb"
  · intro h; first | cases h | exact absurd h (by decide)
  intro _
  apply ss_if1
  · tm_at "evb"
  · intro h; first | cases h | exact absurd h (by decide)
  intro _
  apply ss_if1
  · tm_at "evb"
  rotate_left
  · intro h; exact absurd h (by decide)
  intro _
  apply ss_if1
  · tm_at "evb"
  · intro h; cases h
  intro _
  apply ss_if1
  · tm_at "evb"
  · intro hw
    have hw := of_decide_eq_true hw
    apply ss_no
    · tm_at "evb"
    · rfl
    tm_at "self"
    apply ss_if1
    · tm_at "evb"
    · intro hb
      refine wpSs_cons (wpS_break ?_)
      refine hQ _ _ _ _ _ (.a_brk hw ?_)
      cases tok <;> cases q <;> simp_all
    · intro hb
      refine wpSs_cons (wpS_continue ?_)
      have : tok = [] ∧ q = false := by cases tok <;> cases q <;> simp_all
      obtain ⟨rfl, rfl⟩ := this
      exact hQ _ _ _ _ _ (.a_ws hw)
  intro hw
  have hw := of_decide_eq_false hw
  apply ss_if1
  · tm_at "evb"
  · intro h; first | cases h | exact absurd h (by decide)
  intro _
  apply ss_if1
  · tm_at "evb"
  · intro h; first | cases h | exact absurd h (by decide)
  intro _
  apply ss_if1
  · tm_at "evb"
  · intro h
    have h : c = 39 ∨ c = 34 := by simpa using h
    tm_at "self"
    exact wpSs_nil (hQ _ _ _ _ _ (.a_quo h.symm))
  intro h3
  have h3 : c ≠ 39 ∧ c ≠ 34 := by simpa using h3
  apply ss_if1
  · tm_at "evb"
  · intro h
    have h : c = 92 := by simpa using h
    tm_at "set"
    tm_at "self"
    refine wpSs_nil (hQ _ _ _ _ _ ?_)
    subst h
    exact .a_esc rfl
  intro h1
  have h1 : c ≠ 92 := by simpa using h1
  apply ss_if1
  · tm_at "evb"
  · intro _
    tm_at "aug"
    exact wpSs_nil (hQ _ _ _ _ _ (.a_chr hw h1 h3.2 h3.1))
  · intro h; exfalso; simp at h
theorem eof_n (hC : C.G = G w) (hro : C.ro = false) (hl : C.lvl ≤ 80) {env : Env} (hs : env.scope = fS (kid (st 19) 6)) {a d b : Addr} (hnd : [a, d].Nodup) (ib : Bd) (ln : Int) (tok : List Nat) (ht : tok.length ≤ 10000000) (q : Bool) (esc : Nat) (Q : FM → St → Prop) (hQ : Q .brk (rtS a d b ib .none ln [] q [esc] [])) : wpSs C env (rtB.drop 3) (rtS a d b ib .none ln tok q [esc] []) Q := by
  have hnm : env.scope.names = (fS (kid (st 19) 6)).names := by rw [hs]
  conv at hnm => rhs; whnf
  have ht' : tok.length ≤ 16777216 := by omega
  apply ss_if1
  · tm_at "evb"
  rotate_left
  · intro h; cases h
  intro _
  tm_at "self"
  exact wpSs_cons (wpS_break hQ)
theorem eof_b (hC : C.G = G w) (hro : C.ro = false) (hl : C.lvl ≤ 80) {env : Env} (hs : env.scope = fS (kid (st 19) 6)) {a d b : Addr} (hnd : [a, d].Nodup) (ib : Bd) (ln : Int) (tok : List Nat) (ht : tok.length ≤ 10000000) (q : Bool) (esc : Nat) (Q : FM → St → Prop) (hQ : Q .brk (rtS a d b ib .none ln tok q [esc] [])) : wpSs C env (rtB.drop 3) (rtS a d b ib (tx [32]) ln tok q [esc] []) Q := by
  have hnm : env.scope.names = (fS (kid (st 19) 6)).names := by rw [hs]
  conv at hnm => rhs; whnf
  have ht' : tok.length ≤ 16777216 := by omega
  apply ss_if1
  · tm_at "evb"
  · intro h; first | cases h | exact absurd h (by decide)
  intro _
  apply ss_if1
  · tm_at "evb"
  rotate_left
  · intro h; exact absurd h (by decide)
  intro _
  apply ss_if1
  · tm_at "evb"
  rotate_left
  · intro h; cases h
  intro _
  tm_at "self"
  exact wpSs_cons (wpS_break hQ)
theorem eof_a (hC : C.G = G w) (hro : C.ro = false) (hl : C.lvl ≤ 80) {env : Env} (hs : env.scope = fS (kid (st 19) 6)) {a d b : Addr} (hnd : [a, d].Nodup) (ib : Bd) (ln : Int) (tok : List Nat) (ht : tok.length ≤ 10000000) (q : Bool) (esc : Nat) (Q : FM → St → Prop) (hQ : Q .brk (rtS a d b ib .none ln tok q [esc] [])) : wpSs C env (rtB.drop 3) (rtS a d b ib (tx [97]) ln tok q [esc] []) Q := by
  have hnm : env.scope.names = (fS (kid (st 19) 6)).names := by rw [hs]
  conv at hnm => rhs; whnf
  have ht' : tok.length ≤ 16777216 := by omega
  apply ss_if1
  · tm_at "evb"
  · intro h; first | cases h | exact absurd h (by decide)
  intro _
  apply ss_if1
  · tm_at "evb"
  · intro h; first | cases h | exact absurd h (by decide)
  intro _
  apply ss_if1
  · tm_at "evb"
  · intro h; first | cases h | exact absurd h (by decide)
  intro _
  apply ss_if1
  · tm_at "evb"
  · intro h; first | cases h | exact absurd h (by decide)
  intro _
  apply ss_if1
  · tm_at "evb"
  rotate_left
  · intro h; exact absurd h (by decide)
  intro _
  apply ss_if1
  · tm_at "evb"
  rotate_left
  · intro h; cases h
  intro _
  tm_at "self"
  exact wpSs_cons (wpS_break hQ)
theorem def_readtok (w : World) : IsDef (G w) 690 (fdAt w.params 690) (fB (kid (st 19) 6)) [S "self"] := by
  refine def_of w 690 689 [S "self"] (kid (st 19) 6) rfl ?_ ?_ rfl ?_ ?_ ?_ ?_ ?_ ?_ ?_ ?_ ?_ ?_ ?_ (by decide +kernel) ?bb ?kk
  case bb =>
    intro vs hv
    match vs, hv with
    | [a0], _ => kernel_rfl
  case kk =>
    intro x hx
    simp only [List.mem_cons, List.not_mem_nil, or_false] at hx
    rcases hx with rfl <;> exact .inl (by kernel_rfl)
  all_goals kernel_rfl
/-- one sign read: does the word end, and what then -/
noncomputable def stp (c st esc : Nat) (q : Bool) (tok : List Nat) : Bool × Nat × Nat × Bool × List Nat :=
  if st = 32 then
    if c ∈ WS then (if tok ≠ [] ∨ q = true then (true, 32, esc, q, tok) else (false, 32, esc, q, tok))
    else if c = 92 then (false, 92, 97, q, tok) else if c = 34 ∨ c = 39 then (false, c, esc, q, tok) else (false, 97, esc, q, [c])
  else if st = 34 ∨ st = 39 then
    if c = st then (false, 97, esc, true, tok) else if c = 92 ∧ st = 34 then (false, 92, 34, true, tok) else (false, st, esc, true, tok ++ [c])
  else if st = 92 then
    if (esc = 34 ∨ esc = 39) ∧ c ≠ 92 ∧ c ≠ esc then (false, esc, esc, q, tok ++ [92] ++ [c]) else (false, esc, esc, q, tok ++ [c])
  else
    if c ∈ WS then (if tok ≠ [] ∨ q = true then (true, 32, esc, q, tok) else (false, 32, esc, q, tok))
    else if c = 34 ∨ c = 39 then (false, c, esc, q, tok) else if c = 92 then (false, 92, 97, q, tok) else (false, 97, esc, q, tok ++ [c])
noncomputable def isB : FM → Bool
  | .brk => true
  | _ => false
theorem stp_of {c st esc q tok fl st' esc' q' tok'} (h : Stp c st esc q tok fl st' esc' q' tok') : stp c st esc q tok = (isB fl, st', esc', q', tok') ∧ (fl = .brk ∨ fl = .next ∨ fl = .cont) := by
  cases h with
  | b_brk hw h => exact ⟨by simp [stp, hw, h, isB], .inl rfl⟩
  | b_ws hw => exact ⟨by simp [stp, hw, isB], .inr (.inr rfl)⟩
  | b_esc h => subst h; exact ⟨by simp [stp, isB, WS], .inr (.inl rfl)⟩
  | b_quo h => exact ⟨by rcases h with rfl | rfl <;> simp [stp, isB, WS], .inr (.inl rfl)⟩
  | b_chr hw h1 h2 h3 => exact ⟨by simp [stp, isB, hw, h1, h2, h3], .inr (.inl rfl)⟩
  | q_close hs h => subst h; exact ⟨by rcases hs with rfl | rfl <;> simp [stp, isB], .inr (.inl rfl)⟩
  | q_esc h => subst h; exact ⟨by simp [stp, isB], .inr (.inl rfl)⟩
  | q_chr hs h1 h2 => exact ⟨by rcases hs with rfl | rfl <;> simp_all [stp, isB], .inr (.inl rfl)⟩
  | e_both h1 h2 h3 => exact ⟨by simp [stp, isB, h1, h2, h3], .inr (.inl rfl)⟩
  | e_one h => exact ⟨by unfold stp; rw [if_neg (by decide), if_neg (by decide), if_pos rfl, if_neg h]; rfl, .inr (.inl rfl)⟩
  | a_brk hw h => exact ⟨by simp [stp, hw, h, isB], .inl rfl⟩
  | a_ws hw => exact ⟨by simp [stp, hw, isB], .inr (.inr rfl)⟩
  | a_esc h => subst h; exact ⟨by simp [stp, isB, WS], .inr (.inl rfl)⟩
  | a_quo h => exact ⟨by rcases h with rfl | rfl <;> simp [stp, isB, WS], .inr (.inl rfl)⟩
  | a_chr hw h1 h2 h3 => exact ⟨by simp [stp, isB, hw, h1, h2, h3], .inr (.inl rfl)⟩
structure Tk where
  q : Bool
  tok : List Nat
  st : Option Nat
  rest : List Nat
  ln : Int
noncomputable def rt : List Nat → Option Nat → Nat → Bool → List Nat → Int → Option Tk
  | [], none, _, q, _, ln => some ⟨q, [], none, [], ln⟩
  | [], some st, _, q, tok, ln => if st = 32 ∨ st = 97 then some ⟨q, tok, none, [], ln⟩ else none
  | _ :: _, none, _, _, _, _ => none
  | c :: r, some st, esc, q, tok, ln =>
    match stp c st esc q tok with
    | (true, st', _, q', tok') => some ⟨q', tok', some st', r, if c = 10 then ln + 1 else ln⟩
    | (false, st', esc', q', tok') => rt r (some st') esc' q' tok' (if c = 10 then ln + 1 else ln)
noncomputable def okS (st : Option Nat) (esc : Nat) : Prop := match st with
  | none => True
  | some s => s = 32 ∨ s = 34 ∨ s = 39 ∨ s = 97 ∨ (s = 92 ∧ (esc = 34 ∨ esc = 97))
theorem okS_step {c st esc q tok fl st' esc' q' tok'} (h : Stp c st esc q tok fl st' esc' q' tok') (ho : okS (some st) esc) : okS (some st') esc' := by
  unfold okS at *
  cases h <;> simp_all <;> omega
theorem len_step {c st esc q tok fl st' esc' q' tok'} (h : Stp c st esc q tok fl st' esc' q' tok') : tok'.length ≤ tok.length + 2 := by
  cases h <;> simp <;> omega
noncomputable def stM : Option Nat → MV
  | none => .none
  | some s => tx [s]
noncomputable abbrev rtT (a d b : Addr) (ib : Bd) (z : MV) (ln : Int) (tok : List Nat) (q : Bool) (esc : List Nat) (tail : St) : St := (S "self", .fz (.obj (.ref a))) :: (S "@lex", lexB a d b z ln tok) :: (S "@in", ib) :: (S "quoted", .fz (.bool q)) :: (S "escapedstate", .fz (tx esc)) :: tail
noncomputable def resM (k : Tk) : MV := if k.q = false ∧ k.tok = [] then .none else tx k.tok
theorem fin_body (hC : C.G = G w) (hro : C.ro = false) {env : Env} (hs : env.scope = fS (kid (st 19) 6)) {a d b : Addr} (ib : Bd) (k : Tk) (hk : k.tok.length ≤ 16777216) (esc : List Nat) (m : MV) :
    wpSs C env ((fB (kid (st 19) 6)).drop 3) (rtT a d b ib (stM k.st) k.ln k.tok k.q esc [(S "nextchar", .fz m)]) fun fm σ' => (match fm with | .ret r => r = resM k | .next => resM k = .none | _ => False) ∧ ∀ p ∈ [(S "@lex", lexB a d b (stM k.st) k.ln []), (S "@in", ib)], sget σ' p.1 = some p.2 := by
  have hnm : env.scope.names = (fS (kid (st 19) 6)).names := by rw [hs]
  conv at hnm => rhs; whnf
  tm_at "set"
  tm_at "self"
  have gg : ∀ r : MV, ∀ p ∈ [(S "@lex", lexB a d b (stM k.st) k.ln []), (S "@in", ib)], sget ((S "self", .fz (.obj (.ref a))) :: (S "@lex", lexB a d b (stM k.st) k.ln []) :: (S "@in", ib) :: (S "quoted", .fz (.bool k.q)) :: (S "escapedstate", .fz (tx esc)) :: [(S "nextchar", .fz m), (S "result", .fz r)]) p.1 = some p.2 := by
    intro r p hp
    simp only [List.mem_cons, List.not_mem_nil, or_false] at hp
    rcases hp with rfl | rfl <;> tm_at "sg"
  apply ss_if
  · tm_at "evb"
  · intro h
    have h : k.q = false ∧ k.tok = [] := by simpa using h
    tm_at "set"
    refine wpSs_nil ?_
    apply ss_no
    · tm_at "evb"
    · rfl
    refine ss_ret (m := .none) ?_ ⟨by simp [resM, h], gg _⟩
    tm_at "ev"
  · intro h
    have h : ¬ (k.q = false ∧ k.tok = []) := fun z => by simp [z.1, z.2] at h
    refine wpSs_nil ?_
    apply ss_no
    · tm_at "evb"
    · rfl
    refine ss_ret (m := tx k.tok) ?_ ⟨by simp only [resM, if_neg h], gg _⟩
    tm_at "ev"
local macro_rules | `(tactic| tm_at "attr") => `(tactic| (with_reducible show Ev _ _ _ (Expr.Attribute _ _ _) _); (with_reducible apply ev_punct (by assumption) (by assumption) (hbase := rfl)); (rotate_left); (tm_at "ev"); (tm_at "sg"); (assumption))
/-- the loop's invariant: what is left to read ends in k -/
noncomputable def rtJ (a d b e : Addr) (buf : List Nat) (k : Tk) (n : Nat) (σ : St) : Prop := ∃ (l : List Nat) (z : Option Nat) (esc : Nat) (q : Bool) (tok : List Nat) (ln : Int) (pos : Nat) (tail : St),
  n = l.length ∧ pos ≤ buf.length ∧ buf.drop pos = l ∧ tok.length ≤ 2 * pos ∧ okS z esc ∧ rt l z esc q tok ln = some k ∧ σ = rtT a d b (inB b e buf pos) (stM z) ln tok q [esc] tail ∧ (tail = [] ∨ ∃ m, tail = [(S "nextchar", .fz m)])
theorem turn_ (hC : C.G = G w) (hro : C.ro = false) (hl : C.lvl ≤ 80) {env : Env} (hs : env.scope = fS (kid (st 19) 6)) {a d b e : Addr} (hnd : [a, d, b, e].Nodup) (buf : List Nat) (hb : buf.length ≤ 1000000) (l : List Nat) (z : Option Nat) (esc : Nat) (q : Bool) (tok : List Nat) (ln : Int) (pos pos' : Nat) (tail : St)
    (htl : tail = [] ∨ ∃ m, tail = [(S "nextchar", .fz m)]) (r : List Nat) (hr : (pos < buf.length → r = (buf.drop pos).take 1 ∧ pos' = pos + 1) ∧ (buf.length ≤ pos → r = [] ∧ pos' = pos)) (ln' : Int) (hln : ln' = if r = [10] then ln + 1 else ln) (Q : FM → St → Prop)
    (h : wpSs C env (rtB.drop 3) (rtS a d b (inB b e buf pos') (stM z) ln' tok q [esc] r) Q) : wpSs C env rtB (rtT a d b (inB b e buf pos) (stM z) ln tok q [esc] tail) Q := by
  have hnm : env.scope.names = (fS (kid (st 19) 6)).names := by rw [hs]
  conv at hnm => rhs; whnf
  have hnd1 : [a, d].Nodup := by simp_all
  have hnd2 : [b, e].Nodup := by simp_all
  apply ss_if (b := false)
  · refine evB_and (b := false) (c := false) ?_ fun h => nomatch h
    apply evB_plain (he := fun _ => rfl) (b := false) (m := tx [])
    · exact Ev.t (ev_punct hC hl hnd1 (by tm_at "ev") (by tm_at "sg") rfl)
    · exact tr_tx (l := []) (by simp)
  · intro h; cases h
  intro _
  have hσ : ∀ m, sput (rtT a d b (inB b e buf pos') (stM z) ln tok q [esc] tail) (S "nextchar") (.fz m) = rtT a d b (inB b e buf pos') (stM z) ln tok q [esc] [(S "nextchar", .fz m)] := by
    intro m
    rcases htl with rfl | ⟨m', rfl⟩ <;> tm_at "sp"
  apply ss_ometh (x := S "@in") (k := 89) (full := false) (γ := [(S "@in", inB b e buf pos)]) (γ' := [(S "@in", inB b e buf pos')]) (r := tx r) hro (kok hC) (cls_sio _) (hs := by rw [hC]; exact spec_read w b e buf pos (by omega) r pos' hr) (hk := by omega) (hfull := fun h => nomatch h) (hnd := hnd2) (hsm := .cons .nil) (hkn := by simp) (hfn := fn_at hC rfl (by kernel_rfl) (by kernel_rfl)) (hbase := rfl) (hline := rfl) (hfew := by decide) (hp' := hσ _)
  · tm_at "ev"
  · tm_at "sg"
  · tm_at "fn0"
  · kernel_rfl
  · kernel_rfl
  · tm_at "evs"
  · intro p hp; rw [List.mem_singleton.mp hp]; tm_at "sg"
  · tm_at "stores"
  · show sput _ _ _ = _
    tm_at "sp"
  refine wpSs_nil ?_
  apply ss_if
  · tm_at "evb"
  · intro h1
    have h1 : r = [10] := by simpa using h1
    tm_at "aug"
    refine wpSs_nil ?_
    apply ss_no
    · tm_at "evb"
    · rfl
    rw [hln, if_pos h1] at h
    exact h
  · intro h1
    have h1 : ¬ r = [10] := by simpa using h1
    refine wpSs_nil ?_
    apply ss_no
    · tm_at "evb"
    · rfl
    rw [hln, if_neg h1] at h
    exact h
theorem rt_cons {c st esc q tok fl st' esc' q' tok'} {r : List Nat} {ln : Int} (h : Stp c st esc q tok fl st' esc' q' tok') : rt (c :: r) (some st) esc q tok ln = if isB fl = true then some ⟨q', tok', some st', r, if c = 10 then ln + 1 else ln⟩ else rt r (some st') esc' q' tok' (if c = 10 then ln + 1 else ln) := by
  rw [rt, (stp_of h).1]
  cases isB fl <;> rfl
theorem rt_body (hC : C.G = G w) (hro : C.ro = false) (hl : C.lvl ≤ 80) {env : Env} (hs : env.scope = fS (kid (st 19) 6)) {a d b e : Addr} (hnd : [a, d, b, e].Nodup) (buf : List Nat) (hb : buf.length ≤ 1000000) (z : Option Nat) (hz : z = none ∨ z = some 32) (ln : Int) (pos : Nat) (hpos : pos ≤ buf.length) (k : Tk) (hk : rt (buf.drop pos) z 32 false [] ln = some k) :
    wpSs C env (fB (kid (st 19) 6)) [(S "self", .fz (.obj (.ref a))), (S "@lex", lexB a d b (stM z) ln []), (S "@in", inB b e buf pos)] fun fm σ' => (match fm with | .ret r => r = resM k | .next => resM k = .none | _ => False) ∧ ∀ p ∈ [(S "@lex", lexB a d b (stM k.st) k.ln []), (S "@in", inB b e buf ((buf.length - k.rest.length : Nat) : Int))], sget σ' p.1 = some p.2 := by
  have hnm : env.scope.names = (fS (kid (st 19) 6)).names := by rw [hs]
  conv at hnm => rhs; whnf
  have hnd1 : [a, d].Nodup := by simp_all
  tm_at "set"
  tm_at "set"
  refine wpSs_cons (wpS_while (rtJ a d b e buf k) ?_ (buf.drop pos).length ?_)
  rotate_left
  · exact ⟨_, z, 32, false, [], ln, pos, [], rfl, hpos, rfl, by simp, by rcases hz with rfl | rfl <;> simp [okS], hk, rfl, .inl rfl⟩
  rintro n σ ⟨l, z, esc, q, tok, ln, pos, tail, hn, hp, hd, htk, hok, hrt, rfl, htl⟩
  refine ⟨true, evB_plain (m := .bool true) (Ev.t ev_bool) tr_bool (fun _ => rfl), fun _ => ?_, fun h => nomatch h⟩
  have hlen : l.length = buf.length - pos := by rw [← hd, List.length_drop]
  cases l with
  | nil =>
    have hpe : pos = buf.length := by simp at hlen; omega
    refine turn_ hC hro hl hs hnd buf hb [] z esc q tok ln pos pos tail htl [] ⟨fun h => by omega, fun _ => ⟨rfl, rfl⟩⟩ ln (by simp) _ ?_
    have fin : ∀ k' : Tk, k' = k → k'.rest = [] → k'.tok.length ≤ 16777216 → ∀ (es m), wpSs C env ((fB (kid (st 19) 6)).drop 3) (rtT a d b (inB b e buf pos) (stM k'.st) k'.ln k'.tok k'.q es [(S "nextchar", .fz m)]) fun fm σ' => (match fm with | .ret r => r = resM k | .next => resM k = .none | _ => False) ∧ ∀ p ∈ [(S "@lex", lexB a d b (stM k.st) k.ln []), (S "@in", inB b e buf ((buf.length - k.rest.length : Nat) : Int))], sget σ' p.1 = some p.2 := by
      rintro k' rfl hr hl es m
      rw [hr, List.length_nil, Nat.sub_zero, ← hpe]
      exact fin_body hC hro hs _ k' hl es m
    cases z with
    | none =>
      rw [rt] at hrt
      exact eof_n hC hro hl hs hnd1 _ ln tok (by omega) q esc _ (fin _ (Option.some.inj hrt) rfl (by simp) _ _)
    | some s =>
      rw [rt] at hrt
      split at hrt
      · rename_i hs2
        have := fin _ (Option.some.inj hrt) rfl (by show tok.length ≤ _; omega)
        rcases hs2 with rfl | rfl
        · exact eof_b hC hro hl hs hnd1 _ ln tok (by omega) q esc _ (this _ _)
        · exact eof_a hC hro hl hs hnd1 _ ln tok (by omega) q esc _ (this _ _)
      · cases hrt
  | cons c r =>
    have hlt : pos < buf.length := by simp at hlen; omega
    have hd' : buf.drop (pos + 1) = r := by rw [← List.drop_drop, hd]; rfl
    cases z with
    | none => rw [rt] at hrt; cases hrt
    | some s =>
      refine turn_ hC hro hl hs hnd buf hb [] (some s) esc q tok ln pos (pos + 1) tail htl [c] ⟨fun _ => ⟨by rw [hd]; rfl, rfl⟩, fun h => by omega⟩ (if c = 10 then ln + 1 else ln) (by by_cases h : c = 10 <;> simp [h]) _ ?_
      have key : ∀ fl st' esc' q' tok', Stp c s esc q tok fl st' esc' q' tok' → (fun fm τ => match fm with | FM.next | .cont => ∃ m, m < n ∧ rtJ a d b e buf k m τ | .brk => (match FM.next with | .next => wpSs C env ((fB (kid (st 19) 6)).drop 3) τ (fun fm σ' => (match fm with | .ret r => r = resM k | .next => resM k = .none | _ => False) ∧ ∀ p ∈ [(S "@lex", lexB a d b (stM k.st) k.ln []), (S "@in", inB b e buf ((buf.length - k.rest.length : Nat) : Int))], sget σ' p.1 = some p.2) | fm => (match fm with | .ret r => r = resM k | .next => resM k = .none | _ => False) ∧ ∀ p ∈ [(S "@lex", lexB a d b (stM k.st) k.ln []), (S "@in", inB b e buf ((buf.length - k.rest.length : Nat) : Int))], sget τ p.1 = some p.2) | .ret v => (match FM.ret v with | .ret r => r = resM k | .next => resM k = .none | _ => False) ∧ ∀ p ∈ [(S "@lex", lexB a d b (stM k.st) k.ln []), (S "@in", inB b e buf ((buf.length - k.rest.length : Nat) : Int))], sget τ p.1 = some p.2) fl (rtS a d b (inB b e buf ((pos + 1 : Nat) : Int)) (tx [st']) (if c = 10 then ln + 1 else ln) tok' q' [esc'] [c]) := by
        intro fl st' esc' q' tok' hS
        have hrt' := hrt
        rw [rt_cons hS] at hrt'
        have hlt' := len_step hS
        have go : isB fl = false → ∃ m, m < n ∧ rtJ a d b e buf k m (rtS a d b (inB b e buf ((pos + 1 : Nat) : Int)) (tx [st']) (if c = 10 then ln + 1 else ln) tok' q' [esc'] [c]) := fun hf => by
          rw [hf, if_neg (by decide)] at hrt'
          exact ⟨r.length, by rw [hn]; simp, r, some st', esc', q', tok', _, pos + 1, _, rfl, by omega, hd', by omega, okS_step hS hok, hrt', rfl, .inr ⟨_, rfl⟩⟩
        rcases (stp_of hS).2 with rfl | rfl | rfl
        · rw [if_pos (show isB .brk = true from rfl)] at hrt'
          have hk := Option.some.inj hrt'
          have hrl : k.rest.length = buf.length - pos - 1 := by rw [← hk]; simp at hlen; show r.length = _; omega
          show wpSs C env ((fB (kid (st 19) 6)).drop 3) _ _
          rw [hrl, show buf.length - (buf.length - pos - 1) = pos + 1 by omega, ← hk]
          exact fin_body hC hro hs _ ⟨q', tok', some st', r, _⟩ (by show tok'.length ≤ _; omega) _ _
        · exact go rfl
        · exact go rfl
      rcases hok with rfl | rfl | rfl | rfl | ⟨rfl, hesc⟩
      · exact step_b hC hro hl hs hnd1 _ _ tok (by omega) q esc c _ key
      · exact step_q hC hro hl hs hnd1 _ _ tok (by omega) q 34 esc c (.inl rfl) _ key
      · exact step_q hC hro hl hs hnd1 _ _ tok (by omega) q 39 esc c (.inr rfl) _ key
      · exact step_a hC hro hl hs hnd1 _ _ tok (by omega) q esc c _ key
      · exact step_e hC hro hl hs hnd1 _ _ tok (by omega) q esc c _ key
theorem spec_rt (w : World) {a d b e : Addr} (buf : List Nat) (hb : buf.length ≤ 1000000) (z : Option Nat) (hz : z = none ∨ z = some 32) (ln : Int) (pos : Nat) (hpos : pos ≤ buf.length) (k : Tk) (hk : rt (buf.drop pos) z 32 false [] ln = some k) :
    SpecO (G w) false 79 (.ref 690) [.obj (.ref a)] [(S "@lex", lexB a d b (stM z) ln []), (S "@in", inB b e buf pos)] (resM k) [(S "@lex", lexB a d b (stM k.st) k.ln []), (S "@in", inB b e buf ((buf.length - k.rest.length : Nat) : Int))] :=
  (codeO_of (γ := [(S "@lex", lexB a d b (stM z) ln []), (S "@in", inB b e buf pos)]) (γ' := [(S "@lex", lexB a d b (stM k.st) k.ln []), (S "@in", inB b e buf ((buf.length - k.rest.length : Nat) : Int))]) (def_readtok w) (by omega) rfl rfl (by intro p hp; simp only [List.mem_cons, List.not_mem_nil, or_false] at hp; rcases hp with rfl | rfl <;> kernel_rfl) (fun C hC hl _ L _ hro hnd => rt_body hC hro hl (by kernel_rfl) hnd buf hb z hz ln pos hpos k hk) (by intro p hp; simp only [List.mem_cons, List.not_mem_nil, or_false] at hp; rcases hp with rfl | rfl <;> kernel_rfl)).spec (def_readtok w) rfl
theorem def_gettok (w : World) : IsDef (G w) 683 (fdAt w.params 683) (fB (kid (st 19) 5)) [S "self"] := by
  refine def_of w 683 682 [S "self"] (kid (st 19) 5) rfl ?_ ?_ rfl ?_ ?_ ?_ ?_ ?_ ?_ ?_ ?_ ?_ ?_ ?_ (by decide +kernel) ?bb ?kk
  case bb =>
    intro vs hv
    match vs, hv with
    | [a0], _ => kernel_rfl
  case kk =>
    intro x hx
    simp only [List.mem_cons, List.not_mem_nil, or_false] at hx
    rcases hx with rfl <;> exact .inl (by kernel_rfl)
  all_goals kernel_rfl
theorem def_iter (w : World) : IsDef (G w) 712 (fdAt w.params 712) (fB (kid (st 19) 9)) [S "self"] := by
  refine def_of w 712 711 [S "self"] (kid (st 19) 9) rfl ?_ ?_ rfl ?_ ?_ ?_ ?_ ?_ ?_ ?_ ?_ ?_ ?_ ?_ (by decide +kernel) ?bb ?kk
  case bb =>
    intro vs hv
    match vs, hv with
    | [a0], _ => kernel_rfl
  case kk =>
    intro x hx
    simp only [List.mem_cons, List.not_mem_nil, or_false] at hx
    rcases hx with rfl <;> exact .inl (by kernel_rfl)
  all_goals kernel_rfl
theorem def_next (w : World) : IsDef (G w) 719 (fdAt w.params 719) (fB (kid (st 19) 10)) [S "self"] := by
  refine def_of w 719 718 [S "self"] (kid (st 19) 10) rfl ?_ ?_ rfl ?_ ?_ ?_ ?_ ?_ ?_ ?_ ?_ ?_ ?_ ?_ (by decide +kernel) ?bb ?kk
  case bb =>
    intro vs hv
    match vs, hv with
    | [a0], _ => kernel_rfl
  case kk =>
    intro x hx
    simp only [List.mem_cons, List.not_mem_nil, or_false] at hx
    rcases hx with rfl <;> exact .inl (by kernel_rfl)
  all_goals kernel_rfl
noncomputable abbrev gaM (a d b e : Addr) (buf : List Nat) (z : Option Nat) (ln : Int) (pos : Nat) : St := [(S "@lex", lexB a d b (stM z) ln []), (S "@in", inB b e buf pos)]
theorem gt_body (hC : C.G = G w) (hro : C.ro = false) (hl : C.lvl ≤ 79) {env : Env} (hs : env.scope = fS (kid (st 19) 5)) {a d b e : Addr} (hnd : [a, d, b, e].Nodup) (buf : List Nat) (hb : buf.length ≤ 1000000) (z : Option Nat) (hz : z = none ∨ z = some 32) (ln : Int) (pos : Nat) (hpos : pos ≤ buf.length) (k : Tk) (hk : rt (buf.drop pos) z 32 false [] ln = some k) :
    wpSs C env (fB (kid (st 19) 5)) ([(S "self", .fz (.obj (.ref a)))] ++ gaM a d b e buf z ln pos) fun fm σ' => (match fm with | .ret r => r = resM k | .next => resM k = .none | _ => False) ∧ ∀ p ∈ gaM a d b e buf k.st k.ln (buf.length - k.rest.length), sget σ' p.1 = some p.2 := by
  have hnm : env.scope.names = (fS (kid (st 19) 5)).names := by rw [hs]
  conv at hnm => rhs; whnf
  have gg : ∀ r : MV, ∀ p ∈ gaM a d b e buf k.st k.ln (buf.length - k.rest.length), sget [(S "self", .fz (.obj (.ref a))), (S "@lex", lexB a d b (stM k.st) k.ln []), (S "@in", inB b e buf ((buf.length - k.rest.length : Nat) : Int)), (S "raw", .fz r)] p.1 = some p.2 := by
    intro r p hp
    simp only [List.mem_cons, List.not_mem_nil, or_false] at hp
    rcases hp with rfl | rfl <;> tm_at "sg"
  show wpSs C env _ [(S "self", .fz (.obj (.ref a))), (S "@lex", lexB a d b (stM z) ln []), (S "@in", inB b e buf pos)] _
  apply ss_no
  · tm_at "evb"
  · rfl
  have hp0 : sputs [(S "self", .fz (.obj (.ref a))), (S "@lex", lexB a d b (stM z) ln []), (S "@in", inB b e buf pos)] (gaM a d b e buf k.st k.ln (buf.length - k.rest.length)) = [(S "self", .fz (.obj (.ref a))), (S "@lex", lexB a d b (stM k.st) k.ln []), (S "@in", inB b e buf ((buf.length - k.rest.length : Nat) : Int))] := by
    have e1 : sput [(S "self", .fz (.obj (.ref a))), (S "@lex", lexB a d b (stM z) ln []), (S "@in", inB b e buf pos)] (S "@lex") (lexB a d b (stM k.st) k.ln []) = [(S "self", .fz (.obj (.ref a))), (S "@lex", lexB a d b (stM k.st) k.ln []), (S "@in", inB b e buf pos)] := by tm_at "sp"
    show sput (sput _ _ _) _ _ = _
    refine (congrArg (fun s => sput s (S "@in") (inB b e buf ((buf.length - k.rest.length : Nat) : Int))) e1).trans ?_
    tm_at "sp"
  apply ss_ometh (x := S "@lex") (hp := hp0) (k := 79) (full := false) (γ := gaM a d b e buf z ln pos) (γ' := gaM a d b e buf k.st k.ln (buf.length - k.rest.length)) (r := resM k) hro (kok hC) (cls_shlex _) (hs := by rw [hC]; exact spec_rt w buf hb z hz ln pos hpos k hk) (hk := by omega) (hfull := fun h => nomatch h) (hnd := hnd) (hsm := .cons (.cons .nil)) (hkn := by simp; decide +kernel) (hfn := fn_at hC rfl (by kernel_rfl) (by kernel_rfl)) (hbase := rfl) (hline := rfl) (hfew := by decide) (ha := .nil)
  · tm_at "ev"
  · tm_at "sg"
  · tm_at "fn0"
  · kernel_rfl
  · kernel_rfl
  · intro p hp
    simp only [List.mem_cons, List.not_mem_nil, or_false] at hp
    rcases hp with rfl | rfl <;> tm_at "sg"
  · tm_at "stores"
  · tm_at "sp"
  apply ss_no
  · tm_at "evb"
  · rfl
  by_cases hr : k.q = false ∧ k.tok = []
  · rw [show resM k = .none by simp [resM, hr]]
    refine wpSs_cons (wpS_while (fun n σ => σ = [(S "self", .fz (.obj (.ref a))), (S "@lex", lexB a d b (stM k.st) k.ln []), (S "@in", inB b e buf ((buf.length - k.rest.length : Nat) : Int)), (S "raw", .fz .none)]) ?_ 0 rfl)
    rintro n σ rfl
    refine ⟨true, ?_, fun _ => ?_, fun h => nomatch h⟩
    · tm_at "evb"
    apply ss_if1
    · tm_at "evb"
    · intro _
      refine ss_ret (m := .none) ?_ ⟨rfl, gg _⟩
      tm_at "ev"
    · intro h; cases h
  · have hres : resM k = tx k.tok := by simp only [resM, if_neg hr]
    rw [hres]
    refine wpSs_cons (wpS_while (fun n σ => σ = [(S "self", .fz (.obj (.ref a))), (S "@lex", lexB a d b (stM k.st) k.ln []), (S "@in", inB b e buf ((buf.length - k.rest.length : Nat) : Int)), (S "raw", .fz (tx k.tok))]) ?_ 0 rfl)
    rintro n σ rfl
    refine ⟨false, ?_, (fun h => nomatch h), fun _ => wpSs_nil ?_⟩
    · tm_at "evb"
    apply ss_no
    · tm_at "evb"
    · rfl
    refine ss_ret (m := tx k.tok) ?_ ⟨rfl, gg _⟩
    tm_at "ev"
theorem spec_gt (w : World) {a d b e : Addr} (buf : List Nat) (hb : buf.length ≤ 1000000) (z : Option Nat) (hz : z = none ∨ z = some 32) (ln : Int) (pos : Nat) (hpos : pos ≤ buf.length) (k : Tk) (hk : rt (buf.drop pos) z 32 false [] ln = some k) :
    SpecO (G w) false 78 (.ref 683) [.obj (.ref a)] (gaM a d b e buf z ln pos) (resM k) (gaM a d b e buf k.st k.ln (buf.length - k.rest.length)) :=
  (codeO_of (γ := gaM a d b e buf z ln pos) (γ' := gaM a d b e buf k.st k.ln (buf.length - k.rest.length)) (def_gettok w) (by omega) rfl rfl (by intro p hp; simp only [List.mem_cons, List.not_mem_nil, or_false] at hp; rcases hp with rfl | rfl <;> kernel_rfl) (fun C hC hl _ L _ hro hnd => gt_body hC hro hl (by kernel_rfl) hnd buf hb z hz ln pos hpos k hk) (by intro p hp; simp only [List.mem_cons, List.not_mem_nil, or_false] at hp; rcases hp with rfl | rfl <;> kernel_rfl)).spec (def_gettok w) rfl
theorem gv_stop {C : Cx} {w : World} (hC : C.G = G w) : GV C (S "StopIteration") (.type "StopIteration") := gv_blt hC (by kernel_rfl) (by kernel_rfl)
theorem ga_mem {P : Str × Bd → Prop} {a d b e : Addr} {buf : List Nat} {z : Option Nat} {ln : Int} {pos : Nat} (h1 : P (S "@lex", lexB a d b (stM z) ln [])) (h2 : P (S "@in", inB b e buf pos)) : ∀ p ∈ gaM a d b e buf z ln pos, P p := by
  intro p hp
  simp only [List.mem_cons, List.not_mem_nil, or_false] at hp
  rcases hp with rfl | rfl
  · exact h1
  · exact h2
/-- the first statement of next -/
theorem next_first (hC : C.G = G w) (hro : C.ro = false) (hl : C.lvl ≤ 78) {env : Env} (hs : env.scope = fS (kid (st 19) 10)) {a d b e : Addr} (hnd : [a, d, b, e].Nodup) (buf : List Nat) (hb : buf.length ≤ 1000000) (z : Option Nat) (hz : z = none ∨ z = some 32) (ln : Int) (pos : Nat) (hpos : pos ≤ buf.length) (k : Tk) (hk : rt (buf.drop pos) z 32 false [] ln = some k) (Q : FM → St → Prop)
    (h : Q .next ([(S "self", .fz (.obj (.ref a))), (S "@lex", lexB a d b (stM k.st) k.ln []), (S "@in", inB b e buf ((buf.length - k.rest.length : Nat) : Int)), (S "token", .fz (resM k))])) :
    wpS C env ((fB (kid (st 19) 10)).head!) [(S "self", .fz (.obj (.ref a))), (S "@lex", lexB a d b (stM z) ln []), (S "@in", inB b e buf pos)] Q := by
  have hnm : env.scope.names = (fS (kid (st 19) 10)).names := by rw [hs]
  conv at hnm => rhs; whnf
  have hp0 : sputs [(S "self", .fz (.obj (.ref a))), (S "@lex", lexB a d b (stM z) ln []), (S "@in", inB b e buf pos)] (gaM a d b e buf k.st k.ln (buf.length - k.rest.length)) = [(S "self", .fz (.obj (.ref a))), (S "@lex", lexB a d b (stM k.st) k.ln []), (S "@in", inB b e buf ((buf.length - k.rest.length : Nat) : Int))] := by
    have e1 : sput [(S "self", .fz (.obj (.ref a))), (S "@lex", lexB a d b (stM z) ln []), (S "@in", inB b e buf pos)] (S "@lex") (lexB a d b (stM k.st) k.ln []) = [(S "self", .fz (.obj (.ref a))), (S "@lex", lexB a d b (stM k.st) k.ln []), (S "@in", inB b e buf pos)] := by tm_at "sp"
    show sput (sput _ _ _) _ _ = _
    refine (congrArg (fun s => sput s (S "@in") (inB b e buf ((buf.length - k.rest.length : Nat) : Int))) e1).trans ?_
    tm_at "sp"
  have hp1 : sput [(S "self", .fz (.obj (.ref a))), (S "@lex", lexB a d b (stM k.st) k.ln []), (S "@in", inB b e buf ((buf.length - k.rest.length : Nat) : Int))] (S "token") (.fz (resM k)) = [(S "self", .fz (.obj (.ref a))), (S "@lex", lexB a d b (stM k.st) k.ln []), (S "@in", inB b e buf ((buf.length - k.rest.length : Nat) : Int)), (S "token", .fz (resM k))] := by tm_at "sp"
  apply wpS_assign_ometh (x := S "@lex") (k := 78) (full := false) (γ := gaM a d b e buf z ln pos) (γ' := gaM a d b e buf k.st k.ln (buf.length - k.rest.length)) (r := resM k) hro (kok hC) (cls_shlex _) (hs := by rw [hC]; exact spec_gt w buf hb z hz ln pos hpos k hk) (hk := by omega) (hfull := fun h => nomatch h) (hnd := hnd) (hsm := .cons (.cons .nil)) (hkn := by simp; decide +kernel) (hfn := fn_at hC rfl (by kernel_rfl) (by kernel_rfl)) (hbase := rfl) (hline := rfl) (hfew := by decide) (ha := .nil)
  · tm_at "ev"
  · tm_at "sg"
  · tm_at "fn0"
  · kernel_rfl
  · kernel_rfl
  · exact ga_mem (by tm_at "sg") (by tm_at "sg")
  · tm_at "stores"
  · rw [hp0, show Str.ofString "token" = S "token" from rfl, hp1]; exact h
theorem next_body (hC : C.G = G w) (hro : C.ro = false) (hl : C.lvl ≤ 78) {env : Env} (hs : env.scope = fS (kid (st 19) 10)) {a d b e : Addr} (hnd : [a, d, b, e].Nodup) (buf : List Nat) (hb : buf.length ≤ 1000000) (z : Option Nat) (hz : z = none ∨ z = some 32) (ln : Int) (pos : Nat) (hpos : pos ≤ buf.length) (k : Tk) (hk : rt (buf.drop pos) z 32 false [] ln = some k) (hr : ¬ (k.q = false ∧ k.tok = [])) :
    wpSs C env (fB (kid (st 19) 10)) ([(S "self", .fz (.obj (.ref a)))] ++ gaM a d b e buf z ln pos) fun fm σ' => (match fm with | .ret r => r = tx k.tok | .next => tx k.tok = .none | _ => False) ∧ ∀ p ∈ gaM a d b e buf k.st k.ln (buf.length - k.rest.length), sget σ' p.1 = some p.2 := by
  have hnm : env.scope.names = (fS (kid (st 19) 10)).names := by rw [hs]
  conv at hnm => rhs; whnf
  have hres : resM k = tx k.tok := by simp only [resM, if_neg hr]
  refine wpSs_cons (next_first hC hro hl hs hnd buf hb z hz ln pos hpos k hk _ ?_)
  rw [hres]
  apply ss_no
  · tm_at "evb"
  · rfl
  refine ss_ret (m := tx k.tok) ?_ ⟨rfl, ga_mem (by tm_at "sg") (by tm_at "sg")⟩
  tm_at "ev"
theorem stop_body (hC : C.G = G w) (hro : C.ro = false) (hl : C.lvl ≤ 78) {env : Env} (hs : env.scope = fS (kid (st 19) 10)) {a d b e : Addr} (hnd : [a, d, b, e].Nodup) (buf : List Nat) (hb : buf.length ≤ 1000000) (z : Option Nat) (hz : z = none ∨ z = some 32) (ln : Int) (pos : Nat) (hpos : pos ≤ buf.length) (k : Tk) (hk : rt (buf.drop pos) z 32 false [] ln = some k) (hr : k.q = false ∧ k.tok = []) (hmB : C.mB = [a, d, b, e]) :
    wpX C env (fB (kid (st 19) 10)) ([(S "self", .fz (.obj (.ref a)))] ++ gaM a d b e buf z ln pos) "StopIteration" (gaM a d b e buf k.st k.ln (buf.length - k.rest.length)) := by
  have hnm : env.scope.names = (fS (kid (st 19) 10)).names := by rw [hs]
  conv at hnm => rhs; whnf
  have hres : resM k = .none := by simp [resM, hr]
  refine wpX_step (next_first hC hro hl hs hnd buf hb z hz ln pos hpos k hk _ ?_)
  rw [hres]
  refine wpX_if ?_ (wpX_stop (gv_stop hC) (by tm_at "kind") rfl (ga_mem (by tm_at "sg") (by tm_at "sg")) ?_)
  · tm_at "evb"
  · intro x hx
    rw [hmB] at hx
    simp only [List.mem_cons, List.not_mem_nil, or_false] at hx
    rcases hx with h | h | h | h
    · exact ⟨S "@lex", a, _, d, _, by tm_at "sg", .inl h⟩
    · exact ⟨S "@lex", a, _, d, _, by tm_at "sg", .inr h⟩
    · exact ⟨S "@in", b, _, e, _, by tm_at "sg", .inl h⟩
    · exact ⟨S "@in", b, _, e, _, by tm_at "sg", .inr h⟩
theorem spec_next (w : World) {a d b e : Addr} (buf : List Nat) (hb : buf.length ≤ 1000000) (z : Option Nat) (hz : z = none ∨ z = some 32) (ln : Int) (pos : Nat) (hpos : pos ≤ buf.length) (k : Tk) (hk : rt (buf.drop pos) z 32 false [] ln = some k) (hr : ¬ (k.q = false ∧ k.tok = [])) :
    SpecO (G w) false 77 (.ref 719) [.obj (.ref a)] (gaM a d b e buf z ln pos) (tx k.tok) (gaM a d b e buf k.st k.ln (buf.length - k.rest.length)) :=
  (codeO_of (γ := gaM a d b e buf z ln pos) (γ' := gaM a d b e buf k.st k.ln (buf.length - k.rest.length)) (def_next w) (by omega) rfl rfl (ga_mem (by kernel_rfl) (by kernel_rfl)) (fun C hC hl _ L _ hro hnd => next_body hC hro hl (by kernel_rfl) hnd buf hb z hz ln pos hpos k hk hr) (ga_mem (by kernel_rfl) (by kernel_rfl))).spec (def_next w) rfl
theorem spec_stop (w : World) {a d b e : Addr} (buf : List Nat) (hb : buf.length ≤ 1000000) (z : Option Nat) (hz : z = none ∨ z = some 32) (ln : Int) (pos : Nat) (hpos : pos ≤ buf.length) (k : Tk) (hk : rt (buf.drop pos) z 32 false [] ln = some k) (hr : k.q = false ∧ k.tok = []) :
    SpecX (G w) 77 (.ref 719) [.obj (.ref a)] (gaM a d b e buf z ln pos) "StopIteration" (gaM a d b e buf k.st k.ln (buf.length - k.rest.length)) :=
  specX_of (γ := gaM a d b e buf z ln pos) (γ' := gaM a d b e buf k.st k.ln (buf.length - k.rest.length)) (def_next w) (by omega) rfl rfl (ga_mem (by kernel_rfl) (by kernel_rfl)) rfl (fun C hC hl _ L hmB hro hnd => stop_body hC hro hl (by kernel_rfl) hnd buf hb z hz ln pos hpos k hk hr hmB) (ga_mem (by kernel_rfl) (by kernel_rfl))
theorem iter_body (hC : C.G = G w) {env : Env} (hs : env.scope = fS (kid (st 19) 9)) (a : Addr) :
    wpSs C env (fB (kid (st 19) 9)) [(S "self", .fz (.obj (.ref a)))] fun fm _ => match fm with | .ret r => r = .obj (.ref a) | .next => MV.obj (.ref a) = .none | _ => False := by
  have hnm : env.scope.names = (fS (kid (st 19) 9)).names := by rw [hs]
  conv at hnm => rhs; whnf
  refine ss_ret (m := .obj (.ref a)) ?_ rfl
  tm_at "ev"
theorem spec_iter (w : World) (a : Addr) {k : Nat} (hk : k + 1 ≤ 100) : Spec (G w) false k (.ref 712) [.obj (.ref a)] (.obj (.ref a)) :=
  spec_of (def_iter w) hk rfl fun C hC _ _ L => iter_body hC (by kernel_rfl) a
/-- the words that are read from a place on -/
inductive Lx (buf : List Nat) : Option Nat → Int → Nat → List (List Nat) → Prop
  | done {z ln pos k} : rt (buf.drop pos) z 32 false [] ln = some k → (k.q = false ∧ k.tok = []) → Lx buf z ln pos []
  | word {z ln pos k ws} : rt (buf.drop pos) z 32 false [] ln = some k → ¬ (k.q = false ∧ k.tok = []) → Lx buf k.st k.ln (buf.length - k.rest.length) ws → Lx buf z ln pos (k.tok :: ws)
theorem rt_st : ∀ {l : List Nat} {z : Option Nat} {esc : Nat} {q : Bool} {tok : List Nat} {ln : Int} {k : Tk}, rt l z esc q tok ln = some k → k.st = none ∨ k.st = some 32
  | [], none, _, _, _, _, k, h => by rw [rt] at h; cases h; exact .inl rfl
  | [], some s, _, _, _, _, k, h => by
    rw [rt] at h
    split at h
    · cases h; exact .inl rfl
    · cases h
  | c :: r, none, _, _, _, _, k, h => by rw [rt] at h; cases h
  | c :: r, some s, esc, q, tok, ln, k, h => by
    rw [rt] at h
    split at h
    · rename_i st' e' q' tok' hs
      cases h
      refine .inr ?_
      show some st' = _
      unfold stp at hs
      repeat' split at hs
      all_goals first | (cases hs; rfl) | cases hs
    · exact rt_st h
theorem k_next (P : Params) : findIn (Kf P) (.ref 722) (S "__next__") = some (some (.ref 719)) ∧ typeIn (Kf P) (.ref 719) = some (.type "function") := ⟨by kernel_rfl, by kernel_rfl⟩
theorem k_iter (P : Params) : findIn (Kf P) (.ref 722) (S "__iter__") = some (some (.ref 712)) ∧ typeIn (Kf P) (.ref 712) = some (.type "function") := ⟨by kernel_rfl, by kernel_rfl⟩
theorem next_word (hC : C.G = G w) (hl : C.lvl ≤ 77) {s : Shared} {a d b e : Addr} {buf : List Nat} (hb : buf.length ≤ 1000000) {z : Option Nat} (hz : z = none ∨ z = some 32) {ln : Int} {pos : Nat} (hpos : pos ≤ buf.length) {k : Tk} (hk : rt (buf.drop pos) z 32 false [] ln = some k) (hr : ¬ (k.q = false ∧ k.tok = []))
    (hok : C.ok s.heap) (hfr : FramesIn C.n₀ s.heap C.fs) (hg : GOk C s.heap (gaM a d b e buf z ln pos)) :
    wpAny C.M C.A (pyNext (.ref a)) (fun r s' => KMs C.S [a, d, b, e] s s' ∧ GIn s'.heap (gaM a d b e buf k.st k.ln (buf.length - k.rest.length)) ∧ ∃ t, r = some (.str (mk k.tok) t)) F s := by
  have X := kok hC _ hok
  obtain ⟨sl, od, mA, I, _⟩ := (hg.gin (S "@lex") a 722 d _ List.mem_cons_self).look
  unfold pyNext
  refine wpAny_bind (wpAny_attempt (special_fn (name := "__next__") (args := []) X I (k_next _).1 (k_next _).2 (wpAny_mono (spec_next w buf hb z hz ln pos hpos k hk hr C hC hl (fun h => nomatch h) s [] [.ref a] hok hfr (fun _ h => nomatch h) ⟨_, [], rfl, rfl, rfl⟩ hg) (fun v s' hq => ?_) (fun _ _ h => h.elim))))
  obtain ⟨h1, h2, t, rfl⟩ := hq
  exact wpAny_pure ⟨h1, h2, t, rfl⟩
theorem next_stop (hC : C.G = G w) (hl : C.lvl ≤ 77) (hfull : C.Full) {s : Shared} {a d b e : Addr} {buf : List Nat} (hb : buf.length ≤ 1000000) {z : Option Nat} (hz : z = none ∨ z = some 32) {ln : Int} {pos : Nat} (hpos : pos ≤ buf.length) {k : Tk} (hk : rt (buf.drop pos) z 32 false [] ln = some k) (hr : k.q = false ∧ k.tok = [])
    (hok : C.ok s.heap) (hfr : FramesIn C.n₀ s.heap C.fs) (hg : GOk C s.heap (gaM a d b e buf z ln pos)) :
    wpAny C.M C.A (pyNext (.ref a)) (fun r s' => KMs C.S [a, d, b, e] s s' ∧ r = none) F s := by
  have X := kok hC _ hok
  obtain ⟨sl, od, mA, I, _⟩ := (hg.gin (S "@lex") a 722 d _ List.mem_cons_self).look
  unfold pyNext
  refine wpAny_bind (wpAny_attempt (special_fn (name := "__next__") (args := []) X I (k_next _).1 (k_next _).2 (wpAny_mono (spec_stop w buf hb z hz ln pos hpos k hk hr C hC hl hfull s [] [.ref a] hok hfr (fun _ h => nomatch h) ⟨_, [], rfl, rfl, rfl⟩ hg) (fun v s' hq => hq.elim) (fun v s' hq => ?_))))
  obtain ⟨h1, h2, e', o, rfl, he, hc⟩ := hq
  have hT : s'.TypeIs (.ref e') "StopIteration" := (show ∃ o, s'.heap.get? e' = some o ∧ o.cls = .type "StopIteration" from ⟨o, he, hc⟩)
  refine wpAny_bind (wpAny_isInstance hT owsi_facts.sub ?_)
  exact wpAny_pure ⟨h1, rfl⟩
inductive TxV : List (List Nat) → List Value → Prop
  | nil : TxV [] []
  | cons {l v ws vs} : (∃ t, v = Value.str (mk l) t) → TxV ws vs → TxV (l :: ws) (v :: vs)
theorem TxV.vins {h : Heap} {O : List Addr} : ∀ {ws : List (List Nat)} {vs : List Value}, TxV ws vs → VIns h O (ws.map tx) vs
  | _, _, .nil => rfl
  | _, _, .cons h r => ⟨_, _, rfl, h, TxV.vins r⟩
theorem GIn.seqs {S B : List Addr} {h h' : Heap} (hB : ∀ b ∈ B, ∃ o xs n, h.get? b = some o ∧ o.data = .seq xs n) (km : KM S B h h') {γ : St} (g : GIn h γ) : GIn h' γ := fun x a Ca d fs hm => by
  obtain ⟨⟨sl, ea⟩, hne, mA, ⟨od, es, ep, ed, dd, rr⟩, hF⟩ := g x a Ca d fs hm
  have ha : a ∉ B := fun q => by obtain ⟨o, xs, n, e1, d1⟩ := hB a q; rw [ea] at e1; cases e1; cases d1
  have hd' : d ∉ B := fun q => by obtain ⟨o, xs, n, e1, d1⟩ := hB d q; rw [ed] at e1; cases e1; rw [dd] at d1; cases d1
  obtain ⟨_, oa, ea', x1, x2, x3⟩ := km a _ ea ha
  obtain ⟨_, od', ed', y1, _⟩ := km d _ ed hd'
  refine ⟨⟨oa.slots, ?_⟩, hne, mA, ⟨od', es, ep, ed', y1.trans dd, rr⟩, hF.to fun p dq => ?_⟩
  · obtain ⟨c1, c2, c3, c4⟩ := oa
    cases x1; cases x2; cases x3
    exact ea'
  · obtain ⟨o, n, t, e1, c1, d1⟩ := dq
    have hp : p ∉ B := fun q => by obtain ⟨o', xs, n', e2, d2⟩ := hB p q; rw [e1] at e2; cases e2; rw [d1] at d2; cases d2
    obtain ⟨_, o', e', z1, z2, _⟩ := km p o e1 hp
    exact ⟨o', n, t, e', z2.trans c1, z1.trans d1⟩
theorem FramesIn.km {n₀ : Nat} {h h' : Heap} {fs : List Env} {S B : List Addr} (x : FramesIn n₀ h fs) (hB : ∀ e ∈ fs, ∀ L, e.frame = some L → L ∉ B) (k : KM S B h h') : FramesIn n₀ h' fs := fun e he => by
  obtain ⟨a, L, o, hf, hn, ho, es, ep, hd⟩ := x e he
  obtain ⟨_, o', e', d1, _⟩ := k L o ho (hB e he L hf)
  exact ⟨a, L, o', hf, hn, e', es, ep, d1.trans hd⟩
theorem KM.mono {S B B' : List Addr} {h h' : Heap} (x : KM S B h h') (hb : ∀ b ∈ B, b ∈ B') : KM S B' h h' := fun b o e hB => x b o e fun q => hB (hb b q)
theorem KM.upd {S : List Addr} {h : Heap} {L : Addr} (f : Obj → Obj) : KM S [L] h (h.update L f) := fun b o e hB => by
  have : L ≠ b := fun q => hB (by simp [q])
  exact ⟨fun _ => (Heap.get?_update_other _ _ this).trans e, o, (Heap.get?_update_other _ _ this).trans e, rfl, rfl, rfl⟩
theorem low_S (C : Cx) {h : Heap} (hfr : FramesIn C.n₀ h C.fs) {b : Addr} (hb : b < C.n₀) : b ∉ C.S := fun hs => by
  obtain ⟨ev, hm, hf⟩ := C.hS b hs
  obtain ⟨_, L, o', hf', hn, _⟩ := hfr ev hm
  rw [hf] at hf'; cases hf'
  exact absurd hb (Nat.not_lt.mpr hn)
theorem ext_loop (hC : C.G = G w) (hl : C.lvl ≤ 76) (hfull : C.Full) {a d b e : Addr} (hnd : [a, d, b, e].Nodup) {buf : List Nat} (hb : buf.length ≤ 1000000) {L : Addr} (hLn : C.n₀ ≤ L) {R : Result → Shared → Prop} : ∀ {z ln pos ws}, Lx buf z ln pos ws → (z = none ∨ z = some 32) → pos ≤ buf.length → ∀ (s : Shared) (acc : Array Value) (c : Nat),
    acc.size + ws.length ≤ 10000000 → C.ok s.heap → FramesIn C.n₀ s.heap C.fs → GOk C s.heap (gaM a d b e buf z ln pos) → s.heap.get? L = some { cls := .type "list", dict := none, data := .seq acc c, slots := #[] } →
    (∀ s' vs c', KMs C.S [L, a, d, b, e] s s' → TxV ws vs → s'.heap.get? L = some { cls := .type "list", dict := none, data := .seq (acc ++ vs.toArray) c', slots := #[] } → R (.ok (.ret .none)) s') →
    codeAny C.M C.A (.builtin "list.extend.loop" ⟨[.ref L, .ref a, .none], []⟩) R s := by
  intro z ln pos ws hL
  have hl1 : C.lvl + 1 ≤ 100 := by omega
  induction hL with
  | @done z ln pos k hk hr =>
    intro hz hpos s acc c hsz hok hfr hg hS hR
    refine codeAny_builtin PySem.F.entry_extend_loop ?_
    rw [Around.under_plainId PySem.F.plain_extend_loop _]
    show wpAny _ C.A.in1 (pyNext (.ref a) >>= _) _ _ s
    refine wpAny_bind (wpAny_mono (next_stop (C := C.up hl1) hC (by show C.lvl + 1 ≤ 77; omega) hfull hb hz hpos hk hr hok hfr ⟨hg.gin, hg.apart, hg.nodup⟩) (fun r s' h => ?_) fun _ _ h => h.elim)
    obtain ⟨⟨h', tk, rfl, km⟩, rfl⟩ := h
    refine wpAny_pure (hR _ [] c ⟨h', tk, rfl, km.mono (fun b hb => List.mem_cons_of_mem _ hb)⟩ .nil ?_)
    have hnB : L ∉ [a, d, b, e] := fun q => by
      obtain ⟨o, e1⟩ := hg.gin.live L q
      have : ∀ x ∈ instA (gaM a d b e buf z ln pos), ∀ o, s.heap.get? x = some o → ∀ xs n, o.data ≠ .seq xs n := fun x hx o eo xs n q2 => by
        obtain ⟨y, a', Cl, d', fs, hm, w⟩ := instA_of hx
        obtain ⟨⟨sl, ea⟩, _, mA, ⟨od, es, ep, ed, dd, _⟩, _⟩ := hg.gin y a' Cl d' fs hm
        rcases w with rfl | rfl
        · rw [ea] at eo; cases eo; cases q2
        · rw [ed] at eo; cases eo; rw [dd] at q2; cases q2
      exact this L q _ hS _ _ rfl
    have hnS : L ∉ C.S := fun q => by
      obtain ⟨ev, hm, hf⟩ := C.hS L q
      obtain ⟨_, L', o', hf', _, ho', es, ep, hd'⟩ := hfr ev hm
      rw [hf] at hf'; cases hf'; rw [hS] at ho'; cases ho'; cases hd'
    have := (km L _ hS hnB).1 hnS
    simpa using this
  | @word z ln pos k ws hk hr hL ih =>
    intro hz hpos s acc c hsz hok hfr hg hS hR
    refine codeAny_builtin PySem.F.entry_extend_loop ?_
    rw [Around.under_plainId PySem.F.plain_extend_loop _]
    show wpAny _ C.A.in1 (pyNext (.ref a) >>= _) _ _ s
    refine wpAny_bind (wpAny_mono (next_word (C := C.up hl1) hC (by show C.lvl + 1 ≤ 77; omega) hb hz hpos hk hr hok hfr ⟨hg.gin, hg.apart, hg.nodup⟩) (fun r s' h => ?_) fun _ _ h => h.elim)
    obtain ⟨⟨h', tk, rfl, km⟩, g', t, rfl⟩ := h
    have hnB : L ∉ [a, d, b, e] := fun q => by
      have : ∀ x ∈ instA (gaM a d b e buf z ln pos), ∀ o, s.heap.get? x = some o → ∀ xs n, o.data ≠ .seq xs n := fun x hx o eo xs n q2 => by
        obtain ⟨y, a', Cl, d', fs, hm, w⟩ := instA_of hx
        obtain ⟨⟨sl, ea⟩, _, mA, ⟨od, es, ep, ed, dd, _⟩, _⟩ := hg.gin y a' Cl d' fs hm
        rcases w with rfl | rfl
        · rw [ea] at eo; cases eo; cases q2
        · rw [ed] at eo; cases eo; rw [dd] at q2; cases q2
      exact this L q _ hS _ _ rfl
    have hnS : L ∉ C.S := fun q => by
      obtain ⟨ev, hm, hf⟩ := C.hS L q
      obtain ⟨_, L', o', hf', _, ho', es, ep, hd'⟩ := hfr ev hm
      rw [hf] at hf'; cases hf'; rw [hS] at ho'; cases ho'; cases hd'
    have hS' : h'.get? L = some { cls := .type "list", dict := none, data := .seq acc c, slots := #[] } := (km L _ hS hnB).1 hnS
    have hfr' : FramesIn C.n₀ h' C.fs := hfr.km (fun ev hev L' hf q => (hg.apart L' q).2 ev hev hf) km
    have hok' : C.ok h' := C.mono _ _ (fun b o hb eb => (km b o eb fun q => absurd hb (Nat.not_lt.mpr (hg.apart b q).1)).1 (low_S C hfr hb)) hok
    show wpAny _ C.A.in1 (updateSeq L (·.push (.str (mk k.tok) t)) >>= _) _ _ _
    refine wpAny_bind (wpAny_updateSeq hS' rfl (wpAny_pure ⟨plainId_quiet PySem.F.plain_extend_loop _, ?_⟩) ?_ ?_)
    · have ku : KM C.S [L] h' (h'.update L (Obj.mapSeq (·.push (.str (mk k.tok) t)))) := KM.upd _
      have hLseq : ∀ b ∈ [L], ∃ o xs n, h'.get? b = some o ∧ o.data = .seq xs n := fun b hb => by
        rw [List.mem_singleton.mp hb]; exact ⟨_, _, _, hS', rfl⟩
      have hLfr : ∀ ev ∈ C.fs, ∀ L', ev.frame = some L' → L' ∉ [L] := fun ev hev L' hf q => by
        rw [List.mem_singleton.mp q] at hf
        exact hnS (hfull ev hev L hf)
      refine ih (rt_st hk) (Nat.sub_le _ _) _ (acc.push (.str (mk k.tok) t)) _ (by simp at hsz ⊢; omega) (C.mono _ _ (fun b o hb eb => (ku b o eb (by simp; rintro rfl; exact absurd hb (Nat.not_lt.mpr hLn))).1 (low_S C hfr' hb)) hok') (hfr'.km hLfr ku) ⟨g'.seqs hLseq ku, hg.apart, hg.nodup⟩ (Heap.get?_update_self _ hS' rfl) fun s'' vs c' km'' htx hS'' => ?_
      obtain ⟨h'', tk'', rfl, km''⟩ := km''
      refine hR _ (.str (mk k.tok) t :: vs) c' ⟨h'', tk'', rfl, (km.mono (fun b hb => List.mem_cons_of_mem _ hb)).trans ((ku.mono (fun b hb => by rw [List.mem_singleton.mp hb]; exact List.mem_cons_self)).trans km'')⟩ (.cons ⟨t, rfl⟩ htx) ?_
      rw [hS'']
      simp
    · simp at hsz; rw [sizeLine_eq]; omega
    · show (acc.push _).size ≤ sizeLine + 1
      simp at hsz; rw [Array.size_push, sizeLine_eq]; omega
theorem k_nolen (P : Params) : findIn (Kf P) (.ref 722) (S "__len__") = some none ∧ findIn (Kf P) (.ref 722) (S "__length_hint__") = some none := ⟨by kernel_rfl, by kernel_rfl⟩
/-- iter of an object whose own method gives itself back -/
theorem iter_ {K : Frag} {a Cl f g : Addr} {ox : Obj} {od : Option Obj} {s : Shared} {Q : Value → Shared → Prop} (X : K.In s.heap) (I : InstAt s.heap a ox Cl od) (hs : findIn K (.ref Cl) "__iter__" = some (some (.ref f))) (hf : typeIn K (.ref f) = some (.type "function")) (hn : findIn K (.ref Cl) "__next__" = some (some (.ref g)))
    (hI : ∀ s', KSs [] s s' → K.In s'.heap ∧ InstAt s'.heap a ox Cl od)
    (h : wpAny C.M C.A (call (.ref f) [.ref a]) (fun v s' => v = .ref a ∧ KSs [] s s' ∧ Q (.ref a) s') F s) : wpAny C.M C.A (pyIter (.ref a)) Q F s := by
  have fin : wpAny C.M C.A (call (.ref f) [.ref a] >>= fun v => pure (some v)) (fun r s' => r = some (.ref a) ∧ KSs [] s s' ∧ Q (.ref a) s') F s :=
    wpAny_bind (wpAny_mono h (fun v s' q => wpAny_pure ⟨by rw [q.1], q.2⟩) fun _ _ z => z)
  have one : ∀ refuse : Sem Value, wpAny C.M C.A (callSpecialIfBoundUnlessNone? (.ref a) "__iter__" refuse) (fun r s' => r = some (.ref a) ∧ KSs [] s s' ∧ Q (.ref a) s') F s := by
    intro refuse
    simp only [callSpecialIfBoundUnlessNone?, bindSpecialIfBound?]
    refine wpAny_holding (wpAny_bind (wpAny_bind (wpAny_bind (I.type.here ((looks_findIn X hs).here ?_)))))
    refine wpAny_bind (wpAny_askSetting (wpAny_ite ?_))
    have fin2 : wpAny C.M C.A (if (Value.ref f == Value.none) = true then (refuse >>= fun v => pure (some v)) else (call (.ref f) [.ref a] >>= fun v => pure (some v))) (fun r s' => r = some (.ref a) ∧ KSs [] s s' ∧ Q (.ref a) s') F s := by
      rw [if_neg (show ¬ ((Value.ref f == Value.none) = true) from Bool.false_ne_true)]
      exact fin
    split
    · exact wpAny_bind ((bind_fn X _ hf).here (wpAny_pure (by exact fin2)))
    · exact wpAny_tryCatch (wpAny_bind ((bind_fn X _ hf).here (wpAny_pure (by exact fin2))))
  unfold pyIter
  refine wpAny_bind (wpAny_bind (I.type.here ((looks_findIn X hs).here ?_)))
  show wpAny C.M C.A (callSpecialIfBoundUnlessNone? (.ref a) "__iter__" _ >>= _) Q F s
  refine wpAny_bind (wpAny_mono (one _) (fun r s' hr => ?_) fun _ _ z => z)
  obtain ⟨rfl, k, q⟩ := hr
  obtain ⟨X', I'⟩ := hI s' k
  exact wpAny_bind (wpAny_bind (I'.type.here ((looks_findIn X' hn).here (wpAny_pure q))))
theorem GOk.keep {h h' : Heap} {γ : St} (k : ∀ b o, h.get? b = some o → h'.get? b = some o) (g : GOk C h γ) : GOk C h' γ := ⟨fun x a Ca d fs hm => (g.gin x a Ca d fs hm).ks (S := []) (.of_keep k), g.apart, g.nodup⟩
theorem list_lex (hC : C.G = G w) (hl : C.lvl ≤ 74) (hfull : C.Full) {a d b e : Addr} {buf : List Nat} (hb : buf.length ≤ 1000000) {z ln pos ws} (hL : Lx buf z ln pos ws) (hz : z = none ∨ z = some 32) (hpos : pos ≤ buf.length) (hws : ws.length ≤ 1000000)
    {s : Shared} (hok : C.ok s.heap) (hfr : FramesIn C.n₀ s.heap C.fs) (hg : GOk C s.heap (gaM a d b e buf z ln pos)) :
    wpAny C.M C.A (call (.type "list") [.ref a]) (fun v s' => KMs C.S [a, d, b, e] s s' ∧ ∃ L vs c, v = .ref L ∧ s.heap.get? L = none ∧ s'.heap.get? L = some { cls := .type "list", dict := none, data := .seq vs c, slots := #[] } ∧ TxV ws vs.toList) F s := by
  have hl1 : C.lvl + 1 ≤ 100 := by omega
  have hl2 : (C.up hl1).lvl + 1 ≤ 100 := by show C.lvl + 1 + 1 ≤ 100; omega
  refine callType_codes (Q₁ := fun obj s₁ => obj = .ref s.heap.objs.size ∧ s₁ = { s with heap := s.heap.push { cls := .type "list", data := .seq #[] } }) PySem.F.called_list (PySem.F.typeCall_list_1 _) PySem.F.entry_list_init
    (code_list_new _ ⟨rfl, rfl⟩) fun obj s₁ h₁ => ?_
  obtain ⟨rfl, rfl⟩ := h₁
  have hS : (s.heap.push { cls := .type "list", data := .seq #[] }).get? s.heap.objs.size = some { cls := .type "list", data := .seq #[] } := Heap.get?_push_size _ rfl
  refine ⟨⟨_, hS, rfl⟩, PySem.F.args_list_init_2 _ _, ?_⟩
  generalize hLe : s.heap.objs.size = L at hS ⊢
  have hLnone : s.heap.get? L = none := by rw [← hLe]; exact Heap.get?_none_of_le (Nat.le_refl _)
  have hLn : C.n₀ ≤ L := by rw [← hLe]; exact C.G.low _ hok
  have hk0 : ∀ b o, s.heap.get? b = some o → (s.heap.push { cls := .type "list", data := .seq #[] }).get? b = some o := fun b o eb => Heap.get?_push_of_some _ eb
  show wpAny _ C.A.in1.in1 (do let old ← Builtin.List.listItems (.ref L); Builtin.List.listUpdate (.ref L) (fun _ => #[]); letGo old.toList.reverse; Builtin.List.listExtendWith (.ref L) (.ref a) .none) _ _ _
  refine wpAny_bind ?_
  unfold Builtin.List.listItems
  refine wpAny_bind (wpAny_seqItems hS rfl (wpAny_pure ?_))
  show wpAny _ C.A.in1.in1 (updateSeq L (fun _ => #[]) >>= fun _ => letGo (#[] : Array Value).toList.reverse >>= fun _ => Builtin.List.listExtendWith (.ref L) (.ref a) .none) _ _ _
  refine wpAny_bind (wpAny_updateSeq hS rfl ?_)
  have hS₂ := Heap.get?_update_self (Obj.mapSeq (fun _ => (#[] : Array Value))) hS rfl
  have oth : ∀ b o, s.heap.get? b = some o → ((s.heap.push { cls := .type "list", data := .seq #[] }).update L (Obj.mapSeq (fun _ => (#[] : Array Value)))).get? b = some o := fun b o eb =>
    (Heap.get?_update_other _ _ (fun q => by subst q; rw [hLnone] at eb; cases eb)).trans (hk0 b o eb)
  generalize hH : ((s.heap.push { cls := .type "list", data := .seq #[] }).update L (Obj.mapSeq (fun _ => (#[] : Array Value)))) = H at hS₂ oth ⊢
  refine wpAny_bind (wpAny_letGo ?_)
  unfold Builtin.List.listExtendWith
  have hok2 : C.ok H := C.mono _ _ (fun b o _ eb => oth b o eb) hok
  have hfr2 : FramesIn C.n₀ H C.fs := hfr.ks (S := []) (.of_keep oth)
  have hg2 : GOk C H (gaM a d b e buf z ln pos) := hg.keep oth
  have X := kok hC _ hok2
  obtain ⟨sl, od, mA, I, _⟩ := (hg2.gin (S "@lex") a 722 d _ List.mem_cons_self).look
  have hLa : L ≠ a := fun q => by
    obtain ⟨⟨sl', ea⟩, _⟩ := hg.gin (S "@lex") a 722 d _ List.mem_cons_self
    rw [q] at hLnone; rw [hLnone] at ea; cases ea
  refine wpAny_bind (I.type.here ?_)
  have h1 : Builtin.List.listSameRef (.ref L) (.ref a) = false := by simp [Builtin.List.listSameRef, hLa]
  have h2 : (Value.ref 722 == Value.type "list") = false := by decide
  have h3 : (Value.ref 722 == Value.type "tuple") = false := by decide
  simp only [h1, h2, h3, Bool.or_false, Bool.false_eq_true, if_false]
  refine wpAny_bind (iter_ (C := (C.up hl1).up hl2) X I (k_iter _).1 (k_iter _).2 (k_next _).1 (fun s' k => ⟨X.keeps k.ks.keep, ⟨k.ks.keep _ _ I.at_, I.cls, I.no, k.ks.keep _ _ I.dict⟩⟩) ?_)
  refine wpAny_mono (spec_iter w a (k := 90) (by omega) ((C.up hl1).up hl2).str hC (by show C.lvl + 1 + 1 ≤ 90; omega) (fun h => nomatch h) _ [] [.ref a] hok2 hfr2 (fun _ h => nomatch h) ⟨_, [], rfl, rfl, rfl⟩) (fun v s' hv => ⟨hv.2, hv.1, ?_⟩) fun _ _ h => h
  obtain ⟨⟨H3, tk3, rfl, k3⟩, _⟩ := hv
  have k3 := KS.keep k3
  have hS₃ := k3 _ _ hS₂
  have hok3 : C.ok H3 := C.mono _ _ (fun b o _ eb => k3 b o eb) hok2
  have hfr3 : FramesIn C.n₀ H3 C.fs := hfr2.ks (S := []) (.of_keep k3)
  have hg3 : GOk C H3 (gaM a d b e buf z ln pos) := hg2.keep k3
  have X3 := kok hC _ hok3
  obtain ⟨sl3, od3, mA3, I3, _⟩ := (hg3.gin (S "@lex") a 722 d _ List.mem_cons_self).look
  refine wpAny_bind (wpAny_holding ?_)
  unfold Builtin.List.listLengthHint
  refine wpAny_bind (wpAny_bind (I3.type.here ((looks_findIn X3 (k_nolen _).1).here ?_)))
  show wpAny _ C.A.in1.in1 (specialOf (Value.ref a) (Str.ofString "__length_hint__") >>= _) _ _ _
  refine wpAny_bind (wpAny_bind (I3.type.here ((looks_findIn X3 (k_nolen _).2).here ?_)))
  refine wpAny_pure ?_
  show wpAny _ C.A.in1.in1 (rule "list.extend.makes-room" >>= fun _ => Builtin.List.listTouch (.ref L) >>= fun _ =>
    again (.builtin "list.extend.loop" ⟨[.ref L, .ref a, .none], []⟩)) _ _ _
  refine wpAny_bind (wpAny_rule ?_)
  refine wpAny_bind ?_
  show wpAny _ C.A.in1.in1 (updateSeq L (·.push .none) >>= fun _ => updateSeq L (·.pop)) _ _ _
  refine wpAny_bind (wpAny_updateSeq hS₃ rfl ?_)
  have hS₄ := Heap.get?_update_self (Obj.mapSeq (·.push Value.none)) hS₃ rfl
  refine wpAny_updateSeq (hz := by seq_fits) hS₄ rfl ?_
  have hS₅ := Heap.get?_update_self (Obj.mapSeq (·.pop)) hS₄ rfl
  have oth4 : ∀ b o, s.heap.get? b = some o → ((H3.update L (Obj.mapSeq (·.push Value.none))).update L (Obj.mapSeq (·.pop))).get? b = some o := fun b o eb => by
    have hbL : L ≠ b := fun q => by subst q; rw [hLnone] at eb; cases eb
    exact (Heap.get?_update_other _ _ hbL).trans ((Heap.get?_update_other _ _ hbL).trans (k3 b o (oth b o eb)))
  generalize hH5 : ((H3.update L (Obj.mapSeq (·.push Value.none))).update L (Obj.mapSeq (·.pop))) = H5 at hS₅ oth4 ⊢
  refine wpAny_pure ⟨plainId_quiet PySem.F.plain_extend_loop _, ?_⟩
  refine ext_loop (C := C.up hl1) hC (by show C.lvl + 1 ≤ 76; omega) hfull hg.nodup hb hLn hL hz hpos _ #[] _ (by simp; omega) (C.mono _ _ (fun b o _ eb => oth4 b o eb) hok) (hfr.ks (S := []) (.of_keep oth4)) ⟨(hg.keep oth4).gin, hg.apart, hg.nodup⟩ hS₅ fun s' vs c' km htx hS' => ?_
  obtain ⟨h', tk', rfl, km⟩ := km
  refine ⟨rfl, ⟨h', tk', rfl, fun b o eb hB => ?_⟩, L, _, c', rfl, hLnone, hS', by simpa using htx⟩
  have hbL : b ≠ L := fun q => by subst q; rw [hLnone] at eb; cases eb
  exact km b o (oth4 b o eb) (by simp only [List.mem_cons, not_or] at hB ⊢; exact ⟨hbL, hB⟩)
theorem gv_str {C : Cx} {w : World} (hC : C.G = G w) : GV C (S "str") (.type "str") := gv_blt hC (by kernel_rfl) (by kernel_rfl)
local macro_rules | `(tactic| tm_at "typ") => `(tactic| (with_reducible refine ev_global (gv_str (by assumption)) ?_ ?_); (tm_at "kind"); (rfl))
theorem def_transl (w : World) : IsDef (G w) 364 (fdAt w.params 364) (fB (kid (st 10) 2)) [S "self", S "s"] := by
  refine def_of w 364 363 [S "self", S "s"] (kid (st 10) 2) rfl ?_ ?_ rfl ?_ ?_ ?_ ?_ ?_ ?_ ?_ ?_ ?_ ?_ ?_ (by decide +kernel) ?bb ?kk
  case bb =>
    intro vs hv
    match vs, hv with
    | [a0, a1], _ => kernel_rfl
  case kk =>
    intro x hx
    simp only [List.mem_cons, List.not_mem_nil, or_false] at hx
    rcases hx with rfl | rfl <;> exact .inl (by kernel_rfl)
  all_goals kernel_rfl
theorem def_sinit (w : World) : IsDef (G w) 357 (fdAt w.params 357) (fB (kid (st 10) 1)) [S "self", S "initial_value", S "newline"] := by
  refine def_ofL w 357 356 [S "self", S "initial_value", S "newline"] (kid (st 10) 1) rfl ?_ ?_ rfl ?_ ?_ ?_ ?_ ?_ ?_ ?_ ?_ ?_ ?_ ?_ (by decide +kernel) ?bb ?kk
  case bb =>
    intro M h B vs hv
    match vs, hv with
    | [a0, a1, a2], _ => exact Looks.of_peek (k_in B) (by kernel_rfl)
  case kk =>
    intro x hx
    simp only [List.mem_cons, List.not_mem_nil, or_false] at hx
    rcases hx with rfl | rfl | rfl <;> exact .inl (by kernel_rfl)
  all_goals kernel_rfl
noncomputable abbrev inP (b e : Addr) (buf : List Nat) (pos : Int) (fs : List (Str × MV)) : Bd := .inst b 587 e ((S "_StringIO__newline", tx [10]) :: fs)
theorem transl_body (hC : C.G = G w) {env : Env} (hs : env.scope = fS (kid (st 10) 2)) (b e : Addr) (fs : List (Str × MV)) (l : List Nat) :
    wpSs C env (fB (kid (st 10) 2)) [(S "self", .fz (.obj (.ref b))), (S "s", .fz (tx l)), (S "@in", .inst b 587 e ((S "_StringIO__newline", tx [10]) :: fs))] fun fm _ => match fm with | .ret r => r = tx l | .next => tx l = .none | _ => False := by
  have hnm : env.scope.names = (fS (kid (st 10) 2)).names := by rw [hs]
  conv at hnm => rhs; whnf
  tm_at "set"
  apply ss_no
  · tm_at "evb"
  · rfl
  apply ss_no
  · tm_at "evb"
  · rfl
  refine ss_ret (m := tx l) ?_ rfl
  tm_at "ev"
theorem spec_transl (w : World) (b e : Addr) (fs : List (Str × MV)) (l : List Nat) {k : Nat} (hk : k + 1 ≤ 100) : SpecR (G w) false k (.ref 364) [.obj (.ref b), tx l] [(S "@in", .inst b 587 e ((S "_StringIO__newline", tx [10]) :: fs))] (tx l) :=
  specR_of (def_transl w) hk rfl rfl (by intro p hp; rw [List.mem_singleton.mp hp]; kernel_rfl) fun C hC _ _ L _ => transl_body hC (by kernel_rfl) b e fs l
theorem sinit_body (hC : C.G = G w) (hro : C.ro = false) (hl : C.lvl ≤ 90) {env : Env} (hs : env.scope = fS (kid (st 10) 1)) (b e : Addr) (hnd : [b, e].Nodup) (l : List Nat) :
    wpSs C env (fB (kid (st 10) 1)) [(S "self", .fz (.obj (.ref b))), (S "initial_value", .fz (tx l)), (S "newline", .fz (tx [10])), (S "@in", .inst b 587 e [])] fun fm σ' => (match fm with | .ret m => m = MV.none | .next => MV.none = .none | _ => False) ∧ ∀ p ∈ [(S "@in", inB b e l 0)], sget σ' p.1 = some p.2 := by
  have hnm : env.scope.names = (fS (kid (st 10) 1)).names := by rw [hs]
  conv at hnm => rhs; whnf
  apply ss_no
  · tm_at "evb"
  · rfl
  apply ss_no
  · tm_at "evb"
  · rfl
  apply ss_no
  · tm_at "evb"
  · rfl
  tm_at "self"
  tm_at "self"
  tm_at "self"
  apply ss_if1
  · tm_at "evb"
  rotate_left
  · intro h; cases h
  intro _
  apply ss_setattr (x := S "@in") (hs := rfl) hro (kok hC) (cls_sio _)
  · apply ev_imeth (x := S "@in") (k := 95) (full := false) (γ := [(S "@in", .inst b 587 e [(S "_StringIO__newline", tx [10]), (S "_StringIO__buf", tx []), (S "_StringIO__pos", .int 0)])]) (hK := kok hC) (hC := cls_sio _) (hs := by rw [hC]; exact spec_transl w b e _ l (by omega)) (hk := by omega) (hfull := fun h => nomatch h) (hfn := fn_at hC rfl (by kernel_rfl) (by kernel_rfl)) (hbase := rfl) (hline := rfl) (hfew := by decide)
    · tm_at "ev"
    · tm_at "sg"
    · tm_at "fn0"
    · kernel_rfl
    · kernel_rfl
    · tm_at "evs"
    · intro p hp; rw [List.mem_singleton.mp hp]; tm_at "sg"
    · exact hnd
  · tm_at "ev"
  · tm_at "sg"
  · kernel_rfl
  · rfl
  · rfl
  · tm_at "fp"
  · tm_at "sp"
  refine wpSs_nil ⟨rfl, ?_⟩
  intro p hp; rw [List.mem_singleton.mp hp]; tm_at "sg"
theorem code_sinit (w : World) (b e : Addr) (l : List Nat) : CodeO (G w) false 89 357 (fdAt w.params 357) [S "self", S "initial_value", S "newline"] [.obj (.ref b), tx l, tx [10]] [(S "@in", .inst b 587 e [])] .none [(S "@in", inB b e l 0)] :=
  codeO_of (γ := [(S "@in", .inst b 587 e [])]) (γ' := [(S "@in", inB b e l 0)]) (def_sinit w) (by omega) rfl rfl (by intro p hp; rw [List.mem_singleton.mp hp]; kernel_rfl) (fun C hC hl _ L _ hro hnd => sinit_body hC hro hl (by kernel_rfl) b e hnd l) (by intro p hp; rw [List.mem_singleton.mp hp]; kernel_rfl)
theorem gv_bytesio {C : Cx} {w : World} (hC : C.G = G w) : GV C (S "BytesIO") (.ref 340) := gv_glob hC (by kernel_rfl)
theorem gv_sio {C : Cx} {w : World} (hC : C.G = G w) : GV C (S "StringIO") (.ref 587) := gv_glob hC (by kernel_rfl)
theorem gv_object {C : Cx} {w : World} (hC : C.G = G w) : GV C (S "object") (.type "object") := gv_blt hC (by kernel_rfl) (by kernel_rfl)
theorem isnot_ref_self {C : Cx} {a : Addr} : Cmp C .IsNot (.obj (.ref a)) (.obj (.ref a)) false := fun s O va vb _ ha hb => by
  cases ha; cases hb
  exact wpAny_isNot_ref_self ⟨.refl s, rfl⟩
theorem evB_isnot_refs {C : Cx} {env : Env} {σ : St} {l r : Expr} {p : Pos} {a b : Addr} (hl : Ev C env σ l (.obj (.ref a))) (hr : Ev C env σ r (.obj (.ref b))) (hab : a ≠ b) (hx : ∀ h, C.ok h → ∃ ox oy, h.get? a = some ox ∧ h.get? b = some oy ∧ ox.cls ≠ .type "tuple") (hm : behindInMarks .IsNot r = false) : EvB C env σ (.Compare l [.IsNot] [r] p) true := fun s R => by
  refine wpAny_isTrue_Compare1 (wpAny_mono (hl s R) (fun va s₁ h₁ => ?_) fun _ _ h => h) hm
  obtain ⟨k₁, rfl⟩ := h₁
  have R₁ := R.ks k₁.ks
  refine wpAny_mono (hr s₁ R₁) (fun vb s₂ h₂ => ?_) fun _ _ h => h
  obtain ⟨k₂, rfl⟩ := h₂
  have R₂ := R₁.ks k₂.ks
  obtain ⟨ox, oy, e1, e2, e3⟩ := hx _ R₂.base
  exact wpAny_isNot_ref_other hab e1 e2 e3 (wpAny_truthy_bool ⟨k₁.trans k₂, rfl⟩)
local macro_rules | `(tactic| tm_at "cmp") => `(tactic| with_reducible exact isnot_ref_self)
local macro_rules | `(tactic| tm_at "typ") => `(tactic| first | ((with_reducible refine ev_global (gv_bytesio (by assumption)) ?_ ?_); (tm_at "kind"); (rfl)) | ((with_reducible refine ev_global (gv_sio (by assumption)) ?_ ?_); (tm_at "kind"); (rfl)) | ((with_reducible refine ev_global (gv_object (by assumption)) ?_ ?_); (tm_at "kind"); (rfl)))
theorem def_new (w : World) : IsDef0 (G w) 80 (fdAt w.params 80) (fB (kid (st 6) 1)) [S "cls", S "args", S "kwargs"] where
  at_ := fun h B => ⟨_, at_ B 80 rfl (by kernel_rfl), by kernel_rfl⟩
  code := fun h B => by
    have hc : (fdAt w.params 80).code = .ref 79 := by kernel_rfl
    rw [hc]
    exact code_at B (t := tokOf (vsOf (objAt w.params 79))[1]?) (vs := vsOf (objAt w.params 79)) rfl (by kernel_rfl) (by kernel_rfl) (by kernel_rfl)
  body := by kernel_rfl
  clo := by kernel_rfl
  co := by kernel_rfl
  gen := by kernel_rfl
  kind := by kernel_rfl
  glob := ⟨by kernel_rfl, by kernel_rfl⟩
  nodup := by decide +kernel
  kinds := by
    intro x hx
    simp only [List.mem_cons, List.not_mem_nil, or_false] at hx
    rcases hx with rfl | rfl | rfl <;> exact .inl (by kernel_rfl)
theorem new_ok {P : Params} {h : Heap} (B : BaseOk P h) {M : Model} (hM : M.prog = PySem.Challenge.pw_ny0304_03) (hP : M.w.params = P) : NewOk M h 587 := by
  refine ⟨⟨_, _, _, _, at_ B 587 rfl (by kernel_rfl), by kernel_rfl, by kernel_rfl, by kernel_rfl⟩, ⟨.type "object", Looks.of_peek (k_in B) ?_, Looks.of_peek (k_in B) ?_⟩, Looks.of_peek (k_in B) ?_, Looks.of_peek (k_in B) ?_⟩ <;> rw [hM, hP] <;> kernel_rfl
theorem new_body (hC : C.G = G w) {env : Env} (hs : env.scope = fS (kid (st 6) 1)) (m1 m2 : MV) :
    wpSs C env (fB (kid (st 6) 1)) [(S "cls", .fz (.obj (.ref 587))), (S "args", .fz m1), (S "kwargs", .fz m2)] fun fm σ' => match fm with | .ret m => ∃ a d, m = .obj (.ref a) ∧ sget σ' (S "@new") = some (.inst a 587 d []) | _ => False := by
  have hnm : env.scope.names = (fS (kid (st 6) 1)).names := by rw [hs]
  conv at hnm => rhs; whnf
  apply ss_no (b := (true && (false && true)))
  · apply evB_and
    · refine evB_isnot_refs (a := 587) (b := 340) ?_ ?_ (by decide) ?_ rfl
      · tm_at "ev"
      · tm_at "typ"
      · intro h hok
        have hok : C.G.ok h := hok
        rw [hC] at hok
        exact ⟨_, _, at_ hok 587 rfl (by kernel_rfl), at_ hok 340 rfl (by kernel_rfl), by rw [show (objAt w.params 587).cls = Value.type "type" by kernel_rfl]; intro q; injection q with q; exact absurd q (by decide)⟩
    intro _
    apply evB_and
    · tm_at "evb"
    · intro h; cases h
  · rfl
  refine ss_ret_new (K := Kf w.params) (Cl := 587) (nm := S "@new") (kok hC) ?_ ?_ ?_ ?_ ?_ ?_ ?_
  · tm_at "typ"
  · tm_at "ev"
  · intro h hok
    have hok : C.G.ok h := hok
    rw [hC] at hok
    exact new_ok hok (by show C.G.prog = _; rw [hC]; rfl) (by show C.G.w.params = _; rw [hC]; rfl)
  · rfl
  · show env.scope.names.lookup _ = none
    rw [hnm]; kernel_rfl
  · rfl
  · intro a d
    refine ⟨a, d, rfl, ?_⟩
    simp only [List.cons_append, List.nil_append]
    tm_at "sg"
theorem code_new (w : World) (m1 m2 : MV) : CodeQ (G w) false 90 80 (fdAt w.params 80) [S "cls", S "args", S "kwargs"] [.obj (.ref 587), m1, m2] [] (fun m σ' => ∃ a d, m = .obj (.ref a) ∧ sget σ' (S "@new") = some (.inst a 587 d [])) :=
  codeQ_of (def_new w) (by omega) rfl rfl (fun _ h => nomatch h) fun C hC _ _ L _ _ _ => by
    intro X s R
    refine wpAny_mono (new_body hC (by kernel_rfl) m1 m2 X s R) (fun fl s' p => ?_) fun _ _ x => x
    obtain ⟨h', tk, e, fm, σ', fr, R', q⟩ := p
    refine ⟨h', tk, e, fm, σ', fr, R', ?_⟩
    cases fm <;> first | exact q | exact q.elim
theorem KMs.fresh {S B : List Addr} {s s' s'' : Shared} (x : KMs S [] s s') (y : KMs S B s' s'') (hB : ∀ b ∈ B, s.heap.get? b = none) : KSs S s s'' := by
  obtain ⟨h1, t1, rfl, k1⟩ := x
  obtain ⟨h2, t2, rfl, k2⟩ := y
  refine ⟨h2, t2, rfl, fun b o e => ?_⟩
  have hb : b ∉ B := fun q => by rw [hB b q] at e; cases e
  obtain ⟨a1, o1, a2, a3, a4, a5⟩ := k1 b o e (by simp)
  obtain ⟨b1, o2, b2, b3, b4, b5⟩ := k2 b o1 a2 hb
  exact ⟨fun q => (k2 b o (a1 q) hb).1 q, o2, b2, b3.trans a3, b4.trans a4, b5.trans a5⟩
theorem bind_new (P : Params) (a v : Value) : bindArgs (fdAt P 80) ⟨[a, v], []⟩ = (newTuple [v] >>= fun t => alloc { cls := .type "dict", data := .dict #[] } >>= fun d => pure [(S "cls", a), (S "args", t), (S "kwargs", .ref d)]) := by kernel_rfl
theorem mk2_ok {P : Params} {h : Heap} (B : BaseOk P h) {M : Model} (hM : M.prog = PySem.Challenge.pw_ny0304_03) (hP : M.w.params = P) : Makes2 M h 587 := by
  refine ⟨⟨_, _, _, _, at_ B 587 rfl (by kernel_rfl), by kernel_rfl⟩, Looks.of_peek (k_in B) ?_, Looks.of_peek (k_in B) ?_, Looks.of_peek (k_in B) ?_, Looks.of_peek (k_in B) ?_⟩ <;> rw [hM, hP] <;> kernel_rfl
theorem bind_sinit {P : Params} {h : Heap} (B : BaseOk P h) {M : Model} (hM : M.prog = PySem.Challenge.pw_ny0304_03) (hP : M.w.params = P) (a v : Value) : ∃ t, Looks M h (bindArgs (fdAt P 357) ⟨[a, v], []⟩) [(S "self", a), (S "initial_value", v), (S "newline", .str (S "\n") t)] := by
  refine ⟨tokOf ((match (objAt P 350).data with | .seq xs _ => xs | _ => #[])[1]?), Looks.of_peek (k_in B) ?_⟩
  rw [hM, hP]; kernel_rfl
theorem make_sio (w : World) (l : List Nat) : Make (G w) false 85 (.ref 587) [tx l] [] (fun v γ => ∃ b e, v = .ref b ∧ γ = [(S "@in", inB b e l 0)]) := fun C hC hlv _ s O vals hok hfr hO hv => by
  obtain ⟨v, r, rfl, ⟨tv, rfl⟩, hr⟩ := hv
  rw [show r = [] from hr]
  have hprog : C.M.prog = PySem.Challenge.pw_ny0304_03 := by show C.G.prog = _; rw [hC]; rfl
  have hP : C.M.w.params = w.params := by show C.G.w.params = _; rw [hC]; rfl
  have ok' : ∀ {h}, C.ok h → BaseOk w.params h := fun {h} hh => by have hh : C.G.ok h := hh; rw [hC] at hh; exact hh
  have hl1 : C.lvl + 1 ≤ 100 := by omega
  obtain ⟨hp, g, d, tk, os⟩ := s
  refine wpAny_call (make_core2 (K := Kf w.params) (fI := 357) (p := 84) (nf := 80) (mc := .type "type") (sr := (recIn (Kf w.params) 84 "staticmethod").getD [] |>.tail) (k_in (ok' hok)) (mk2_ok (ok' hok) hprog hP) (by kernel_rfl) (by kernel_rfl) (by kernel_rfl) (by kernel_rfl) (by kernel_rfl) (by kernel_rfl) ?_)
  let C1 := C.tc hl1 587 [.str (mk l) tv] []
  have hb1 : Binds C1 ⟨hp, g, d, tk + 1, os⟩ O (fdAt w.params 80) ⟨[.ref 587, .str (mk l) tv], []⟩ [S "cls", S "args", S "kwargs"] [.obj (.ref 587), .tuple [tx l], .obj (.ref (hp.objs.size + 1))] := fun A => by
    rw [bind_new]
    refine wpAny_bind (wpAny_newObj_type ?_ (by show 1 ≤ sizeLine; rw [sizeLine_eq]; omega))
    refine wpAny_bind (wpAny_alloc (wpAny_pure ⟨[.ref 587, .ref hp.objs.size, .ref (hp.push { cls := .type "tuple", data := .seq [Value.str (mk l) tv].toArray }).objs.size], rfl, rfl, ⟨_, _, rfl, .of_keep fun b o e => Heap.get?_push_of_some _ (Heap.get?_push_of_some _ e)⟩, ?_⟩))
    have hO' : ∀ x ∈ O, ∃ o, hp.get? x = some o := fun x hx => let ⟨vs, n, e⟩ := hO x hx; ⟨_, e⟩
    have t1 := newT (s := ⟨hp, g, d, tk + 1, os⟩) (O := O) (ms := [tx l]) (vs := [.str (mk l) tv]) hO' ⟨_, [], rfl, ⟨tv, rfl⟩, rfl⟩
    refine ⟨_, _, rfl, rfl, _, _, rfl, t1.ks (S := []) (.of_keep fun b o e => Heap.get?_push_of_some _ e), _, [], rfl, ?_, rfl⟩
    show Value.ref _ = Value.ref _
    rw [Heap.size_push]
  refine codeAny_mono (code_new w (.tuple [tx l]) (.obj (.ref (hp.objs.size + 1))) C1 hC (by show C.lvl + 1 ≤ 90; omega) (fun h => nomatch h) ⟨hp, g, d, tk + 1, os⟩ O _ hb1 hok hfr hO ⟨(by intro _ _ _ _ _ h; cases h), (by intro _ h; cases h), List.nodup_nil⟩) fun res s' p => ?_
  rcases res with e | (_ | _ | _ | v) <;> first | exact p.elim | skip
  obtain ⟨m, σ', km, hvm, ⟨a, dd, rfl, hsg⟩, hin, hfr2, hnd⟩ := p
  cases hvm
  obtain ⟨ha, hdA⟩ := instA_mem hsg
  have I := hin _ _ _ _ _ hsg
  obtain ⟨h', t', rfl, km1⟩ := km
  have ks1 : KS C.S hp h' := KM.ks km1
  have hok1 : C.ok h' := C.mono _ _ (fun b o hb e => (ks1 b o e).1 fun hs => by
    obtain ⟨ev, hm, hf⟩ := C.hS b hs
    obtain ⟨_, L, o', hf', hn, _⟩ := hfr ev hm
    rw [hf] at hf'; cases hf'
    exact absurd hb (Nat.not_lt.mpr hn)) hok
  have hfr1 : FramesIn C.n₀ h' C.fs := hfr.ks ks1
  have fr0 : ∀ b ∈ [a, dd], C.n₀ ≤ b ∧ hp.get? b = none ∧ ∀ e ∈ C.fs, e.frame ≠ some b := fun b hb => by
    have hb' : b ∈ instA σ' := by
      simp only [List.mem_cons, List.not_mem_nil, or_false] at hb
      rcases hb with rfl | rfl
      · exact ha
      · exact hdA
    obtain ⟨q1, q2, q3⟩ := hfr2 b hb'
    exact ⟨q1, q2.resolve_left (by simp [instA]), q3⟩
  obtain ⟨⟨sl, ea⟩, hne, rest⟩ := id I
  have hnd2 : [a, dd].Nodup := by simp [Ne.symm hne]
  have hO1 : ∀ x ∈ O, ∃ vs : Array Value, h'.PlainList x vs := fun x hx => by
    obtain ⟨vs, n, e⟩ := hO x hx
    refine ⟨vs, n, (ks1 x _ e).1 fun hs => ?_⟩
    obtain ⟨ev, hm, hf⟩ := C.hS x hs
    obtain ⟨_, L, o', hf', hn, ho', es, ep, hd'⟩ := hfr ev hm
    rw [hf] at hf'; cases hf'
    rw [e] at ho'; cases ho'; cases hd'
  refine ⟨a, _, h', t', rfl, rfl, ea, rfl, k_in (ok' hok1), mk2_ok (ok' hok1) hprog hP, ?_⟩
  obtain ⟨tn, hbl⟩ := bind_sinit (ok' hok1) hprog hP (.ref a) (.str (mk l) tv)
  have hb2 : Binds C1 ⟨h', g, d, t', os⟩ O (fdAt w.params 357) ⟨[.ref a, .str (mk l) tv], []⟩ [S "self", S "initial_value", S "newline"] [.obj (.ref a), tx l, tx [10]] := Binds.of (vals := [.ref a, .str (mk l) tv, .str (S "\n") tn]) hbl rfl ⟨_, _, rfl, rfl, _, _, rfl, ⟨tv, rfl⟩, _, [], rfl, ⟨tn, by congr 1⟩, rfl⟩
  refine codeAny_mono (code_sinit w a dd l C1 hC (by show C.lvl + 1 ≤ 89; omega) (fun h => nomatch h) ⟨h', g, d, t', os⟩ O _ hb2 hok1 hfr1 hO1 ⟨?_, ?_, hnd2⟩) fun res s2 p2 => ?_
  · intro x a' Ca d' fs hm
    simp only [List.mem_singleton, Prod.mk.injEq, Bd.inst.injEq] at hm
    obtain ⟨_, rfl, rfl, rfl, rfl⟩ := hm
    exact I
  · intro b hb
    obtain ⟨q1, q2, q3⟩ := fr0 b hb
    exact ⟨q1, q3⟩
  · rcases res with e | (_ | _ | _ | v) <;> first | exact p2.elim | skip
    obtain ⟨km2, g2, hv2⟩ := p2
    cases hv2
    refine ⟨rfl, ?_⟩
    have kk : KSs C.S ⟨hp, g, d, tk, os⟩ s2 := KMs.fresh (s' := ⟨h', g, d, t', os⟩) ⟨h', t', rfl, km1⟩ km2 fun b hb => (fr0 b hb).2.1
    exact ⟨kk, _, ⟨a, dd, rfl, rfl⟩, rfl, g2, fun b hb => ⟨(fr0 b hb).1, (fr0 b hb).2.1⟩, hnd2⟩
noncomputable def WC1 : List Nat := (S "abcdfeghijklmnopqrstuvwxyzABCDEFGHIJKLMNOPQRSTUVWXYZ0123456789_").cps.toList
noncomputable def WC2 : List Nat := (S "ßàáâãäåæçèéêëìíîïðñòóôõöøùúûüýþÿÀÁÂÃÄÅÆÇÈÉÊËÌÍÎÏÐÑÒÓÔÕÖØÙÚÛÜÝÞ").cps.toList
theorem icat_wc {C : Cx} : Inp C .Add (tx WC1) (tx WC2) (tx WC) := by
  have h := icat_tx (C := C) (a := WC1) (b := WC2) (by decide +kernel)
  rwa [show WC1 ++ WC2 = WC by decide +kernel] at h
theorem c_wc1 {C : Cx} {env : Env} {σ : St} {k : Nat} {p : Pos} : Ev C env σ (.Constant (.str (Str.ofString "abcdfeghijklmnopqrstuvwxyzABCDEFGHIJKLMNOPQRSTUVWXYZ0123456789_")) k p) (tx WC1) := ev_tx (by decide +kernel)
theorem c_wc2 {C : Cx} {env : Env} {σ : St} {k : Nat} {p : Pos} : Ev C env σ (.Constant (.str (Str.ofString "ßàáâãäåæçèéêëìíîïðñòóôõöøùúûüýþÿÀÁÂÃÄÅÆÇÈÉÊËÌÍÎÏÐÑÒÓÔÕÖØÙÚÛÜÝÞ")) k p) (tx WC2) := ev_tx (by decide +kernel)
theorem c_ws {C : Cx} {env : Env} {σ : St} {k : Nat} {p : Pos} : Ev C env σ (.Constant (.str (Str.ofString " \t\r\n")) k p) (tx WS) := ev_tx (by decide +kernel)
theorem c_qs {C : Cx} {env : Env} {σ : St} {k : Nat} {p : Pos} : Ev C env σ (.Constant (.str (Str.ofString "\'\"")) k p) (tx [39, 34]) := ev_tx (by decide +kernel)
theorem c_esc {C : Cx} {env : Env} {σ : St} {k : Nat} {p : Pos} : Ev C env σ (.Constant (.str (Str.ofString "\\")) k p) (tx [92]) := ev_tx (by decide +kernel)
theorem gv_isinstance {C : Cx} {w : World} (hC : C.G = G w) : GV C (S "isinstance") (.builtin "isinstance") := gv_blt hC (by kernel_rfl) (by kernel_rfl)
theorem gv_deque {C : Cx} {w : World} (hC : C.G = G w) : GV C (S "deque") (.type "collections.deque") := gv_glob hC (by kernel_rfl)
theorem fn_isi_str {C : Cx} {x : Str} : Fn C (.builtin "isinstance") [.str x, .obj (.type "str")] (.bool true) := fun s O vals _ ha => by
  obtain ⟨v, r, rfl, ⟨t, rfl⟩, v2, r2, rfl, rfl, rfl⟩ := ha
  exact PySem.IsiPair.str_str ⟨.refl s, rfl⟩
local macro_rules | `(tactic| tm_at "str") => `(tactic| with_reducible first | exact c_wc1 | exact c_wc2 | exact c_ws | exact c_qs | exact c_esc)
local macro_rules | `(tactic| tm_at "glob") => `(tactic| (with_reducible refine ev_global (gv_isinstance (by assumption)) ?_ ?_); (tm_at "kind"); (rfl))
local macro_rules | `(tactic| tm_at "typ") => `(tactic| (with_reducible refine ev_global (gv_deque (by assumption)) ?_ ?_); (tm_at "kind"); (rfl))
local macro_rules | `(tactic| tm_at "inp") => `(tactic| exact icat_wc)
local macro_rules | `(tactic| tm_at "tfn") => `(tactic| exact fn_deque)
local macro_rules | `(tactic| tm_at "fn") => `(tactic| exact fn_isi_str)
theorem ss_make {C : Cx} {env : Env} {σ : St} {y fx : Str} {py p pos pas : Pos} {es : List Expr} {ms : List MV} {Cl : Addr} {full : Bool} {k : Nat} {Q0 : Value → St → Prop} {Q : FM → St → Prop} {rest : List Stmt} (hx : Ev C env σ (.Name fx p) (.obj (.ref Cl))) (ha : Evs C env σ es ms) (hm : Make C.G full k (.ref Cl) ms [] Q0) (hk : C.lvl ≤ k) (hfull : full = true → C.Full)
    (hc : ∀ h, C.ok h → ClsCall C.M h Cl) (hσ : keysNd σ = true) (hy : Stores env y) (hn : ∀ v γ, Q0 v γ → ∀ p ∈ γ, env.kindOf p.1 = none) (hq : ∀ v γ, Q0 v γ → ∃ σ', sput (σ ++ γ) y (.fz (.obj v)) = σ' ∧ wpSs C env rest σ' Q) :
    wpSs C env (.Assign [.Name y py] (.Call (.Name fx p) es [] pos) pas :: rest) σ Q := wpSs_cons (wpS_make hx ha hm hk hfull hc hσ hy hn fun v γ q => by obtain ⟨σ', e, h⟩ := hq v γ q; rw [e]; exact h)
theorem ss_makeK {C : Cx} {env : Env} {σ : St} {y fx kn : Str} {py p pos pas kp : Pos} {ke : Expr} {kv : Bool} {es : List Expr} {ms : List MV} {Cl : Addr} {full : Bool} {k : Nat} {Q0 : Value → St → Prop} {Q : FM → St → Prop} {rest : List Stmt} (hx : Ev C env σ (.Name fx p) (.obj (.ref Cl))) (ha : Evs C env σ es ms) (hne : es ≠ []) (hke : Ev C env σ ke (.bool kv)) (hm : Make C.G full k (.ref Cl) ms [(kn, .bool kv)] Q0) (hk : C.lvl ≤ k) (hfull : full = true → C.Full)
    (hc : ∀ h, C.ok h → ClsCall C.M h Cl) (hσ : keysNd σ = true) (hy : Stores env y) (hn : ∀ v γ, Q0 v γ → ∀ p ∈ γ, env.kindOf p.1 = none) (hq : ∀ v γ, Q0 v γ → ∃ σ', sput (σ ++ γ) y (.fz (.obj v)) = σ' ∧ wpSs C env rest σ' Q) :
    wpSs C env (.Assign [.Name y py] (.Call (.Name fx p) es [⟨some kn, ke, kp⟩] pos) pas :: rest) σ Q := wpSs_cons (wpS_makeK hx ha hne hke hm hk hfull hc hσ hy hn fun v γ q => by obtain ⟨σ', e, h⟩ := hq v γ q; rw [e]; exact h)
theorem cls_ok587 {P : Params} {h : Heap} (B : BaseOk P h) {M : Model} (hM : M.prog = PySem.Challenge.pw_ny0304_03) (hP : M.w.params = P) : ClsCall M h 587 := by
  refine ⟨⟨_, _, _, _, at_ B 587 rfl (by kernel_rfl)⟩, Looks.of_peek (k_in B) ?_⟩; rw [hM, hP]; kernel_rfl
theorem cls_ok722 {P : Params} {h : Heap} (B : BaseOk P h) {M : Model} (hM : M.prog = PySem.Challenge.pw_ny0304_03) (hP : M.w.params = P) : ClsCall M h 722 := by
  refine ⟨⟨_, _, _, _, at_ B 722 rfl (by kernel_rfl)⟩, Looks.of_peek (k_in B) ?_⟩; rw [hM, hP]; kernel_rfl
theorem def_linit (w : World) : IsDef (G w) 646 (fdAt w.params 646) (fB (kid (st 19) 0)) [S "self", S "instream", S "infile", S "posix", S "punctuation_chars"] := by
  refine def_ofL w 646 645 [S "self", S "instream", S "infile", S "posix", S "punctuation_chars"] (kid (st 19) 0) rfl ?_ ?_ rfl ?_ ?_ ?_ ?_ ?_ ?_ ?_ ?_ ?_ ?_ ?_ (by decide +kernel) ?bb ?kk
  case bb =>
    intro M h B vs hv
    match vs, hv with
    | [a0, a1, a2, a3, a4], _ => exact Looks.of_peek (k_in B) (by kernel_rfl)
  case kk =>
    intro x hx
    simp only [List.mem_cons, List.not_mem_nil, or_false] at hx
    rcases hx with rfl | rfl | rfl | rfl | rfl <;> exact .inl (by kernel_rfl)
  all_goals kernel_rfl
noncomputable abbrev lex0 (a d b : Addr) : Bd := .inst a 722 d [(S "instream", .obj (.ref b)), (S "infile", .none), (S "posix", .bool true), (S "eof", .none), (S "commenters", tx [35]), (S "wordchars", tx WC), (S "whitespace", tx WS), (S "whitespace_split", .bool false), (S "quotes", tx [39, 34]), (S "escape", tx [92]), (S "escapedquotes", tx [34]), (S "state", tx [32]), (S "pushback", .deq), (S "lineno", .int 1), (S "debug", .int 0), (S "token", tx []), (S "filestack", .deq), (S "source", .none), (S "_punctuation_chars", tx [])]
theorem linit_body (hC : C.G = G w) (hro : C.ro = false) (hl : C.lvl ≤ 85) {env : Env} (hs : env.scope = fS (kid (st 19) 0)) (a d : Addr) (l : List Nat) :
    wpSs C env (fB (kid (st 19) 0)) [(S "self", .fz (.obj (.ref a))), (S "instream", .fz (tx l)), (S "infile", .fz .none), (S "posix", .fz (.bool true)), (S "punctuation_chars", .fz (.bool false)), (S "@lex", .inst a 722 d [])] fun fm σ' => match fm with | .ret m => False | .next => ∃ b e, sget σ' (S "@lex") = some (lex0 a d b) ∧ sget σ' (S "@in") = some (inB b e l 0) | _ => False := by
  have hnm : env.scope.names = (fS (kid (st 19) 0)).names := by rw [hs]
  conv at hnm => rhs; whnf
  have ok' : ∀ {h}, C.ok h → BaseOk w.params h := fun {h} hh => by have hh : C.G.ok h := hh; rw [hC] at hh; exact hh
  have hprog : C.M.prog = PySem.Challenge.pw_ny0304_03 := by show C.G.prog = _; rw [hC]; rfl
  have hP : C.M.w.params = w.params := by show C.G.w.params = _; rw [hC]; rfl
  apply ss_if
  · tm_at "evb"
  rotate_left
  · intro h; cases h
  intro _
  refine ss_make (Cl := 587) (k := 85) (full := false) (Q0 := fun v γ => ∃ b e, v = .ref b ∧ γ = [(S "@in", inB b e l 0)]) ?_ (.cons (m := tx l) ?_ (by intro _ _ h; cases h) .nil) (by rw [hC]; exact make_sio w l) hl (fun h => nomatch h) (fun h hok => cls_ok587 (ok' hok) hprog hP) rfl ?_ ?_ ?_
  · tm_at "typ"
  · tm_at "ev"
  · tm_at "stores"
  · rintro v γ ⟨b, e, rfl, rfl⟩ p hp
    rw [List.mem_singleton.mp hp]
    show env.scope.names.lookup _ = none
    rw [hnm]; kernel_rfl
  rintro v γ ⟨b, e, rfl, rfl⟩
  simp only [List.cons_append, List.nil_append]
  refine ⟨_, by tm_at "sp", wpSs_nil ?_⟩
  apply ss_if
  · tm_at "evb"
  rotate_left
  · intro h; cases h
  intro _
  tm_at "self"
  tm_at "self"
  apply wpSs_nil
  tm_at "self"
  apply ss_if
  · tm_at "evb"
  rotate_left
  · intro h; cases h
  intro _
  tm_at "self"
  apply wpSs_nil
  tm_at "self"
  tm_at "self"
  apply ss_if
  · tm_at "evb"
  rotate_left
  · intro h; cases h
  intro _
  tm_at "aug"
  apply wpSs_nil
  tm_at "self"
  tm_at "self"
  tm_at "self"
  tm_at "self"
  tm_at "self"
  tm_at "self"
  tm_at "self"
  tm_at "self"
  tm_at "self"
  tm_at "self"
  tm_at "self"
  tm_at "self"
  apply ss_if
  · tm_at "evb"
  rotate_left
  · intro h; cases h
  intro _
  tm_at "set"
  apply wpSs_nil
  tm_at "self"
  apply ss_no
  · tm_at "evb"
  · rfl
  refine wpSs_nil ⟨b, e, ?_, ?_⟩
  · tm_at "sg"
  · tm_at "sg"
theorem code_linit (w : World) (a d : Addr) (l : List Nat) : CodeQ (G w) false 84 646 (fdAt w.params 646) [S "self", S "instream", S "infile", S "posix", S "punctuation_chars"] [.obj (.ref a), tx l, .none, .bool true, .bool false] [(S "@lex", .inst a 722 d [])] (fun m σ' => m = .none ∧ ∃ b e, sget σ' (S "@lex") = some (lex0 a d b) ∧ sget σ' (S "@in") = some (inB b e l 0)) :=
  codeQ_of (def_linit w).toIsDef0 (by omega) rfl rfl (by intro p hp; rw [List.mem_singleton.mp hp]; kernel_rfl) fun C hC hl _ L _ hro _ => by
    intro X s R
    refine wpAny_mono (linit_body hC hro hl (by kernel_rfl) a d l X s R) (fun fl s' p => ?_) fun _ _ x => x
    obtain ⟨h', tk, e, fm, σ', fr, R', q⟩ := p
    refine ⟨h', tk, e, fm, σ', fr, R', ?_⟩
    cases fm <;> first | exact ⟨rfl, q⟩ | exact q.elim
theorem gv_shlex {C : Cx} {w : World} (hC : C.G = G w) : GV C (S "shlex") (.ref 722) := gv_glob hC (by kernel_rfl)
theorem gv_list {C : Cx} {w : World} (hC : C.G = G w) : GV C (S "list") (.type "list") := gv_blt hC (by kernel_rfl) (by kernel_rfl)
local macro_rules | `(tactic| tm_at "typ") => `(tactic| first | ((with_reducible refine ev_global (gv_shlex (by assumption)) ?_ ?_); (tm_at "kind"); (rfl)) | ((with_reducible refine ev_global (gv_list (by assumption)) ?_ ?_); (tm_at "kind"); (rfl)))
theorem bind_linit {P : Params} {h : Heap} (B : BaseOk P h) {M : Model} (hM : M.prog = PySem.Challenge.pw_ny0304_03) (hP : M.w.params = P) (a v : Value) : Looks M h (bindArgs (fdAt P 646) ⟨[a, v], [(S "posix", .bool true)]⟩) [(S "self", a), (S "instream", v), (S "infile", .none), (S "posix", .bool true), (S "punctuation_chars", .bool false)] := by
  refine Looks.of_peek (k_in B) ?_
  rw [hM, hP]; kernel_rfl
theorem bind_split {P : Params} {h : Heap} (B : BaseOk P h) {M : Model} (hM : M.prog = PySem.Challenge.pw_ny0304_03) (hP : M.w.params = P) (v : Value) : Looks M h (bindArgs (fdAt P 734) ⟨[v], []⟩) [(S "s", v), (S "comments", .bool false), (S "posix", .bool true)] := by
  refine Looks.of_peek (k_in B) ?_
  rw [hM, hP]; kernel_rfl
theorem make_lex (w : World) (l : List Nat) : Make (G w) false 83 (.ref 722) [tx l] [(S "posix", .bool true)] (fun v γ => ∃ a d b e, v = .ref a ∧ γ = [(S "@lex", lex0 a d b), (S "@in", inB b e l 0)] ∧ [a, d, b, e].Nodup) := fun C hC hlv _ s O vals hok hfr hO hv => by
  obtain ⟨v, r, rfl, ⟨tv, rfl⟩, hr⟩ := hv
  rw [show r = [] from hr]
  have hprog : C.M.prog = PySem.Challenge.pw_ny0304_03 := by show C.G.prog = _; rw [hC]; rfl
  have hP : C.M.w.params = w.params := by show C.G.w.params = _; rw [hC]; rfl
  have ok' : ∀ {h}, C.ok h → BaseOk w.params h := fun {h} hh => by have hh : C.G.ok h := hh; rw [hC] at hh; exact hh
  have hl1 : C.lvl + 1 ≤ 100 := by omega
  obtain ⟨hp, g, dr, tk, os⟩ := s
  have X := k_in (ok' hok)
  refine wpAny_call (make_core (init := .ref 646) (makes_of X (mk_shlex _)) (looks_findIn X (by kernel_rfl)) (fun self => bind_fn X self (by kernel_rfl)) (.inl rfl) ?_)
  let C1 := C.tc hl1 722 [.str (mk l) tv] [(S "posix", .bool true)]
  generalize hd : hp.objs.size = d
  have hkp : ∀ b o, hp.get? b = some o → ((hp.push emptyDict).push (instObj 722 d)).get? b = some o := fun b o e => Heap.get?_push_of_some _ (Heap.get?_push_of_some _ e)
  have low : C.n₀ ≤ d := by rw [← hd]; exact C.G.low _ hok
  have fd : hp.get? d = none := by rw [← hd]; exact Heap.get?_none_of_le (Nat.le_refl _)
  have fa : hp.get? (d + 1) = none := by rw [← hd]; exact Heap.get?_none_of_le (Nat.le_succ _)
  have I0 : InstIs ((hp.push emptyDict).push (instObj 722 d)) (d + 1) 722 d [] := by
    subst hd
    refine ⟨⟨#[], ?_⟩, Nat.ne_of_lt (Nat.lt_succ_self _), fun _ => none, ?_, fun x => rfl⟩
    · have : ((hp.push emptyDict).push (instObj 722 hp.objs.size)).get? (hp.objs.size + 1) = some (instObj 722 hp.objs.size) := by heap_get
      exact this
    · refine Heap.Ns1.of_empty ⟨emptyDict, #[], 0, ?_, rfl, (fun x hx => by simp at hx), fun _ => rfl⟩
      show ((hp.push emptyDict).push (instObj 722 hp.objs.size)).get? hp.objs.size = some emptyDict
      heap_get
  generalize ((hp.push emptyDict).push (instObj 722 d)) = h1 at hkp I0 ⊢
  have hok1 : C.ok h1 := C.mono _ _ (fun b o _ e => hkp b o e) hok
  have hfr1 : FramesIn C.n₀ h1 C.fs := hfr.ks (S := []) (.of_keep hkp)
  have hO1 : ∀ x ∈ O, ∃ vs : Array Value, h1.PlainList x vs := fun x hx => let ⟨vs, n, e⟩ := hO x hx; ⟨vs, n, hkp _ _ e⟩
  have notfr : ∀ b, hp.get? b = none → ∀ e ∈ C.fs, e.frame ≠ some b := fun b hb e he q => by
    obtain ⟨_, L, o, hL, _, ho, _⟩ := hfr e he
    rw [q] at hL; cases hL
    rw [hb] at ho; cases ho
  have hb1 : Binds C1 ⟨h1, g, dr, tk, os⟩ O (fdAt w.params 646) ⟨[.ref (d + 1), .str (mk l) tv], [(S "posix", .bool true)]⟩ [S "self", S "instream", S "infile", S "posix", S "punctuation_chars"] [.obj (.ref (d + 1)), tx l, .none, .bool true, .bool false] :=
    Binds.of (vals := [.ref (d + 1), .str (mk l) tv, .none, .bool true, .bool false]) (bind_linit (ok' hok1) hprog hP _ _) rfl ⟨_, _, rfl, rfl, _, _, rfl, ⟨tv, rfl⟩, _, _, rfl, rfl, _, _, rfl, rfl, _, _, rfl, rfl, rfl⟩
  refine codeAny_mono (code_linit w (d + 1) d l C1 hC (by show C.lvl + 1 ≤ 84; omega) (fun h => nomatch h) ⟨h1, g, dr, tk, os⟩ O _ hb1 hok1 hfr1 hO1 ⟨?_, ?_, ?_⟩) fun res s2 p2 => ?_
  · intro x a' Ca d' fs hm
    simp only [List.mem_singleton, Prod.mk.injEq, Bd.inst.injEq] at hm
    obtain ⟨_, rfl, rfl, rfl, rfl⟩ := hm
    exact I0
  · intro b hb
    simp only [instA, List.mem_cons, List.not_mem_nil, or_false] at hb
    rcases hb with rfl | rfl
    · exact ⟨Nat.le_succ_of_le low, notfr _ fa⟩
    · exact ⟨low, notfr _ fd⟩
  · simp [instA]
  rcases res with e | (_ | _ | _ | v) <;> first | exact p2.elim | skip
  obtain ⟨m, σ', km, hvm, ⟨rfl, b, e, hs1, hs2⟩, hin, hfr2, hnd⟩ := p2
  cases hvm
  refine ⟨rfl, ?_⟩
  obtain ⟨a1, a2⟩ := instA_mem hs1
  obtain ⟨b1, b2⟩ := instA_mem hs2
  obtain ⟨n1, n2, n3, n4⟩ := inst_apart (x := S "@lex") (y := S "@in") (by decide) hnd hs1 hs2
  have I1 := hin _ _ _ _ _ hs1
  have I2 := hin _ _ _ _ _ hs2
  have nb : e ≠ b := I2.ne
  have na : d ≠ d + 1 := I1.ne
  have nd4 : [d + 1, d, b, e].Nodup := by
    simp only [List.nodup_cons, List.mem_cons, List.not_mem_nil, or_false, not_or, not_false_eq_true, List.nodup_nil, and_true]
    exact ⟨⟨Ne.symm na, n1, n2⟩, ⟨n3, n4⟩, Ne.symm nb⟩
  have fr : ∀ x ∈ [d + 1, d, b, e], C.n₀ ≤ x ∧ hp.get? x = none := fun x hx => by
    have hx' : x ∈ instA σ' := by
      simp only [List.mem_cons, List.not_mem_nil, or_false] at hx
      rcases hx with rfl | rfl | rfl | rfl
      · exact a1
      · exact a2
      · exact b1
      · exact b2
    obtain ⟨q1, q2, q3⟩ := hfr2 x hx'
    refine ⟨q1, ?_⟩
    rcases q2 with q2 | q2
    · simp only [instA, List.mem_cons, List.not_mem_nil, or_false] at q2
      rcases q2 with rfl | rfl
      · exact fa
      · exact fd
    · cases z : hp.get? x with
      | none => rfl
      | some o => rw [hkp x o z] at q2; cases q2
  refine ⟨?_, _, ⟨d + 1, d, b, e, rfl, rfl, nd4⟩, rfl, ?_, fr, nd4⟩
  · exact KMs.fresh (s' := ⟨h1, g, dr, tk, os⟩) ⟨h1, tk, rfl, (KS.of_keep hkp).km⟩ km fun x hx => by
      simp only [instA, List.mem_cons, List.not_mem_nil, or_false] at hx
      rcases hx with rfl | rfl
      · exact fa
      · exact fd
  · intro x a' Ca d' fs hm
    simp only [List.mem_cons, List.not_mem_nil, or_false, Prod.mk.injEq, Bd.inst.injEq] at hm
    rcases hm with ⟨_, rfl, rfl, rfl, rfl⟩ | ⟨_, rfl, rfl, rfl, rfl⟩
    · exact I1
    · exact I2
theorem def_split (w : World) : IsDef (G w) 734 (fdAt w.params 734) (fB (st 20)) [S "s", S "comments", S "posix"] := by
  refine def_ofL w 734 733 [S "s", S "comments", S "posix"] (st 20) rfl ?_ ?_ rfl ?_ ?_ ?_ ?_ ?_ ?_ ?_ ?_ ?_ ?_ ?_ (by decide +kernel) ?bb ?kk
  case bb =>
    intro M h B vs hv
    match vs, hv with
    | [a0, a1, a2], _ => exact Looks.of_peek (k_in B) (by kernel_rfl)
  case kk =>
    intro x hx
    simp only [List.mem_cons, List.not_mem_nil, or_false] at hx
    rcases hx with rfl | rfl | rfl <;> exact .inl (by kernel_rfl)
  all_goals kernel_rfl
theorem ss_ret_list {C : Cx} (hC : C.G = G w) (hro : C.ro = false) (hl : C.lvl ≤ 72) (hfull : C.Full) {env : Env} {σ : St} {a d b e : Addr} {l : List Nat} (hlen : l.length ≤ 1000000) {ws : List (List Nat)} (hL : Lx l (some 32) 1 0 ws) (hws : ws.length ≤ 1000000) (hnd : [a, d, b, e].Nodup) {lst lx : Str} {p1 p2 pos rp : Pos} {rest : List Stmt}
    (hx : Ev C env σ (.Name lst p1) (.obj (.type "list"))) (ha : Ev C env σ (.Name lx p2) (.obj (.ref a))) (hc : ∀ p ∈ gaM a d b e l (some 32) 1 0, sget σ p.1 = some p.2) (hσ : keysNd σ = true) (hin : instA σ = [a, d, b, e]) :
    wpSs C env (.Return (some (.Call (.Name lst p1) [.Name lx p2] [] pos)) rp :: rest) σ fun fm _ => match fm with | .ret m => m = .list (ws.map tx) | _ => False := fun X s R => by
  refine wpAny_execs_cons (wpAny_Return_some ?_)
  refine wpAny_bind (wpAny_mono (hx s R.toRelE) (fun v s₁ h₁ => ?_) fun _ _ x => x)
  obtain ⟨k₁, rfl⟩ := h₁
  have R₁ := R.ks k₁.ks
  have has : EvTs C env σ [.Name lx p2] [.obj (.ref a)] := .cons (Ev.t ha) (by intro _ _ h; cases h) .nil
  refine callWith_typ (plain_args has).1 (wpAny_mono (evalArgs_ has s₁ R₁.toRelE) (fun ar s₂ h₂ => ?_) fun _ _ x => x)
  obtain ⟨k₂, hkw, hv⟩ := h₂
  have R₂ := R₁.ks k₂.ks
  rw [hkw]
  obtain ⟨v, r, e0, hv1, hr⟩ := hv
  cases hv1
  rw [show r = [] from hr] at e0
  rw [e0]
  refine wpAny_mono (list_lex hC (by omega) hfull hlen hL (.inr rfl) (Nat.zero_le _) hws R₂.base R₂.fr (gok_of R₂.toRelE hc hnd)) (fun v s₃ h₃ => ?_) fun _ _ x => x
  obtain ⟨km, L, vs, c, rfl, hLn, hL3, htx⟩ := h₃
  obtain ⟨h1, t1, rfl, _⟩ := k₁
  obtain ⟨h2, t2, rfl, _⟩ := k₂
  obtain ⟨h3, t3, rfl, km⟩ := km
  have R₃ := R₂.forget hσ (B := [a, d, b, e]) (fun x hx => by rw [hin]; exact hx) (fun x hx => (R₂.insX.resolve_left (by rw [hro]; decide)) x (by rw [hin]; exact hx)) km
  refine ⟨h3, t3, rfl, .ret (.list (ws.map tx)), _, ⟨L, vs.toList, rfl, ?_, ⟨_, hL3, rfl, c, by simp⟩, htx.vins⟩, R₃, rfl⟩
  intro hm
  rcases List.mem_append.mp hm with hm | hm
  · obtain ⟨ws, n, q⟩ := R₂.own L (by rw [noInst_owned] at hm; exact hm)
    rw [hLn] at q; cases q
  · obtain ⟨ws, n, q⟩ := R₂.outer L hm
    rw [hLn] at q; cases q
theorem split_body (hC : C.G = G w) (hro : C.ro = false) (hmB : C.mB = []) (hl : C.lvl ≤ 72) (hfull : C.Full) {env : Env} (hs : env.scope = fS (st 20)) (l : List Nat) (hlen : l.length ≤ 1000000) {ws : List (List Nat)} (hL : Lx l (some 32) 1 0 ws) (hws : ws.length ≤ 1000000) :
    wpSs C env (fB (st 20)) [(S "s", .fz (tx l)), (S "comments", .fz (.bool false)), (S "posix", .fz (.bool true))] fun fm _ => match fm with | .ret m => m = .list (ws.map tx) | _ => False := by
  have hnm : env.scope.names = (fS (st 20)).names := by rw [hs]
  conv at hnm => rhs; whnf
  have ok' : ∀ {h}, C.ok h → BaseOk w.params h := fun {h} hh => by have hh : C.G.ok h := hh; rw [hC] at hh; exact hh
  have hprog : C.M.prog = PySem.Challenge.pw_ny0304_03 := by show C.G.prog = _; rw [hC]; rfl
  have hP : C.M.w.params = w.params := by show C.G.w.params = _; rw [hC]; rfl
  apply ss_no
  · tm_at "evb"
  · rfl
  refine ss_makeK (Cl := 722) (k := 83) (full := false) (kv := true) (Q0 := fun v γ => ∃ a d b e, v = .ref a ∧ γ = [(S "@lex", lex0 a d b), (S "@in", inB b e l 0)] ∧ [a, d, b, e].Nodup) ?_ (.cons (m := tx l) ?_ (by intro _ _ h; cases h) .nil) (by simp) ?_ (by rw [hC]; exact make_lex w l) (by omega) (fun h => nomatch h) (fun h hok => cls_ok722 (ok' hok) hprog hP) rfl ?_ ?_ ?_
  · tm_at "typ"
  · tm_at "ev"
  · tm_at "ev"
  · tm_at "stores"
  · rintro v γ ⟨a, d, b, e, rfl, rfl, _⟩ p hp
    simp only [List.mem_cons, List.not_mem_nil, or_false] at hp
    rcases hp with rfl | rfl <;> (show env.scope.names.lookup _ = none) <;> rw [hnm] <;> kernel_rfl
  rintro v γ ⟨a, d, b, e, rfl, rfl, hnd⟩
  simp only [List.cons_append, List.nil_append]
  refine ⟨_, by tm_at "sp", ?_⟩
  tm_at "self"
  apply ss_if
  · tm_at "evb"
  rotate_left
  · intro h; cases h
  intro _
  tm_at "self"
  apply wpSs_nil
  refine ss_ret_list (a := a) (d := d) (b := b) (e := e) (l := l) hC hro hl hfull hlen hL hws hnd ?_ ?_ ?_ rfl rfl
  · tm_at "typ"
  · tm_at "ev"
  · intro p hp
    simp only [gaM, List.mem_cons, List.not_mem_nil, or_false] at hp
    rcases hp with rfl | rfl
    · show sget _ (S "@lex") = some (lexB a d b (tx [32]) 1 []); tm_at "sg"
    · show sget _ (S "@in") = some (inB b e l 0); tm_at "sg"
theorem spec_split (w : World) (l : List Nat) (hlen : l.length ≤ 1000000) {ws : List (List Nat)} (hL : Lx l (some 32) 1 0 ws) (hws : ws.length ≤ 1000000) : Spec (G w) true 71 (.ref 734) [tx l] (.list (ws.map tx)) := fun C hC hlv hfull s O vals hok hfr hO hv => by
  have hprog : C.M.prog = PySem.Challenge.pw_ny0304_03 := by show C.G.prog = _; rw [hC]; rfl
  have hP : C.M.w.params = w.params := by show C.G.w.params = _; rw [hC]; rfl
  have ok' : ∀ {h}, C.ok h → BaseOk w.params h := fun {h} hh => by have hh : C.G.ok h := hh; rw [hC] at hh; exact hh
  obtain ⟨v, r, rfl, ⟨tv, rfl⟩, hr⟩ := hv
  rw [show r = [] from hr]
  have cq : CodeQ (G w) true 71 734 (fdAt w.params 734) [S "s", S "comments", S "posix"] [tx l, .bool false, .bool true] [] (fun m _ => m = .list (ws.map tx)) :=
    codeQ_of (def_split w).toIsDef0 (by omega) rfl rfl (fun _ h => nomatch h) fun C hC hl hf L hmB hro _ => by
      intro X s R
      refine wpAny_mono (split_body hC hro hmB hl (hf rfl) (by kernel_rfl) l hlen hL hws X s R) (fun fl s' p => ?_) fun _ _ x => x
      obtain ⟨h', tk, e, fm, σ', fr, R', q⟩ := p
      refine ⟨h', tk, e, fm, σ', fr, R', ?_⟩
      cases fm <;> first | exact q | exact q.elim
  refine wpAny_call (codeAny_mono (cq C hC hlv hfull s O ⟨[.str (mk l) tv], []⟩ (Binds.of (vals := [.str (mk l) tv, .bool false, .bool true]) (bind_split (ok' hok) hprog hP _) rfl ⟨_, _, rfl, ⟨tv, rfl⟩, _, _, rfl, rfl, _, _, rfl, rfl, rfl⟩) hok hfr hO ⟨(by intro _ _ _ _ _ h; cases h), (by intro _ h; cases h), List.nodup_nil⟩) fun res s2 p2 => ?_)
  rcases res with e | (_ | _ | _ | v) <;> first | exact p2.elim | skip
  obtain ⟨m, σ', ⟨h', t', rfl, km⟩, hvm, rfl, _⟩ := p2
  exact ⟨⟨h', t', rfl, km.ks⟩, hvm⟩
theorem c_qq {C : Cx} {env : Env} {σ : St} {k : Nat} {p : Pos} : Ev C env σ (.Constant (.str (Str.ofString "\"\"")) k p) (tx [34, 34]) := ev_tx (by decide +kernel)
theorem c_bs {C : Cx} {env : Env} {σ : St} {k : Nat} {p : Pos} : Ev C env σ (.Constant (.str (Str.ofString "\\")) k p) (tx [92]) := ev_tx (by decide +kernel)
theorem c_bq2 {C : Cx} {env : Env} {σ : St} {k : Nat} {p : Pos} : Ev C env σ (.Constant (.str (Str.ofString "\\\"")) k p) (tx [92, 34]) := ev_tx (by decide +kernel)
theorem c_bb {C : Cx} {env : Env} {σ : St} {k : Nat} {p : Pos} : Ev C env σ (.Constant (.str (Str.ofString "\\\\")) k p) (tx [92, 92]) := ev_tx (by decide +kernel)
theorem c_ap {C : Cx} {env : Env} {σ : St} {k : Nat} {p : Pos} : Ev C env σ (.Constant (.str (Str.ofString "\'")) k p) (tx [39]) := ev_tx (by decide +kernel)
theorem c_bch {C : Cx} {env : Env} {σ : St} {k : Nat} {p : Pos} : Ev C env σ (.Constant (.str (Str.ofString "b")) k p) (tx [98]) := ev_tx (by decide +kernel)
theorem c_six {C : Cx} {env : Env} {σ : St} {k : Nat} {p : Pos} : Ev C env σ (.Constant (.str (Str.ofString "$`!n\t\r")) k p) (tx [36, 96, 33, 110, 9, 13]) := ev_tx (by decide +kernel)
theorem gv_chr {C : Cx} {w : World} (hC : C.G = G w) : GV C (S "chr") (.builtin "chr") := gv_blt hC (by kernel_rfl) (by kernel_rfl)
theorem gv_parse {C : Cx} {w : World} (hC : C.G = G w) : GV C (S "parse257") (.ref 766) := gv_glob hC (by kernel_rfl)
theorem gv_split {C : Cx} {w : World} (hC : C.G = G w) : GV C (S "split") (.ref 734) := gv_glob hC (by kernel_rfl)
theorem gv_piece {C : Cx} {w : World} (hC : C.G = G w) : GV C (S "_law_piece") (.ref 773) := gv_glob hC (by kernel_rfl)
theorem gv_put {C : Cx} {w : World} (hC : C.G = G w) : GV C (S "_law_put") (.ref 780) := gv_glob hC (by kernel_rfl)
theorem gv_line {C : Cx} {w : World} (hC : C.G = G w) : GV C (S "_law_line") (.ref 785) := gv_glob hC (by kernel_rfl)
theorem gv_told {C : Cx} {w : World} (hC : C.G = G w) : GV C (S "_law_told") (.ref 792) := gv_glob hC (by kernel_rfl)
theorem gv_along {C : Cx} {w : World} (hC : C.G = G w) : GV C (S "_law_names_along") (.ref 799) := gv_glob hC (by kernel_rfl)
local macro_rules | `(tactic| tm_at "kind") => `(tactic| first | (apply kind_lk (by assumption); tm_at "lk") | (refine CompEnv.same (by assumption) _ _ ?_ (by decide); tm_at "lk"))
local macro_rules | `(tactic| tm_at "kindc") => `(tactic| first | (apply kind_lk (by assumption); tm_at "lk") | (refine CompEnv.free (by assumption) _ ?_; tm_at "lk"))
local macro_rules | `(tactic| tm_at "str") => `(tactic| with_reducible first | exact c_z | exact c_qq | exact c_bs | exact c_bq2 | exact c_bb | exact c_ap | exact c_bch | exact c_six)
local macro_rules | `(tactic| tm_at "name") => `(tactic| first | ((with_reducible apply ev_name_local); (tm_at "sg"); (tm_at "kind"); (rfl)) | ((with_reducible apply ev_name_cell); (tm_at "sg"); (tm_at "kindc"); (rfl)))
local macro_rules | `(tactic| tm_at "nameT") => `(tactic| first | ((with_reducible apply evT_own_local); (tm_at "sg"); (tm_at "kind"); (rfl)))
local macro_rules | `(tactic| tm_at "glob") => `(tactic| (with_reducible refine ev_global (gv_chr (by assumption)) ?_ ?_); (tm_at "kind"); (rfl))
local macro_rules | `(tactic| tm_at "fun") => `(tactic| first | ((with_reducible refine ev_global (gv_parse (by assumption)) ?_ ?_); (tm_at "kind"); (rfl)) | ((with_reducible refine ev_global (gv_split (by assumption)) ?_ ?_); (tm_at "kind"); (rfl)) | ((with_reducible refine ev_global (gv_piece (by assumption)) ?_ ?_); (tm_at "kind"); (rfl)) | ((with_reducible refine ev_global (gv_put (by assumption)) ?_ ?_); (tm_at "kind"); (rfl)) | ((with_reducible refine ev_global (gv_line (by assumption)) ?_ ?_); (tm_at "kind"); (rfl)) | ((with_reducible refine ev_global (gv_told (by assumption)) ?_ ?_); (tm_at "kind"); (rfl)) | ((with_reducible refine ev_global (gv_along (by assumption)) ?_ ?_); (tm_at "kind"); (rfl)))
local macro_rules | `(tactic| tm_at "bin") => `(tactic| first | (with_reducible exact mod_int_ (by decide)) | (with_reducible exact div_int_ (by decide) (by kernel_rfl)))
local macro_rules | `(tactic| tm_at "meth") => `(tactic| first | (with_reducible exact m_count) | (with_reducible exact m_join) | (with_reducible exact m_split) | (with_reducible exact m_replace))
local macro_rules | `(tactic| tm_at "mfn") => `(tactic| first | (with_reducible exact fn_count))
local macro_rules | `(tactic| tm_at "evt") => `(tactic| first | (apply Ev.t; tm_at "ev") | tm_at "nameT")
local macro_rules | `(tactic| tm_at "ev") => `(tactic| (with_reducible apply ev_meth (hbase := rfl) (hline := rfl) (hfew := by decide)); tm_at "evt"; tm_at "args"; tm_at "meth"; tm_at "mfn")
theorem def_piece (w : World) : IsDef (G w) 773 (fdAt w.params 773) (fB (st 26)) [S "number"] := by
  refine def_of w 773 772 [S "number"] (st 26) rfl ?_ ?_ rfl ?_ ?_ ?_ ?_ ?_ ?_ ?_ ?_ ?_ ?_ ?_ (by decide +kernel) ?bb ?kk
  case bb =>
    intro vs hv
    match vs, hv with
    | [a0], _ => kernel_rfl
  case kk =>
    intro x hx
    simp only [List.mem_cons, List.not_mem_nil, or_false] at hx
    rcases hx with rfl <;> exact .inl (by kernel_rfl)
  all_goals kernel_rfl
theorem def_put (w : World) : IsDef (G w) 780 (fdAt w.params 780) (fB (st 27)) [S "text", S "pairs"] := by
  refine def_of w 780 779 [S "text", S "pairs"] (st 27) rfl ?_ ?_ rfl ?_ ?_ ?_ ?_ ?_ ?_ ?_ ?_ ?_ ?_ ?_ (by decide +kernel) ?bb ?kk
  case bb =>
    intro vs hv
    match vs, hv with
    | [a0, a1], _ => kernel_rfl
  case kk =>
    intro x hx
    simp only [List.mem_cons, List.not_mem_nil, or_false] at hx
    rcases hx with rfl | rfl <;> exact .inl (by kernel_rfl)
  all_goals kernel_rfl
noncomputable def forB : List Stmt → List Stmt
  | .For _ _ b _ _ :: _ => b
  | _ => []
noncomputable def tab : List (List Nat) := [[34], [34, 34], [34, 34], [92], [92], [92, 34], [92, 92], [39], [32], [97], [10], [35], [], [98], []]
noncomputable def pcode (n : Int) : Int := (n.fdiv 16).fmod 1112062 + 2
noncomputable def piece (n : Int) : List Nat :=
  if n.fmod 16 = 15 then [(if pcode n < 55296 then pcode n else pcode n + 2048).toNat]
  else if n.fmod 16 = 12 then [([36, 96, 33, 110, 9, 13] : List Nat).getD ((pcode n).fmod 6).toNat 0]
  else tab.getD (n.fmod 16).toNat []
theorem fmod16 (n : Int) : 0 ≤ n.fmod 16 ∧ n.fmod 16 < 16 := ⟨Int.fmod_nonneg_of_pos n (by decide), Int.fmod_lt_of_pos n (by decide)⟩
theorem pcode_rng (n : Int) : 2 ≤ pcode n ∧ pcode n < 1112064 := by
  have h1 := Int.fmod_nonneg_of_pos (n.fdiv 16) (b := 1112062) (by decide)
  have h2 := Int.fmod_lt_of_pos (n.fdiv 16) (b := 1112062) (by decide)
  unfold pcode; omega
theorem tab_len : (tab.map tx).length ≤ sizeLine := by
  have e : tab.length = 15 := by decide
  rw [List.length_map, e, sizeLine_eq]; omega
theorem piece_tab {n : Int} (h15 : n.fmod 16 ≠ 15) (h12 : n.fmod 16 ≠ 12) : piece n = tab.getD (n.fmod 16).toNat [] := by unfold piece; rw [if_neg h15, if_neg h12]
theorem item_tab {C : Cx} {n : Int} (h15 : n.fmod 16 ≠ 15) : Item C (.list (tab.map tx)) (.int (n.fmod 16)) (tx (tab.getD (n.fmod 16).toNat [])) := by
  obtain ⟨f1, f2⟩ := fmod16 n
  have hlt : (n.fmod 16).toNat < tab.length := by have e : tab.length = 15 := by decide
                                                  rw [e]; omega
  have key : (tab.map tx)[(n.fmod 16).toNat]? = some (tx (tab.getD (n.fmod 16).toNat [])) := by
    rw [List.getElem?_map, List.getD_eq_getElem?_getD, List.getElem?_eq_getElem hlt]
    rfl
  exact item_list_ f1 (Int.lt_trans f2 (by decide)) key
theorem piece_body (hC : C.G = G w) {env : Env} (hs : env.scope = fS (st 26)) (n : Int) :
    wpSs C env (fB (st 26)) [(S "number", .fz (.int n))] fun fm _ => match fm with | .ret m => m = tx (piece n) | .next => tx (piece n) = .none | _ => False := by
  have hnm : env.scope.names = (fS (st 26)).names := by rw [hs]
  conv at hnm => rhs; whnf
  obtain ⟨f1, f2⟩ := fmod16 n
  obtain ⟨p1, p2⟩ := pcode_rng n
  tm_at "set"
  tm_at "set"
  show wpSs C env _ [(S "number", .fz (.int n)), (S "kind", .fz (.int (n.fmod 16))), (S "code", .fz (.int (pcode n)))] _
  apply ss_if
  · tm_at "evb"
  · intro h
    have h : n.fmod 16 = 15 := by simpa using h
    refine ss_ret (m := tx (piece n)) ?_ rfl
    have e : piece n = [(if pcode n < 55296 then pcode n else pcode n + 2048).toNat] := by unfold piece; rw [if_pos h]
    rewrite [e]
    refine ev_call_b (ms := [.int (if pcode n < 55296 then pcode n else pcode n + 2048)]) ?_ (.cons (Ev.t (ev_ifexp (b := decide (pcode n < 55296)) ?_ ?_ ?_)) (by intro _ _ h; cases h) .nil) (fn_chr (by split <;> omega) (by split <;> omega))
    · tm_at "glob"
    · tm_at "evb"
    · intro h; rewrite [if_pos (of_decide_eq_true h)]; tm_at "ev"
    · intro h; rewrite [if_neg (of_decide_eq_false h)]; tm_at "ev"
  intro h15
  have h15 : n.fmod 16 ≠ 15 := by simpa using h15
  apply wpSs_nil
  apply ss_if
  · tm_at "evb"
  · intro h
    have h : n.fmod 16 = 12 := by simpa using h
    refine ss_ret (m := tx (piece n)) ?_ rfl
    have e : piece n = [([36, 96, 33, 110, 9, 13] : List Nat).getD ((pcode n).fmod 6).toNat 0] := by unfold piece; rw [if_neg h15, if_pos h]
    rewrite [e]
    have g1 := Int.fmod_nonneg_of_pos (pcode n) (b := 6) (by decide)
    have g2 := Int.fmod_lt_of_pos (pcode n) (b := 6) (by decide)
    refine ev_sub (i := .int ((pcode n).fmod 6)) (a := tx [36, 96, 33, 110, 9, 13]) ?_ ?_ (item_tx g1 (by simp) ?_)
    · tm_at "evt"
    · tm_at "evt"
    · have hlt : ((pcode n).fmod 6).toNat < 6 := by omega
      rw [List.getD_eq_getElem?_getD]
      rw [List.getElem?_eq_getElem (by simpa using hlt)]
      rfl
  intro h12
  have h12 : n.fmod 16 ≠ 12 := by simpa using h12
  apply wpSs_nil
  dsimp only
  refine ss_ret (m := tx (tab.getD (n.fmod 16).toNat [])) ?_ ?qq
  case qq => dsimp only; rw [piece_tab h15 h12]
  refine ev_sub (a := .list (tab.map tx)) (i := .int (n.fmod 16)) ?_ ?_ ?_
  · refine Ev.t ?_
    rewrite [show tab.map tx = [tx [34], tx [34, 34], tx [34, 34], tx [92], tx [92], tx [92, 34], tx [92, 92], tx [39], tx [32], tx [97], tx [10], tx [35], tx [], tx [98], tx []] from rfl]
    with_reducible refine ev_list ?_ ?_
    · tm_at "evs"
    · exact tab_len
  · tm_at "evt"
  · exact item_tab h15
theorem spec_piece (w : World) (n : Int) {k : Nat} (hk : k + 1 ≤ 100) : Spec (G w) false k (.ref 773) [.int n] (tx (piece n)) :=
  spec_of (def_piece w) hk rfl fun C hC _ _ L => piece_body hC (by kernel_rfl) n
theorem put_body (hC : C.G = G w) (hB : C.mB = []) {env : Env} (hs : env.scope = fS (st 27)) (hc : CellsOk env) (l : List Nat) (prs : List (List Nat × List Nat)) (ps : List MV) (hps : Sats (pairPs prs) ps) (hok : PutOk prs l) :
    wpSs C env (fB (st 27)) [(S "text", .fz (tx l)), (S "pairs", .fz (.list ps))] fun fm _ => match fm with | .ret m => m = tx (putL prs l) | .next => tx (putL prs l) = .none | _ => False := by
  have hnm : env.scope.names = (fS (st 27)).names := by rw [hs]
  conv at hnm => rhs; whnf
  have hlen : ps.length = prs.length := by rw [hps.len]; simp [pairPs]
  refine wpSs_cons (wpS_for (items := ps) (fun i σ' => ∃ tail, σ' = (S "text", .fz (tx (putL (prs.take i) l))) :: (S "pairs", .fz (.list ps)) :: tail ∧ (tail = [] ∨ ∃ a b, tail = [(S "old", .fz a), (S "new", .fz b)])) hc hB rfl ?_ ?_ ?_ ?_ ?_)
  · rintro i σ' ⟨tail, rfl, rfl | ⟨a, b, rfl⟩⟩ <;> rfl
  · apply evIt_list; tm_at "ev"
  · exact ⟨[], rfl, .inl rfl⟩
  · rintro i m σ' hm ⟨tail, rfl, ht⟩
    obtain ⟨P, hP, hPm⟩ := Sats.get (P := fun _ => True) hps hm
    obtain ⟨⟨a, b⟩, hab, rfl⟩ : ∃ p, prs[i]? = some p ∧ P = Pair p.1 p.2 := by
      unfold pairPs at hP
      rw [List.getElem?_map] at hP
      cases q : prs[i]? with
      | none => rw [q] at hP; cases hP
      | some p => rw [q] at hP; exact ⟨p, rfl, (Option.some.inj hP).symm⟩
    obtain ⟨t, u, rfl, h0, h1, h2⟩ := hPm
    have hilt : i < prs.length := (List.getElem?_eq_some_iff.mp hab).1
    have hsplit : prs = prs.take i ++ (a, b) :: prs.drop (i + 1) := by
      rw [← (List.getElem?_eq_some_iff.mp hab).2, List.getElem_cons_drop, List.take_append_drop]
    have hok' := hok
    rw [hsplit] at hok'
    obtain ⟨q1, q2, q3, q4⟩ := hok'.at
    have hnext : prs.take (i + 1) = prs.take i ++ [(a, b)] := by
      rw [List.take_add_one, hab]; rfl
    have go : ∀ Q : FM → St → Prop, Q .next ((S "text", .fz (tx (putL (prs.take (i + 1)) l))) :: (S "pairs", .fz (.list ps)) :: [(S "old", .fz (.obj (.str (mk a) t))), (S "new", .fz (.obj (.str (mk b) u)))]) → wpSs C env (forB (fB (st 27))) ((S "text", .fz (tx (putL (prs.take i) l))) :: (S "pairs", .fz (.list ps)) :: [(S "old", .fz (.obj (.str (mk a) t))), (S "new", .fz (.obj (.str (mk b) u)))]) Q := by
      intro Q hQ
      apply ss_assign (hs := rfl)
      · refine ev_meth (ms := [.obj (.str (mk a) t), .obj (.str (mk b) u)]) (a := tx (putL (prs.take i) l)) ?_ (.cons (Ev.t ?_) (by intro _ _ h; cases h) (.cons (Ev.t ?_) (by intro _ _ h; cases h) .nil)) m_replace (fn_replace q1 q2 h0 h1 h2 q4 q3) rfl rfl (by decide)
        · tm_at "evt"
        · tm_at "ev"
        · tm_at "ev"
      · tm_at "stores"
      · tm_at "sp"
      rw [hnext, putL_snoc] at hQ
      exact wpSs_nil hQ
    have sx : Stores env (S "old") := by tm_at "stores"
    have sy : Stores env (S "new") := by tm_at "stores"
    rcases ht with rfl | ⟨a', b', rfl⟩
    · refine ⟨_, asg_pair sx sy hc hB rfl, ?_, go _ ⟨_, rfl, .inr ⟨_, _, rfl⟩⟩⟩
      rfl
    · refine ⟨_, asg_pair sx sy hc hB rfl, ?_, go _ ⟨_, rfl, .inr ⟨_, _, rfl⟩⟩⟩
      rfl
  · rintro σ' ⟨tail, rfl, ht⟩
    apply wpSs_nil
    refine ss_ret (m := tx (putL prs l)) ?_ rfl
    rewrite [hlen, List.take_length]
    tm_at "ev"
theorem spec_put (w : World) (l : List Nat) (prs : List (List Nat × List Nat)) (ps : List MV) (hps : Sats (pairPs prs) ps) (hok : PutOk prs l) {k : Nat} (hk : k + 1 ≤ 100) : Spec (G w) false k (.ref 780) [tx l, .list ps] (tx (putL prs l)) :=
  spec_ofB (def_put w) hk rfl fun C hC _ _ L hB => put_body hC hB (by kernel_rfl) (cells_none (by kernel_rfl)) l prs ps hps hok
theorem c_n257q {C : Cx} {env : Env} {σ : St} {k : Nat} {p : Pos} : Ev C env σ (.Constant (.str (Str.ofString "257 \"")) k p) (tx [50, 53, 55, 32, 34]) := ev_tx (by decide +kernel)
theorem c_isname {C : Cx} {env : Env} {σ : St} {k : Nat} {p : Pos} : Ev C env σ (.Constant (.str (Str.ofString "\" is its name")) k p) (tx [34, 32, 105, 115, 32, 105, 116, 115, 32, 110, 97, 109, 101]) := ev_tx (by decide +kernel)
theorem c_x00 {C : Cx} {env : Env} {σ : St} {k : Nat} {p : Pos} : Ev C env σ (.Constant (.str (Str.ofString "\x00")) k p) (tx [0]) := ev_tx (by decide +kernel)
local macro_rules | `(tactic| tm_at "str") => `(tactic| with_reducible first | exact c_n257q | exact c_isname | exact c_x00)
theorem def_line (w : World) : IsDef (G w) 785 (fdAt w.params 785) (fB (st 28)) [S "stretches", S "pairs", S "mark"] := by
  refine def_of w 785 784 [S "stretches", S "pairs", S "mark"] (st 28) rfl ?_ ?_ rfl ?_ ?_ ?_ ?_ ?_ ?_ ?_ ?_ ?_ ?_ ?_ (by decide +kernel) ?bb ?kk
  case bb =>
    intro vs hv
    match vs, hv with
    | [a0, a1, a2], _ => kernel_rfl
  case kk =>
    intro x hx
    simp only [List.mem_cons, List.not_mem_nil, or_false] at hx
    rcases hx with rfl | rfl | rfl
    · exact .inl (by kernel_rfl)
    · exact .inr (by kernel_rfl)
    · exact .inr (by kernel_rfl)
  all_goals kernel_rfl
theorem def_along (w : World) : IsDef (G w) 799 (fdAt w.params 799) (fB (st 30)) [S "text", S "stretches"] := by
  refine def_of w 799 798 [S "text", S "stretches"] (st 30) rfl ?_ ?_ rfl ?_ ?_ ?_ ?_ ?_ ?_ ?_ ?_ ?_ ?_ ?_ (by decide +kernel) ?bb ?kk
  case bb =>
    intro vs hv
    match vs, hv with
    | [a0, a1], _ => kernel_rfl
  case kk =>
    intro x hx
    simp only [List.mem_cons, List.not_mem_nil, or_false] at hx
    rcases hx with rfl | rfl <;> exact .inl (by kernel_rfl)
  all_goals kernel_rfl
theorem def_told (w : World) : IsDef (G w) 792 (fdAt w.params 792) (fB (st 29)) [S "stretches", S "marked", S "quoted", S "doubled"] := by
  refine def_of w 792 791 [S "stretches", S "marked", S "quoted", S "doubled"] (st 29) rfl ?_ ?_ rfl ?_ ?_ ?_ ?_ ?_ ?_ ?_ ?_ ?_ ?_ ?_ (by decide +kernel) ?bb ?kk
  case bb =>
    intro vs hv
    match vs, hv with
    | [a0, a1, a2, a3], _ => kernel_rfl
  case kk =>
    intro x hx
    simp only [List.mem_cons, List.not_mem_nil, or_false] at hx
    rcases hx with rfl | rfl | rfl | rfl <;> exact .inl (by kernel_rfl)
  all_goals kernel_rfl
/-- the line of the stretches, each between marks -/
noncomputable def lineL (prs : List (List Nat × List Nat)) (mrk : List Nat) (ls : List (List Nat)) : List Nat := joinL [32] (ls.map fun s => mrk ++ putL prs s ++ mrk)
theorem cells_line {fd : FuncData} {L fa : Addr} {a b : Str} (hab : a ≠ b) (h : cellsFrom (L + 1) fd.scope.names [] = [(b, L + 2), (a, L + 1)]) : CellsOk (envAt fd L fa) ∧ (∀ x, x = a ∨ x = b → ∃ c, (envAt fd L fa).cells.lookup x = some c) := by
  have e : (envAt fd L fa).cells = [(b, L + 2), (a, L + 1)] := h
  have hab' : (a == b) = false := by simpa using hab
  constructor
  · intro x c hm
    rw [e] at hm ⊢
    simp only [List.mem_cons, List.not_mem_nil, or_false, Prod.mk.injEq] at hm
    rcases hm with ⟨rfl, rfl⟩ | ⟨rfl, rfl⟩
    · simp [List.lookup]
    · simp [List.lookup, hab']
  · rintro x (rfl | rfl)
    · exact ⟨L + 1, by rw [e]; simp [List.lookup, hab']⟩
    · exact ⟨L + 2, by rw [e]; simp [List.lookup]⟩
noncomputable def retE : List Stmt → Expr
  | .Return (some e) _ :: _ => e
  | _ :: r => retE r
  | [] => .Name (S "") ⟨0, 0, 0, 0⟩
theorem line_body (hC : C.G = G w) (hB : C.mB = []) (hl : C.lvl ≤ 98) {env : Env} (hs : env.scope = fS (st 28)) (hc : CellsOk env) (hcl : ∀ x, x = S "pairs" ∨ x = S "mark" → ∃ c, env.cells.lookup x = some c) (hk : env.scope.kind = .function) (ls : List (List Nat)) (prs : List (List Nat × List Nat)) (ps : List MV) (mrk : List Nat) (hps : Sats (pairPs prs) ps) (hok : ∀ s ∈ ls, PutOk prs s)
    (hlen : ls.length ≤ 1000) (hput : ∀ s ∈ ls, (putL prs s).length ≤ 10000) (hmrk : mrk.length ≤ 10) :
    wpSs C env (fB (st 28)) [(S "stretches", .fz (.list (ls.map tx))), (S "pairs", .fz (.list ps)), (S "mark", .fz (tx mrk))] fun fm _ => match fm with | .ret m => m = tx (lineL prs mrk ls) | .next => tx (lineL prs mrk ls) = .none | _ => False := by
  have hnm : env.scope.names = (fS (st 28)).names := by rw [hs]
  conv at hnm => rhs; whnf
  refine ss_ret (m := tx (lineL prs mrk ls)) ?_ rfl
  refine ev_meth (a := tx [32]) (ms := [.list ((ls.map fun s => mrk ++ putL prs s ++ mrk).map tx)]) ?_ (.cons (Ev.t (EvN.ev (evN_comp (items := ls.map tx) (p := fun _ => true) (f := fun i => tx (mrk ++ putL prs (ls.getD i []) ++ mrk)) ?_ rfl rfl ?_ ?_ ?_ ?_ ?_ ?_))) (by intro _ _ h; cases h) .nil) m_join (fn_join ?_) rfl rfl (by decide)
  · tm_at "evt"
  · apply evIt_list; tm_at "ev"
  · refine compOk_of (fr := [S "pairs", S "mark"]) (by kernel_rfl) ?_
    intro y hy
    simp only [List.mem_cons, List.not_mem_nil, or_false] at hy
    refine ⟨?_, hcl y hy⟩
    rcases hy with rfl | rfl <;> tm_at "kind"
  · rw [List.length_map]; omega
  · show env.scope.names.lookup _ = none
    rw [hnm]; kernel_rfl
  · intro i m cenv D cur hm ce
    exact rfl
  · intro i m cenv D cur hm _ ce
    rw [List.getElem?_map] at hm
    obtain ⟨s, hs1, rfl⟩ := Option.map_eq_some_iff.mp hm
    have hmem : s ∈ ls := List.mem_of_getElem? hs1
    have hgd : ls.getD i [] = s := by rw [List.getD_eq_getElem?_getD, hs1]; rfl
    have hp1 := hput s hmem
    rewrite [hgd]
    apply ev_binop (a := tx (mrk ++ putL prs s)) (b := tx mrk)
    · refine Ev.t (ev_binop (a := tx mrk) (b := tx (putL prs s)) ?_ (Ev.t (ev_call_f (full := false) (fa := 780) (ms := [tx s, .list ps]) ?_ ?_ (by rw [hC]; exact spec_put w s prs ps hps (hok s hmem) (k := 98) (by omega)) hl (fun h => nomatch h) (fn_at hC rfl (by kernel_rfl) (by kernel_rfl)))) (cat_tx (by omega)))
      · tm_at "evt"
      · tm_at "fun"
      · tm_at "evs"
    · tm_at "evt"
    · exact cat_tx (by rw [List.length_append]; omega)
  · rw [List.length_map, List.map_map]
    exact compRes_map [] (fun s => tx (mrk ++ putL prs s ++ mrk)) _ ls
  · exact joinFit (B := 11000) (fun y hy => by
      obtain ⟨s, hs, rfl⟩ := List.mem_map.mp hy
      have := hput s hs
      simp only [List.length_append]; omega) (by rw [List.length_map]; simp only [List.length_cons, List.length_nil]; have : ls.length * 11000 ≤ 1000 * 11000 := Nat.mul_le_mul_right _ hlen; omega)
theorem c_apq {C : Cx} {env : Env} {σ : St} {k : Nat} {p : Pos} : Ev C env σ (.Constant (.str (Str.ofString "\'\"\'\"\'")) k p) (tx [39, 34, 39, 34, 39]) := ev_tx (by decide +kernel)
local macro_rules | `(tactic| tm_at "str") => `(tactic| with_reducible first | exact c_apq)
noncomputable def namesAt (l : List Nat) (ls : List (List Nat)) (i : Nat) : List Nat := p257 (l.drop (placeAt (ls.take i)))
theorem take_snoc {α : Type} {ls : List α} {i : Nat} {s : α} (h : ls[i]? = some s) : ls.take (i + 1) = ls.take i ++ [s] := by rw [List.take_add_one, h]; rfl
theorem range_snoc {α : Type} (f : Nat → α) (i : Nat) : (List.range (i + 1)).map f = (List.range i).map f ++ [f i] := by rw [List.range_succ, List.map_append]; rfl
theorem spec_line (w : World) (ls : List (List Nat)) (prs : List (List Nat × List Nat)) (ps : List MV) (mrk : List Nat) (hps : Sats (pairPs prs) ps) (hok : ∀ s ∈ ls, PutOk prs s)
    (hlen : ls.length ≤ 1000) (hput : ∀ s ∈ ls, (putL prs s).length ≤ 10000) (hmrk : mrk.length ≤ 10) : Spec (G w) false 97 (.ref 785) [.list (ls.map tx), .list ps, tx mrk] (tx (lineL prs mrk ls)) :=
  spec_ofB (def_line w) (by omega) rfl fun C hC hl _ L hB => by
    obtain ⟨c1, c2⟩ := cells_line (fd := fdAt w.params 785) (L := L) (fa := 785) (a := S "pairs") (b := S "mark") (by decide +kernel) (by kernel_rfl)
    exact line_body hC hB hl (by kernel_rfl) c1 c2 (by kernel_rfl) ls prs ps mrk hps hok hlen hput hmrk
theorem along_body (hC : C.G = G w) (hB : C.mB = []) (hl : C.lvl ≤ 98) {env : Env} (hs : env.scope = fS (st 30)) (hc : CellsOk env) (hint : interactive env = false) (l : List Nat) (ls : List (List Nat)) (hlen : ls.length ≤ 1000) (hl2 : l.length ≤ 1000) (hls : ∀ s ∈ ls, s.length ≤ 1000) (hpl : ∀ i, i < ls.length → placeAt (ls.take i) ≤ l.length) :
    wpSs C env (fB (st 30)) [(S "text", .fz (tx l)), (S "stretches", .fz (.list (ls.map tx)))] fun fm _ => match fm with | .ret m => m = .list (((List.range ls.length).map (namesAt l ls)).map tx) | .next => MV.list (((List.range ls.length).map (namesAt l ls)).map tx) = .none | _ => False := by
  have hnm : env.scope.names = (fS (st 30)).names := by rw [hs]
  conv at hnm => rhs; whnf
  have hg : env.kindOf (Str.ofString "@own") = none := by show env.scope.names.lookup _ = none; rw [hnm]; kernel_rfl
  refine ss_own (ms := []) (evN_list .nil (by show 0 ≤ _; omega)) (by tm_at "stores") rfl hB rfl hg (by kernel_rfl) rfl ?_
  intro a
  refine ⟨_, by tm_at "sp", ?_⟩
  tm_at "set"
  refine wpSs_cons (wpS_for (items := ls.map tx) (fun i σ' => ∃ tail, σ' = (S "text", .fz (tx l)) :: (S "stretches", .fz (.list (ls.map tx))) :: (S "names", .own a (((List.range i).map (namesAt l ls)).map tx)) :: (S "place", .fz (.int (placeAt (ls.take i)))) :: tail ∧ (tail = [] ∨ ∃ m, tail = [(S "stretch", .fz m)])) hc hB rfl ?_ ?_ ?_ ?_ ?_)
  · rintro i σ' ⟨tail, rfl, rfl | ⟨a, rfl⟩⟩ <;> rfl
  · apply evIt_list; tm_at "ev"
  · exact ⟨[], rfl, .inl rfl⟩
  · rintro i m σ' hm ⟨tail, rfl, ht⟩
    rw [List.getElem?_map] at hm
    obtain ⟨s, hs1, rfl⟩ := Option.map_eq_some_iff.mp hm
    have hilt : i < ls.length := (List.getElem?_eq_some_iff.mp hs1).1
    have hpi := hpl i hilt
    have hsl := hls s (List.mem_of_getElem? hs1)
    have hcnt : s.count 0 ≤ s.length := List.count_le_length
    have go : ∀ Q : FM → St → Prop, Q .next ((S "text", .fz (tx l)) :: (S "stretches", .fz (.list (ls.map tx))) :: (S "names", .own a (((List.range (i + 1)).map (namesAt l ls)).map tx)) :: (S "place", .fz (.int (placeAt (ls.take (i + 1))))) :: [(S "stretch", .fz (tx s))]) → wpSs C env (forB ((fB (st 30)).drop 2)) ((S "text", .fz (tx l)) :: (S "stretches", .fz (.list (ls.map tx))) :: (S "names", .own a (((List.range i).map (namesAt l ls)).map tx)) :: (S "place", .fz (.int (placeAt (ls.take i)))) :: [(S "stretch", .fz (tx s))]) Q := by
      intro Q hQ
      refine ss_append (m := tx (namesAt l ls i)) (by tm_at "sg") (by tm_at "kind") rfl ?_ (by intro _ _ h; cases h) rfl hint (by simp; omega) rfl (by tm_at "sp") ?_
      · refine ev_call_f (full := false) (k := 98) (fa := 766) (ms := [tx ([50, 53, 55, 32, 34] ++ l.drop (placeAt (ls.take i)))]) ?_ (.cons ?_ (by intro _ _ h; cases h) .nil) (by rw [hC]; exact spec_parse w _ (by rw [List.length_drop]; omega) (by omega)) hl (fun h => nomatch h) (fn_at hC rfl (by kernel_rfl) (by kernel_rfl))
        · tm_at "fun"
        · refine ev_binop (a := tx [50, 53, 55, 32, 34]) (b := tx (l.drop (placeAt (ls.take i)))) ?_ (Ev.t (ev_slice (lo := some (placeAt (ls.take i))) (hi := none) (a := tx l) ?_ ?_ ?_ ?_)) (cat_tx ?_)
          · tm_at "evt"
          · tm_at "evt"
          · tm_at "part"
          · tm_at "part"
          · exact slice_tx_from ⟨by omega, by omega⟩ (by omega)
          · rw [List.length_drop]; simp only [List.length_cons, List.length_nil]; omega
      · refine ss_augname (m := .int (placeAt (ls.take i))) (m' := .int ((s.length : Int) + (s.count 0 : Nat) + 1)) (r := .int (placeAt (ls.take (i + 1)))) (by tm_at "sg") (by tm_at "kind") ?_ rfl rfl rfl ?_ (by tm_at "sp") ?_
        · tm_at "ev"
        · have e : (placeAt (ls.take (i + 1)) : Int) = (placeAt (ls.take i) : Int) + ((s.length : Int) + (s.count 0 : Nat) + 1) := by
            rw [take_snoc hs1, placeAt_snoc]; omega
          rewrite [e]; exact inp_add_int
        · refine wpSs_nil ?_
          rw [range_snoc, List.map_append] at hQ
          exact hQ
    have sx : Stores env (S "stretch") := by tm_at "stores"
    rcases ht with rfl | ⟨m', rfl⟩
    · exact ⟨_, asg_name sx, rfl, go _ ⟨_, rfl, .inr ⟨_, rfl⟩⟩⟩
    · exact ⟨_, asg_name sx, rfl, go _ ⟨_, rfl, .inr ⟨_, rfl⟩⟩⟩
  · rintro σ' ⟨tail, rfl, ht⟩
    apply wpSs_nil
    dsimp only
    refine ss_freeze (x := S "names") (by tm_at "sg") (by tm_at "sp") ?_
    rewrite [List.length_map]
    refine ss_ret ?_ rfl
    tm_at "name"
theorem spec_along (w : World) (l : List Nat) (ls : List (List Nat)) (hlen : ls.length ≤ 1000) (hl2 : l.length ≤ 1000) (hls : ∀ s ∈ ls, s.length ≤ 1000) (hpl : ∀ i, i < ls.length → placeAt (ls.take i) ≤ l.length) : Spec (G w) false 97 (.ref 799) [tx l, .list (ls.map tx)] (.list (((List.range ls.length).map (namesAt l ls)).map tx)) :=
  spec_ofB (def_along w) (by omega) rfl fun C hC hl _ L hB => along_body hC hB hl (by kernel_rfl) (cells_none (by kernel_rfl)) (by kernel_rfl) l ls hlen hl2 hls hpl
noncomputable abbrev apPair : List Nat × List Nat := ([39], [39, 34, 39, 34, 39])
noncomputable def nmTail : List Nat := [34, 32, 105, 115, 32, 105, 116, 115, 32, 110, 97, 109, 101]
/-- what _law_told gives -/
noncomputable def toldNames (ds : List (List Nat × List Nat)) (ls : List (List Nat)) : List (List Nat) := ls.map fun s => p257 (putL ds s ++ nmTail)
structure ToldOk (ls : List (List Nat)) (mp qp dp : List (List Nat × List Nat)) (w0 w1 : List (List Nat)) : Prop where
  len : ls.length ≤ 1000
  m1 : ∀ s ∈ ls, PutOk mp s
  m2 : ∀ s ∈ ls, (putL mp s).length ≤ 10000
  q1 : ∀ s ∈ ls, PutOk (qp ++ [apPair]) s
  q2 : ∀ s ∈ ls, (putL (qp ++ [apPair]) s).length ≤ 10000
  d1 : ∀ s ∈ ls, PutOk dp s
  d2 : ∀ s ∈ ls, (putL dp s).length ≤ 10000
  l0 : (lineL mp [34] ls).length ≤ 1000000
  l1 : (lineL (qp ++ [apPair]) [39] ls).length ≤ 1000000
  x0 : Lx (lineL mp [34] ls) (some 32) 1 0 w0
  x1 : Lx (lineL (qp ++ [apPair]) [39] ls) (some 32) 1 0 w1
  n0 : w0.length ≤ 100000
  n1 : w1.length ≤ 100000
  qn : qp.length ≤ 1000
noncomputable def asE : Stmt → Expr
  | .Assign _ e _ => e
  | _ => .Name (S "") ⟨0, 0, 0, 0⟩
theorem told_body (hC : C.G = G w) (hB : C.mB = []) (hl : C.lvl ≤ 71) (hfull : C.Full) {env : Env} (hs : env.scope = fS (st 29)) (hc : CellsOk env) (hint : interactive env = false) (ls : List (List Nat)) (mp qp dp : List (List Nat × List Nat)) (ms qs ds : List MV) (hms : Sats (pairPs mp) ms) (hqs : Sats (pairPs qp) qs) (hds : Sats (pairPs dp) ds) (w0 w1 : List (List Nat)) (ok : ToldOk ls mp qp dp w0 w1) :
    wpSs C env (fB (st 29)) [(S "stretches", .fz (.list (ls.map tx))), (S "marked", .fz (.list ms)), (S "quoted", .fz (.list qs)), (S "doubled", .fz (.list ds))] fun fm _ => match fm with | .ret m => m = .list [.list ((toldNames dp ls).map tx), .list (w0.map tx), .list (w1.map tx)] | .next => MV.list [.list ((toldNames dp ls).map tx), .list (w0.map tx), .list (w1.map tx)] = .none | _ => False := by
  have hnm : env.scope.names = (fS (st 29)).names := by rw [hs]
  conv at hnm => rhs; whnf
  have hg : env.kindOf (Str.ofString "@own") = none := by show env.scope.names.lookup _ = none; rw [hnm]; kernel_rfl
  refine ssP_own (ms := []) (evN_list .nil (by show 0 ≤ _; omega)) (by tm_at "kind") rfl hB rfl hg (by kernel_rfl) rfl ?_
  intro a
  refine ⟨_, by tm_at "sp", ?_⟩
  refine wpP_cons (wpS_for (items := ls.map tx) (fun i σ' => ∃ tail, σ' = (S "stretches", .fz (.list (ls.map tx))) :: (S "marked", .fz (.list ms)) :: (S "quoted", .fz (.list qs)) :: (S "doubled", .fz (.list ds)) :: (S "names", .own a ((toldNames dp (ls.take i)).map tx)) :: tail ∧ (tail = [] ∨ ∃ m, tail = [(S "stretch", .fz m)])) hc hB rfl ?_ ?_ ?_ ?_ ?_)
  · rintro i σ' ⟨tail, rfl, rfl | ⟨a, rfl⟩⟩ <;> rfl
  · apply evIt_list; tm_at "ev"
  · exact ⟨[], rfl, .inl rfl⟩
  · rintro i m σ' hm ⟨tail, rfl, ht⟩
    rw [List.getElem?_map] at hm
    obtain ⟨s, hs1, rfl⟩ := Option.map_eq_some_iff.mp hm
    have hilt : i < ls.length := (List.getElem?_eq_some_iff.mp hs1).1
    have hlen := ok.len
    have hmem := List.mem_of_getElem? hs1
    have hd1 := ok.d1 s hmem
    have hd2 := ok.d2 s hmem
    have enext : toldNames dp (ls.take (i + 1)) = toldNames dp (ls.take i) ++ [p257 (putL dp s ++ nmTail)] := by
      unfold toldNames
      rw [take_snoc hs1, List.map_append]; rfl
    have go : ∀ Q : FM → St → Prop, Q .next ((S "stretches", .fz (.list (ls.map tx))) :: (S "marked", .fz (.list ms)) :: (S "quoted", .fz (.list qs)) :: (S "doubled", .fz (.list ds)) :: (S "names", .own a ((toldNames dp (ls.take (i + 1))).map tx)) :: [(S "stretch", .fz (tx s))]) → wpSs C env (forB ((fB (st 29)).drop 1)) ((S "stretches", .fz (.list (ls.map tx))) :: (S "marked", .fz (.list ms)) :: (S "quoted", .fz (.list qs)) :: (S "doubled", .fz (.list ds)) :: (S "names", .own a ((toldNames dp (ls.take i)).map tx)) :: [(S "stretch", .fz (tx s))]) Q := by
      intro Q hQ
      refine ss_append (m := tx (p257 (putL dp s ++ nmTail))) (by tm_at "sg") (by tm_at "kind") rfl ?_ (by intro _ _ h; cases h) rfl hint (by unfold toldNames; simp; omega) rfl (by tm_at "sp") ?_
      · refine ev_call_f (full := false) (k := 98) (fa := 766) (ms := [tx ([50, 53, 55, 32, 34] ++ putL dp s ++ nmTail)]) ?_ (.cons ?_ (by intro _ _ h; cases h) .nil) (by rw [hC, List.append_assoc]; exact spec_parse w _ (by rw [List.length_append]; show _ + 13 ≤ _; omega) (by omega)) (by omega) (fun h => nomatch h) (fn_at hC rfl (by kernel_rfl) (by kernel_rfl))
        · tm_at "fun"
        · refine ev_binop (a := tx ([50, 53, 55, 32, 34] ++ putL dp s)) (b := tx nmTail) (Ev.t (ev_binop (a := tx [50, 53, 55, 32, 34]) (b := tx (putL dp s)) ?_ (Ev.t (ev_call_f (full := false) (k := 98) (fa := 780) (ms := [tx s, .list ds]) ?_ ?_ (by rw [hC]; exact spec_put w s dp ds hds hd1 (by omega)) (by omega) (fun h => nomatch h) (fn_at hC rfl (by kernel_rfl) (by kernel_rfl)))) (cat_tx ?_))) (Ev.t c_isname) (cat_tx ?_)
          · tm_at "evt"
          · tm_at "fun"
          · tm_at "evs"
          · simp only [List.length_cons, List.length_nil]; omega
          · rw [List.length_append]; simp only [List.length_cons, List.length_nil]; show _ + 13 ≤ _; omega
      · refine wpSs_nil ?_
        rw [enext, List.map_append] at hQ
        exact hQ
    have sx : Stores env (S "stretch") := by tm_at "stores"
    rcases ht with rfl | ⟨m', rfl⟩
    · exact ⟨_, asg_name sx, rfl, go _ ⟨_, rfl, .inr ⟨_, rfl⟩⟩⟩
    · exact ⟨_, asg_name sx, rfl, go _ ⟨_, rfl, .inr ⟨_, rfl⟩⟩⟩
  · rintro σ' ⟨tail, rfl, ht⟩
    apply wpSs_nil
    dsimp only
    rewrite [List.length_map, List.take_length]
    refine pp_freeze (x := S "names") (by tm_at "sg") (by tm_at "sp") ?_
    have lines : ∀ (σ : St) (Q : FM → St → Prop), sget σ (S "stretches") = some (.fz (.list (ls.map tx))) → sget σ (S "marked") = some (.fz (.list ms)) → sget σ (S "quoted") = some (.fz (.list qs)) →
        Q .next (sput σ (S "lines") (.fz (.list [tx (lineL mp [34] ls), tx (lineL (qp ++ [apPair]) [39] ls)]))) → wpSP C env (((fB (st 29)).drop 2).headD (.Pass ⟨0, 0, 0, 0⟩)) σ Q := by
      intro σ Q g1 g2 g3 hQ
      refine wpSP_assign (m := .list [tx (lineL mp [34] ls), tx (lineL (qp ++ [apPair]) [39] ls)]) (EvX.q (evX_list (Ps := [(· = tx (lineL mp [34] ls)), (· = tx (lineL (qp ++ [apPair]) [39] ls))]) (.cons (EvQ.x (EvQ.of ?_)) (by intro _ _ h; cases h) (.cons (EvQ.x ?_) (by intro _ _ h; cases h) .nil)) (by show 2 ≤ 1000; omega)) ?_) (by tm_at "stores") rfl rfl hQ
      · refine ev_call_f (full := false) (k := 97) (fa := 785) (ms := [.list (ls.map tx), .list ms, tx [34]]) ?_ (.cons ?_ (by intro _ _ h; cases h) (.cons ?_ (by intro _ _ h; cases h) (.cons ?_ (by intro _ _ h; cases h) .nil))) (by rw [hC]; exact spec_line w ls mp ms [34] hms ok.m1 ok.len ok.m2 (by decide)) (by omega) (fun h => nomatch h) (fn_at hC rfl (by kernel_rfl) (by kernel_rfl))
        · tm_at "fun"
        · exact ev_name_local g1 (by tm_at "kind") rfl
        · exact ev_name_local g2 (by tm_at "kind") rfl
        · tm_at "str"
      · refine evX_call_f (full := false) (k := 97) (fa := 785) (Ps := [(· = .list (ls.map tx)), Lists (pairPs qp ++ [Pair [39] [39, 34, 39, 34, 39]]), (· = tx [39])]) ?_ (.cons (EvQ.x (EvQ.of ?_)) (by intro _ _ h; cases h) (.cons (evX_add (Ps := pairPs qp) (Qs := [Pair [39] [39, 34, 39, 34, 39]]) ?_ (evX_list (.cons (evX_pair (by decide +kernel) (by decide +kernel)) (by intro _ _ h; cases h) .nil) (by show 1 ≤ 1000; omega)) (by unfold pairPs; rw [List.length_map]; exact ok.qn) (by show 1 ≤ 1000; omega)) (by intro _ _ h; cases h) (.cons (EvQ.x (EvQ.of ?_)) (by intro _ _ h; cases h) .nil))) (by simp) ?_ (by omega) (fun h => nomatch h) (fn_at hC rfl (by kernel_rfl) (by kernel_rfl))
        · tm_at "fun"
        · exact ev_name_local g1 (by tm_at "kind") rfl
        · intro s hp R
          refine wpAny_mono (ev_name_local (C := C) g3 (by tm_at "kind") rfl s R) (fun v s' h => ⟨h.1, _, ⟨qs, rfl, hqs⟩, h.2⟩) fun _ _ z => z
        · tm_at "str"
        · intro mm hmm
          cases hmm with
          | cons h1 r =>
            cases r with
            | cons h2 r2 =>
              cases r2 with
              | cons h3 r3 =>
                cases r3
                obtain ⟨xs, rfl, hx⟩ := h2
                subst h1 h3
                rw [hC]
                refine spec_line w ls (qp ++ [apPair]) xs [39] ?_ ok.q1 ok.len ok.q2 (by decide)
                unfold pairPs at hx ⊢
                rw [List.map_append]
                exact hx
      · rintro m ⟨xs, rfl, hx⟩
        cases hx with
        | cons h1 r =>
          cases r with
          | cons h2 r2 => cases r2; subst h1 h2; rfl
    have last : ∀ (σ : St), sget σ (S "names") = some (.fz (.list ((toldNames dp ls).map tx))) → sget σ (S "lines") = some (.fz (.list [tx (lineL mp [34] ls), tx (lineL (qp ++ [apPair]) [39] ls)])) →
        wpSs C env ((fB (st 29)).drop 3) σ fun fm _ => match fm with | .ret m => m = .list [.list ((toldNames dp ls).map tx), .list (w0.map tx), .list (w1.map tx)] | .next => MV.list [.list ((toldNames dp ls).map tx), .list (w0.map tx), .list (w1.map tx)] = .none | _ => False := by
      intro σ g1 g2
      refine ss_ret (m := .list [.list ((toldNames dp ls).map tx), .list (w0.map tx), .list (w1.map tx)]) ?_ rfl
      refine ev_list (.cons ?_ (by intro _ _ h; cases h) (.cons ?_ (by intro _ _ h; cases h) (.cons ?_ (by intro _ _ h; cases h) .nil))) (by show 3 ≤ sizeLine; rw [sizeLine_eq]; omega)
      · exact ev_name_local g1 (by tm_at "kind") rfl
      · refine ev_call_f (full := true) (k := 71) (fa := 734) (ms := [tx (lineL mp [34] ls)]) ?_ (.cons (ev_sub (a := .list [tx (lineL mp [34] ls), tx (lineL (qp ++ [apPair]) [39] ls)]) (i := .int 0) (Ev.t (ev_name_local g2 (by tm_at "kind") rfl)) ?_ (item_list_ (by decide) (by decide) rfl)) (by intro _ _ h; cases h) .nil) (by rw [hC]; exact spec_split w _ ok.l0 ok.x0 (Nat.le_trans ok.n0 (by decide))) hl (fun _ => hfull) (fn_at hC rfl (by kernel_rfl) (by kernel_rfl))
        · tm_at "fun"
        · tm_at "evt"
      · refine ev_call_f (full := true) (k := 71) (fa := 734) (ms := [tx (lineL (qp ++ [apPair]) [39] ls)]) ?_ (.cons (ev_sub (a := .list [tx (lineL mp [34] ls), tx (lineL (qp ++ [apPair]) [39] ls)]) (i := .int 1) (Ev.t (ev_name_local g2 (by tm_at "kind") rfl)) ?_ (item_list_ (by decide) (by decide) rfl)) (by intro _ _ h; cases h) .nil) (by rw [hC]; exact spec_split w _ ok.l1 ok.x1 (Nat.le_trans ok.n1 (by decide))) hl (fun _ => hfull) (fn_at hC rfl (by kernel_rfl) (by kernel_rfl))
        · tm_at "fun"
        · tm_at "evt"
    rcases ht with rfl | ⟨m', rfl⟩
    · refine wpP_consP (lines _ _ (by tm_at "sg") (by tm_at "sg") (by tm_at "sg") ?_)
      exact wpP_of (last _ (by rw [sget_sput]; tm_at "sg") (by rw [sget_sput]; rfl))
    · refine wpP_consP (lines _ _ (by tm_at "sg") (by tm_at "sg") (by tm_at "sg") ?_)
      exact wpP_of (last _ (by rw [sget_sput]; tm_at "sg") (by rw [sget_sput]; rfl))
theorem spec_told (w : World) (ls : List (List Nat)) (mp qp dp : List (List Nat × List Nat)) (ms qs ds : List MV) (hms : Sats (pairPs mp) ms) (hqs : Sats (pairPs qp) qs) (hds : Sats (pairPs dp) ds) (w0 w1 : List (List Nat)) (ok : ToldOk ls mp qp dp w0 w1) : Spec (G w) true 70 (.ref 792) [.list (ls.map tx), .list ms, .list qs, .list ds] (.list [.list ((toldNames dp ls).map tx), .list (w0.map tx), .list (w1.map tx)]) :=
  spec_ofB (def_told w) (by omega) rfl fun C hC hl hf L hB => told_body hC hB hl (hf rfl) (by kernel_rfl) (cells_none (by kernel_rfl)) (by kernel_rfl) ls mp qp dp ms qs ds hms hqs hds w0 w1 ok
theorem def_law (w : World) : IsDef (G w) 804 (fdAt w.params 804) (fB (st 31)) [S "script"] := by
  refine def_of w 804 803 [S "script"] (st 31) rfl ?_ ?_ rfl ?_ ?_ ?_ ?_ ?_ ?_ ?_ ?_ ?_ ?_ ?_ (by decide +kernel) ?bb ?kk
  case bb =>
    intro vs hv
    match vs, hv with
    | [a0], _ => kernel_rfl
  case kk =>
    intro x hx
    simp only [List.mem_cons, List.not_mem_nil, or_false] at hx
    rcases hx with rfl <;> exact .inl (by kernel_rfl)
  all_goals kernel_rfl
noncomputable def drawn (ns : List Int) : List Int := if ns.isEmpty = true then [1, 3, 13, 5, 7, 6] else ns.take 12
noncomputable def textOf (ns : List Int) : List Nat := joinL [] ((drawn ns).map fun n => piece (n.fmod 17792992)) ++ [122]
noncomputable def st1 (l : List Nat) : List (List Nat) := cutL [34] (joinL [0] (cutL [34, 34] l))
noncomputable def st2 (l : List Nat) : List (List Nat) := cutL [34] (joinL [1] (cutL [92, 34] (joinL [0] (cutL [92, 92] l))))
noncomputable abbrev M1 : List (List Nat × List Nat) := [([92], [92, 92]), ([0], [92, 34])]
noncomputable abbrev Q1 : List (List Nat × List Nat) := [([0], [34])]
noncomputable abbrev D1 : List (List Nat × List Nat) := [([0], [34, 34])]
noncomputable abbrev M2 : List (List Nat × List Nat) := [([0], [92, 92]), ([1], [92, 34])]
noncomputable abbrev Q2 : List (List Nat × List Nat) := [([0], [92]), ([1], [34])]
noncomputable abbrev D2 : List (List Nat × List Nat) := [([1], [34, 34]), ([0], [92])]
noncomputable abbrev M3 : List (List Nat × List Nat) := [([92], [92, 92]), ([34], [92, 34])]
noncomputable abbrev Q3 : List (List Nat × List Nat) := []
noncomputable abbrev D3 : List (List Nat × List Nat) := [([34], [34, 34])]
noncomputable def nms (l : List Nat) : List (List Nat) := (List.range (st1 l).length).map (namesAt l (st1 l))
structure PlainOk (l : List Nat) : Prop where
  len : l.length ≤ 100
  lenA : (joinL [0] (cutL [34, 34] l)).length ≤ 1000
  lenB : (joinL [0] (cutL [92, 92] l)).length ≤ 1000
  lenC : (joinL [1] (cutL [92, 34] (joinL [0] (cutL [92, 92] l)))).length ≤ 1000
  t1 : ToldOk (st1 l) M1 Q1 D1 (nms l) (nms l)
  e1 : toldNames D1 (st1 l) = nms l
  c1 : CpOk (nms l)
  pl : ∀ i, i < (st1 l).length → placeAt ((st1 l).take i) ≤ l.length
  sl : ∀ s ∈ st1 l, s.length ≤ 1000
  t2 : ∃ W, ToldOk (st2 l) M2 Q2 D2 W W ∧ toldNames D2 (st2 l) = W ∧ CpOk W
  t3 : ToldOk (cutL [39] l) M3 Q3 D3 (cutL [39] l) (cutL [39] l)
  e3 : toldNames D3 (cutL [39] l) = cutL [39] l
  c3 : CpOk (cutL [39] l)
theorem rep3 (m : MV) : (List.replicate 3 [m]).flatten = [m, m, m] := rfl
theorem cut_ne {y : List Nat} (h : y ≠ []) : y ≠ [] := h
variable {env : Env}
theorem ev3 {σ : St} {x : Str} {p1 p2 p3 : Pos} {m : MV} {k : Nat} (h : Ev C env σ (.Name x p1) m) : Ev C env σ (.BinOp (.List [.Name x p1] p2) .Mult (.Constant (.int 3) k p3) p3) (.list [m, m, m]) := by
  have := EvN.ev (evN_mul (p := p3) (k := 3) (evN_list (p := p2) (.cons h (by intro _ _ h; cases h) .nil) (by show 1 ≤ sizeLine; rw [sizeLine_eq]; omega)) (ev_int (k := k) (p := p3)) (by omega) (by show 1 ≤ 1000; omega))
  exact this
/-- every x is followed by a sign that is not in bad -/
noncomputable def fol (x : Nat) (bad : List Nat) : List Nat → Prop
  | [] => True
  | [c] => c ≠ x
  | c :: d :: r => (c = x → d ∉ bad) ∧ fol x bad (d :: r)
noncomputable def lst (x : Nat) : List Nat → Prop
  | [] => True
  | [c] => c ≠ x
  | _ :: d :: r => lst x (d :: r)
theorem lst_app (x z : Nat) (h : z ≠ x) : ∀ l, lst x (l ++ [z])
  | [] => h
  | [c] => h
  | c :: d :: r => lst_app x z h (d :: r)
theorem lst_tl {x c : Nat} : ∀ {l : List Nat}, l ≠ [] → lst x (c :: l) → lst x l
  | [], h, _ => absurd rfl h
  | _ :: _, _, h => h
theorem rep2_skip {x y z c : Nat} (hc : c ≠ x) : ∀ l, rep2 x y [z] (c :: l) = c :: rep2 x y [z] l
  | [] => by simp [rep2]
  | d :: r => by rw [rep2, if_neg (fun q => hc q.1)]
theorem rep2_hit {x y z : Nat} (l : List Nat) : rep2 x y [z] (x :: y :: l) = z :: rep2 x y [z] l := by rw [rep2, if_pos ⟨rfl, rfl⟩]; rfl
theorem fol_cons {x c d : Nat} {bad r : List Nat} (h1 : c = x → d ∉ bad) (h2 : fol x bad (d :: r)) : fol x bad (c :: d :: r) := ⟨h1, h2⟩
theorem fol_ne {x c : Nat} {bad : List Nat} (hc : c ≠ x) : ∀ {r : List Nat}, fol x bad r → fol x bad (c :: r)
  | [], _ => hc
  | d :: r, h => ⟨fun q => absurd q hc, h⟩
theorem rep2_fol1 {x : Nat} (hx : x ≠ 0) : ∀ (n : Nat) (l : List Nat), l.length ≤ n → 0 ∉ l → lst x l → fol x [x, 0] (rep2 x x [0] l)
  | _, [], _, _, _ => by simp [rep2, fol]
  | 0, _ :: _, h, _, _ => by simp at h
  | n + 1, [c], _, _, hl => by rw [show rep2 x x [0] [c] = [c] from rfl]; exact hl
  | n + 1, c :: d :: r, h, h0, hl => by
    simp only [List.length_cons] at h
    simp only [List.mem_cons, not_or] at h0
    by_cases hc : c = x
    · subst hc
      by_cases hd : d = c
      · subst hd
        rw [rep2_hit]
        have hr : r ≠ [] := by rintro rfl; exact hl rfl
        exact fol_ne (Ne.symm hx) (rep2_fol1 hx n r (by omega) h0.2.2 (lst_tl hr hl))
      · have ih := rep2_fol1 hx n (d :: r) (by simp; omega) (by simp only [List.mem_cons, not_or]; exact ⟨h0.2.1, h0.2.2⟩) hl
        rw [rep2, if_neg (fun q => hd q.2)]
        rw [rep2_skip hd] at ih ⊢
        exact fol_cons (fun _ => by simp only [List.mem_cons, List.not_mem_nil, or_false, not_or]; exact ⟨hd, Ne.symm h0.2.1⟩) ih
    · rw [rep2_skip hc]
      exact fol_ne hc (rep2_fol1 hx n (d :: r) (by simp; omega) (by simp only [List.mem_cons, not_or]; exact ⟨h0.2.1, h0.2.2⟩) hl)
theorem fol_tl {x c : Nat} {bad : List Nat} : ∀ {l : List Nat}, fol x bad (c :: l) → fol x bad l
  | [], _ => trivial
  | _ :: _, h => h.2
theorem rep2_fol2 : ∀ (n : Nat) (l : List Nat), l.length ≤ n → 1 ∉ l → fol 92 [92, 0] l → fol 92 [34, 92, 0, 1] (rep2 92 34 [1] l)
  | _, [], _, _, _ => by simp [rep2, fol]
  | 0, _ :: _, h, _, _ => by simp at h
  | n + 1, [c], _, _, hl => by rw [show rep2 92 34 [1] [c] = [c] from rfl]; exact hl
  | n + 1, c :: d :: r, h, h0, hl => by
    simp only [List.length_cons] at h
    simp only [List.mem_cons, not_or] at h0
    by_cases hc : c = 92
    · subst hc
      have hdb := hl.1 rfl
      simp only [List.mem_cons, List.not_mem_nil, or_false, not_or] at hdb
      by_cases hd : d = 34
      · subst hd
        rw [rep2_hit]
        exact fol_ne (by decide) (rep2_fol2 n r (by omega) h0.2.2 (fol_tl hl.2))
      · have ih := rep2_fol2 n (d :: r) (by simp; omega) (by simp only [List.mem_cons, not_or]; exact ⟨h0.2.1, h0.2.2⟩) hl.2
        rw [rep2, if_neg (fun q => hd q.2)]
        rw [rep2_skip hdb.1] at ih ⊢
        exact fol_cons (fun _ => by simp only [List.mem_cons, List.not_mem_nil, or_false, not_or]; exact ⟨hd, hdb.1, hdb.2, Ne.symm h0.2.1⟩) ih
    · rw [rep2_skip hc]
      exact fol_ne hc (rep2_fol2 n (d :: r) (by simp; omega) (by simp only [List.mem_cons, not_or]; exact ⟨h0.2.1, h0.2.2⟩) hl.2)
theorem mem_rep2 {x y z c : Nat} : ∀ (n : Nat) (l : List Nat), l.length ≤ n → c ∈ rep2 x y [z] l → c = z ∨ c ∈ l
  | _, [], _, h => by simp [rep2] at h
  | 0, _ :: _, h, _ => by simp at h
  | n + 1, [d], _, h => .inr h
  | n + 1, d :: e :: r, hn, h => by
    simp only [List.length_cons] at hn
    rw [rep2] at h
    split at h
    · simp only [List.cons_append, List.nil_append, List.mem_cons] at h
      rcases h with h | h
      · exact .inl h
      · rcases mem_rep2 n r (by omega) h with h | h
        · exact .inl h
        · exact .inr (by simp [h])
    · rcases List.mem_cons.mp h with h | h
      · exact .inr (by simp [h])
      · rcases mem_rep2 n (e :: r) (by simp; omega) h with h | h
        · exact .inl h
        · exact .inr (List.mem_cons_of_mem _ h)
theorem len_rep2 {x y z : Nat} : ∀ (n : Nat) (l : List Nat), l.length ≤ n → (rep2 x y [z] l).length ≤ l.length
  | _, [], _ => by simp [rep2]
  | 0, _ :: _, h => by simp at h
  | n + 1, [d], _ => by simp [rep2]
  | n + 1, d :: e :: r, hn => by
    simp only [List.length_cons] at hn
    rw [rep2]
    split
    · have := len_rep2 (x := x) (y := y) (z := z) n r (by omega)
      simp; omega
    · have := len_rep2 (x := x) (y := y) (z := z) n (e :: r) (by simp; omega)
      simp at this ⊢; omega
theorem mem_cut {y : List Nat} {c : Nat} {s : List Nat} : ∀ (k : Nat) (l : List Nat), s ∈ cutS y k l → c ∈ s → c ∈ l
  | 0, [], h, hc => by simp [cutS] at h; subst h; exact hc
  | _ + 1, [], h, hc => by simp [cutS] at h; subst h; exact hc
  | k + 1, d :: r, h, hc => by rw [cutS] at h; exact List.mem_cons_of_mem _ (mem_cut k r h hc)
  | 0, d :: r, h, hc => by
    rw [cutS] at h
    split at h
    · rcases List.mem_cons.mp h with rfl | h
      · cases hc
      · exact List.mem_cons_of_mem _ (mem_cut _ r h hc)
    · obtain ⟨p, ps, e⟩ := List.exists_cons_of_ne_nil (cutS_ne y 0 r)
      rw [e] at h
      rcases List.mem_cons.mp h with rfl | h
      · rcases List.mem_cons.mp hc with rfl | hc
        · exact List.mem_cons_self
        · exact List.mem_cons_of_mem _ (mem_cut 0 r (by rw [e]; exact List.mem_cons_self) hc)
      · exact List.mem_cons_of_mem _ (mem_cut 0 r (by rw [e]; exact List.mem_cons_of_mem _ h) hc)
theorem len_cut {y : List Nat} {s : List Nat} : ∀ (k : Nat) (l : List Nat), s ∈ cutS y k l → s.length ≤ l.length
  | 0, [], h => by simp [cutS] at h; subst h; simp
  | _ + 1, [], h => by simp [cutS] at h; subst h; simp
  | k + 1, d :: r, h => by rw [cutS] at h; have := len_cut k r h; simp; omega
  | 0, d :: r, h => by
    rw [cutS] at h
    split at h
    · rcases List.mem_cons.mp h with rfl | h
      · simp
      · have := len_cut _ r h; simp; omega
    · obtain ⟨p, ps, e⟩ := List.exists_cons_of_ne_nil (cutS_ne y 0 r)
      rw [e] at h
      rcases List.mem_cons.mp h with rfl | h
      · have := len_cut 0 r (s := p) (by rw [e]; exact List.mem_cons_self); simp; omega
      · have := len_cut 0 r (s := s) (by rw [e]; exact List.mem_cons_of_mem _ h); simp; omega
theorem cut_eqs (c : Nat) (r : List Nat) (x : Nat) : cutS [x] 0 (c :: r) = if c = x then [] :: cutS [x] 0 r else (c :: (cutS [x] 0 r).headD []) :: (cutS [x] 0 r).tail := by
  obtain ⟨p, ps, e⟩ := List.exists_cons_of_ne_nil (cutS_ne [x] 0 r)
  by_cases hc : c = x
  · subst hc
    rw [cutS, show [c].isPrefixOf (c :: r) = true by simp [List.isPrefixOf], if_pos rfl, if_pos rfl]; rfl
  · rw [cutS, show [x].isPrefixOf (c :: r) = false by simp [List.isPrefixOf, Ne.symm hc], if_neg (by decide), if_neg hc, e]; rfl
theorem cut_not {x : Nat} {s : List Nat} : ∀ l : List Nat, s ∈ cutS [x] 0 l → x ∉ s
  | [], h => by simp [cutS] at h; subst h; simp
  | c :: r, h => by
    rw [cut_eqs] at h
    obtain ⟨p, ps, e⟩ := List.exists_cons_of_ne_nil (cutS_ne [x] 0 r)
    split at h
    · rcases List.mem_cons.mp h with rfl | h
      · simp
      · exact cut_not r h
    · rename_i hc
      rw [e] at h
      rcases List.mem_cons.mp h with rfl | h
      · have := cut_not r (s := p) (by rw [e]; exact List.mem_cons_self)
        simp only [List.headD_cons, List.mem_cons, not_or]
        exact ⟨Ne.symm hc, this⟩
      · exact cut_not r (by rw [e]; exact List.mem_cons_of_mem _ h)
/-- pieces between marks keep what follows -/
theorem cut_fol {y x : Nat} {bad : List Nat} (hy : y ∈ bad) (hyx : y ≠ x) : ∀ l : List Nat, fol x bad l → ∀ s ∈ cutS [y] 0 l, fol x bad s
  | [], _, s, h => by simp [cutS] at h; subst h; trivial
  | c :: r, hl, s, h => by
    have ih := cut_fol hy hyx r (fol_tl hl)
    rw [cut_eqs] at h
    obtain ⟨p, ps, e⟩ := List.exists_cons_of_ne_nil (cutS_ne [y] 0 r)
    split at h
    · rcases List.mem_cons.mp h with rfl | h
      · trivial
      · exact ih s h
    · rename_i hc
      rw [e] at h
      rcases List.mem_cons.mp h with rfl | h
      · have hp := ih p (by rw [e]; exact List.mem_cons_self)
        show fol x bad (c :: p)
        cases r with
        | nil => simp [cutS] at e; obtain ⟨rfl, _⟩ := e; exact hl
        | cons d r' =>
          have e' := e
          rw [cut_eqs] at e'
          by_cases hd : d = y
          · by_cases hcx : c = x
            · exact absurd (hd ▸ hy) (hl.1 hcx)
            · exact fol_ne hcx hp
          · rw [if_neg hd] at e'
            have e2 := (List.cons.inj e').1
            rw [← e2] at hp ⊢
            exact fol_cons hl.1 hp
      · exact ih s (by rw [e]; exact List.mem_cons_of_mem _ h)
/-- pieces behind the first -/
theorem cut_heads {x : Nat} {bad : List Nat} (hx : x ∈ bad) : ∀ l : List Nat, fol x bad l → ∀ s ∈ (cutS [x] 0 l).tail, ∃ d s', s = d :: s' ∧ d ∉ bad
  | [], _, s, h => by simp [cutS] at h
  | c :: r, hl, s, h => by
    have ih := cut_heads hx r (fol_tl hl)
    rw [cut_eqs] at h
    obtain ⟨p, ps, e⟩ := List.exists_cons_of_ne_nil (cutS_ne [x] 0 r)
    split at h
    · rename_i hc
      rw [List.tail_cons, e] at h
      rcases List.mem_cons.mp h with rfl | h
      · cases r with
        | nil => exact absurd hc hl
        | cons d r' =>
          have hd := hl.1 hc
          have e' := e
          rw [cut_eqs] at e'
          by_cases hdx : d = x
          · exact absurd (hdx ▸ hx) hd
          · rw [if_neg hdx] at e'
            exact ⟨d, _, ((List.cons.inj e').1).symm, hd⟩
      · exact ih s (by rw [e]; exact h)
    · rw [List.tail_cons] at h
      exact ih s h
/-- what a stretch says -/
noncomputable def val (f : Nat → Nat) (s : List Nat) : List Nat := s.map f
noncomputable def v1 (c : Nat) : Nat := if c = 0 then 34 else c
noncomputable def v2 (c : Nat) : Nat := if c = 0 then 92 else if c = 1 then 34 else c
noncomputable def v3 (c : Nat) : Nat := c
theorem p257_e1 (t : List Nat) : ∀ s : List Nat, 34 ∉ s → p257 (rep1 0 [34, 34] s ++ t) = val v1 s ++ p257 t
  | [], _ => rfl
  | c :: s, h => by
    simp only [List.mem_cons, not_or] at h
    have ih := p257_e1 t s h.2
    by_cases hc : c = 0
    · subst hc
      rw [rep1, if_pos rfl]
      show p257 (34 :: 34 :: (rep1 0 [34, 34] s ++ t)) = _
      rw [p257_two, ih]; rfl
    · rw [rep1, if_neg hc]
      show p257 (c :: (rep1 0 [34, 34] s ++ t)) = _
      rw [p257_other _ (Ne.symm h.1), ih]
      simp [val, v1, hc]
theorem p257_e3 (t : List Nat) : ∀ s : List Nat, p257 (rep1 34 [34, 34] s ++ t) = s ++ p257 t
  | [] => rfl
  | c :: s => by
    have ih := p257_e3 t s
    by_cases hc : c = 34
    · subst hc
      rw [rep1, if_pos rfl]
      show p257 (34 :: 34 :: (rep1 34 [34, 34] s ++ t)) = _
      rw [p257_two, ih]; rfl
    · rw [rep1, if_neg hc]
      show p257 (c :: (rep1 34 [34, 34] s ++ t)) = _
      rw [p257_other _ hc, ih]; rfl
theorem p257_e2 (t : List Nat) : ∀ s : List Nat, 34 ∉ s → p257 (rep1 0 [92] (rep1 1 [34, 34] s) ++ t) = val v2 s ++ p257 t
  | [], _ => rfl
  | c :: s, h => by
    simp only [List.mem_cons, not_or] at h
    have ih := p257_e2 t s h.2
    by_cases h1 : c = 1
    · subst h1
      rw [show rep1 1 [34, 34] (1 :: s) = 34 :: 34 :: rep1 1 [34, 34] s by rw [rep1, if_pos rfl]; rfl]
      rw [show rep1 0 [92] (34 :: 34 :: rep1 1 [34, 34] s) = 34 :: 34 :: rep1 0 [92] (rep1 1 [34, 34] s) by rw [rep1, if_neg (by decide), rep1, if_neg (by decide)]]
      show p257 (34 :: 34 :: (rep1 0 [92] (rep1 1 [34, 34] s) ++ t)) = _
      rw [p257_two, ih]; rfl
    · rw [show rep1 1 [34, 34] (c :: s) = c :: rep1 1 [34, 34] s by rw [rep1, if_neg h1]]
      by_cases h0 : c = 0
      · subst h0
        rw [rep1, if_pos rfl]
        show p257 (92 :: (rep1 0 [92] (rep1 1 [34, 34] s) ++ t)) = _
        rw [p257_other _ (by decide), ih]; rfl
      · rw [rep1, if_neg h0]
        show p257 (c :: (rep1 0 [92] (rep1 1 [34, 34] s) ++ t)) = _
        rw [p257_other _ (Ne.symm h.1), ih]
        simp [val, v2, h0, h1]
theorem p257_tail : p257 nmTail = [] := p257_one _ (by decide)
/-- between marks -/
noncomputable def InQ (e t : List Nat) : Prop := ∀ r esc q tok ln, ∃ esc' ln' q', rt (e ++ r) (some 34) esc q tok ln = rt r (some 34) esc' q' (tok ++ t) ln'
noncomputable def InS (e t : List Nat) : Prop := ∀ r esc q tok ln, ∃ esc' ln' q', rt (e ++ r) (some 39) esc q tok ln = rt r (some 39) esc' q' (tok ++ t) ln'
noncomputable def Word (e t : List Nat) : Prop := ∀ r esc ln, ∃ esc' ln', rt (e ++ r) (some 32) esc false [] ln = rt r (some 97) esc' true t ln'
theorem InQ.nil : InQ [] [] := fun r esc q tok ln => ⟨esc, ln, q, by simp⟩
theorem InS.nil : InS [] [] := fun r esc q tok ln => ⟨esc, ln, q, by simp⟩
theorem InQ.app {e t e' t' : List Nat} (h : InQ e t) (h' : InQ e' t') : InQ (e ++ e') (t ++ t') := fun r esc q tok ln => by
  obtain ⟨esc1, ln1, q1, h1⟩ := h (e' ++ r) esc q tok ln
  obtain ⟨esc2, ln2, q2, h2⟩ := h' r esc1 q1 (tok ++ t) ln1
  exact ⟨esc2, ln2, q2, by rw [List.append_assoc, h1, h2, List.append_assoc]⟩
theorem InS.app {e t e' t' : List Nat} (h : InS e t) (h' : InS e' t') : InS (e ++ e') (t ++ t') := fun r esc q tok ln => by
  obtain ⟨esc1, ln1, q1, h1⟩ := h (e' ++ r) esc q tok ln
  obtain ⟨esc2, ln2, q2, h2⟩ := h' r esc1 q1 (tok ++ t) ln1
  exact ⟨esc2, ln2, q2, by rw [List.append_assoc, h1, h2, List.append_assoc]⟩
theorem rt_go {c st esc : Nat} {q : Bool} {tok r : List Nat} {ln : Int} {st' esc' : Nat} {q' : Bool} {tok' : List Nat} (h : stp c st esc q tok = (false, st', esc', q', tok')) : rt (c :: r) (some st) esc q tok ln = rt r (some st') esc' q' tok' (if c = 10 then ln + 1 else ln) := by
  rw [rt, h]
theorem rt_stop {c st esc : Nat} {q : Bool} {tok r : List Nat} {ln : Int} {st' esc' : Nat} {q' : Bool} {tok' : List Nat} (h : stp c st esc q tok = (true, st', esc', q', tok')) : rt (c :: r) (some st) esc q tok ln = some ⟨q', tok', some st', r, if c = 10 then ln + 1 else ln⟩ := by
  rw [rt, h]
theorem InQ.chr {c : Nat} (h1 : c ≠ 34) (h2 : c ≠ 92) : InQ [c] [c] := fun r esc q tok ln => ⟨esc, _, true, rt_go (by simp [stp, h1, h2])⟩
theorem InQ.esc {c : Nat} (h : c = 34 ∨ c = 92) : InQ [92, c] [c] := fun r esc q tok ln => by
  refine ⟨34, _, true, (rt_go (c := 92) (st' := 92) (esc' := 34) (q' := true) (tok' := tok) (by simp [stp])).trans (rt_go ?_)⟩
  rcases h with rfl | rfl <;> simp [stp]
theorem InQ.raw {c : Nat} (h1 : c ≠ 34) (h2 : c ≠ 92) : InQ [92, c] [92, c] := fun r esc q tok ln => by
  refine ⟨34, _, true, (rt_go (c := 92) (st' := 92) (esc' := 34) (q' := true) (tok' := tok) (by simp [stp])).trans (rt_go ?_)⟩
  simp [stp, h1, h2]
theorem InS.chr {c : Nat} (h1 : c ≠ 39) : InS [c] [c] := fun r esc q tok ln => ⟨esc, _, true, rt_go (by simp [stp, h1])⟩
theorem InS.ap : InS [39, 34, 39, 34, 39] [39] := fun r esc q tok ln => by
  refine ⟨esc, ln, true, ?_⟩
  show rt (39 :: 34 :: 39 :: 34 :: 39 :: r) _ _ _ _ _ = _
  rw [rt_go (st' := 97) (esc' := esc) (q' := true) (tok' := tok) (by simp [stp])]
  rw [rt_go (st' := 34) (esc' := esc) (q' := true) (tok' := tok) (by simp [stp, WS])]
  rw [rt_go (st' := 34) (esc' := esc) (q' := true) (tok' := tok ++ [39]) (by simp [stp])]
  rw [rt_go (st' := 97) (esc' := esc) (q' := true) (tok' := tok ++ [39]) (by simp [stp])]
  rw [rt_go (st' := 39) (esc' := esc) (q' := true) (tok' := tok ++ [39]) (by simp [stp, WS])]
  simp
theorem Word.ofQ {e t : List Nat} (h : InQ e t) : Word ([34] ++ e ++ [34]) t := fun r esc ln => by
  obtain ⟨esc1, ln1, q1, h1⟩ := h (34 :: r) esc false [] ln
  refine ⟨esc1, ln1, ?_⟩
  have e1 : [34] ++ e ++ [34] ++ r = 34 :: (e ++ 34 :: r) := by simp
  rw [e1, rt_go (st' := 34) (esc' := esc) (q' := false) (tok' := []) (by simp [stp, WS])]
  simp only [show (34 : Nat) ≠ 10 by decide, if_false]
  rw [h1, rt_go (st' := 97) (esc' := esc1) (q' := true) (tok' := [] ++ t) (by simp [stp])]
  simp
theorem Word.ofS {e t : List Nat} (h : InS e t) : Word ([39] ++ e ++ [39]) t := fun r esc ln => by
  obtain ⟨esc1, ln1, q1, h1⟩ := h (39 :: r) esc false [] ln
  refine ⟨esc1, ln1, ?_⟩
  have e1 : [39] ++ e ++ [39] ++ r = 39 :: (e ++ 39 :: r) := by simp
  rw [e1, rt_go (st' := 39) (esc' := esc) (q' := false) (tok' := []) (by simp [stp, WS])]
  simp only [show (39 : Nat) ≠ 10 by decide, if_false]
  rw [h1, rt_go (st' := 97) (esc' := esc1) (q' := true) (tok' := [] ++ t) (by simp [stp])]
  simp
/-- a line of words -/
theorem lx_words {buf : List Nat} (E T : List Nat → List Nat) : ∀ (ss : List (List Nat)), ss ≠ [] → (∀ s ∈ ss, Word (E s) (T s)) → ∀ pos ln, pos ≤ buf.length → buf.drop pos = joinL [32] (ss.map E) → Lx buf (some 32) ln pos (ss.map T)
  | [], h, _, _, _, _, _ => absurd rfl h
  | [s], _, hw, pos, ln, hp, hb => by
    obtain ⟨esc', ln', h⟩ := hw s List.mem_cons_self [] 32 ln
    rw [List.append_nil] at h
    have hr : rt (buf.drop pos) (some 32) 32 false [] ln = some ⟨true, T s, none, [], ln'⟩ := by
      rw [hb]; show rt (E s) _ _ _ _ _ = _; rw [h]; rfl
    refine Lx.word hr (by simp) ?_
    refine Lx.done (k := ⟨false, [], none, [], ln'⟩) ?_ ⟨rfl, rfl⟩
    show rt (buf.drop (buf.length - 0)) none 32 false [] ln' = _
    simp [rt]
  | s :: s' :: r, _, hw, pos, ln, hp, hb => by
    have hb' : buf.drop pos = E s ++ (32 :: joinL [32] ((s' :: r).map E)) := by rw [hb]; simp [joinL]
    obtain ⟨esc', ln', h⟩ := hw s List.mem_cons_self (32 :: joinL [32] ((s' :: r).map E)) 32 ln
    have hr : rt (buf.drop pos) (some 32) 32 false [] ln = some ⟨true, T s, some 32, joinL [32] ((s' :: r).map E), ln'⟩ := by
      rw [hb', h, rt_stop (st' := 32) (esc' := esc') (q' := true) (tok' := T s) (by simp [stp, WS])]
      simp
    refine Lx.word hr (by simp) ?_
    show Lx buf (some 32) ln' (buf.length - (joinL [32] ((s' :: r).map E)).length) ((s' :: r).map T)
    have hlen : buf.length - pos = (E s).length + 1 + (joinL [32] ((s' :: r).map E)).length := by
      have := congrArg List.length hb'
      rw [List.length_drop, List.length_append, List.length_cons] at this
      omega
    refine lx_words E T (s' :: r) (by simp) (fun x hx => hw x (List.mem_cons_of_mem _ hx)) _ ln' (by omega) ?_
    have e : buf.length - (joinL [32] ((s' :: r).map E)).length = pos + ((E s).length + 1) := by omega
    rw [e, ← List.drop_drop, hb']
    simp
theorem rep1_cons_eq (c : Nat) (b r : List Nat) : rep1 c b (c :: r) = b ++ rep1 c b r := by rw [rep1, if_pos rfl]
theorem rep1_cons_ne {c x : Nat} (h : x ≠ c) (b r : List Nat) : rep1 c b (x :: r) = x :: rep1 c b r := by rw [rep1, if_neg h]
theorem cons_app (c : Nat) (r : List Nat) : c :: r = [c] ++ r := rfl
theorem put_nil (l : List Nat) : putL [] l = l := rfl
theorem put1 (c : Nat) (b : List Nat) (r : List (List Nat × List Nat)) (l : List Nat) : putL (([c], b) :: r) l = putL r (rep1 c b l) := by
  show putL r (joinL b (cutL [c] l)) = _
  rw [rep1_cut]
-- between marks
theorem q1 : ∀ s : List Nat, 34 ∉ s → InQ (rep1 0 [92, 34] (rep1 92 [92, 92] s)) (val v1 s)
  | [], _ => InQ.nil
  | c :: s, h => by
    simp only [List.mem_cons, not_or] at h
    have ih := q1 s h.2
    by_cases h0 : c = 0
    · subst h0
      rw [rep1_cons_ne (by decide), rep1_cons_eq]
      exact (InQ.esc (.inl rfl)).app ih
    · by_cases h9 : c = 92
      · subst h9
        rw [rep1_cons_eq, show [92, 92] ++ rep1 92 [92, 92] s = 92 :: 92 :: rep1 92 [92, 92] s from rfl, rep1_cons_ne (by decide), rep1_cons_ne (by decide)]
        exact (InQ.esc (c := 92) (.inr rfl)).app ih
      · rw [rep1_cons_ne h9, rep1_cons_ne h0]
        have := (InQ.chr (Ne.symm h.1) h9).app ih
        simpa [val, v1, h0] using this
theorem q3 : ∀ s : List Nat, InQ (rep1 34 [92, 34] (rep1 92 [92, 92] s)) s
  | [] => InQ.nil
  | c :: s => by
    have ih := q3 s
    by_cases h0 : c = 34
    · subst h0
      rw [rep1_cons_ne (by decide), rep1_cons_eq]
      exact (InQ.esc (.inl rfl)).app ih
    · by_cases h9 : c = 92
      · subst h9
        rw [rep1_cons_eq, show [92, 92] ++ rep1 92 [92, 92] s = 92 :: 92 :: rep1 92 [92, 92] s from rfl, rep1_cons_ne (by decide), rep1_cons_ne (by decide)]
        exact (InQ.esc (c := 92) (.inr rfl)).app ih
      · rw [rep1_cons_ne h9, rep1_cons_ne h0]
        exact (InQ.chr h0 h9).app ih
theorem q2 : ∀ (n : Nat) (s : List Nat), s.length ≤ n → 34 ∉ s → fol 92 [34, 92, 0, 1] s → InQ (rep1 1 [92, 34] (rep1 0 [92, 92] s)) (val v2 s)
  | _, [], _, _, _ => InQ.nil
  | 0, _ :: _, h, _, _ => by simp at h
  | n + 1, c :: s, hn, h, hf => by
    simp only [List.length_cons] at hn
    simp only [List.mem_cons, not_or] at h
    by_cases h9 : c = 92
    · subst h9
      cases s with
      | nil => exact absurd rfl hf
      | cons d s =>
        have hd := hf.1 rfl
        simp only [List.mem_cons, List.not_mem_nil, or_false, not_or] at hd h
        simp only [List.length_cons] at hn
        have ih := q2 n s (by omega) h.2.2 (fol_tl hf.2)
        rw [rep1_cons_ne (by decide), rep1_cons_ne hd.2.2.1, rep1_cons_ne (by decide), rep1_cons_ne hd.2.2.2]
        have := (InQ.raw hd.1 hd.2.1).app ih
        simpa [val, v2, hd.2.2.1, hd.2.2.2] using this
    · have ih := q2 n s (by omega) h.2 (fol_tl hf)
      by_cases h0 : c = 0
      · subst h0
        rw [rep1_cons_eq, show [92, 92] ++ rep1 0 [92, 92] s = 92 :: 92 :: rep1 0 [92, 92] s from rfl, rep1_cons_ne (by decide), rep1_cons_ne (by decide)]
        exact (InQ.esc (c := 92) (.inr rfl)).app ih
      · by_cases h1 : c = 1
        · subst h1
          rw [rep1_cons_ne (by decide), rep1_cons_eq]
          exact (InQ.esc (.inl rfl)).app ih
        · rw [rep1_cons_ne h0, rep1_cons_ne h1]
          have := (InQ.chr (Ne.symm h.1) h9).app ih
          simpa [val, v2, h0, h1] using this
-- between apostrophes
theorem sAp : ∀ s : List Nat, InS (rep1 39 [39, 34, 39, 34, 39] s) s
  | [] => InS.nil
  | c :: s => by
    have ih := sAp s
    by_cases h : c = 39
    · subst h
      rw [rep1_cons_eq]
      exact InS.ap.app ih
    · rw [rep1_cons_ne h]
      exact (InS.chr h).app ih
theorem val1_rep : ∀ s : List Nat, rep1 0 [34] s = val v1 s
  | [] => rfl
  | c :: s => by
    by_cases h : c = 0
    · subst h; rw [rep1_cons_eq, val1_rep s]; rfl
    · rw [rep1_cons_ne h, val1_rep s]; simp [val, v1, h]
theorem val2_rep : ∀ s : List Nat, rep1 1 [34] (rep1 0 [92] s) = val v2 s
  | [] => rfl
  | c :: s => by
    by_cases h : c = 0
    · subst h
      rw [rep1_cons_eq, show [92] ++ rep1 0 [92] s = 92 :: rep1 0 [92] s from rfl, rep1_cons_ne (by decide), val2_rep s]; rfl
    · rw [rep1_cons_ne h]
      by_cases h1 : c = 1
      · subst h1; rw [rep1_cons_eq, val2_rep s]; rfl
      · rw [rep1_cons_ne h1, val2_rep s]; simp [val, v2, h, h1]
-- lengths
theorem len_rep1 (c : Nat) (b : List Nat) : ∀ s : List Nat, (rep1 c b s).length ≤ s.length * (b.length + 1)
  | [] => by simp [rep1]
  | x :: s => by
    have ih := len_rep1 c b s
    rw [rep1]
    split
    · rw [List.length_append, List.length_cons, Nat.succ_mul]; omega
    · rw [List.length_cons, List.length_cons, Nat.succ_mul]; omega
theorem len_joinL (sep : List Nat) {B : Nat} : ∀ ls : List (List Nat), (∀ y ∈ ls, y.length ≤ B) → (joinL sep ls).length ≤ ls.length * (B + sep.length)
  | [], _ => by simp [joinL]
  | [x], h => by have := h x List.mem_cons_self; simp [joinL]; omega
  | x :: y :: r, h => by
    have ih := len_joinL sep (y :: r) fun z hz => h z (List.mem_cons_of_mem _ hz)
    have := h x List.mem_cons_self
    rw [joinL, List.length_append, List.length_append, List.length_cons, Nat.succ_mul]
    omega
/-- the pairs of the law, all of one sign each -/
noncomputable def ones : List (List Nat × List Nat) → Prop
  | [] => True
  | (a, b) :: r => (∃ c, a = [c]) ∧ a ≠ b ∧ b.length ≤ 5 ∧ ones r
theorem put_len : ∀ (prs : List (List Nat × List Nat)) (s : List Nat), ones prs → (putL prs s).length ≤ s.length * 6 ^ prs.length
  | [], s, _ => by simp [putL]
  | (a, b) :: r, s, ⟨⟨c, hc⟩, _, hb, hr⟩ => by
    subst hc
    rw [put1]
    have h1 := put_len r (rep1 c b s) hr
    have h2 := len_rep1 c b s
    have h3 : s.length * (b.length + 1) ≤ s.length * 6 := Nat.mul_le_mul_left _ (by omega)
    have h4 : (rep1 c b s).length * 6 ^ r.length ≤ (s.length * 6) * 6 ^ r.length := Nat.mul_le_mul_right _ (Nat.le_trans h2 h3)
    rw [List.length_cons, Nat.pow_succ, Nat.mul_comm (6 ^ r.length) 6, ← Nat.mul_assoc]
    exact Nat.le_trans h1 h4
theorem put_ok : ∀ (prs : List (List Nat × List Nat)) (s : List Nat), ones prs → s.length * 6 ^ prs.length ≤ 100000 → PutOk prs s
  | [], _, _, _ => trivial
  | (a, b) :: r, s, ⟨⟨c, hc⟩, hab, hb, hr⟩, hl => by
    subst hc
    have h2 := len_rep1 c b s
    have h3 : s.length * (b.length + 1) ≤ s.length * 6 := Nat.mul_le_mul_left _ (by omega)
    rw [List.length_cons, Nat.pow_succ, Nat.mul_comm (6 ^ r.length) 6, ← Nat.mul_assoc] at hl
    have hp : 0 < 6 ^ r.length := Nat.pow_pos (by decide)
    have h5 : s.length * 6 ≤ s.length * 6 * 6 ^ r.length := Nat.le_mul_of_pos_right _ hp
    refine ⟨by simp, hab, by omega, by omega, ?_⟩
    rw [show joinL b (cutL [c] s) = rep1 c b s from rep1_cut c b s]
    exact put_ok r _ hr (Nat.le_trans (Nat.mul_le_mul_right _ (Nat.le_trans h2 h3)) hl)
/-- all that _law_told wants -/
theorem told_ok (ls : List (List Nat)) (mp qp dp : List (List Nat × List Nat)) (T : List Nat → List Nat) (hne : ls ≠ []) (hn : ls.length ≤ 30) (hs : ∀ s ∈ ls, s.length ≤ 30) (om : ones mp) (oq : ones (qp ++ [apPair])) (od : ones dp) (lm : mp.length ≤ 2) (lq : qp.length ≤ 2) (ld : dp.length ≤ 2)
    (h0 : ∀ s ∈ ls, InQ (putL mp s) (T s)) (h1 : ∀ s ∈ ls, InS (putL (qp ++ [apPair]) s) (T s)) : ToldOk ls mp qp dp (ls.map T) (ls.map T) := by
  have pw : ∀ {n : Nat}, n ≤ 3 → 6 ^ n ≤ 216 := fun {n} h => by
    have : 6 ^ n ≤ 6 ^ 3 := Nat.pow_le_pow_right (by decide) h
    exact this
  have b2 : ∀ {prs : List (List Nat × List Nat)} {s : List Nat}, prs.length ≤ 3 → s ∈ ls → s.length * 6 ^ prs.length ≤ 6480 := fun {prs s} h hm => by
    have := Nat.mul_le_mul (hs s hm) (pw h)
    exact this
  have lqa : (qp ++ [apPair]).length ≤ 3 := by rw [List.length_append]; simp; omega
  have pl : ∀ {prs : List (List Nat × List Nat)}, ones prs → prs.length ≤ 3 → ∀ s ∈ ls, (putL prs s).length ≤ 6480 := fun {prs} o h s hm => Nat.le_trans (put_len prs s o) (b2 h hm)
  have po : ∀ {prs : List (List Nat × List Nat)}, ones prs → prs.length ≤ 3 → ∀ s ∈ ls, PutOk prs s := fun {prs} o h s hm => put_ok prs s o (Nat.le_trans (b2 h hm) (by decide))
  have line : ∀ {prs : List (List Nat × List Nat)} {mrk : List Nat}, ones prs → prs.length ≤ 3 → mrk.length ≤ 1 → (lineL prs mrk ls).length ≤ 1000000 := fun {prs mrk} o h hm => by
    unfold lineL
    have := len_joinL [32] (B := 6482) (ls.map fun s => mrk ++ putL prs s ++ mrk) (fun y hy => by
      obtain ⟨s, hs, rfl⟩ := List.mem_map.mp hy
      have := pl o h s hs
      simp only [List.length_append]; omega)
    rw [List.length_map] at this
    have h2 : ls.length * (6482 + [32].length) ≤ 30 * 6483 := Nat.mul_le_mul_right _ hn
    omega
  refine ⟨by omega, po om (by omega), fun s hm => Nat.le_trans (pl om (by omega) s hm) (by decide), po oq lqa, fun s hm => Nat.le_trans (pl oq lqa s hm) (by decide), po od (by omega), fun s hm => Nat.le_trans (pl od (by omega) s hm) (by decide), line om (by omega) (by decide), line oq lqa (by decide), ?_, ?_, by rw [List.length_map]; omega, by rw [List.length_map]; omega, by omega⟩
  · exact lx_words (fun s => [34] ++ putL mp s ++ [34]) T ls hne (fun s hm => Word.ofQ (h0 s hm)) 0 1 (Nat.zero_le _) rfl
  · exact lx_words (fun s => [39] ++ putL (qp ++ [apPair]) s ++ [39]) T ls hne (fun s hm => Word.ofS (h1 s hm)) 0 1 (Nat.zero_le _) rfl
-- names along a text
noncomputable def Ex1 (s : List Nat) : List Nat := rep1 0 [34, 34] s
theorem Ex1_len : ∀ s : List Nat, (Ex1 s).length = s.length + s.count 0
  | [] => rfl
  | c :: s => by
    have ih := Ex1_len s
    unfold Ex1 at *
    by_cases h : c = 0
    · subst h; rw [rep1_cons_eq, List.length_append, List.length_cons, List.count_cons_self, ih]; simp; omega
    · rw [rep1_cons_ne h, List.length_cons, List.length_cons, List.count_cons_of_ne (by simpa using h), ih]; omega
noncomputable def Tx1 (ls : List (List Nat)) : List Nat := joinL [34] (ls.map Ex1)
theorem Tx1_cons (s s' : List Nat) (r : List (List Nat)) : Tx1 (s :: s' :: r) = Ex1 s ++ (34 :: Tx1 (s' :: r)) := by unfold Tx1; simp [joinL]
theorem Tx1_drop : ∀ (ls : List (List Nat)) (i : Nat), i < ls.length → placeAt (ls.take i) ≤ (Tx1 ls).length ∧ (Tx1 ls).drop (placeAt (ls.take i)) = Tx1 (ls.drop i)
  | [], i, h => by simp at h
  | s :: r, 0, _ => by simp [placeAt]
  | [s], i + 1, h => by simp at h
  | s :: s' :: r, i + 1, h => by
    obtain ⟨h1, h2⟩ := Tx1_drop (s' :: r) i (by simpa using h)
    have e : placeAt ((s :: s' :: r).take (i + 1)) = (Ex1 s).length + 1 + placeAt ((s' :: r).take i) := by
      rw [List.take_succ_cons, placeAt, Ex1_len]
    rw [e, Tx1_cons]
    constructor
    · rw [List.length_append, List.length_cons]; omega
    · rw [List.drop_append, List.drop_eq_nil_of_le (by omega), List.nil_append, show (Ex1 s).length + 1 + placeAt ((s' :: r).take i) - (Ex1 s).length = placeAt ((s' :: r).take i) + 1 by omega, List.drop_succ_cons, h2]
      rfl
theorem Tx1_name (s : List Nat) (r : List (List Nat)) (hs : 34 ∉ s) (hr : ∀ x ∈ r, ∃ d x', x = d :: x' ∧ d ∉ [34, 0]) : p257 (Tx1 (s :: r)) = val v1 s := by
  cases r with
  | nil =>
    have := p257_e1 [] s hs
    rw [List.append_nil, p257_nil, List.append_nil] at this
    exact this
  | cons s' r =>
    rw [Tx1_cons]
    have := p257_e1 (34 :: Tx1 (s' :: r)) s hs
    refine this.trans ?_
    obtain ⟨d, x', rfl, hd⟩ := hr s' List.mem_cons_self
    simp only [List.mem_cons, List.not_mem_nil, or_false, not_or] at hd
    have hT : ∃ t, Tx1 ((d :: x') :: r) = d :: t := by
      cases r with
      | nil => exact ⟨Ex1 x', by show Ex1 (d :: x') = _; unfold Ex1; rw [rep1_cons_ne hd.2]⟩
      | cons y r => exact ⟨Ex1 x' ++ (34 :: Tx1 (y :: r)), by rw [Tx1_cons]; unfold Ex1; rw [rep1_cons_ne hd.2]; rfl⟩
    obtain ⟨t, hT⟩ := hT
    rw [hT, p257_one _ hd.1, List.append_nil]
theorem rep1_app (c : Nat) (b : List Nat) : ∀ s t : List Nat, rep1 c b (s ++ t) = rep1 c b s ++ rep1 c b t
  | [], t => rfl
  | x :: s, t => by
    have ih := rep1_app c b s t
    show rep1 c b (x :: (s ++ t)) = _
    by_cases h : x = c
    · subst h; rw [rep1_cons_eq, rep1_cons_eq, ih, List.append_assoc]
    · rw [rep1_cons_ne h, rep1_cons_ne h, ih]; rfl
theorem Tx1_join : ∀ ls : List (List Nat), Ex1 (joinL [34] ls) = Tx1 ls
  | [] => rfl
  | [s] => rfl
  | s :: s' :: r => by
    have ih := Tx1_join (s' :: r)
    rw [Tx1_cons, ← ih]
    unfold Ex1
    rw [joinL, rep1_app, rep1_app, List.append_assoc]
    rfl
theorem join_cut (x : Nat) : ∀ l : List Nat, joinL [x] (cutS [x] 0 l) = l
  | [] => rfl
  | c :: r => by
    have := rep1_cut x [x] (c :: r)
    rw [this]
    have id : ∀ l : List Nat, rep1 x [x] l = l := by
      intro l
      induction l with
      | nil => rfl
      | cons y l ih =>
        by_cases h : y = x
        · subst h; rw [rep1_cons_eq, ih]; rfl
        · rw [rep1_cons_ne h, ih]
    exact id _
/-- two marks for one sign, and back -/
theorem back1 : ∀ (n : Nat) (l : List Nat), l.length ≤ n → 0 ∉ l → Ex1 (rep2 34 34 [0] l) = l
  | _, [], _, _ => rfl
  | 0, _ :: _, h, _ => by simp at h
  | n + 1, [c], _, h0 => by
    show Ex1 [c] = [c]
    unfold Ex1
    rw [rep1_cons_ne (by rintro rfl; simp at h0)]; rfl
  | n + 1, c :: d :: r, h, h0 => by
    simp only [List.length_cons] at h
    simp only [List.mem_cons, not_or] at h0
    rw [rep2]
    split
    · rename_i q
      obtain ⟨rfl, rfl⟩ := q
      have ih := back1 n r (by omega) h0.2.2
      unfold Ex1 at *
      rw [show [0] ++ rep2 34 34 [0] r = 0 :: rep2 34 34 [0] r from rfl, rep1_cons_eq, ih]; rfl
    · have ih := back1 n (d :: r) (by simp; omega) (by simp only [List.mem_cons, not_or]; exact ⟨h0.2.1, h0.2.2⟩)
      unfold Ex1 at *
      rw [rep1_cons_ne (Ne.symm h0.1), ih]
/-- the plain law -/
theorem plain_ok (l : List Nat) (t : List Nat) (hl : l = t ++ [122]) (hn : l.length ≤ 25) (hlo : ∀ c ∈ l, 2 ≤ c) (hhi : ∀ c ∈ l, c < 1114112) : PlainOk l := by
  have h0 : 0 ∉ l := fun q => by have := hlo 0 q; omega
  have h1 : 1 ∉ l := fun q => by have := hlo 1 q; omega
  have eA : joinL [0] (cutL [34, 34] l) = rep2 34 34 [0] l := rep2_cut 34 34 [0] _ l (Nat.le_refl _)
  have eB : joinL [0] (cutL [92, 92] l) = rep2 92 92 [0] l := rep2_cut 92 92 [0] _ l (Nat.le_refl _)
  have eC : joinL [1] (cutL [92, 34] (rep2 92 92 [0] l)) = rep2 92 34 [1] (rep2 92 92 [0] l) := rep2_cut 92 34 [1] _ _ (Nat.le_refl _)
  have lA := len_rep2 (x := 34) (y := 34) (z := 0) _ l (Nat.le_refl _)
  have lB := len_rep2 (x := 92) (y := 92) (z := 0) _ l (Nat.le_refl _)
  have lC := len_rep2 (x := 92) (y := 34) (z := 1) _ (rep2 92 92 [0] l) (Nat.le_refl _)
  have s1 : st1 l = cutS [34] 0 (rep2 34 34 [0] l) := by unfold st1; rw [eA]
  have s2 : st2 l = cutS [34] 0 (rep2 92 34 [1] (rep2 92 92 [0] l)) := by unfold st2; rw [eB, eC]
  have f1 : fol 34 [34, 0] (rep2 34 34 [0] l) := rep2_fol1 (by decide) _ l (Nat.le_refl _) h0 (by rw [hl]; exact lst_app 34 122 (by decide) t)
  have f2a : fol 92 [92, 0] (rep2 92 92 [0] l) := rep2_fol1 (by decide) _ l (Nat.le_refl _) h0 (by rw [hl]; exact lst_app 92 122 (by decide) t)
  have n1 : 1 ∉ rep2 92 92 [0] l := fun q => (mem_rep2 _ l (Nat.le_refl _) q).elim (by decide) h1
  have f2 : fol 92 [34, 92, 0, 1] (rep2 92 34 [1] (rep2 92 92 [0] l)) := rep2_fol2 _ _ (Nat.le_refl _) n1 f2a
  have nq1 : ∀ s ∈ st1 l, 34 ∉ s := fun s hs => cut_not _ (by rw [s1] at hs; exact hs)
  have nq2 : ∀ s ∈ st2 l, 34 ∉ s := fun s hs => cut_not _ (by rw [s2] at hs; exact hs)
  have ln1 : ∀ s ∈ st1 l, s.length ≤ 30 := fun s hs => by rw [s1] at hs; have := len_cut _ _ hs; omega
  have ln2 : ∀ s ∈ st2 l, s.length ≤ 30 := fun s hs => by rw [s2] at hs; have := len_cut _ _ hs; omega
  have ln3 : ∀ s ∈ cutL [39] l, s.length ≤ 30 := fun s hs => by have := len_cut _ _ hs; omega
  have k1 : (st1 l).length ≤ 30 := by rw [s1]; have := cutS_len [34] 0 (rep2 34 34 [0] l); omega
  have k2 : (st2 l).length ≤ 30 := by rw [s2]; have := cutS_len [34] 0 (rep2 92 34 [1] (rep2 92 92 [0] l)); omega
  have k3 : (cutL [39] l).length ≤ 30 := by have := cutS_len [39] 0 l; unfold cutL; omega
  have cp1 : ∀ s ∈ st1 l, ∀ c ∈ s, c < 1114112 := fun s hs c hc => by
    rw [s1] at hs
    rcases mem_rep2 _ l (Nat.le_refl _) (mem_cut _ _ hs hc) with rfl | h
    · decide
    · exact hhi c h
  have cp2 : ∀ s ∈ st2 l, ∀ c ∈ s, c < 1114112 := fun s hs c hc => by
    rw [s2] at hs
    rcases mem_rep2 _ _ (Nat.le_refl _) (mem_cut _ _ hs hc) with rfl | h
    · decide
    · rcases mem_rep2 _ l (Nat.le_refl _) h with rfl | h
      · decide
      · exact hhi c h
  have vcp1 : ∀ s ∈ st1 l, ∀ c ∈ val v1 s, c < 1114112 := fun s hs c hc => by
    obtain ⟨d, hd, rfl⟩ := List.mem_map.mp hc
    have := cp1 s hs d hd
    unfold v1; split <;> omega
  have vcp2 : ∀ s ∈ st2 l, ∀ c ∈ val v2 s, c < 1114112 := fun s hs c hc => by
    obtain ⟨d, hd, rfl⟩ := List.mem_map.mp hc
    have := cp2 s hs d hd
    unfold v2; split <;> (try split) <;> omega
  -- the text out of the stretches
  have tl : Tx1 (st1 l) = l := by
    rw [← Tx1_join, s1, join_cut]
    exact back1 _ l (Nat.le_refl _) h0
  have hd1 : ∀ s ∈ (st1 l).tail, ∃ d s', s = d :: s' ∧ d ∉ [34, 0] := by rw [s1]; exact cut_heads (by simp) _ f1
  have hdall : ∀ i, ∀ s ∈ (st1 l).drop (i + 1), ∃ d s', s = d :: s' ∧ d ∉ [34, 0] := fun i s hs => hd1 s (by
    rw [← List.drop_one]
    rw [show i + 1 = 1 + i by omega, ← List.drop_drop] at hs
    exact List.mem_of_mem_drop hs)
  have pl : ∀ i, i < (st1 l).length → placeAt ((st1 l).take i) ≤ l.length := fun i hi => by
    have := (Tx1_drop (st1 l) i hi).1
    rwa [tl] at this
  have nm : nms l = (st1 l).map (val v1) := by
    unfold nms
    apply List.ext_getElem (by simp)
    intro i h1 h2
    simp only [List.length_map, List.length_range] at h1
    rw [List.getElem_map, List.getElem_map, List.getElem_range]
    unfold namesAt
    have := (Tx1_drop (st1 l) i h1).2
    rw [tl] at this
    rw [this, List.drop_eq_getElem_cons h1]
    exact Tx1_name _ _ (nq1 _ (List.getElem_mem h1)) (hdall i)
  have ne1 : st1 l ≠ [] := by rw [s1]; exact cutS_ne _ _ _
  have ne2 : st2 l ≠ [] := by rw [s2]; exact cutS_ne _ _ _
  have one1 : ones M1 ∧ ones (Q1 ++ [apPair]) ∧ ones D1 := ⟨⟨⟨_, rfl⟩, by decide, by decide, ⟨_, rfl⟩, by decide, by decide, trivial⟩, ⟨⟨_, rfl⟩, by decide, by decide, ⟨_, rfl⟩, by decide, by decide, trivial⟩, ⟨⟨_, rfl⟩, by decide, by decide, trivial⟩⟩
  have one2 : ones M2 ∧ ones (Q2 ++ [apPair]) ∧ ones D2 := ⟨⟨⟨_, rfl⟩, by decide, by decide, ⟨_, rfl⟩, by decide, by decide, trivial⟩, ⟨⟨_, rfl⟩, by decide, by decide, ⟨_, rfl⟩, by decide, by decide, ⟨_, rfl⟩, by decide, by decide, trivial⟩, ⟨⟨_, rfl⟩, by decide, by decide, ⟨_, rfl⟩, by decide, by decide, trivial⟩⟩
  have one3 : ones M3 ∧ ones (Q3 ++ [apPair]) ∧ ones D3 := ⟨⟨⟨_, rfl⟩, by decide, by decide, ⟨_, rfl⟩, by decide, by decide, trivial⟩, ⟨⟨_, rfl⟩, by decide, by decide, trivial⟩, ⟨⟨_, rfl⟩, by decide, by decide, trivial⟩⟩
  refine ⟨by omega, by rw [eA]; omega, by rw [eB]; omega, by rw [eB, eC]; omega, ?_, ?_, ?_, pl, fun s hs => Nat.le_trans (ln1 s hs) (by decide), ⟨(st2 l).map (val v2), ?_, ?_, ?_⟩, ?_, ?_, ?_⟩
  · rw [nm]
    refine told_ok (st1 l) M1 Q1 D1 (val v1) ne1 k1 ln1 one1.1 one1.2.1 one1.2.2 (by decide) (by decide) (by decide) (fun s hs => ?_) (fun s hs => ?_)
    · rw [put1, put1, put_nil]; exact q1 s (nq1 s hs)
    · show InS (putL [([0], [34]), ([39], [39, 34, 39, 34, 39])] s) _
      rw [put1, put1, put_nil, val1_rep]; exact sAp _
  · rw [nm]
    unfold toldNames
    refine List.map_congr_left fun s hs => ?_
    rw [put1, put_nil, p257_e1 _ s (nq1 s hs), p257_tail, List.append_nil]
  · rw [nm]
    intro x hx c hc
    obtain ⟨s, hs, rfl⟩ := List.mem_map.mp hx
    exact vcp1 s hs c hc
  · refine told_ok (st2 l) M2 Q2 D2 (val v2) ne2 k2 ln2 one2.1 one2.2.1 one2.2.2 (by decide) (by decide) (by decide) (fun s hs => ?_) (fun s hs => ?_)
    · rw [put1, put1, put_nil]
      exact q2 _ s (Nat.le_refl _) (nq2 s hs) (cut_fol (y := 34) (by simp) (by decide) _ f2 s (by rw [s2] at hs; exact hs))
    · show InS (putL [([0], [92]), ([1], [34]), ([39], [39, 34, 39, 34, 39])] s) _
      rw [put1, put1, put1, put_nil, val2_rep]; exact sAp _
  · unfold toldNames
    refine List.map_congr_left fun s hs => ?_
    rw [put1, put1, put_nil, p257_e2 _ s (nq2 s hs), p257_tail, List.append_nil]
  · intro x hx c hc
    obtain ⟨s, hs, rfl⟩ := List.mem_map.mp hx
    exact vcp2 s hs c hc
  · have := told_ok (cutL [39] l) M3 Q3 D3 id (cutS_ne _ _ _) k3 ln3 one3.1 one3.2.1 one3.2.2 (by decide) (by decide) (by decide) (fun s hs => by rw [put1, put1, put_nil]; exact q3 s) (fun s hs => by
      show InS (putL [([39], [39, 34, 39, 34, 39])] s) _
      rw [put1, put_nil]; exact sAp s)
    rwa [List.map_id] at this
  · unfold toldNames
    refine (List.map_congr_left fun s hs => ?_).trans (List.map_id _)
    rw [put1, put_nil, p257_e3, p257_tail, List.append_nil]; rfl
  · intro s hs c hc
    exact hhi c (mem_cut _ _ hs hc)
local macro_rules | `(tactic| tm_at "pair") => `(tactic| exact evX_pair (by decide +kernel) (by decide +kernel))
local macro_rules | `(tactic| tm_at "pairs") => `(tactic| first | exact EvXs.nil | (refine EvXs.cons ?_ (by intro _ _ h; cases h) ?_; tm_at "pair"; tm_at "pairs"))
theorem piece_len (n : Int) : (piece n).length ≤ 2 := by
  unfold piece
  split
  · simp
  · split
    · simp
    · have : ∀ k, (tab.getD k []).length ≤ 2 := by
        intro k
        by_cases h : k < 15
        · have : ∀ j, j < 15 → (tab.getD j []).length ≤ 2 := by decide
          exact this k h
        · rw [List.getD_eq_getElem?_getD, List.getElem?_eq_none (by show tab.length ≤ k; have e : tab.length = 15 := by decide
                                                                    omega)]
          simp
      exact this _
theorem drawn_len (ns : List Int) : (drawn ns).length ≤ 12 := by
  unfold drawn
  split
  · simp
  · rw [List.length_take]; omega
theorem ev3' {σ : St} {e : Expr} {p2 p3 p4 : Pos} {m : MV} {k : Nat} (h : Ev C env σ e m) (hne : ∀ x p, e ≠ .Starred x p) : Ev C env σ (.BinOp (.List [e] p2) .Mult (.Constant (.int 3) k p3) p4) (.list [m, m, m]) :=
  EvN.ev (evN_mul (p := p4) (k := 3) (evN_list (p := p2) (.cons h hne .nil) (by show 1 ≤ sizeLine; rw [sizeLine_eq]; omega)) (ev_int (k := k) (p := p3)) (by omega) (by show 1 ≤ 1000; omega))
theorem evX_of_ev {σ : St} {e : Expr} {m : MV} {P : MV → Prop} (h : Ev C env σ e m) (hP : P m) : EvX C env σ e P := fun s hp R => wpAny_mono (h s R) (fun v s' h => ⟨h.1, m, hP, h.2⟩) fun _ _ z => z
theorem wpS_set {σ σ' : St} {x : Str} {p' p : Pos} {e : Expr} {m : MV} {Q : FM → St → Prop} (he : Ev C env σ e m) (hx : Stores env x) (hs : swapsWith e (some (.Name x p')) p.line env = pure false) (hp : sput σ x (.fz m) = σ') (h : Q .next σ') : wpS C env (.Assign [.Name x p'] e p) σ Q := wpS_assign he hx hs (by rw [hp]; exact h)
theorem told_call (hC : C.G = G w) (hl : C.lvl ≤ 70) (hfull : C.Full) {σ : St} {es : List Expr} {p pos : Pos} {x : Str} {ls W : List (List Nat)} {mp qp dp : List (List Nat × List Nat)} (hx : Ev C env σ (.Name x p) (.obj (.ref 792)))
    (ha : EvXs C env σ es [(· = .list (ls.map tx)), Lists (pairPs mp), Lists (pairPs qp), Lists (pairPs dp)]) (ok : ToldOk ls mp qp dp W W) (e : toldNames dp ls = W) : EvQ C env σ (.Call (.Name x p) es [] pos) (.list [.list (W.map tx), .list (W.map tx), .list (W.map tx)]) := by
  refine evX_call_f (full := true) (k := 70) hx ha (by intro q; subst q; cases ha) ?_ hl (fun _ => hfull) (fn_at hC rfl (by kernel_rfl) (by kernel_rfl))
  intro mm hmm
  cases hmm with
  | cons h1 r =>
    cases r with
    | cons h2 r2 =>
      cases r2 with
      | cons h3 r3 =>
        cases r3 with
        | cons h4 r4 =>
          cases r4
          obtain ⟨ms, rfl, hms⟩ := h2
          obtain ⟨qs, rfl, hqs⟩ := h3
          obtain ⟨ds, rfl, hds⟩ := h4
          subst h1
          rw [hC]
          have := spec_told w ls mp qp dp ms qs ds hms hqs hds W W ok
          rwa [e] at this
set_option maxHeartbeats 8000000 in
theorem law_body (hC : C.G = G w) (hB : C.mB = []) (hl : C.lvl ≤ 70) (hfull : C.Full) (hs : env.scope = fS (st 31)) (hc : CellsOk env) (ns : List Int) (hn : ns.length ≤ 63) (ok : PlainOk (textOf ns)) :
    wpSs C env (fB (st 31)) [(S "script", .fz (.list (ns.map .int)))] fun fm _ => match fm with | .ret m => m = .bool true | .next => MV.bool true = .none | _ => False := by
  have hnm : env.scope.names = (fS (st 31)).names := by rw [hs]
  conv at hnm => rhs; whnf
  have hdl := drawn_len ns
  -- drawn
  refine ssP_first (m := .list ((drawn ns).map .int)) ?_ (by tm_at "kind") rfl (by tm_at "sp") ?_
  · refine ev_ifexp (b := !ns.isEmpty) ?_ ?_ ?_
    · exact evB_cmp (by tm_at "evt") (Ev.t (ev_list .nil (by show 0 ≤ _; omega))) (ne_nil_ints ns) rfl
    · intro h
      have h : ns.isEmpty = false := by simpa using h
      have e : MV.list ((drawn ns).map .int) = .list (lslice (ns.map .int) none (some ((12 : Nat) : Int))) := by
        rw [lslice_to, ← List.map_take]
        unfold drawn
        rw [h, if_neg (by decide)]
      rewrite [e]
      refine ev_slice (a := .list (ns.map .int)) (lo := none) (hi := some 12) ?_ ?_ ?_ (slice_list_ (by rw [List.length_map, sizeLine_eq]; omega))
      · tm_at "evt"
      · tm_at "part"
      · tm_at "part"
    · intro h
      have h : ns.isEmpty = true := by simpa using h
      have e : MV.list ((drawn ns).map .int) = .list [.int 1, .int 3, .int 13, .int 5, .int 7, .int 6] := by
        unfold drawn
        rw [if_pos h]; rfl
      rewrite [e]
      refine ev_list ?_ (by show 6 ≤ sizeLine; rw [sizeLine_eq]; omega)
      tm_at "evs"
  -- text
  refine wpP_cons (wpS_set (m := tx (textOf ns)) ?_ (by tm_at "stores") rfl (by tm_at "sp") ?_)
  · refine ev_binop (a := tx (joinL [] ((drawn ns).map fun n => piece (n.fmod 17792992)))) (b := tx [122]) (Ev.t (ev_meth (a := tx []) (ms := [.list (((drawn ns).map fun n => piece (n.fmod 17792992)).map tx)]) ?_ (.cons (Ev.t (EvN.ev (evN_comp (items := (drawn ns).map .int) (p := fun _ => true) (f := fun i => tx (piece (((drawn ns).getD i 0).fmod 17792992))) ?_ rfl rfl ?_ ?_ ?_ ?_ ?_ ?_))) (by intro _ _ h; cases h) .nil) m_join (fn_join ?_) rfl rfl (by decide))) (Ev.t c_z) (cat_tx ?_)
    · tm_at "evt"
    · apply evIt_list; tm_at "ev"
    · exact compOk_of (fr := []) (by kernel_rfl) (fun _ h => nomatch h)
    · rw [List.length_map]; omega
    · show env.scope.names.lookup _ = none
      rw [hnm]; kernel_rfl
    · intro i m cenv D cur hm ce
      exact rfl
    · intro i m cenv D cur hm _ ce
      rw [List.getElem?_map] at hm
      obtain ⟨n, hn1, rfl⟩ := Option.map_eq_some_iff.mp hm
      have hgd : (drawn ns).getD i 0 = n := by rw [List.getD_eq_getElem?_getD, hn1]; rfl
      rewrite [hgd]
      refine ev_call_f (full := false) (k := 98) (fa := 773) (ms := [.int (n.fmod 17792992)]) ?_ (.cons ?_ (by intro _ _ h; cases h) .nil) (by rw [hC]; exact spec_piece w _ (by omega)) (by omega) (fun h => nomatch h) (fn_at hC rfl (by kernel_rfl) (by kernel_rfl))
      · tm_at "fun"
      · tm_at "ev"
    · rw [List.length_map, List.map_map]
      exact compRes_map 0 (fun n : Int => tx (piece (n.fmod 17792992))) _ (drawn ns)
    · exact joinFit (B := 2) (fun y hy => by
        obtain ⟨n, hn, rfl⟩ := List.mem_map.mp hy
        exact piece_len _) (by rw [List.length_map]; simp only [List.length_nil]; omega)
    · have := ok.len
      unfold textOf at this
      rw [List.length_append] at this
      simp only [List.length_cons, List.length_nil] at this ⊢
      omega
  dsimp only
  generalize hlx : textOf ns = l at ok ⊢
  have hll := ok.len
  -- stretches
  refine wpP_consP (wpSP_assign (m := .list ((st1 l).map tx)) (evP_meth (ms := [tx [34]]) (evP_replace (a := [34, 34]) (b := [0]) (l := l) (EvQ.of ?_) (by decide +kernel) (by decide +kernel) (by decide) (by decide) (by omega) (by decide) rfl rfl) (.cons (Ev.t c_q) (by intro _ _ h; cases h) .nil) m_split (fn_split1 (Nat.le_trans ok.lenA (by decide))) rfl rfl (by decide)) (by tm_at "stores") rfl (by tm_at "sp") ?_)
  · tm_at "ev"
  dsimp only
  -- names
  refine wpP_cons (wpS_set (m := .list ((nms l).map tx)) (ev_call_f (full := false) (k := 97) (fa := 799) (ms := [tx l, .list ((st1 l).map tx)]) ?_ ?_ (by rw [hC]; exact spec_along w l (st1 l) ok.t1.len (by omega) ok.sl ok.pl) (by omega) (fun h => nomatch h) (fn_at hC rfl (by kernel_rfl) (by kernel_rfl))) (by tm_at "stores") rfl (by tm_at "sp") ?_)
  · tm_at "fun"
  · tm_at "evs"
  dsimp only
  -- the first test
  refine wpP_consP (wpSP_ifcmp (c := false) (told_call hC hl hfull (ls := st1 l) (mp := M1) (qp := Q1) (dp := D1) ?_ (.cons (EvQ.x (EvQ.of ?_)) (by intro _ _ h; cases h) (.cons (evX_list (by tm_at "pairs") (by decide)) (by intro _ _ h; cases h) (.cons (evX_list (by tm_at "pairs") (by decide)) (by intro _ _ h; cases h) (.cons (evX_list (by tm_at "pairs") (by decide)) (by intro _ _ h; cases h) .nil)))) ok.t1 ok.e1) (Ev.t (ev3' ?_ (by intro _ _ h; cases h))) (ne3 ok.c1) rfl (fun h => nomatch h) (fun _ => wpSs_nil ?_))
  · tm_at "fun"
  · tm_at "ev"
  · tm_at "ev"
  dsimp only
  -- strands
  have h92 : ok.lenB = ok.lenB := rfl
  refine wpP_consP (wpSP_assign (m := .list ((st2 l).map tx)) (evP_meth (ms := [tx [34]]) (evP_replace (a := [92, 34]) (b := [1]) (l := joinL [0] (cutL [92, 92] l)) (evP_replace (a := [92, 92]) (b := [0]) (l := l) (EvQ.of ?_) (by decide +kernel) (by decide +kernel) (by decide) (by decide) (by omega) (by decide) rfl rfl) (by decide +kernel) (by decide +kernel) (by decide) (by decide) (Nat.le_trans ok.lenB (by decide)) (by decide) rfl rfl) (.cons (Ev.t c_q) (by intro _ _ h; cases h) .nil) m_split (fn_split1 (Nat.le_trans ok.lenC (by decide))) rfl rfl (by decide)) (by tm_at "stores") rfl (by tm_at "sp") ?_)
  · tm_at "ev"
  dsimp only
  obtain ⟨W, t2, e2, c2⟩ := ok.t2
  -- doubled
  refine wpP_consP (wpSP_assignX (P := Lists (pairPs D2)) (evX_list (by tm_at "pairs") (by decide)) (by tm_at "stores") rfl ?_)
  rintro dm ⟨ds, rfl, hds⟩
  refine ⟨_, by tm_at "sp", ?_⟩
  dsimp only
  -- told
  refine wpP_consP (wpSP_assign (m := .list [.list (W.map tx), .list (W.map tx), .list (W.map tx)]) (told_call hC hl hfull (ls := st2 l) (mp := M2) (qp := Q2) (dp := D2) ?_ (.cons (EvQ.x (EvQ.of ?_)) (by intro _ _ h; cases h) (.cons (evX_list (by tm_at "pairs") (by decide)) (by intro _ _ h; cases h) (.cons (evX_list (by tm_at "pairs") (by decide)) (by intro _ _ h; cases h) (.cons ?_ (by intro _ _ h; cases h) .nil)))) t2 e2) (by tm_at "stores") rfl (by tm_at "sp") ?_)
  · tm_at "fun"
  · tm_at "ev"
  · refine evX_of_ev (m := .list ds) ?_ ⟨ds, rfl, hds⟩
    tm_at "ev"
  dsimp only
  -- the second test
  refine wpP_cons (wpS_if (b := false) (evB_cmp (a := .list [.list (W.map tx), .list (W.map tx), .list (W.map tx)]) (b := .list [.list (W.map tx), .list (W.map tx), .list (W.map tx)]) ?_ (Ev.t (ev3' (ev_sub (a := .list [.list (W.map tx), .list (W.map tx), .list (W.map tx)]) (i := .int 1) ?_ ?_ (item_list_ (by decide) (by decide) rfl)) (by intro _ _ h; cases h))) (ne3 c2) rfl) (fun h => nomatch h) (fun _ => wpSs_nil ?_))
  · tm_at "evt"
  · tm_at "evt"
  · tm_at "evt"
  dsimp only
  -- plain
  refine wpP_cons (wpS_set (m := .list ((cutL [39] l).map tx)) (ev_meth (ms := [tx [39]]) (a := tx l) ?_ (.cons (Ev.t c_ap) (by intro _ _ h; cases h) .nil) m_split (fn_split1 (by omega)) rfl rfl (by decide)) (by tm_at "stores") rfl (by tm_at "sp") ?_)
  · tm_at "evt"
  dsimp only
  refine wpP_consP (wpSP_return (m := .bool true) (evP_cmp (told_call hC hl hfull (ls := cutL [39] l) (mp := M3) (qp := Q3) (dp := D3) ?_ (.cons (EvQ.x (EvQ.of ?_)) (by intro _ _ h; cases h) (.cons (evX_list (by tm_at "pairs") (by decide)) (by intro _ _ h; cases h) (.cons (evX_list (by tm_at "pairs") (by decide)) (by intro _ _ h; cases h) (.cons (evX_list (by tm_at "pairs") (by decide)) (by intro _ _ h; cases h) .nil)))) ok.t3 ok.e3) (Ev.t (ev3' ?_ (by intro _ _ h; cases h))) (eq3 ok.c3) rfl) rfl)
  · tm_at "fun"
  · tm_at "ev"
  · tm_at "ev"
theorem spec_law (w : World) (ns : List Int) (hn : ns.length ≤ 63) (ok : PlainOk (textOf ns)) : Spec (G w) true 69 (.ref 804) [.list (ns.map .int)] (.bool true) :=
  spec_ofB (def_law w) (by omega) rfl fun C hC hl hf L hB => law_body hC hB hl (hf rfl) (by kernel_rfl) (cells_none (by kernel_rfl)) ns hn ok
theorem mem_joinL {c : Nat} {sep : List Nat} : ∀ {ls : List (List Nat)}, c ∈ joinL sep ls → c ∈ sep ∨ ∃ s ∈ ls, c ∈ s
  | [], h => by simp [joinL] at h
  | [x], h => .inr ⟨x, List.mem_cons_self, h⟩
  | x :: y :: r, h => by
    rw [joinL] at h
    simp only [List.mem_append] at h
    rcases h with (h | h) | h
    · exact .inr ⟨x, List.mem_cons_self, h⟩
    · exact .inl h
    · rcases mem_joinL h with h | ⟨s, hs, hc⟩
      · exact .inl h
      · exact .inr ⟨s, List.mem_cons_of_mem _ hs, hc⟩
theorem piece_rng (n : Int) : ∀ c ∈ piece n, 2 ≤ c ∧ c < 1114112 := by
  intro c hc
  obtain ⟨p1, p2⟩ := pcode_rng n
  unfold piece at hc
  split at hc
  · simp only [List.mem_singleton] at hc
    subst hc
    split <;> omega
  · split at hc
    · simp only [List.mem_singleton] at hc
      subst hc
      have g1 := Int.fmod_nonneg_of_pos (pcode n) (b := 6) (by decide)
      have g2 := Int.fmod_lt_of_pos (pcode n) (b := 6) (by decide)
      have hlt : ((pcode n).fmod 6).toNat < 6 := by omega
      have : ∀ j, j < 6 → 2 ≤ ([36, 96, 33, 110, 9, 13] : List Nat).getD j 0 ∧ ([36, 96, 33, 110, 9, 13] : List Nat).getD j 0 < 1114112 := by decide
      exact this _ hlt
    · obtain ⟨f1, f2⟩ := fmod16 n
      have : ∀ j, j < 16 → ∀ c ∈ tab.getD j [], 2 ≤ c ∧ c < 1114112 := by decide
      exact this _ (by omega) c hc
theorem text_ok (ns : List Int) : PlainOk (textOf ns) := by
  have hd := drawn_len ns
  refine plain_ok (textOf ns) _ rfl ?_ ?_ ?_
  · unfold textOf
    rw [List.length_append]
    have := len_joinL [] (B := 2) ((drawn ns).map fun n => piece (n.fmod 17792992)) (fun y hy => by
      obtain ⟨n, _, rfl⟩ := List.mem_map.mp hy
      exact piece_len _)
    rw [List.length_map] at this
    simp only [List.length_nil, List.length_cons] at this ⊢
    omega
  · intro c hc
    unfold textOf at hc
    rcases List.mem_append.mp hc with hc | hc
    · rcases mem_joinL hc with h | ⟨s, hs, hc⟩
      · cases h
      · obtain ⟨n, _, rfl⟩ := List.mem_map.mp hs
        exact (piece_rng _ c hc).1
    · rw [List.mem_singleton.mp hc]; decide
  · intro c hc
    unfold textOf at hc
    rcases List.mem_append.mp hc with hc | hc
    · rcases mem_joinL hc with h | ⟨s, hs, hc⟩
      · cases h
      · obtain ⟨n, _, rfl⟩ := List.mem_map.mp hs
        exact (piece_rng _ c hc).2
    · rw [List.mem_singleton.mp hc]; decide
noncomputable def C0 (w : World) : Cx where
  G := G w
  A := callerA
  hh := rfl
  lvl := 0
  hd := by show 1 + claimMargin ≤ 301 + 0; decide +kernel
  hu := by show 4 ≤ 4 + 8 * 0; decide
  hl := by decide
  fs := []
  hfs := rfl
  S := []
  hS := fun _ h => nomatch h
  O := []
  mB := []
  ro := false
theorem vins_ints {h : Heap} {O : List Addr} : ∀ {vs : List Value} {ns : List Int}, IntsAre vs ns → VIns h O (ns.map .int) vs
  | _, _, .nil => rfl
  | _, _, .cons k t r => ⟨_, _, rfl, ⟨t, rfl⟩, vins_ints r⟩
theorem main_law : MainLaw := fun w s a vs ns hok hg hl hi hn f hf => by
  have ef : f = 804 := by
    obtain ⟨mg, h1, h2⟩ := hf
    have h3 := Ns.unique h1 (ns_main hok)
    rw [h3] at h2
    have h4 : nsFind (esOf (objAt w.params 3)) (S "law") = some (.ref 804) := by kernel_rfl
    rw [h4] at h2
    cases h2; rfl
  subst ef
  refine wpAny_mono (spec_law w ns hn (text_ok ns) (C0 w) rfl (Nat.zero_le _) (fun _ e he => nomatch he) s [] [.ref a] hok (fun e he => nomatch he) (fun _ h => nomatch h) ⟨_, [], rfl, ⟨a, vs, rfl, (fun h => nomatch h), hl, vins_ints hi⟩, rfl⟩) (fun v s' h => ?_) fun _ _ z => z
  exact ⟨h.2, h.1.keeps⟩
end Mine
theorem PySem.Challenge.cw_ny0304_03_holds : PySem.Challenge.rw_ny0304_03.Holds :=
  Mine.law_holds Mine.main_law
