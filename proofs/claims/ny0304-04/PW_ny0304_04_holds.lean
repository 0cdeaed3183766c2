import PyProof.Rows.All
import Wide.All
import OpenK.AllK
import Wide.FinOn
import PySem.Challenge.RW_ny0304_04
set_option Elab.async false
set_option linter.all false
set_option maxRecDepth 1000000
set_option maxHeartbeats 8000000
set_option compiler.extract_closed false
namespace Mine
open PySem PySem.W PyProof.Rows
theorem len1 {α : Type} {l : List α} (h : l.length = 1) : ∃ a, l = [a] := match l, h with | [a], _ => ⟨a, rfl⟩
theorem len2 {α : Type} {l : List α} (h : l.length = 2) : ∃ a b, l = [a, b] := match l, h with | [a, b], _ => ⟨a, b, rfl⟩
theorem len3 {α : Type} {l : List α} (h : l.length = 3) : ∃ a b c, l = [a, b, c] := match l, h with | [a, b, c], _ => ⟨a, b, c, rfl⟩
theorem len5 {α : Type} {l : List α} (h : l.length = 5) : ∃ a b c d e, l = [a, b, c, d, e] := match l, h with | [a, b, c, d, e], _ => ⟨a, b, c, d, e, rfl⟩
/-- what a value says -/
inductive MV where
  | none
  | bool (b : Bool)
  | int (i : Int)
  | str (s : Str)
  | list (xs : List MV)
  | tuple (xs : List MV)
  | seq (xs : List MV)
  | obj (v : Value)
  | deq
  deriving Inhabited
/-- a list -/
structure LAtB (b : Bool) (h : Heap) (a : Addr) (its : Array Value) : Prop where
  l : h.IsList a its
  nd : b = true → h.NoDictAt (.ref a)
noncomputable abbrev LAt : Heap → Addr → Array Value → Prop := LAtB true
theorem LAt.ofPlain {h : Heap} {a : Addr} {its : Array Value} (x : h.PlainList a its) : LAt h a its := ⟨x.isList, fun _ => let ⟨_, e⟩ := x; ⟨_, e, rfl⟩⟩
theorem LAtB.ext {b : Bool} {h h' : Heap} {a : Addr} {its : Array Value} (x : LAtB b h a its) (k : ∀ o, h.get? a = some o → h'.get? a = some o) : LAtB b h' a its := by
  obtain ⟨⟨o, e, r⟩, q⟩ := x
  exact ⟨⟨o, k o e, r⟩, fun hb => let ⟨o', e', d⟩ := q hb; ⟨o', k o' e', d⟩⟩
/-- an empty deque -/
noncomputable def DeqAt (h : Heap) (p : Addr) : Prop := ∃ o n t, h.get? p = some o ∧ o.cls = .type "collections.deque" ∧ o.data = .fields #[.none, .int n t]
mutual
noncomputable def VIn (h : Heap) (O : List Addr) : MV → Value → Prop
  | .none, v => v = .none
  | .bool b, v => v = .bool b
  | .int i, v => ∃ t, v = .int i t
  | .str x, v => ∃ t, v = .str x t
  | .list xs, v => ∃ a vs, v = .ref a ∧ a ∉ O ∧ LAt h a vs.toArray ∧ VIns h O xs vs
  | .seq xs, v => ∃ a vs, v = .ref a ∧ a ∉ O ∧ LAtB false h a vs.toArray ∧ VIns h O xs vs
  | .tuple xs, v => ∃ a vs, v = .ref a ∧ a ∉ O ∧ h.IsTuple a vs.toArray ∧ VIns h O xs vs
  | .obj u, v => v = u
  | .deq, v => ∃ p, v = .ref p ∧ DeqAt h p
noncomputable def VIns (h : Heap) (O : List Addr) : List MV → List Value → Prop
  | [], vs => vs = []
  | x :: xs, vs => ∃ v r, vs = v :: r ∧ VIn h O x v ∧ VIns h O xs r
end
/-- but for the slots of the frames S all is kept -/
noncomputable def KS (S : List Addr) (h h' : Heap) : Prop := ∀ b o, h.get? b = some o → (b ∉ S → h'.get? b = some o) ∧ ∃ o', h'.get? b = some o' ∧ o'.data = o.data ∧ o'.cls = o.cls ∧ o'.dict = o.dict
theorem KS.refl {S : List Addr} (h : Heap) : KS S h h := fun b o e => ⟨fun _ => e, o, e, rfl, rfl, rfl⟩
theorem KS.trans {S : List Addr} {h₁ h₂ h₃ : Heap} (x : KS S h₁ h₂) (y : KS S h₂ h₃) : KS S h₁ h₃ := fun b o e => by
  obtain ⟨x1, o', e', d1, d2, d3⟩ := x b o e
  obtain ⟨y1, o'', e'', f1, f2, f3⟩ := y b o' e'
  refine ⟨fun hb => ?_, o'', e'', f1.trans d1, f2.trans d2, f3.trans d3⟩
  exact (y b o (x1 hb)).1 hb
theorem KS.of_keep {S : List Addr} {h h' : Heap} (k : ∀ b o, h.get? b = some o → h'.get? b = some o) : KS S h h' := fun b o e => ⟨fun _ => k b o e, o, k b o e, rfl, rfl, rfl⟩
theorem KS.keep {h h' : Heap} (x : KS [] h h') : ∀ b o, h.get? b = some o → h'.get? b = some o := fun b o e => (x b o e).1 (by simp)
theorem KS.mono {S S' : List Addr} {h h' : Heap} (x : KS S h h') (hs : ∀ a ∈ S, a ∈ S') : KS S' h h' := fun b o e => ⟨fun hb => (x b o e).1 fun q => hb (hs b q), (x b o e).2⟩
theorem KS.isList {S : List Addr} {h h' : Heap} (x : KS S h h') {a : Addr} {its : Array Value} (y : h.IsList a its) : h'.IsList a its := by
  obtain ⟨o, e, c, n, d⟩ := y
  obtain ⟨_, o', e', d1, d2, d3⟩ := x a o e
  exact ⟨o', e', d2.trans c, n, d1.trans d⟩
theorem KS.lat {S : List Addr} {h h' : Heap} (x : KS S h h') {b : Bool} {a : Addr} {its : Array Value} (y : LAtB b h a its) : LAtB b h' a its := by
  obtain ⟨l, q⟩ := y
  refine ⟨x.isList l, fun hb => ?_⟩
  obtain ⟨o, e, d⟩ := q hb
  obtain ⟨_, o', e', d1, d2, d3⟩ := x a o e
  exact ⟨o', e', d3.trans d⟩
theorem KS.isTuple {S : List Addr} {h h' : Heap} (x : KS S h h') {a : Addr} {its : Array Value} (y : h.IsTuple a its) : h'.IsTuple a its := by
  obtain ⟨o, e, c, n, d⟩ := y
  obtain ⟨_, o', e', d1, d2, d3⟩ := x a o e
  exact ⟨o', e', d2.trans c, n, d1.trans d⟩
theorem KS.ns {S : List Addr} {h h' : Heap} (x : KS S h h') {a : Addr} {m : Str → Option Value} (y : h.Ns a m) : h'.Ns a m := by
  obtain ⟨o, es, ep, e, d, r⟩ := y
  obtain ⟨_, o', e', d1, d2, d3⟩ := x a o e
  exact ⟨o', es, ep, e', d1.trans d, r⟩
theorem KS.isCell {S : List Addr} {h h' : Heap} (x : KS S h h') {a : Addr} {v : Option Value} (y : h.IsCell a v) : h'.IsCell a v := by
  obtain ⟨o, e, d⟩ := y
  obtain ⟨_, o', e', d1, d2, d3⟩ := x a o e
  exact ⟨o', e', d1.trans d⟩
theorem KS.deq {S : List Addr} {h h' : Heap} (x : KS S h h') {p : Addr} (y : DeqAt h p) : DeqAt h' p := by
  obtain ⟨o, n, t, e, c, d⟩ := y
  obtain ⟨_, o', e', d1, d2, d3⟩ := x p o e
  exact ⟨o', n, t, e', d2.trans c, d1.trans d⟩
mutual
theorem VIn.to {h h' : Heap} {O O' : List Addr} (hl : ∀ {b : Bool} a its, a ∉ O → LAtB b h a its → LAtB b h' a its ∧ a ∉ O') (ht : ∀ a its, a ∉ O → h.IsTuple a its → h'.IsTuple a its ∧ a ∉ O') (hq : ∀ p, DeqAt h p → DeqAt h' p) : ∀ {m : MV} {v : Value}, VIn h O m v → VIn h' O' m v
  | .none, _, x => x
  | .bool _, _, x => x
  | .int _, _, x => x
  | .str _, _, x => x
  | .list xs, v, x => by
    obtain ⟨a, vs, e, n, l, r⟩ := x
    exact ⟨a, vs, e, (hl a _ n l).2, (hl a _ n l).1, VIns.to hl ht hq r⟩
  | .seq xs, v, x => by
    obtain ⟨a, vs, e, n, l, r⟩ := x
    exact ⟨a, vs, e, (hl a _ n l).2, (hl a _ n l).1, VIns.to hl ht hq r⟩
  | .tuple xs, v, x => by
    obtain ⟨a, vs, e, n, l, r⟩ := x
    exact ⟨a, vs, e, (ht a _ n l).2, (ht a _ n l).1, VIns.to hl ht hq r⟩
  | .obj _, _, x => x
  | .deq, _, x => let ⟨p, e, d⟩ := x; ⟨p, e, hq p d⟩
theorem VIns.to {h h' : Heap} {O O' : List Addr} (hl : ∀ {b : Bool} a its, a ∉ O → LAtB b h a its → LAtB b h' a its ∧ a ∉ O') (ht : ∀ a its, a ∉ O → h.IsTuple a its → h'.IsTuple a its ∧ a ∉ O') (hq : ∀ p, DeqAt h p → DeqAt h' p) : ∀ {ms : List MV} {vs : List Value}, VIns h O ms vs → VIns h' O' ms vs
  | [], _, x => x
  | m :: ms, vs, x => by
    obtain ⟨v, r, e, a, b⟩ := x
    exact ⟨v, r, e, VIn.to hl ht hq a, VIns.to hl ht hq b⟩
end
theorem VIn.ks {S O : List Addr} {h h' : Heap} (k : KS S h h') {m : MV} {v : Value} (x : VIn h O m v) : VIn h' O m v := x.to (fun _ _ n l => ⟨k.lat l, n⟩) (fun _ _ n l => ⟨k.isTuple l, n⟩) (fun _ d => k.deq d)
theorem VIns.ks {S O : List Addr} {h h' : Heap} (k : KS S h h') {m : List MV} {v : List Value} (x : VIns h O m v) : VIns h' O m v := x.to (fun _ _ n l => ⟨k.lat l, n⟩) (fun _ _ n l => ⟨k.isTuple l, n⟩) (fun _ d => k.deq d)
theorem VIn.more {O O' : List Addr} {h : Heap} (k : ∀ a ∈ O', a ∈ O ∨ h.get? a = Option.none) {m : MV} {v : Value} (x : VIn h O m v) : VIn h O' m v :=
  x.to (fun a _ n l => ⟨l, fun q => by
      rcases k a q with q | q
      · exact n q
      · obtain ⟨o, e, _⟩ := l.l; rw [q] at e; cases e⟩)
    (fun a _ n l => ⟨l, fun q => by
      rcases k a q with q | q
      · exact n q
      · obtain ⟨o, e, _⟩ := l; rw [q] at e; cases e⟩) (fun _ d => d)
theorem VIns.more {O O' : List Addr} {h : Heap} (k : ∀ a ∈ O', a ∈ O ∨ h.get? a = Option.none) {m : List MV} {v : List Value} (x : VIns h O m v) : VIns h O' m v :=
  x.to (fun a _ n l => ⟨l, fun q => by
      rcases k a q with q | q
      · exact n q
      · obtain ⟨o, e, _⟩ := l.l; rw [q] at e; cases e⟩)
    (fun a _ n l => ⟨l, fun q => by
      rcases k a q with q | q
      · exact n q
      · obtain ⟨o, e, _⟩ := l; rw [q] at e; cases e⟩) (fun _ d => d)
theorem VIns.length {h : Heap} {O : List Addr} : ∀ {ms : List MV} {vs : List Value}, VIns h O ms vs → vs.length = ms.length
  | [], _, x => by rw [show _ = [] from x]; rfl
  | m :: ms, vs, x => by
    obtain ⟨v, r, e, a, b⟩ := x
    rw [e, List.length_cons, List.length_cons, VIns.length b]
theorem VIns.get {h : Heap} {O : List Addr} : ∀ {ms : List MV} {vs : List Value}, VIns h O ms vs → ∀ {i : Nat} {m : MV}, ms[i]? = some m → ∃ v, vs[i]? = some v ∧ VIn h O m v
  | [], _, x, i, m, e => by simp at e
  | m :: ms, vs, x, i, m', e => by
    obtain ⟨v, r, rfl, a, b⟩ := x
    cases i with
    | zero => simp at e; subst e; exact ⟨v, rfl, a⟩
    | succ i => simp at e; simpa using VIns.get b e
theorem VIns.append {h : Heap} {O : List Addr} : ∀ {ms ms' : List MV} {vs vs' : List Value}, VIns h O ms vs → VIns h O ms' vs' → VIns h O (ms ++ ms') (vs ++ vs')
  | [], _, vs, _, x, y => by rw [show vs = [] from x]; exact y
  | m :: ms, ms', vs, vs', x, y => by
    obtain ⟨v, r, rfl, a, b⟩ := x
    exact ⟨v, r ++ vs', rfl, a, VIns.append b y⟩
theorem VIns.one {h : Heap} {O : List Addr} {m : MV} {v : Value} (x : VIn h O m v) : VIns h O [m] [v] := ⟨v, [], rfl, x, rfl⟩
/-- but for the slots of the frames S and the objects B all is kept -/
noncomputable def KM (S B : List Addr) (h h' : Heap) : Prop := ∀ b o, h.get? b = some o → b ∉ B → (b ∉ S → h'.get? b = some o) ∧ ∃ o', h'.get? b = some o' ∧ o'.data = o.data ∧ o'.cls = o.cls ∧ o'.dict = o.dict
theorem KS.km {S B : List Addr} {h h' : Heap} (x : KS S h h') : KM S B h h' := fun b o e _ => x b o e
theorem KM.ks {S : List Addr} {h h' : Heap} (x : KM S [] h h') : KS S h h' := fun b o e => x b o e (by simp)
theorem KM.trans {S B : List Addr} {h₁ h₂ h₃ : Heap} (x : KM S B h₁ h₂) (y : KM S B h₂ h₃) : KM S B h₁ h₃ := fun b o e hB => by
  obtain ⟨x1, o', e', d1, d2, d3⟩ := x b o e hB
  obtain ⟨y1, o'', e'', f1, f2, f3⟩ := y b o' e' hB
  refine ⟨fun hb => ?_, o'', e'', f1.trans d1, f2.trans d2, f3.trans d3⟩
  exact (y b o (x1 hb) hB).1 hb
/-- what a value of no list says -/
noncomputable def ScV (h : Heap) : MV → Value → Prop
  | .none, v => v = .none
  | .bool b, v => v = .bool b
  | .int i, v => ∃ t, v = .int i t
  | .str x, v => ∃ t, v = .str x t
  | .obj u, v => v = u
  | .deq, v => ∃ p, v = .ref p ∧ DeqAt h p
  | _, _ => False
theorem ScV.vin {h : Heap} {O : List Addr} : ∀ {m : MV} {v : Value}, ScV h m v → VIn h O m v
  | .none, _, x => x
  | .bool _, _, x => x
  | .int _, _, x => x
  | .str _, _, x => x
  | .obj _, _, x => x
  | .deq, _, x => x
theorem ScV.to {h h' : Heap} (hq : ∀ p, DeqAt h p → DeqAt h' p) : ∀ {m : MV} {v : Value}, ScV h m v → ScV h' m v
  | .none, _, x => x
  | .bool _, _, x => x
  | .int _, _, x => x
  | .str _, _, x => x
  | .obj _, _, x => x
  | .deq, _, x => let ⟨p, e, d⟩ := x; ⟨p, e, hq p d⟩
/-- an object's fields -/
noncomputable def fget : List (Str × MV) → Str → Option MV
  | [], _ => none
  | (y, m) :: r, x => if y = x then some m else fget r x
noncomputable def fput : List (Str × MV) → Str → MV → List (Str × MV)
  | [], x, m => [(x, m)]
  | (y, c) :: r, x, m => if y = x then (x, m) :: r else (y, c) :: fput r x m
theorem fget_fput (fs : List (Str × MV)) (x y : Str) (m : MV) : fget (fput fs x m) y = if x = y then some m else fget fs y := by
  induction fs with
  | nil => simp [fput, fget]
  | cons p r ih =>
    obtain ⟨z, c⟩ := p
    by_cases hz : z = x
    · subst hz; by_cases hy : z = y <;> simp [fput, fget, hy]
    · by_cases hy : z = y
      · subst hy; simp [fput, fget, hz, Ne.symm hz]
      · simp [fput, fget, hz, hy, ih]
noncomputable def Flds (h : Heap) (fs : List (Str × MV)) (mA : Str → Option Value) : Prop := ∀ x, match fget fs x with | none => mA x = none | some m => ∃ v, mA x = some v ∧ ScV h m v
theorem Flds.to {h h' : Heap} {fs : List (Str × MV)} {mA : Str → Option Value} (hq : ∀ p, DeqAt h p → DeqAt h' p) (x : Flds h fs mA) : Flds h' fs mA := fun n => by
  have := x n
  cases e : fget fs n with
  | none => rw [e] at this; exact this
  | some m => rw [e] at this; obtain ⟨v, a, b⟩ := this; exact ⟨v, a, b.to hq⟩
/-- what a name holds: a value that stands, a list of the frame's own, or (a name of no frame's) an object with its fields -/
inductive Bd where
  | fz (m : MV)
  | own (a : Addr) (xs : List MV)
  | inst (a C d : Addr) (fs : List (Str × MV))
  deriving Inhabited
structure InstIs (h : Heap) (a C d : Addr) (fs : List (Str × MV)) : Prop where
  at_ : ∃ sl, h.get? a = some ⟨.ref C, some d, .plain, sl⟩
  ne : d ≠ a
  fl : ∃ mA, h.Ns1 d mA ∧ Flds h fs mA
noncomputable def BIn (h : Heap) (O : List Addr) : Bd → Value → Prop
  | .fz m, v => VIn h O m v
  | .own a xs, v => v = .ref a ∧ ∃ vs : List Value, h.PlainList a vs.toArray ∧ VIns h O xs vs
  | .inst a C d fs, v => v = .ref a ∧ InstIs h a C d fs
theorem KS.ns1 {S : List Addr} {h h' : Heap} (x : KS S h h') {a : Addr} {m : Str → Option Value} (y : h.Ns1 a m) : h'.Ns1 a m := by
  obtain ⟨o, es, ep, e, d, r⟩ := y
  obtain ⟨_, o', e', d1, d2, d3⟩ := x a o e
  exact ⟨o', es, ep, e', d1.trans d, r⟩
theorem InstIs.ks {S : List Addr} {h h' : Heap} (k : KS S h h') {a C d : Addr} {fs : List (Str × MV)} (x : InstIs h a C d fs) : InstIs h' a C d fs := by
  obtain ⟨⟨sl, e⟩, n, mA, y, f⟩ := x
  obtain ⟨_, o', e', d1, d2, d3⟩ := k a _ e
  refine ⟨⟨o'.slots, ?_⟩, n, mA, k.ns1 y, f.to fun _ q => k.deq q⟩
  obtain ⟨c, di, da, sl'⟩ := o'
  cases d1; cases d2; cases d3
  exact e'
theorem DeqAt.off {h h' : Heap} {L p : Addr} {o : Obj} (e : h.get? L = some o) (hf : ∀ vs, o.data ≠ .fields vs) (hs : Heap.SameBut L h h') (x : DeqAt h p) : DeqAt h' p := by
  obtain ⟨o', n, t, e', c, d⟩ := x
  exact ⟨o', n, t, (hs.2 p (by rintro rfl; rw [e] at e'; cases e'; exact hf _ d)).trans e', c, d⟩
theorem InstIs.off {h h' : Heap} {L a C d : Addr} {fs : List (Str × MV)} {o : Obj} (eo : h.get? L = some o) (hf : ∀ vs, o.data ≠ .fields vs) (hs : Heap.SameBut L h h') (ha : a ≠ L) (hd : d ≠ L) (x : InstIs h a C d fs) : InstIs h' a C d fs := by
  obtain ⟨⟨sl, e⟩, n, mA, y, f⟩ := x
  exact ⟨⟨sl, (hs.2 a ha).trans e⟩, n, mA, y.sameBut hs hd, f.to fun _ q => q.off eo hf hs⟩
noncomputable abbrev St := List (Str × Bd)
noncomputable def sget : St → Str → Option Bd
  | [], _ => none
  | (y, b) :: r, x => if y = x then some b else sget r x
noncomputable def sput : St → Str → Bd → St
  | [], x, b => [(x, b)]
  | (y, c) :: r, x, b => if y = x then (x, b) :: r else (y, c) :: sput r x b
noncomputable def owned : St → List Addr
  | [] => []
  | (_, .own a _) :: r => a :: owned r
  | (_, .fz _) :: r => owned r
  | (_, .inst _ _ _ _) :: r => owned r
noncomputable def instA : St → List Addr
  | [] => []
  | (_, .inst a _ d _) :: r => a :: d :: instA r
  | (_, .fz _) :: r => instA r
  | (_, .own _ _) :: r => instA r
theorem sget_sput (σ : St) (x y : Str) (b : Bd) : sget (sput σ x b) y = if x = y then some b else sget σ y := by
  induction σ with
  | nil => simp [sput, sget]
  | cons p r ih =>
    obtain ⟨z, c⟩ := p
    by_cases hz : z = x
    · subst hz; by_cases hy : z = y <;> simp [sput, sget, hy]
    · by_cases hy : z = y
      · subst hy; simp [sput, sget, hz, Ne.symm hz]
      · simp [sput, sget, hz, hy, ih]
theorem owned_sput {σ : St} {x : Str} {m : MV} {a : Addr} (h : a ∈ owned (sput σ x (.fz m))) : a ∈ owned σ := by
  induction σ with
  | nil => simp [sput, owned] at h
  | cons p r ih =>
    obtain ⟨z, c⟩ := p
    by_cases hz : z = x
    · cases c <;> simp_all [sput, owned]
    · cases c <;> simp_all [sput, owned]
      rcases h with h | h
      · exact .inl h
      · exact .inr (ih h)
theorem owned_sput_own {σ : St} {x : Str} {xs : List MV} {a b : Addr} (h : b ∈ owned (sput σ x (.own a xs))) : b = a ∨ b ∈ owned σ := by
  induction σ with
  | nil => simp [sput, owned] at h; exact .inl h
  | cons p r ih =>
    obtain ⟨z, c⟩ := p
    by_cases hz : z = x
    · cases c <;> simp_all [sput, owned]
      rcases h with h | h
      · exact .inl h
      · exact .inr (.inr h)
    · cases c <;> simp_all [sput, owned]
      rcases h with h | h
      · exact .inr (.inl h)
      · rcases ih h with h | h
        · exact .inl h
        · exact .inr (.inr h)
theorem owned_mem {σ : St} {x : Str} {a : Addr} {xs : List MV} (h : sget σ x = some (.own a xs)) : a ∈ owned σ := by
  induction σ with
  | nil => simp [sget] at h
  | cons p r ih =>
    obtain ⟨z, c⟩ := p
    by_cases hz : z = x
    · simp [sget, hz] at h; subst h; simp [owned]
    · simp [sget, hz] at h
      cases c with
      | fz _ => simpa [owned] using ih h
      | own _ _ => simp [owned, ih h]
      | inst _ _ _ _ => simpa [owned] using ih h
theorem instA_mem {σ : St} {x : Str} {a C d : Addr} {fs : List (Str × MV)} (h : sget σ x = some (.inst a C d fs)) : a ∈ instA σ ∧ d ∈ instA σ := by
  induction σ with
  | nil => simp [sget] at h
  | cons p r ih =>
    obtain ⟨z, c⟩ := p
    by_cases hz : z = x
    · simp [sget, hz] at h; subst h; simp [instA]
    · simp [sget, hz] at h
      cases c with
      | fz _ => simpa [instA] using ih h
      | own _ _ => simpa [instA] using ih h
      | inst _ _ _ _ => simp [instA, ih h]
theorem instA_sub {x : Str} {m : MV} : ∀ {σ : St}, (instA (sput σ x (.fz m))).Sublist (instA σ)
  | [] => by simp [sput, instA]
  | (z, c) :: r => by
    by_cases hz : z = x
    · cases c with
      | inst a C d fs => simp only [sput, hz, if_true, instA]; exact ((List.Sublist.refl _).cons _).cons _
      | _ => simp [sput, hz, instA]
    · cases c with
      | inst a C d fs => simp only [sput, hz, if_false, instA]; exact (instA_sub.cons₂ _).cons₂ _
      | _ => simpa [sput, hz, instA] using instA_sub
end Mine
namespace Mine
open PySem PySem.W PyProof.Rows
/-- where code runs: the model, the stack around it, what the heap holds from the top on, whose frames' slots may turn -/
structure Gx where
  prog : Program
  w : World
  n₀ : Nat
  ok : Heap → Prop
  mono : ∀ h h', (∀ b o, b < n₀ → h.get? b = some o → h'.get? b = some o) → ok h → ok h'
  low : ∀ h, ok h → n₀ ≤ h.objs.size
  nolim : ∀ h, ok h → h.NoLimit
structure Cx where
  G : Gx
  A : Around
  hh : A.handled = none
  lvl : Nat
  hd : A.depth ≤ 301 + lvl
  hu : A.units ≤ 4 + 8 * lvl
  hl : lvl ≤ 100
  fs : List Env
  hfs : A.frames = some fs
  S : List Addr
  hS : ∀ a ∈ S, ∃ e ∈ fs, e.frame = some a
  O : List Addr
  mB : List Addr
  ro : Bool
noncomputable abbrev Cx.prog (C : Cx) : Program := C.G.prog
noncomputable abbrev Cx.w (C : Cx) : World := C.G.w
noncomputable abbrev Cx.n₀ (C : Cx) : Nat := C.G.n₀
noncomputable abbrev Cx.ok (C : Cx) : Heap → Prop := C.G.ok
theorem Cx.mono (C : Cx) : ∀ h h', (∀ b o, b < C.n₀ → h.get? b = some o → h'.get? b = some o) → C.ok h → C.ok h' := C.G.mono
noncomputable def Cx.M (C : Cx) : Model := model C.prog C.w
noncomputable def Cx.str (C : Cx) : Cx := { C with S := [], hS := fun _ h => nomatch h }
theorem Cx.room (C : Cx) : C.A.depth < recursionLimit := by have := C.hd; have := C.hl; unfold recursionLimit; lia
noncomputable def FramesIn (n₀ : Nat) (h : Heap) (fs : List Env) : Prop := ∀ e ∈ fs, e.scope.kind ≠ .module ∧ ∃ L o, e.frame = some L ∧ n₀ ≤ L ∧ h.get? L = some o ∧ ∃ es ep, o.data = .dict es ep
theorem FramesIn.ks {n₀ : Nat} {h h' : Heap} {fs : List Env} {S : List Addr} (x : FramesIn n₀ h fs) (k : KS S h h') : FramesIn n₀ h' fs := fun e he => by
  obtain ⟨a, L, o, hf, hn, ho, es, ep, hd⟩ := x e he
  obtain ⟨_, o', e', d1, _⟩ := k L o ho
  exact ⟨a, L, o', hf, hn, e', es, ep, d1.trans hd⟩
noncomputable def VarIs (env : Env) (h : Heap) (x : Str) (P : Value → Prop) : Prop := match env.kindOf x with
  | some .local => ∃ m v, h.Ns env.locals m ∧ m x = some v ∧ P v
  | some .cell | some .free => ∃ c v, env.cells.lookup x = some c ∧ h.IsCell c (some v) ∧ P v
  | _ => ∃ v, P v
theorem VarIs.to {env : Env} {h h' : Heap} {x : Str} {P P' : Value → Prop} (y : VarIs env h x P) (hn : ∀ m, h.Ns env.locals m → h'.Ns env.locals m) (hc : ∀ c v, env.cells.lookup x = some c → h.IsCell c v → h'.IsCell c v) (hp : ∀ v, P v → P' v) : VarIs env h' x P' := by
  unfold VarIs at *
  split at y
  · obtain ⟨m, v, a, b, c⟩ := y; exact ⟨m, v, hn m a, b, hp v c⟩
  · obtain ⟨c, v, a, b, d⟩ := y; exact ⟨c, v, a, hc c _ a b, hp v d⟩
  · obtain ⟨c, v, a, b, d⟩ := y; exact ⟨c, v, a, hc c _ a b, hp v d⟩
  · obtain ⟨v, d⟩ := y; exact ⟨v, hp v d⟩
/-- the lists that no standing value bears: the frame's own, and those of the frames below -/
noncomputable def Cx.ex (C : Cx) (σ : St) : List Addr := owned σ ++ C.O
structure RelE (C : Cx) (env : Env) (σ : St) (h : Heap) : Prop where
  base : C.ok h
  fr : FramesIn C.n₀ h C.fs
  kind : env.scope.kind = .function
  glob : env.globals = mainGlobals ∧ env.builtins = builtinsNs
  vars : ∀ x b, sget σ x = some b → VarIs env h x (BIn h (C.ex σ) b)
  own : ∀ a ∈ owned σ, ∃ vs : Array Value, h.PlainList a vs
  outer : ∀ a ∈ C.O, ∃ vs : Array Value, h.PlainList a vs
  insN : ∀ b ∈ instA σ, C.n₀ ≤ b ∧ b ≠ env.locals ∧ ∀ e ∈ C.fs, e.frame ≠ some b
  insNd : (instA σ).Nodup
theorem KS.plain {S : List Addr} {h h' : Heap} (x : KS S h h') {a : Addr} {its : Array Value} (y : h.PlainList a its) (ha : a ∉ S) : h'.PlainList a its := by
  obtain ⟨n, e⟩ := y
  exact ⟨n, (x a _ e).1 ha⟩
theorem RelE.notS {C : Cx} {env : Env} {σ : St} {h : Heap} (R : RelE C env σ h) {a : Addr} {o : Obj} (e : h.get? a = some o) (hd : ∀ es ep, o.data ≠ .dict es ep) : a ∉ C.S := fun hs => by
  obtain ⟨ev, hm, hf⟩ := C.hS a hs
  obtain ⟨_, L, o', hf', _, ho, es, ep, hd'⟩ := R.fr ev hm
  rw [hf] at hf'
  cases hf'
  rw [e] at ho
  cases ho
  exact hd es ep hd'
theorem RelE.low {C : Cx} {env : Env} {σ : St} {h : Heap} (R : RelE C env σ h) {b : Addr} (hb : b < C.n₀) : b ∉ C.S := fun hs => by
  obtain ⟨ev, hm, hf⟩ := C.hS b hs
  obtain ⟨_, L, o', hf', hn, _⟩ := R.fr ev hm
  rw [hf] at hf'
  cases hf'
  exact absurd hb (Nat.not_lt.mpr hn)
theorem BIn.ks {S O : List Addr} {h h' : Heap} (k : KS S h h') {b : Bd} {v : Value} (hb : ∀ a xs, b = .own a xs → a ∉ S) (x : BIn h O b v) : BIn h' O b v := by
  cases b with
  | fz m => exact VIn.ks k x
  | own a xs =>
    obtain ⟨e, vs, p, r⟩ := x
    exact ⟨e, vs, k.plain p (hb a xs rfl), r.ks k⟩
  | inst a C d fs => exact ⟨x.1, x.2.ks k⟩
theorem RelE.ks {C : Cx} {env : Env} {σ : St} {h h' : Heap} (R : RelE C env σ h) (k : KS C.S h h') : RelE C env σ h' where
  base := C.mono h h' (fun b o hb e => (k b o e).1 (R.low hb)) R.base
  fr := R.fr.ks k
  kind := R.kind
  glob := R.glob
  vars := fun x b e => by
    have ho : ∀ a ∈ owned σ, a ∉ C.S := fun a ha => by
      obtain ⟨vs, n, q⟩ := R.own a ha
      exact R.notS q (fun es ep => by simp)
    refine (R.vars x b e).to (fun m y => k.ns y) (fun c v _ y => k.isCell y) fun v y => BIn.ks k ?_ y
    rintro a xs rfl
    exact ho a (owned_mem e)
  own := fun a ha => by
    obtain ⟨vs, n, q⟩ := R.own a ha
    exact ⟨vs, k.plain ⟨n, q⟩ (R.notS q (fun es ep => by simp))⟩
  outer := fun a ha => by
    obtain ⟨vs, n, q⟩ := R.outer a ha
    exact ⟨vs, k.plain ⟨n, q⟩ (R.notS q (fun es ep => by simp))⟩
  insN := R.insN
  insNd := R.insNd
inductive KSs (S : List Addr) (s s' : Shared) : Prop
  | mk (h' : Heap) (tk : Nat) (e : s' = { s with heap := h', toks := tk }) (k : KS S s.heap h')
theorem KSs.refl {S : List Addr} (s : Shared) : KSs S s s := ⟨s.heap, s.toks, rfl, .refl _⟩
theorem KSs.tok {S : List Addr} (s : Shared) (t : Nat) : KSs S s { s with toks := t } := ⟨s.heap, t, rfl, .refl _⟩
theorem KSs.trans {S : List Addr} {s₁ s₂ s₃ : Shared} (x : KSs S s₁ s₂) (y : KSs S s₂ s₃) : KSs S s₁ s₃ := by
  obtain ⟨h, t, rfl, k⟩ := x
  obtain ⟨h', t', rfl, k'⟩ := y
  exact ⟨h', t', rfl, k.trans k'⟩
theorem KSs.keeps {s s' : Shared} (k : KSs [] s s') : Keeps s s' := by
  obtain ⟨h, t, rfl, k⟩ := k
  exact ⟨h, t, rfl, k.keep⟩
theorem KSs.ks {S : List Addr} {s s' : Shared} (x : KSs S s s') : KS S s.heap s'.heap := by obtain ⟨h, t, rfl, k⟩ := x; exact k
theorem KSs.mono {S S' : List Addr} {s s' : Shared} (x : KSs S s s') (hs : ∀ a ∈ S, a ∈ S') : KSs S' s s' := by obtain ⟨h, t, rfl, k⟩ := x; exact ⟨h, t, rfl, k.mono hs⟩
noncomputable abbrev F : Value → Shared → Prop := fun _ _ => False
/-- a value that may be a list of the frame's own (its items stand) -/
noncomputable def VT (h : Heap) (O : List Addr) : MV → Value → Prop
  | .list xs, v => ∃ a vs, v = .ref a ∧ LAt h a (List.toArray vs) ∧ VIns h O xs vs
  | m, v => VIn h O m v
theorem VIn.t {h : Heap} {O : List Addr} {m : MV} {v : Value} (x : VIn h O m v) : VT h O m v := by
  cases m with
  | list xs => obtain ⟨a, vs, e, _, l, r⟩ := x; exact ⟨a, vs, e, l, r⟩
  | _ => exact x
theorem VT.ks {S O : List Addr} {h h' : Heap} (k : KS S h h') {m : MV} {v : Value} (x : VT h O m v) : VT h' O m v := by
  cases m with
  | list xs => obtain ⟨a, vs, e, l, r⟩ := x; exact ⟨a, vs, e, k.lat l, r.ks k⟩
  | _ => exact VIn.ks k x
noncomputable def Ev (C : Cx) (env : Env) (σ : St) (e : Expr) (m : MV) : Prop :=
  ∀ s, RelE C env σ s.heap → wpAny C.M C.A (eval e env) (fun v s' => KSs C.S s s' ∧ VIn s'.heap (C.ex σ) m v) F s
noncomputable def EvT (C : Cx) (env : Env) (σ : St) (e : Expr) (m : MV) : Prop :=
  ∀ s, RelE C env σ s.heap → wpAny C.M C.A (eval e env) (fun v s' => KSs C.S s s' ∧ VT s'.heap (C.ex σ) m v) F s
noncomputable def EvB (C : Cx) (env : Env) (σ : St) (e : Expr) (b : Bool) : Prop :=
  ∀ s, RelE C env σ s.heap → wpAny C.M C.A (isTrue e env (eval e env)) (fun v s' => KSs C.S s s' ∧ v = b) F s
theorem Ev.t {C : Cx} {env : Env} {σ : St} {e : Expr} {m : MV} (x : Ev C env σ e m) : EvT C env σ e m :=
  fun s R => wpAny_mono (x s R) (fun v s' h => ⟨h.1, h.2.t⟩) fun _ _ h => h
section
variable {C : Cx} {env : Env} {σ : St}
theorem ev_name_local {x : Str} {m : MV} {p : Pos} (hb : sget σ x = some (.fz m)) (hk : env.kindOf x = some .local) (hd : (x == ("__debug__" : Str)) = false) : Ev C env σ (.Name x p) m := fun s R => by
  have hv := R.vars x _ hb
  unfold VarIs at hv
  rw [hk] at hv
  obtain ⟨mm, v, hn, hm, hp⟩ := hv
  exact wpAny_Name (wpAny_loadName_local R.kind hk hn hm ⟨.refl s, hp⟩) hd
theorem ev_name_cell {x : Str} {m : MV} {p : Pos} (hb : sget σ x = some (.fz m)) (hk : env.kindOf x = some .cell) (hd : (x == ("__debug__" : Str)) = false) : Ev C env σ (.Name x p) m := fun s R => by
  have hv := R.vars x _ hb
  unfold VarIs at hv
  rw [hk] at hv
  obtain ⟨c, v, hc, hm, hp⟩ := hv
  exact wpAny_Name (wpAny_loadName_cell R.kind hk hc hm ⟨.refl s, hp⟩) hd
theorem BIn.own_t {h : Heap} {O : List Addr} {a : Addr} {xs : List MV} {v : Value} (x : BIn h O (.own a xs) v) : VT h O (.list xs) v := by
  obtain ⟨rfl, vs, p, r⟩ := x
  exact ⟨a, vs, rfl, .ofPlain p, r⟩
theorem evT_own_local {x : Str} {a : Addr} {xs : List MV} {p : Pos} (hb : sget σ x = some (.own a xs)) (hk : env.kindOf x = some .local) (hd : (x == ("__debug__" : Str)) = false) : EvT C env σ (.Name x p) (.list xs) := fun s R => by
  have hv := R.vars x _ hb
  unfold VarIs at hv
  rw [hk] at hv
  obtain ⟨mm, v, hn, hm, hp⟩ := hv
  exact wpAny_Name (wpAny_loadName_local R.kind hk hn hm ⟨.refl s, hp.own_t⟩) hd
theorem ev_int {i : Int} {k : Nat} {p : Pos} : Ev C env σ (.Constant (.int i) k p) (.int i) := fun s R => wpAny_Constant_int ⟨.tok s _, _, rfl⟩
theorem ev_str {x : Str} {k : Nat} {p : Pos} : Ev C env σ (.Constant (.str x) k p) (.str x) := fun s R => Calls.Constant_str ⟨.tok s _, _, rfl⟩
theorem ev_none {k : Nat} {p : Pos} : Ev C env σ (.Constant .none k p) .none := fun s R => fun _ _ _ => ⟨.refl s, rfl⟩
theorem ev_bool {b : Bool} {k : Nat} {p : Pos} : Ev C env σ (.Constant (.bool b) k p) (.bool b) := fun s R => fun _ _ _ => ⟨.refl s, rfl⟩
/-- what a binary operation yields -/
noncomputable def Bin (C : Cx) (op : Operator) (a b r : MV) : Prop :=
  ∀ s O va vb, (∀ x ∈ O, ∃ o, s.heap.get? x = some o) → VT s.heap O a va → VT s.heap O b vb → wpAny C.M C.A (binaryOp op va vb) (fun v s' => KSs [] s s' ∧ VIn s'.heap O r v) F s
noncomputable def Cmp (C : Cx) (op : CmpOp) (a b : MV) (r : Bool) : Prop :=
  ∀ s O va vb, (∀ x ∈ O, ∃ o, s.heap.get? x = some o) → VT s.heap O a va → VT s.heap O b vb → wpAny C.M C.A (compareOp op va vb) (fun v s' => KSs [] s s' ∧ v = .bool r) F s
theorem RelE.exO {h : Heap} (R : RelE C env σ h) : ∀ x ∈ C.ex σ, ∃ o, h.get? x = some o := fun x hx => (List.mem_append.mp hx).elim (fun hx => let ⟨_, _, e⟩ := R.own x hx; ⟨_, e⟩) (fun hx => let ⟨_, _, e⟩ := R.outer x hx; ⟨_, e⟩)
theorem nil_sub {S : List Addr} : ∀ a ∈ ([] : List Addr), a ∈ S := fun _ h => nomatch h
theorem ev_binop {l r : Expr} {op : Operator} {p : Pos} {a b c : MV} (hl : EvT C env σ l a) (hr : EvT C env σ r b) (ho : Bin C op a b c) : Ev C env σ (.BinOp l op r p) c := fun s R => by
  refine wpAny_BinOp (wpAny_mono (hl s R) (fun va s₁ h₁ => ?_) fun _ _ h => h)
  obtain ⟨k₁, v₁⟩ := h₁
  refine wpAny_mono (hr s₁ (R.ks k₁.ks)) (fun vb s₂ h₂ => ?_) fun _ _ h => h
  obtain ⟨k₂, v₂⟩ := h₂
  refine wpAny_mono (ho s₂ _ va vb ((R.ks k₁.ks).ks k₂.ks).exO (v₁.ks k₂.ks) v₂) (fun v s₃ h₃ => ?_) fun _ _ h => h
  exact ⟨(k₁.trans k₂).trans (h₃.1.mono nil_sub), h₃.2⟩
theorem ev_cmp {l r : Expr} {op : CmpOp} {p : Pos} {a b : MV} {c : Bool} (hl : EvT C env σ l a) (hr : EvT C env σ r b) (ho : Cmp C op a b c) (hm : behindInMarks op r = false) : Ev C env σ (.Compare l [op] [r] p) (.bool c) := fun s R => by
  refine wpAny_Compare1 (wpAny_mono (hl s R) (fun va s₁ h₁ => ?_) fun _ _ h => h) hm
  obtain ⟨k₁, v₁⟩ := h₁
  refine wpAny_mono (hr s₁ (R.ks k₁.ks)) (fun vb s₂ h₂ => ?_) fun _ _ h => h
  obtain ⟨k₂, v₂⟩ := h₂
  refine wpAny_mono (ho s₂ _ va vb ((R.ks k₁.ks).ks k₂.ks).exO (v₁.ks k₂.ks) v₂) (fun v s₃ h₃ => ?_) fun _ _ h => h
  exact ⟨(k₁.trans k₂).trans (h₃.1.mono nil_sub), h₃.2⟩
theorem evB_cmp {l r : Expr} {op : CmpOp} {p : Pos} {a b : MV} {c : Bool} (hl : EvT C env σ l a) (hr : EvT C env σ r b) (ho : Cmp C op a b c) (hm : behindInMarks op r = false) : EvB C env σ (.Compare l [op] [r] p) c := fun s R => by
  refine wpAny_isTrue_Compare1 (wpAny_mono (hl s R) (fun va s₁ h₁ => ?_) fun _ _ h => h) hm
  obtain ⟨k₁, v₁⟩ := h₁
  refine wpAny_mono (hr s₁ (R.ks k₁.ks)) (fun vb s₂ h₂ => ?_) fun _ _ h => h
  obtain ⟨k₂, v₂⟩ := h₂
  refine wpAny_mono (ho s₂ _ va vb ((R.ks k₁.ks).ks k₂.ks).exO (v₁.ks k₂.ks) v₂) (fun v s₃ h₃ => ?_) fun _ _ h => h
  obtain ⟨k₃, rfl⟩ := h₃
  exact wpAny_truthy_bool ⟨(k₁.trans k₂).trans (k₃.mono nil_sub), rfl⟩
theorem add_int_ {a b : Int} : Bin C .Add (.int a) (.int b) (.int (a + b)) := fun s O va vb _ ha hb => by
  obtain ⟨t, rfl⟩ := ha; obtain ⟨u, rfl⟩ := hb
  exact add_int ⟨.tok s _, _, rfl⟩
theorem sub_int_ {a b : Int} : Bin C .Sub (.int a) (.int b) (.int (a - b)) := fun s O va vb _ ha hb => by
  obtain ⟨t, rfl⟩ := ha; obtain ⟨u, rfl⟩ := hb
  exact sub_int ⟨.tok s _, _, rfl⟩
theorem mod_int_ {a b : Int} (h0 : b ≠ 0) : Bin C .Mod (.int a) (.int b) (.int (a.fmod b)) := fun s O va vb _ ha hb => by
  obtain ⟨t, rfl⟩ := ha; obtain ⟨u, rfl⟩ := hb
  exact mod_int' h0 ⟨.tok s _, _, rfl⟩
theorem div_int_ {a b : Int} (h0 : b ≠ 0) (hp : Builtin.divisionGoesByPylong a b = false) : Bin C .FloorDiv (.int a) (.int b) (.int (a.fdiv b)) := fun s O va vb _ ha hb => by
  obtain ⟨t, rfl⟩ := ha; obtain ⟨u, rfl⟩ := hb
  exact floordiv_int h0 ⟨.tok s _, _, rfl⟩ (.inl hp)
theorem pow_int_ {a n : Int} (h0 : 0 ≤ n) (h1 : n ≤ 1000000) (ha' : a.natAbs < 2 ^ 64) : Bin C .Pow (.int a) (.int n) (.int (a ^ n.toNat)) := fun s O va vb _ ha hb => by
  obtain ⟨t, rfl⟩ := ha; obtain ⟨u, rfl⟩ := hb
  exact pow_int_small h0 h1 ha' ⟨.tok s _, _, rfl⟩
theorem add_str_ {x y : Str} (hsz : x.length + y.length ≤ sizeLine) : Bin C .Add (.str x) (.str y) (.str (x ++ y)) := fun s O va vb _ ha hb => by
  obtain ⟨t, rfl⟩ := ha; obtain ⟨u, rfl⟩ := hb
  exact PyProof.Rows.add_str (fun t' tk => ⟨.tok s _, _, rfl⟩) hsz
theorem eq_int_ {a b : Int} : Cmp C .Eq (.int a) (.int b) (a == b) := fun s O va vb _ ha hb => by
  obtain ⟨t, rfl⟩ := ha; obtain ⟨u, rfl⟩ := hb
  exact eq_int ⟨.refl s, rfl⟩
theorem ne_int_ {a b : Int} : Cmp C .NotEq (.int a) (.int b) (a != b) := fun s O va vb _ ha hb => by
  obtain ⟨t, rfl⟩ := ha; obtain ⟨u, rfl⟩ := hb
  exact ne_int ⟨.refl s, rfl⟩
theorem lt_int_ {a b : Int} : Cmp C .Lt (.int a) (.int b) (decide (a < b)) := fun s O va vb _ ha hb => by
  obtain ⟨t, rfl⟩ := ha; obtain ⟨u, rfl⟩ := hb
  exact lt_int ⟨.refl s, rfl⟩
theorem gt_int_ {a b : Int} : Cmp C .Gt (.int a) (.int b) (decide (b < a)) := fun s O va vb _ ha hb => by
  obtain ⟨t, rfl⟩ := ha; obtain ⟨u, rfl⟩ := hb
  exact gt_int ⟨.refl s, rfl⟩
theorem eq_str_ {x y : Str} : Cmp C .Eq (.str x) (.str y) (x == y) := fun s O va vb _ ha hb => by
  obtain ⟨t, rfl⟩ := ha; obtain ⟨u, rfl⟩ := hb
  exact PyProof.Rows.eq_str ⟨.refl s, rfl⟩
end
end Mine
namespace Mine
open PySem PySem.W PyProof.Rows
theorem Ns.unique {h : Heap} {a : Addr} {m m' : Str → Option Value} (x : h.Ns a m) (y : h.Ns a m') : m = m' := by
  obtain ⟨o, es, ep, e, d, _, r⟩ := x
  obtain ⟨o', es', ep', e', d', _, r'⟩ := y
  rw [e] at e'; cases e'
  rw [d] at d'; cases d'
  funext n; rw [← r n, ← r' n]
structure Rel (C : Cx) (X : Heap) (env : Env) (σ : St) (h : Heap) : Prop extends RelE C env σ h where
  keepX : KM C.S C.mB X h
  ns : ∃ m, h.Ns env.locals m
  nsX : X.get? env.locals = none
  nsN : C.n₀ ≤ env.locals
  cells : ∀ x c, env.cells.lookup x = some c → (∃ v, h.IsCell c v) ∧ X.get? c = none ∧ C.n₀ ≤ c
  apart : env.cells.Pairwise fun x y => x.2 ≠ y.2
  ownX : ∀ a ∈ owned σ, X.get? a = none
  ownN : ∀ a ∈ owned σ, C.n₀ ≤ a
  ownNd : (owned σ).Nodup
  insX : C.ro = true ∨ ∀ b ∈ instA σ, b ∈ C.mB ∨ X.get? b = none
  outX : ∀ a ∈ C.O, ∃ o, X.get? a = some o
inductive FM where
  | next | brk | cont
  | ret (m : MV)
noncomputable def FRel (C : Cx) (h : Heap) (σ : St) : Flow → FM → Prop
  | .next, .next => True
  | .brk, .brk => True
  | .cont, .cont => True
  | .ret v, .ret m => VIn h (C.ex σ) m v
  | _, _ => False
inductive Post (C : Cx) (X : Heap) (env : Env) (Q : FM → St → Prop) (s : Shared) (fl : Flow) (s' : Shared) : Prop
  | mk (h' : Heap) (tk : Nat) (e : s' = { s with heap := h', toks := tk }) (fm : FM) (σ' : St) (fr : FRel C h' σ' fl fm) (R : Rel C X env σ' h') (q : Q fm σ')
noncomputable def wpS (C : Cx) (env : Env) (st : Stmt) (σ : St) (Q : FM → St → Prop) : Prop :=
  ∀ X s, Rel C X env σ s.heap → wpAny C.M C.A (exec st env) (Post C X env Q s) F s
noncomputable def wpSs (C : Cx) (env : Env) (sts : List Stmt) (σ : St) (Q : FM → St → Prop) : Prop :=
  ∀ X s, Rel C X env σ s.heap → wpAny C.M C.A (execs sts env) (Post C X env Q s) F s
section
variable {C : Cx} {env : Env} {σ : St}
theorem Rel.ks {X h h' : Heap} (R : Rel C X env σ h) (k : KS C.S h h') : Rel C X env σ h' where
  toRelE := R.toRelE.ks k
  keepX := R.keepX.trans k.km
  ns := let ⟨m, y⟩ := R.ns; ⟨m, k.ns y⟩
  nsX := R.nsX
  nsN := R.nsN
  cells := fun x c hc => let ⟨⟨v, y⟩, a, b⟩ := R.cells x c hc; ⟨⟨v, k.isCell y⟩, a, b⟩
  apart := R.apart
  ownX := R.ownX
  ownN := R.ownN
  ownNd := R.ownNd
  insX := R.insX
  outX := R.outX
theorem isList_ne {h : Heap} {a L : Addr} {its : Array Value} {o : Obj} (x : h.IsList a its) (e : h.get? L = some o) (hd : ∀ xs n, o.data ≠ .seq xs n) : a ≠ L := by
  rintro rfl
  obtain ⟨o', e', _, n, d⟩ := x
  rw [e] at e'; cases e'
  exact hd _ _ d
theorem isTuple_ne {h : Heap} {a L : Addr} {its : Array Value} {o : Obj} (x : h.IsTuple a its) (e : h.get? L = some o) (hd : ∀ xs n, o.data ≠ .seq xs n) : a ≠ L := by
  rintro rfl
  obtain ⟨o', e', _, n, d⟩ := x
  rw [e] at e'; cases e'
  exact hd _ _ d
/-- one object that is no list and no tuple is changed: what values say stays -/
theorem VIn.off {h h' : Heap} {O O' : List Addr} {L : Addr} {o : Obj} (e : h.get? L = some o) (hd : ∀ xs n, o.data ≠ .seq xs n) (hf : ∀ vs, o.data ≠ .fields vs) (hs : Heap.SameBut L h h') (hO : ∀ a ∈ O', a ∈ O) {m : MV} {v : Value} (x : VIn h O m v) : VIn h' O' m v :=
  x.to (fun a its n l => ⟨l.ext fun o' e' => hs.extBut a o' (isList_ne l.l e hd) e', fun q => n (hO a q)⟩) (fun a _ n l => ⟨l.extBut hs.extBut (isTuple_ne l e hd), fun q => n (hO a q)⟩) (fun _ q => q.off e hf hs)
theorem VIns.off {h h' : Heap} {O O' : List Addr} {L : Addr} {o : Obj} (e : h.get? L = some o) (hd : ∀ xs n, o.data ≠ .seq xs n) (hf : ∀ vs, o.data ≠ .fields vs) (hs : Heap.SameBut L h h') (hO : ∀ a ∈ O', a ∈ O) {m : List MV} {v : List Value} (x : VIns h O m v) : VIns h' O' m v :=
  x.to (fun a its n l => ⟨l.ext fun o' e' => hs.extBut a o' (isList_ne l.l e hd) e', fun q => n (hO a q)⟩) (fun a _ n l => ⟨l.extBut hs.extBut (isTuple_ne l e hd), fun q => n (hO a q)⟩) (fun _ q => q.off e hf hs)
theorem plain_off {h h' : Heap} {L a : Addr} {o : Obj} {its : Array Value} (e : h.get? L = some o) (hd : ∀ xs n, o.data ≠ .seq xs n) (hs : Heap.SameBut L h h') (x : h.PlainList a its) : h'.PlainList a its :=
  x.extBut hs.extBut (isList_ne x.isList e hd)
theorem BIn.off {h h' : Heap} {O O' : List Addr} {L : Addr} {o : Obj} (e : h.get? L = some o) (hd : ∀ xs n, o.data ≠ .seq xs n) (hf : ∀ vs, o.data ≠ .fields vs) (hs : Heap.SameBut L h h') (hO : ∀ a ∈ O', a ∈ O) {b : Bd} (hI : ∀ a C d fs, b = .inst a C d fs → a ≠ L ∧ d ≠ L) {v : Value} (x : BIn h O b v) : BIn h' O' b v := by
  cases b with
  | inst a C d fs => exact ⟨x.1, x.2.off e hf hs (hI a C d fs rfl).1 (hI a C d fs rfl).2⟩
  | fz m => exact VIn.off e hd hf hs hO x
  | own a xs => obtain ⟨q, vs, p, r⟩ := x; exact ⟨q, vs, plain_off e hd hs p, r.off e hd hf hs hO⟩
theorem owned_nodup_fz {x : Str} {m : MV} : ∀ {σ : St}, (owned σ).Nodup → (owned (sput σ x (.fz m))).Nodup
  | [], _ => by simp [sput, owned]
  | (z, c) :: r, h => by
    by_cases hz : z = x
    · cases c <;> simp_all [sput, owned]
    · cases c with
      | fz _ => simp only [sput, hz, if_false, owned] at *; exact owned_nodup_fz h
      | inst _ _ _ _ => simp only [sput, hz, if_false, owned] at *; exact owned_nodup_fz h
      | own a xs =>
        simp only [sput, hz, if_false, owned, List.nodup_cons] at *
        exact ⟨fun q => h.1 (owned_sput q), owned_nodup_fz h.2⟩
theorem ok_off {h h' : Heap} {L : Addr} (hL : C.n₀ ≤ L) (hs : Heap.SameBut L h h') (x : C.ok h) : C.ok h' :=
  C.mono h h' (fun b o hb e => (hs.2 b (fun q => by subst q; exact absurd hb (Nat.not_lt.mpr hL))).trans e) x
theorem Rel.putLocal {X h h' : Heap} {x : Str} {m : MV} {v : Value} {mm : Str → Option Value} (R : Rel C X env σ h) (hk : env.kindOf x = some .local) (hn : h.Ns env.locals mm)
    (hn' : h'.Ns env.locals (fun y => if y = x then some v else mm y)) (hs : Heap.SameBut env.locals h h') (hv : VIn h (C.ex σ) m v) : Rel C X env (sput σ x (.fz m)) h' := by
  obtain ⟨o, es, ep, e, hd, _⟩ := id hn
  have hns : ∀ xs n, o.data ≠ .seq xs n := fun xs n q => by rw [hd] at q; cases q
  have hnf : ∀ vs, o.data ≠ .fields vs := fun vs q => by rw [hd] at q; cases q
  have hO : ∀ a ∈ owned (sput σ x (.fz m)), a ∈ owned σ := fun a ha => owned_sput ha
  have hE : ∀ a ∈ C.ex (sput σ x (.fz m)), a ∈ C.ex σ := fun a ha => List.mem_append.mpr ((List.mem_append.mp ha).imp (hO a) id)
  refine { base := ok_off R.nsN hs R.base, fr := ?_, kind := R.kind, glob := R.glob, vars := ?_, own := ?_, outer := ?_, insN := fun b hb => R.insN b (instA_sub.subset hb), insNd := R.insNd.sublist instA_sub, keepX := ?_, ns := ⟨_, hn'⟩, nsX := R.nsX, nsN := R.nsN, cells := ?_, apart := R.apart, ownX := fun a ha => R.ownX a (hO a ha), ownN := fun a ha => R.ownN a (hO a ha), ownNd := owned_nodup_fz R.ownNd, insX := R.insX.imp id fun q b hb => q b (instA_sub.subset hb), outX := R.outX }
  · intro ev hev
    obtain ⟨a, L, oL, hf, hN, ho, es', ep', hd'⟩ := R.fr ev hev
    by_cases hL : L = env.locals
    · subst hL
      obtain ⟨o2, es2, ep2, e2, d2, _⟩ := id hn'
      exact ⟨a, _, o2, hf, hN, e2, es2, ep2, d2⟩
    · exact ⟨a, L, oL, hf, hN, (hs.2 L hL).trans ho, es', ep', hd'⟩
  · intro y b hb
    rw [sget_sput] at hb
    by_cases hxy : x = y
    · subst hxy
      rw [if_pos rfl] at hb
      cases hb
      unfold VarIs
      rw [hk]
      exact ⟨_, v, hn', by simp, VIn.off e hns hnf hs hE hv⟩
    · rw [if_neg hxy] at hb
      have hy := R.vars y b hb
      have hI : ∀ a C d fs, b = .inst a C d fs → a ≠ env.locals ∧ d ≠ env.locals := fun a C' d fs q => by
        subst q; exact ⟨(R.insN a (instA_mem hb).1).2.1, (R.insN d (instA_mem hb).2).2.1⟩
      unfold VarIs at hy ⊢
      split at hy
      · obtain ⟨m2, v2, a1, a2, a3⟩ := hy
        obtain rfl := Ns.unique hn a1
        exact ⟨_, v2, hn', by rw [if_neg (Ne.symm hxy)]; exact a2, BIn.off e hns hnf hs hE hI a3⟩
      · obtain ⟨c, v2, a1, a2, a3⟩ := hy
        refine ⟨c, v2, a1, a2.sameBut hs ?_, BIn.off e hns hnf hs hE hI a3⟩
        rintro rfl
        obtain ⟨oc, ec, dc⟩ := a2
        rw [e] at ec; cases ec; rw [hd] at dc; cases dc
      · obtain ⟨c, v2, a1, a2, a3⟩ := hy
        refine ⟨c, v2, a1, a2.sameBut hs ?_, BIn.off e hns hnf hs hE hI a3⟩
        rintro rfl
        obtain ⟨oc, ec, dc⟩ := a2
        rw [e] at ec; cases ec; rw [hd] at dc; cases dc
      · obtain ⟨v2, a3⟩ := hy
        exact ⟨v2, BIn.off e hns hnf hs hE hI a3⟩
  · intro a ha
    obtain ⟨vs, p⟩ := R.own a (hO a ha)
    exact ⟨vs, plain_off e hns hs p⟩
  · intro a ha
    obtain ⟨vs, p⟩ := R.outer a ha
    exact ⟨vs, plain_off e hns hs p⟩
  · intro b o' eb hB
    have hbL : b ≠ env.locals := by rintro rfl; rw [R.nsX] at eb; cases eb
    obtain ⟨k1, o2, k2, k3⟩ := R.keepX b o' eb hB
    exact ⟨fun q => (hs.2 b hbL).trans (k1 q), o2, (hs.2 b hbL).trans k2, k3⟩
  · intro y c hc
    obtain ⟨⟨v2, a2⟩, a3, a4⟩ := R.cells y c hc
    refine ⟨⟨v2, a2.sameBut hs ?_⟩, a3, a4⟩
    rintro rfl
    obtain ⟨oc, ec, dc⟩ := a2
    rw [e] at ec; cases ec; rw [hd] at dc; cases dc
theorem Rel.putCell {X h h' : Heap} {x : Str} {m : MV} {v : Value} {c : Addr} {v₀ : Option Value} (R : Rel C X env σ h) (hk : env.kindOf x = some .cell) (hc : env.cells.lookup x = some c) (hn : h.IsCell c v₀)
    (hn' : h'.IsCell c (some v)) (hs : Heap.SameBut c h h') (hv : VIn h (C.ex σ) m v) : Rel C X env (sput σ x (.fz m)) h' := by
  obtain ⟨o, e, hd⟩ := id hn
  have hns : ∀ xs n, o.data ≠ .seq xs n := fun xs n q => by rw [hd] at q; cases q
  have hnf : ∀ vs, o.data ≠ .fields vs := fun vs q => by rw [hd] at q; cases q
  have hO : ∀ a ∈ owned (sput σ x (.fz m)), a ∈ owned σ := fun a ha => owned_sput ha
  have hE : ∀ a ∈ C.ex (sput σ x (.fz m)), a ∈ C.ex σ := fun a ha => List.mem_append.mpr ((List.mem_append.mp ha).imp (hO a) id)
  have hcm := mem_of_lookup hc
  obtain ⟨_, hcX, hcN⟩ := R.cells x c hc
  obtain ⟨mm, hL⟩ := R.ns
  have hcL : c ≠ env.locals := by
    rintro rfl
    obtain ⟨o2, es, ep, e2, d2, _⟩ := hL
    rw [e] at e2; cases e2; rw [hd] at d2; cases d2
  refine { base := ok_off hcN hs R.base, fr := ?_, kind := R.kind, glob := R.glob, vars := ?_, own := ?_, outer := ?_, insN := fun b hb => R.insN b (instA_sub.subset hb), insNd := R.insNd.sublist instA_sub, keepX := ?_, ns := ⟨mm, hL.sameBut hs (Ne.symm hcL)⟩, nsX := R.nsX, nsN := R.nsN, cells := ?_, apart := R.apart, ownX := fun a ha => R.ownX a (hO a ha), ownN := fun a ha => R.ownN a (hO a ha), ownNd := owned_nodup_fz R.ownNd, insX := R.insX.imp id fun q b hb => q b (instA_sub.subset hb), outX := R.outX }
  · intro ev hev
    obtain ⟨a, L, oL, hf, hN, ho, es', ep', hd'⟩ := R.fr ev hev
    have hL : L ≠ c := by rintro rfl; rw [e] at ho; cases ho; rw [hd] at hd'; cases hd'
    exact ⟨a, L, oL, hf, hN, (hs.2 L hL).trans ho, es', ep', hd'⟩
  · intro y b hb
    rw [sget_sput] at hb
    by_cases hxy : x = y
    · subst hxy
      rw [if_pos rfl] at hb
      cases hb
      unfold VarIs
      rw [hk]
      exact ⟨c, v, hc, hn', VIn.off e hns hnf hs hE hv⟩
    · rw [if_neg hxy] at hb
      have hy := R.vars y b hb
      have hI : ∀ {v}, BIn h (C.ex σ) b v → ∀ a C d fs, b = .inst a C d fs → a ≠ c ∧ d ≠ c := fun {v} x a C' d fs q => by
        subst q
        obtain ⟨_, ⟨sl, ea⟩, _, mA, ⟨od, es, ep, ed, dd, _⟩, _⟩ := x
        constructor
        · rintro rfl; rw [e] at ea; cases ea; cases hd
        · rintro rfl; rw [e] at ed; cases ed; rw [hd] at dd; cases dd
      unfold VarIs at hy ⊢
      have key : ∀ c2 v2, env.cells.lookup y = some c2 → h.IsCell c2 (some v2) → h'.IsCell c2 (some v2) := fun c2 v2 a1 a2 => a2.sameBut hs fun q => by
        subst q
        exact hxy (name_of_addr R.apart hcm (mem_of_lookup a1))
      split at hy
      · obtain ⟨m2, v2, a1, a2, a3⟩ := hy
        exact ⟨m2, v2, a1.sameBut hs (Ne.symm hcL), a2, BIn.off e hns hnf hs hE (hI a3) a3⟩
      · obtain ⟨c2, v2, a1, a2, a3⟩ := hy
        exact ⟨c2, v2, a1, key c2 v2 a1 a2, BIn.off e hns hnf hs hE (hI a3) a3⟩
      · obtain ⟨c2, v2, a1, a2, a3⟩ := hy
        exact ⟨c2, v2, a1, key c2 v2 a1 a2, BIn.off e hns hnf hs hE (hI a3) a3⟩
      · obtain ⟨v2, a3⟩ := hy
        exact ⟨v2, BIn.off e hns hnf hs hE (hI a3) a3⟩
  · intro a ha
    obtain ⟨vs, p⟩ := R.own a (hO a ha)
    exact ⟨vs, plain_off e hns hs p⟩
  · intro a ha
    obtain ⟨vs, p⟩ := R.outer a ha
    exact ⟨vs, plain_off e hns hs p⟩
  · intro b o' eb hB
    have hbL : b ≠ c := by rintro rfl; rw [hcX] at eb; cases eb
    obtain ⟨k1, o2, k2, k3⟩ := R.keepX b o' eb hB
    exact ⟨fun q => (hs.2 b hbL).trans (k1 q), o2, (hs.2 b hbL).trans k2, k3⟩
  · intro y c2 hc2
    obtain ⟨⟨v2, a2⟩, a3, a4⟩ := R.cells y c2 hc2
    by_cases q : c2 = c
    · subst q; exact ⟨⟨_, hn'⟩, a3, a4⟩
    · exact ⟨⟨v2, a2.sameBut hs q⟩, a3, a4⟩
/-- a name may be stored: a local, or a cell of the frame's own -/
noncomputable def Stores (env : Env) (x : Str) : Prop := env.kindOf x = some .local ∨ (env.kindOf x = some .cell ∧ ∃ c, env.cells.lookup x = some c)
theorem store_ {X : Heap} {x : Str} {m : MV} {v : Value} {s : Shared} {Q : Unit → Shared → Prop} {E : Value → Shared → Prop} (R : Rel C X env σ s.heap) (hx : Stores env x) (hv : VIn s.heap (C.ex σ) m v)
    (h : ∀ h' tk, Rel C X env (sput σ x (.fz m)) h' → Q () { s with heap := h', toks := tk }) : wpAny C.M C.A (storeName env x v) Q E s := by
  rcases hx with hk | ⟨hk, c, hc⟩
  · obtain ⟨mm, hn⟩ := R.ns
    refine wpAny_storeName_local hk hn (fun h' hn' hs => h h' _ (R.putLocal hk hn hn' hs hv)) (by rw [R.kind]; rfl)
  · obtain ⟨⟨v₀, hn⟩, _⟩ := R.cells x c hc
    exact wpAny_storeName_cell R.kind hk hc hn fun h' hn' hs => h h' _ (R.putCell hk hc hn hn' hs hv)
/-- the post, named -/
theorem wpSs_gen {sts : List Stmt} {Q : FM → St → Prop} (h : ∀ Q' : FM → St → Prop, (∀ fm τ, Q fm τ → Q' fm τ) → wpSs C env sts σ Q') : wpSs C env sts σ Q := h Q fun _ _ q => q
theorem wpSs_nil {Q : FM → St → Prop} (h : Q .next σ) : wpSs C env [] σ Q := fun X s R => wpAny_execs_nil ⟨s.heap, s.toks, rfl, .next, σ, trivial, R, h⟩
theorem wpSs_cons {st : Stmt} {sts : List Stmt} {Q : FM → St → Prop} (h : wpS C env st σ fun fm σ' => match fm with | .next => wpSs C env sts σ' Q | fm => Q fm σ') : wpSs C env (st :: sts) σ Q := fun X s R => by
  refine wpAny_execs_cons (wpAny_mono (h X s R) (fun fl s' p => ?_) fun _ _ h => h)
  obtain ⟨h', tk, rfl, fm, σ', fr, R', q⟩ := p
  cases fl with
  | next =>
    cases fm with
    | next =>
      refine wpAny_mono (q X _ R') (fun fl2 s2 p2 => ?_) fun _ _ h => h
      obtain ⟨h2, tk2, rfl, _, _, r1, r2, r3⟩ := p2
      exact ⟨h2, tk2, rfl, _, _, r1, r2, r3⟩
    | _ => exact fr.elim
  | brk => cases fm <;> first | exact fr.elim | exact ⟨h', tk, rfl, _, σ', fr, R', q⟩
  | cont => cases fm <;> first | exact fr.elim | exact ⟨h', tk, rfl, _, σ', fr, R', q⟩
  | ret v => cases fm <;> first | exact fr.elim | exact ⟨h', tk, rfl, _, σ', fr, R', q⟩
theorem wpS_assign {x : Str} {p' p : Pos} {e : Expr} {m : MV} {Q : FM → St → Prop} (he : Ev C env σ e m) (hx : Stores env x) (hs : swapsWith e (some (.Name x p')) p.line env = pure false)
    (h : Q .next (sput σ x (.fz m))) : wpS C env (.Assign [.Name x p'] e p) σ Q := fun X s R => by
  refine wpAny_Assign_Name (wpAny_mono (he s R.toRelE) (fun v s₁ h₁ => ?_) fun _ _ h => h) hs
  obtain ⟨⟨h1, tk1, rfl, k⟩, hv⟩ := h₁
  exact store_ (R.ks k) hx hv fun h' tk R' => ⟨h', tk, rfl, .next, _, trivial, R', h⟩
theorem wpS_if {t : Expr} {b : Bool} {body orelse : List Stmt} {p : Pos} {Q : FM → St → Prop} (ht : EvB C env σ t b) (h1 : b = true → wpSs C env body σ Q) (h2 : b = false → wpSs C env orelse σ Q) : wpS C env (.If t body orelse p) σ Q := fun X s R => by
  refine wpAny_If (wpAny_mono (ht s R.toRelE) (fun b' s₁ h₁ => ?_) fun _ _ h => h)
  obtain ⟨⟨h1', tk1, rfl, k⟩, rfl⟩ := h₁
  have fix : ∀ sts, wpSs C env sts σ Q → wpAny C.M C.A (execs sts env) (Post C X env Q s) F { s with heap := h1', toks := tk1 } := fun sts hq => by
    refine wpAny_mono (hq X _ (R.ks k)) (fun fl s2 p2 => ?_) fun _ _ h => h
    obtain ⟨h2, tk2, rfl, _, _, r1, r2, r3⟩ := p2
    exact ⟨h2, tk2, rfl, _, _, r1, r2, r3⟩
  cases b' with
  | true => exact fix _ (h1 rfl)
  | false => exact fix _ (h2 rfl)
theorem wpS_break {p : Pos} {Q : FM → St → Prop} (h : Q .brk σ) : wpS C env (.Break p) σ Q := fun X s R => fun _ _ _ => ⟨s.heap, s.toks, rfl, .brk, σ, trivial, R, h⟩
theorem wpS_continue {p : Pos} {Q : FM → St → Prop} (h : Q .cont σ) : wpS C env (.Continue p) σ Q := fun X s R => fun _ _ _ => ⟨s.heap, s.toks, rfl, .cont, σ, trivial, R, h⟩
theorem wpS_return {e : Expr} {p : Pos} {m : MV} {Q : FM → St → Prop} (he : Ev C env σ e m) (h : Q (.ret m) σ) : wpS C env (.Return (some e) p) σ Q := fun X s R => by
  refine wpAny_Return_some (wpAny_mono (he s R.toRelE) (fun v s₁ h₁ => ?_) fun _ _ h => h)
  obtain ⟨⟨h1, tk1, rfl, k⟩, hv⟩ := h₁
  exact ⟨h1, tk1, rfl, .ret m, σ, hv, R.ks k, h⟩
end
end Mine
namespace Mine
open PySem PySem.W PyProof.Rows
noncomputable def VTs (h : Heap) (O : List Addr) : List MV → List Value → Prop
  | [], vs => vs = []
  | x :: xs, vs => ∃ v r, vs = v :: r ∧ VT h O x v ∧ VTs h O xs r
section
variable {C : Cx} {env : Env} {σ : St}
/-- a list of expressions, none starred -/
inductive EvTs (C : Cx) (env : Env) (σ : St) : List Expr → List MV → Prop
  | nil : EvTs C env σ [] []
  | cons {e es m ms} : EvT C env σ e m → (∀ x p, e ≠ .Starred x p) → EvTs C env σ es ms → EvTs C env σ (e :: es) (m :: ms)
inductive Evs (C : Cx) (env : Env) (σ : St) : List Expr → List MV → Prop
  | nil : Evs C env σ [] []
  | cons {e es m ms} : Ev C env σ e m → (∀ x p, e ≠ .Starred x p) → Evs C env σ es ms → Evs C env σ (e :: es) (m :: ms)
theorem starEach_cons {e : Expr} {es : List Expr} (h : ∀ x p, e ≠ .Starred x p) : starEach (e :: es) env = (false, eval e env) :: starEach es env := by
  cases e <;> first | rfl | exact absurd rfl (h _ _)
theorem backTo_cons {pos : Pos} {t : Sem Value} {r : List (Bool × Sem Value)} : backTo pos ((false, t) :: r) = (false, t) :: backTo pos r := rfl
theorem spliced_ {pos : Pos} : ∀ {es : List Expr} {ms : List MV}, EvTs C env σ es ms → ∀ s, RelE C env σ s.heap → wpAny C.M C.A (spliced (backTo pos (starEach es env))) (fun vs s' => KSs C.S s s' ∧ VTs s'.heap (C.ex σ) ms vs) F s
  | _, _, .nil, s, R => Calls.spliced_nil ⟨.refl s, rfl⟩
  | _, _, .cons h hn r, s, R => by
    rw [starEach_cons hn, backTo_cons]
    refine Calls.spliced_cons (wpAny_mono (h s R) (fun v s₁ h₁ => ?_) fun _ _ x => x)
    refine wpAny_mono (spliced_ r s₁ (R.ks h₁.1.ks)) (fun vs s₂ h₂ => ?_) fun _ _ x => x
    exact ⟨h₁.1.trans h₂.1, v, vs, rfl, h₁.2.ks h₂.1.ks, h₂.2⟩
theorem splicedV_ {pos : Pos} : ∀ {es : List Expr} {ms : List MV}, Evs C env σ es ms → ∀ s, RelE C env σ s.heap → wpAny C.M C.A (spliced (backTo pos (starEach es env))) (fun vs s' => KSs C.S s s' ∧ VIns s'.heap (C.ex σ) ms vs) F s
  | _, _, .nil, s, R => Calls.spliced_nil ⟨.refl s, rfl⟩
  | _, _, .cons h hn r, s, R => by
    rw [starEach_cons hn, backTo_cons]
    refine Calls.spliced_cons (wpAny_mono (h s R) (fun v s₁ h₁ => ?_) fun _ _ x => x)
    refine wpAny_mono (splicedV_ r s₁ (R.ks h₁.1.ks)) (fun vs s₂ h₂ => ?_) fun _ _ x => x
    exact ⟨h₁.1.trans h₂.1, v, vs, rfl, h₁.2.ks h₂.1.ks, h₂.2⟩
theorem plain_args {pos : Pos} : ∀ {es : List Expr} {ms : List MV}, EvTs C env σ es ms → (backTo pos (starEach es env)).any (·.1) = false ∧ (backTo pos (starEach es env)).all (fun x => !x.1) = true ∧ (backTo pos (starEach es env)).length = es.length
  | _, _, .nil => ⟨rfl, rfl, rfl⟩
  | _, _, .cons h hn r => by
    rw [starEach_cons hn, backTo_cons]
    obtain ⟨a, b, c⟩ := plain_args r (pos := pos)
    exact ⟨by simp [a], by simp [b], by simp [c]⟩
theorem evalArgs_ {pos : Pos} {f : Value} {es : List Expr} {ms : List MV} (x : EvTs C env σ es ms) (s : Shared) (R : RelE C env σ s.heap) :
    wpAny C.M C.A (evalArgs f true (backTo pos (starEach es env)) []) (fun a s' => KSs C.S s s' ∧ a.kw = [] ∧ VTs s'.heap (C.ex σ) ms a.pos) F s := by
  unfold evalArgs
  have h := spliced_ (pos := pos) x s R
  cases x with
  | nil =>
    refine wpAny_bind (Calls.spliced_nil ?_)
    exact wpAny_bind (wpAny_pure (wpAny_holding (wpAny_bind (wpAny_pure (wpAny_bind (wpAny_pure (wpAny_pure ⟨.refl s, rfl, rfl⟩)))))))
  | cons a hn r =>
    rw [starEach_cons hn, backTo_cons] at h ⊢
    show wpAny _ _ (spliced _ >>= _) _ _ s
    refine wpAny_bind (wpAny_mono h (fun vs s' h' => ?_) fun _ _ x => x)
    refine wpAny_holding ?_
    exact wpAny_bind (wpAny_pure (wpAny_bind (wpAny_pure (wpAny_pure ⟨h'.1, rfl, h'.2⟩))))
/-- a name of the text's top, or a built-in name -/
noncomputable def GV (C : Cx) (x : Str) (v : Value) : Prop := ∀ h, C.ok h → (∃ mg, h.Ns mainGlobals mg ∧ mg x = some v) ∨ (∃ mg mb, h.Ns mainGlobals mg ∧ mg x = Option.none ∧ h.Ns builtinsNs mb ∧ mb x = some v)
theorem ev_global {x : Str} {v : Value} {p : Pos} (hg : GV C x v) (hk : env.kindOf x = some .globalImplicit) (hd : (x == ("__debug__" : Str)) = false) : Ev C env σ (.Name x p) (.obj v) := fun s R => by
  rcases hg _ R.base with ⟨mg, a, b⟩ | ⟨mg, mb, a, b, c, d⟩
  · exact Calls.Name_function_global R.kind hk (Calls.loadGlobal_global (by rw [R.glob.1]; exact a) b ⟨.refl s, rfl⟩) hd
  · exact Calls.Name_function_global R.kind hk (Calls.loadGlobal_builtin (by rw [R.glob.1]; exact a) b (by rw [R.glob.2]; exact c) d ⟨.refl s, rfl⟩) hd
/-- what a built-in called with plain arguments yields -/
noncomputable def Fn (C : Cx) (f : Value) (args : List MV) (r : MV) : Prop :=
  ∀ s O vals, (∀ x ∈ O, ∃ o, s.heap.get? x = some o) → VTs s.heap O args vals → wpAny C.M C.A (call f vals) (fun v s' => KSs [] s s' ∧ VIn s'.heap O r v) F s
theorem ev_call_b {x : Str} {id : String} {p pos : Pos} {es : List Expr} {ms : List MV} {r : MV} (hx : Ev C env σ (.Name x p) (.obj (.builtin id))) (ha : EvTs C env σ es ms) (hf : Fn C (.builtin id) ms r) :
    Ev C env σ (.Call (.Name x p) es [] pos) r := fun s R => by
  show wpAny _ _ (do callWith pos (← eval (.Name x p) env) [] (backTo pos (starEach es env)) (backToKw pos (keywordEach [] env))) _ _ s
  refine wpAny_bind (wpAny_mono (hx s R) (fun v s₁ h₁ => ?_) fun _ _ x => x)
  obtain ⟨k₁, rfl⟩ := h₁
  refine Calls.callWith_builtin (plain_args ha).1 (wpAny_mono (evalArgs_ ha s₁ (R.ks k₁.ks)) (fun a s₂ h₂ => ?_) fun _ _ x => x)
  obtain ⟨k₂, hkw, hv⟩ := h₂
  rw [hkw]
  refine wpAny_mono (hf s₂ _ _ ((R.ks k₁.ks).ks k₂.ks).exO hv) (fun v s₃ h₃ => ?_) fun _ _ x => x
  exact ⟨(k₁.trans k₂).trans (h₃.1.mono nil_sub), h₃.2⟩
theorem callWith_typ {pos : Pos} {T : String} {args : List (Bool × Sem Value)} {Q : Value → Shared → Prop} {s : Shared} (hplain : args.any (·.1) = false)
    (h : wpAny C.M C.A (evalArgs (.type T) true args []) (fun a s₁ => wpAny C.M C.A (call (.type T) a.pos a.kw) Q F s₁) F s) : wpAny C.M C.A (callWith pos (.type T) [] args []) Q F s := by
  unfold callWith
  refine wpAny_bind (wpAny_holding (wpAny_mono h (fun a s₁ h₁ => wpAny_bind (wpAny_standAt ?_)) fun _ _ x => x))
  simp only [hplain, List.any_nil, Bool.or_false]
  refine wpAny_bind (wpAny_pure ?_)
  exact wpAny_bind (wpAny_mono h₁ (fun r s₂ hr => wpAny_bind (wpAny_holding (wpAny_point (wpAny_pure hr)))) fun _ _ x => x)
theorem ev_call_t {x : Str} {T : String} {p pos : Pos} {es : List Expr} {ms : List MV} {r : MV} (hx : Ev C env σ (.Name x p) (.obj (.type T))) (ha : EvTs C env σ es ms) (hf : Fn C (.type T) ms r) :
    Ev C env σ (.Call (.Name x p) es [] pos) r := fun s R => by
  show wpAny _ _ (do callWith pos (← eval (.Name x p) env) [] (backTo pos (starEach es env)) (backToKw pos (keywordEach [] env))) _ _ s
  refine wpAny_bind (wpAny_mono (hx s R) (fun v s₁ h₁ => ?_) fun _ _ x => x)
  obtain ⟨k₁, rfl⟩ := h₁
  refine callWith_typ (plain_args ha).1 (wpAny_mono (evalArgs_ ha s₁ (R.ks k₁.ks)) (fun a s₂ h₂ => ?_) fun _ _ x => x)
  obtain ⟨k₂, hkw, hv⟩ := h₂
  rw [hkw]
  refine wpAny_mono (hf s₂ _ _ ((R.ks k₁.ks).ks k₂.ks).exO hv) (fun v s₃ h₃ => ?_) fun _ _ x => x
  exact ⟨(k₁.trans k₂).trans (h₃.1.mono nil_sub), h₃.2⟩
/-- a method of a value -/
noncomputable def MethAt (C : Cx) (name : Str) (a : MV) (id : String) : Prop :=
  ∀ s O va, VT s.heap O a va → ∀ (pl : Sem Bool) (Q : Value × List Value → Shared → Prop), Q (.builtin id, [va]) s → wpAny C.M C.A (getMethod va name pl) Q F s
theorem ev_meth {o : Expr} {name : Str} {id : String} {apos pos : Pos} {es : List Expr} {a : MV} {ms : List MV} {r : MV} (ho : EvT C env σ o a) (ha : EvTs C env σ es ms) (hm : MethAt C name a id) (hf : Fn C (.builtin id) (a :: ms) r)
    (hbase : attributeBase o name env (eval o env) = eval o env) (hline : (apos.endLine == pos.line) = true) (hfew : es.length < 29) :
    Ev C env σ (.Call (.Attribute o name apos) es [] pos) r := fun s R => by
  rw [arm_eval_Call, hbase]
  refine wpAny_bind (wpAny_mono (ho s R) (fun ov s₁ h₁ => ?_) fun _ _ x => x)
  obtain ⟨k₁, v₁⟩ := h₁
  refine wpAny_bind (wpAny_standAt ?_)
  have hform : methodCallForm (es.length + ([] : List Keyword).length) (backTo pos (starEach es env)) (backToKw pos (keywordEach [] env)) = true := by
    unfold methodCallForm
    rw [(plain_args ha).2.1]
    show (true && true && decide (es.length + 0 + 0 < 30)) = true
    simp; omega
  have hpos : methodCallPos true o env apos pos = pure pos := by unfold methodCallPos; simp [hline]
  unfold methodCall
  rw [hform]
  refine wpAny_bind (wpAny_holding (hm s₁ _ ov v₁ _ _ ?_))
  refine wpAny_bind (wpAny_of_eq hpos ?_)
  refine Calls.callWith_builtin (plain_args ha).1 (wpAny_mono (evalArgs_ ha s₁ (R.ks k₁.ks)) (fun a s₂ h₂ => ?_) fun _ _ x => x)
  obtain ⟨k₂, hkw, hv⟩ := h₂
  rw [hkw]
  refine wpAny_mono (hf s₂ _ ([ov] ++ a.pos) ((R.ks k₁.ks).ks k₂.ks).exO ⟨ov, a.pos, rfl, v₁.ks k₂.ks, hv⟩) (fun v s₃ h₃ => ?_) fun _ _ x => x
  exact ⟨(k₁.trans k₂).trans (h₃.1.mono nil_sub), h₃.2⟩
/-- an item at a place -/
noncomputable def Item (C : Cx) (a i r : MV) : Prop :=
  ∀ s O va vi, (∀ x ∈ O, ∃ o, s.heap.get? x = some o) → VT s.heap O a va → VT s.heap O i vi →
    ∃ T id, typeLookup (.type T) "__getitem__" = pure (some (.builtin id)) ∧ s.TypeIs va T ∧ wpAny C.M C.A (getItem va vi) (fun v s' => KSs [] s s' ∧ VIn s'.heap O r v) F s
theorem sub_ops (slice : Expr) (o i : Value) : ∃ ops, subscripted slice false o i = operate ops (getItem o i) := by
  unfold subscripted
  split
  · exact ⟨_, rfl⟩
  · rename_i h; cases h
  · exact ⟨_, rfl⟩
theorem tail_ {value slice : Expr} {o i : Value} {T id : String} {Q : Value → Shared → Prop} {s : Shared} (hl : typeLookup (.type T) "__getitem__" = pure (some (.builtin id))) (hT : s.TypeIs o T)
    (h : wpAny C.M C.A (getItem o i) Q F s) : wpAny C.M C.A (subscriptTail value slice o i) Q F s := by
  obtain ⟨ops, hs⟩ := sub_ops slice o i
  unfold subscriptTail
  refine wpAny_bind ?_
  rw [getitemInPython_of_ne hT.not_modules]
  refine wpAny_bind (wpAny_specialOf hT hl ?_)
  have fin : wpAny C.M C.A (subscripted slice false o i) (fun r s₃ => wpAny C.M C.A (letTemporaryGo value o r >>= fun _ => pure r) Q F s₃) F s := by
    rw [hs]
    exact wpAny_operating (wpAny_mono h (fun r s₃ h₃ => wpAny_bind (wpAny_letTemporaryGo (wpAny_pure h₃))) fun _ _ x => x)
  first
    | exact wpAny_pure (wpAny_bind fin)
    | exact wpAny_bind (wpAny_pure (wpAny_bind fin))
    | exact wpAny_bind fin
theorem ev_sub {value slice : Expr} {p : Pos} {a i r : MV} (hv : EvT C env σ value a) (hi : EvT C env σ slice i) (ho : Item C a i r) : Ev C env σ (.Subscript value slice p) r := fun s R => by
  refine Subscript_ (wpAny_mono (hv s R) (fun va s₁ h₁ => ?_) fun _ _ h => h)
  obtain ⟨k₁, v₁⟩ := h₁
  refine wpAny_mono (hi s₁ (R.ks k₁.ks)) (fun vb s₂ h₂ => ?_) fun _ _ h => h
  obtain ⟨k₂, v₂⟩ := h₂
  obtain ⟨T, id, hl, hT, hg⟩ := ho s₂ _ va vb ((R.ks k₁.ks).ks k₂.ks).exO (v₁.ks k₂.ks) v₂
  refine tail_ hl hT (wpAny_mono hg (fun v s₃ h₃ => ?_) fun _ _ h => h)
  exact ⟨(k₁.trans k₂).trans (h₃.1.mono nil_sub), h₃.2⟩
end
end Mine
namespace Mine
open PySem PySem.W PyProof.Rows
section
variable {C : Cx} {env : Env} {σ : St}
theorem item_str_ {x : Str} {i : Int} (hr : fitsSsize i = true) (h1 : -(x.length : Int) ≤ i) (h2 : i < x.length) : Item C (.str x) (.int i) (.str (Txt.item x i)) := fun s O va vi _ ha hi => by
  obtain ⟨t, rfl⟩ := ha; obtain ⟨u, rfl⟩ := hi
  obtain ⟨T, id, a, b, c⟩ := SB.item (prog := C.prog) (w := C.w) (A := C.A) (E := F) (s := s) (t := t) (u := u) (Q := fun v s' => KSs [] s s' ∧ VIn s'.heap O (.str (Txt.item x i)) v) hr (charAt_isSome h1 h2) ⟨.tok s _, _, rfl⟩
  exact ⟨T, id, a, b, c⟩
theorem item_list_ {xs : List MV} {i : Int} {m : MV} (h0 : 0 ≤ i) (hf : i < 2 ^ 63) (hx : xs[i.toNat]? = some m) : Item C (.list xs) (.int i) m := fun s O va vi _ ha hi => by
  obtain ⟨a, vs, rfl, ⟨l, _⟩, r⟩ := ha; obtain ⟨u, rfl⟩ := hi
  obtain ⟨v, hv, hm⟩ := r.get hx
  exact ⟨"list", _, slot_list_getitem.lookup, l.typeIs, wpAny_getItem_list l h0 hf (by simpa using hv) ⟨.refl s, hm⟩⟩
theorem item_neg_ {xs : List MV} {i : Int} {m : MV} (h0 : i < 0) (h1 : -(xs.length : Int) ≤ i) (hf : -(2 ^ 63) ≤ i) (hx : xs[(i + xs.length).toNat]? = some m) : Item C (.list xs) (.int i) m := fun s O va vi _ ha hi => by
  obtain ⟨a, vs, rfl, ⟨l, _⟩, r⟩ := ha; obtain ⟨u, rfl⟩ := hi
  obtain ⟨v, hv, hm⟩ := r.get hx
  have hl := r.length
  exact ⟨"list", _, slot_list_getitem.lookup, l.typeIs, wpAny_getItem_list_neg l h0 (by simpa [hl] using h1) hf (by simpa [hl] using hv) ⟨.refl s, hm⟩⟩
/-- a part of a slice -/
inductive EvP (C : Cx) (env : Env) (σ : St) : Option Expr → Option Int → Prop
  | none : EvP C env σ .none .none
  | some {e : Expr} {k : Int} : EvT C env σ e (.int k) → EvP C env σ (.some e) (.some k)
noncomputable def SliceOf (C : Cx) (a : MV) (lo hi : Option Int) (r : MV) : Prop :=
  ∀ s O va vl vu sl, (∀ x ∈ O, ∃ o, s.heap.get? x = some o) → VT s.heap O a va → IsPart vl lo → IsPart vu hi → s.heap.get? sl = some { cls := .type "slice", data := .fields #[vl, vu, .none] } →
    ∃ T id, typeLookup (.type T) "__getitem__" = pure (some (.builtin id)) ∧ s.TypeIs va T ∧ wpAny C.M C.A (getItem va (.ref sl)) (fun v s' => KSs [] s s' ∧ VIn s'.heap O r v) F s
theorem evPart_ {e : Option Expr} {k : Option Int} (h : EvP C env σ e k) (s : Shared) (R : RelE C env σ s.heap) : wpAny C.M C.A (evalPart e env) (fun v s' => KSs C.S s s' ∧ IsPart v k) F s := by
  cases h with
  | none => rw [evalPart_none]; exact wpAny_pure ⟨.refl s, .none⟩
  | some h =>
    rw [evalPart_some]
    refine wpAny_mono (h s R) (fun v s' h' => ?_) fun _ _ x => x
    obtain ⟨k', t, rfl⟩ := h'
    exact ⟨k', .int _ _⟩
theorem ev_slice {value : Expr} {l u : Option Expr} {p pos : Pos} {a r : MV} {lo hi : Option Int} (hv : EvT C env σ value a) (hl : EvP C env σ l lo) (hu : EvP C env σ u hi) (ho : SliceOf C a lo hi r) :
    Ev C env σ (.Subscript value (.Slice l u Option.none p) pos) r := fun s R => by
  refine Subscript_ (wpAny_mono (hv s R) (fun va s₁ h₁ => ?_) fun _ _ h => h)
  obtain ⟨k₁, v₁⟩ := h₁
  have R₁ := R.ks k₁.ks
  refine wpAny_Slice (wpAny_mono (evPart_ hl s₁ R₁) (fun vl s₂ h₂ => ?_) fun _ _ h => h)
  have R₂ := R₁.ks h₂.1.ks
  refine wpAny_mono (evPart_ hu s₂ R₂) (fun vu s₃ h₃ => ?_) fun _ _ h => h
  have R₃ := R₂.ks h₃.1.ks
  rw [evalPart_none]
  refine wpAny_pure ?_
  have k₄ : KSs C.S s₃ { s₃ with heap := s₃.heap.push { cls := .type "slice", data := .fields #[vl, vu, .none] } } := ⟨_, s₃.toks, rfl, .of_keep fun _ _ e => Heap.get?_push_of_some _ e⟩
  have kk := (k₁.trans h₂.1).trans (h₃.1.trans k₄)
  obtain ⟨T, id, hl, hT, hg⟩ := ho { s₃ with heap := s₃.heap.push { cls := .type "slice", data := .fields #[vl, vu, .none] } } _ va vl vu _ (R₃.ks k₄.ks).exO (v₁.ks ((h₂.1.trans h₃.1).trans k₄).ks) h₂.2 h₃.2 (Heap.get?_push_size _ rfl)
  refine tail_ hl hT (wpAny_mono hg (fun v s₃ h₃ => ?_) fun _ _ h => h)
  exact ⟨kk.trans (h₃.1.mono nil_sub), h₃.2⟩
theorem slice_str_ {x : Str} {lo hi : Option Int} (hsz : x.length ≤ sizeLine) : SliceOf C (.str x) lo hi (.str (Txt.slice x lo hi)) := fun s O va vl vu sl _ ha pl pu hs => by
  obtain ⟨t, rfl⟩ := ha
  obtain ⟨l, rfl, rfl⟩ : ∃ l : Option (Int × Tok), vl = partValue l ∧ lo = l.map (·.1) := by
    cases pl with
    | none => exact ⟨.none, rfl, rfl⟩
    | int i t => exact ⟨some (i, t), rfl, rfl⟩
  obtain ⟨u, rfl, rfl⟩ : ∃ l : Option (Int × Tok), vu = partValue l ∧ hi = l.map (·.1) := by
    cases pu with
    | none => exact ⟨.none, rfl, rfl⟩
    | int i t => exact ⟨some (i, t), rfl, rfl⟩
  refine ⟨"str", _, F.slot_str_getitem.lookup, typeIs_str _ _ _, wpAny_getItem_str_slice (l := l) (u := u) (st := .none) ⟨_, hs, rfl, rfl⟩ rfl ?_⟩
  exact post_val_or_str ⟨Nat.le_trans (Txt.slice_le x _ _) hsz, fun t' k => ⟨.tok s _, _, rfl⟩⟩
noncomputable def lslice {α : Type} (xs : List α) (lo hi : Option Int) : List α := (xs.drop (lo.elim 0 (clipAt xs.length))).take (hi.elim xs.length (clipAt xs.length) - lo.elim 0 (clipAt xs.length))
theorem VIns.drop {h : Heap} {O : List Addr} : ∀ (k : Nat) {ms : List MV} {vs : List Value}, VIns h O ms vs → VIns h O (ms.drop k) (vs.drop k)
  | 0, _, _, x => x
  | k + 1, [], vs, x => by rw [show vs = [] from x]; rfl
  | k + 1, m :: ms, _, ⟨v, r, e, a, b⟩ => by rw [e]; exact VIns.drop k b
theorem VIns.take {h : Heap} {O : List Addr} : ∀ (k : Nat) {ms : List MV} {vs : List Value}, VIns h O ms vs → VIns h O (ms.take k) (vs.take k)
  | 0, _, _, x => rfl
  | k + 1, [], vs, x => by rw [show vs = [] from x]; rfl
  | k + 1, m :: ms, _, ⟨v, r, e, a, b⟩ => by rw [e]; exact ⟨v, r.take k, rfl, a, VIns.take k b⟩
theorem fresh_not {h : Heap} {O : List Addr} (hO : ∀ x ∈ O, ∃ o, h.get? x = some o) : h.objs.size ∉ O := fun q => by
  obtain ⟨o, e⟩ := hO _ q
  exact absurd (Heap.lt_size e) (Nat.lt_irrefl _)
theorem keeps_push {S : List Addr} {s : Shared} (o : Obj) : KSs S s { s with heap := s.heap.push o } := ⟨_, s.toks, rfl, .of_keep fun _ _ e => Heap.get?_push_of_some _ e⟩
theorem newL {s : Shared} {O : List Addr} {ms : List MV} {vs : List Value} (hO : ∀ x ∈ O, ∃ o, s.heap.get? x = some o) (r : VIns s.heap O ms vs) :
    VIn (s.heap.push { cls := .type "list", data := .seq vs.toArray }) O (.list ms) (.ref s.heap.objs.size) :=
  ⟨_, vs, rfl, fresh_not hO, ⟨⟨_, Heap.get?_push_size _ rfl, rfl, _, rfl⟩, fun _ => ⟨_, Heap.get?_push_size _ rfl, rfl⟩⟩, r.ks (keeps_push (S := []) (s := s) _).ks⟩
theorem newT {s : Shared} {O : List Addr} {ms : List MV} {vs : List Value} (hO : ∀ x ∈ O, ∃ o, s.heap.get? x = some o) (r : VIns s.heap O ms vs) :
    VIn (s.heap.push { cls := .type "tuple", data := .seq vs.toArray }) O (.tuple ms) (.ref s.heap.objs.size) :=
  ⟨_, vs, rfl, fresh_not hO, ⟨_, Heap.get?_push_size _ rfl, rfl, _, rfl⟩, r.ks (keeps_push (S := []) (s := s) _).ks⟩
theorem slice_list_ {xs : List MV} {lo hi : Option Int} (hsz : xs.length ≤ sizeLine) : SliceOf C (.list xs) lo hi (.list (lslice xs lo hi)) := fun s O va vl vu sl hO ha pl pu hs => by
  obtain ⟨a, vs, rfl, ⟨l, _⟩, r⟩ := ha
  have hlen := r.length
  refine ⟨"list", _, slot_list_getitem.lookup, l.typeIs, wpAny_getItem_list_slice l ⟨_, hs, rfl, rfl⟩ pl pu .none (by simp) ?_ (by simpa [hlen] using hsz)⟩
  rw [slicePick_plain]
  refine ⟨keeps_push _, ?_⟩
  have := newL hO (VIns.take (hi.elim xs.length (clipAt xs.length) - lo.elim 0 (clipAt xs.length)) (VIns.drop (lo.elim 0 (clipAt xs.length)) r))
  simpa [lslice, hlen] using this
theorem ev_list {es : List Expr} {ms : List MV} {p : Pos} (h : Evs C env σ es ms) (hsz : ms.length ≤ sizeLine) : Ev C env σ (.List es p) (.list ms) := fun s R => by
  refine List_ (wpAny_mono (splicedV_ h s R) (fun vs s₁ h₁ => ?_) fun _ _ x => x)
  have hO := (R.ks h₁.1.ks).exO
  exact wpAny_newObj_type ⟨h₁.1.trans (keeps_push _), newL hO h₁.2⟩ (by show vs.toArray.size ≤ sizeLine; rw [List.size_toArray, h₁.2.length]; exact hsz)
theorem ev_tuple {es : List Expr} {ms : List MV} {k : Nat} {p : Pos} (h : Evs C env σ es ms) (hsz : ms.length ≤ sizeLine) : Ev C env σ (.Tuple es k p) (.tuple ms) := fun s R => by
  refine Tuple_ (wpAny_mono (splicedV_ h s R) (fun vs s₁ h₁ => ?_) fun _ _ x => x)
  have hO := (R.ks h₁.1.ks).exO
  exact wpAny_newObj_type ⟨h₁.1.trans (keeps_push _), newT hO h₁.2⟩ (by show vs.toArray.size ≤ sizeLine; rw [List.size_toArray, h₁.2.length]; exact hsz)
theorem fn_len_str {x : Str} (hf : (x.length : Int) < 2 ^ 63) : Fn C (.builtin "len") [.str x] (.int x.length) := fun s O vals _ ha => by
  obtain ⟨v, r, rfl, ⟨t, rfl⟩, rfl⟩ := ha
  exact PyProof.Rows.len_str (by lia) ⟨.tok s _, _, rfl⟩
theorem fn_len_list {xs : List MV} (hf : (xs.length : Int) < 2 ^ 63) : Fn C (.builtin "len") [.list xs] (.int xs.length) := fun s O vals _ ha => by
  obtain ⟨v, r, rfl, ⟨a, vs, rfl, ⟨l, _⟩, q⟩, rfl⟩ := ha
  have hl := q.length
  refine PyProof.Rows.len_list l (by simpa [hl] using hf) ⟨.tok s _, s.toks + 1, by simp [hl]⟩
/-- truth -/
noncomputable def Tr (C : Cx) (m : MV) (b : Bool) : Prop := ∀ s O v, VT s.heap O m v → wpAny C.M C.A (truthy v) (fun c s' => KSs [] s s' ∧ c = b) F s
theorem tr_bool {b : Bool} : Tr C (.bool b) b := fun s O v h => by cases h; exact wpAny_truthy_bool ⟨.refl s, rfl⟩
theorem tr_str {x : Str} (hf : (x.length : Int) < 2 ^ 63) : Tr C (.str x) ((x.length : Int) != 0) := fun s O v h => by
  obtain ⟨t, rfl⟩ := h
  exact PySem.P.truthy_str (by lia) ⟨.tok s _, rfl⟩
theorem evB_plain {e : Expr} {m : MV} {b : Bool} (h : EvT C env σ e m) (ht : Tr C m b) (he : ∀ whole, isTrue e env whole = (do let v ← whole; standAt e.pos; holding [v] (truthy v))) : EvB C env σ e b := fun s R => by
  refine isTrue_plain (wpAny_mono (h s R) (fun v s₁ h₁ => ?_) fun _ _ x => x) (he _)
  refine wpAny_mono (ht s₁ _ v h₁.2) (fun c s₂ h₂ => ?_) fun _ _ x => x
  exact ⟨h₁.1.trans (h₂.1.mono nil_sub), h₂.2⟩
theorem evB_not {e : Expr} {b : Bool} {p : Pos} (h : EvB C env σ e b) : EvB C env σ (.UnaryOp .Not e p) (!b) := fun s R =>
  isTrue_not (wpAny_mono (h s R) (fun c s₁ h₁ => ⟨h₁.1, by rw [h₁.2]⟩) fun _ _ x => x)
theorem evB_and_nil {p : Pos} : EvB C env σ (.BoolOp .And [] p) true := fun s R => isTrue_and_nil ⟨.refl s, rfl⟩
theorem evB_or_nil {p : Pos} : EvB C env σ (.BoolOp .Or [] p) false := fun s R => isTrue_or_nil ⟨.refl s, rfl⟩
theorem evB_and {x : Expr} {rest : List Expr} {p : Pos} {b c : Bool} (h : EvB C env σ x b) (h2 : b = true → EvB C env σ (.BoolOp .And rest p) c) : EvB C env σ (.BoolOp .And (x :: rest) p) (b && c) := fun s R => by
  refine isTrue_and (wpAny_mono (h s R) (fun b' s₁ h₁ => ?_) fun _ _ x => x)
  obtain ⟨k, rfl⟩ := h₁
  cases b' with
  | false => exact ⟨k, rfl⟩
  | true => exact wpAny_mono (h2 rfl s₁ (R.ks k.ks)) (fun c' s₂ h₂ => ⟨k.trans h₂.1, by rw [h₂.2]; rfl⟩) fun _ _ x => x
theorem evB_or {x : Expr} {rest : List Expr} {p : Pos} {b c : Bool} (h : EvB C env σ x b) (h2 : b = false → EvB C env σ (.BoolOp .Or rest p) c) : EvB C env σ (.BoolOp .Or (x :: rest) p) (b || c) := fun s R => by
  refine isTrue_or (wpAny_mono (h s R) (fun b' s₁ h₁ => ?_) fun _ _ x => x)
  obtain ⟨k, rfl⟩ := h₁
  cases b' with
  | true => exact ⟨k, rfl⟩
  | false => exact wpAny_mono (h2 rfl s₁ (R.ks k.ks)) (fun c' s₂ h₂ => ⟨k.trans h₂.1, by rw [h₂.2]; rfl⟩) fun _ _ x => x
theorem ev_ifexp {t x y : Expr} {p : Pos} {b : Bool} {m : MV} (h : EvB C env σ t b) (h1 : b = true → Ev C env σ x m) (h2 : b = false → Ev C env σ y m) : Ev C env σ (.IfExp t x y p) m := fun s R => by
  show wpAny _ _ (do if ← isTrue t env (eval t env) then eval x env else eval y env) _ _ s
  refine wpAny_bind (wpAny_mono (h s R) (fun b' s₁ h₁ => ?_) fun _ _ x => x)
  obtain ⟨k, rfl⟩ := h₁
  cases b' with
  | true => exact wpAny_mono (h1 rfl s₁ (R.ks k.ks)) (fun c' s₂ h₂ => ⟨k.trans h₂.1, h₂.2⟩) fun _ _ x => x
  | false => exact wpAny_mono (h2 rfl s₁ (R.ks k.ks)) (fun c' s₂ h₂ => ⟨k.trans h₂.1, h₂.2⟩) fun _ _ x => x
theorem wpS_while {t : Expr} {body orelse : List Stmt} {p : Pos} {Q : FM → St → Prop} (J : Nat → St → Prop)
    (turn : ∀ n σ', J n σ' → ∃ b, EvB C env σ' t b ∧ (b = true → wpSs C env body σ' fun fm τ => match fm with | .next | .cont => ∃ m, m < n ∧ J m τ | .brk => Q .next τ | .ret v => Q (.ret v) τ) ∧ (b = false → wpSs C env orelse σ' Q))
    (n : Nat) (h : J n σ) : wpS C env (.While t body orelse p) σ Q := fun X s R => by
  refine wpAny_While (codeAny_whileLoop (fun n s' => ∃ h' tk σ', s' = { s with heap := h', toks := tk } ∧ Rel C X env σ' h' ∧ J n σ') ?_ n ⟨s.heap, s.toks, σ, rfl, R, h⟩)
  rintro n s' ⟨h', tk, σ', rfl, R', hJ⟩
  obtain ⟨b, hb, h1, h2⟩ := turn n σ' hJ
  refine wpAny_mono (hb _ R'.toRelE) (fun b' s₂ p₂ => ?_) fun _ _ x => x.elim
  obtain ⟨⟨h2', tk2, rfl, k⟩, rfl⟩ := p₂
  have R₂ := R'.ks k
  cases b' with
  | true =>
    refine wpAny_mono (h1 rfl X _ R₂) (fun fl s₃ p₃ => ?_) fun _ _ x => x.elim
    obtain ⟨h3, tk3, rfl, fm, τ, fr, R₃, q⟩ := p₃
    cases fl <;> cases fm <;> first | exact fr.elim | skip
    · obtain ⟨m, hm, hj⟩ := q; exact ⟨m, hm, h3, tk3, τ, rfl, R₃, hj⟩
    · exact ⟨h3, tk3, rfl, .next, τ, trivial, R₃, q⟩
    · obtain ⟨m, hm, hj⟩ := q; exact ⟨m, hm, h3, tk3, τ, rfl, R₃, hj⟩
    · exact ⟨h3, tk3, rfl, .ret _, τ, fr, R₃, q⟩
  | false =>
    refine wpAny_mono (h2 rfl X _ R₂) (fun fl s₃ p₃ => ?_) fun _ _ x => x.elim
    obtain ⟨h3, tk3, rfl, _, _, r1, r2, r3⟩ := p₃
    exact ⟨h3, tk3, rfl, _, _, r1, r2, r3⟩
end
end Mine
namespace Mine
open PySem PySem.W PyProof.Rows
/-- every frame's slots may turn -/
noncomputable def Cx.Full (C : Cx) : Prop := ∀ e ∈ C.fs, ∀ a, e.frame = some a → a ∈ C.S
/-- what a def of the text yields -/
noncomputable def Spec (G : Gx) (full : Bool) (k : Nat) (f : Value) (args : List MV) (r : MV) : Prop :=
  ∀ C : Cx, C.G = G → C.lvl ≤ k → (full = true → C.Full) → ∀ s O vals, C.ok s.heap → FramesIn C.n₀ s.heap C.fs → (∀ x ∈ O, ∃ vs : Array Value, s.heap.PlainList x vs) → VIns s.heap O args vals →
    wpAny C.M C.A (call f vals) (fun v s' => KSs C.S s s' ∧ VIn s'.heap O r v) F s
section
variable {C : Cx} {env : Env} {σ : St}
theorem Evs.ts : ∀ {es : List Expr} {ms : List MV}, Evs C env σ es ms → EvTs C env σ es ms
  | _, _, .nil => .nil
  | _, _, .cons h n r => .cons h.t n r.ts
theorem evalArgsV_ {pos : Pos} {f : Value} {es : List Expr} {ms : List MV} (x : Evs C env σ es ms) (s : Shared) (R : RelE C env σ s.heap) :
    wpAny C.M C.A (evalArgs f true (backTo pos (starEach es env)) []) (fun a s' => KSs C.S s s' ∧ a.kw = [] ∧ VIns s'.heap (C.ex σ) ms a.pos) F s := by
  unfold evalArgs
  have h := splicedV_ (pos := pos) x s R
  cases x with
  | nil =>
    refine wpAny_bind (Calls.spliced_nil ?_)
    exact wpAny_bind (wpAny_pure (wpAny_holding (wpAny_bind (wpAny_pure (wpAny_bind (wpAny_pure (wpAny_pure ⟨.refl s, rfl, rfl⟩)))))))
  | cons a hn r =>
    rw [starEach_cons hn, backTo_cons] at h ⊢
    show wpAny _ _ (spliced _ >>= _) _ _ s
    refine wpAny_bind (wpAny_mono h (fun vs s' h' => ?_) fun _ _ x => x)
    refine wpAny_holding ?_
    exact wpAny_bind (wpAny_pure (wpAny_bind (wpAny_pure (wpAny_pure ⟨h'.1, rfl, h'.2⟩))))
theorem ev_call_f {x : Str} {fa : Addr} {p pos : Pos} {es : List Expr} {ms : List MV} {r : MV} {full : Bool} {k : Nat} (hx : Ev C env σ (.Name x p) (.obj (.ref fa))) (ha : Evs C env σ es ms) (hs : Spec C.G full k (.ref fa) ms r)
    (hk : C.lvl ≤ k) (hfull : full = true → C.Full) (hfn : ∀ h, C.ok h → ∃ o fd, h.get? fa = some o ∧ o.data = .func fd) : Ev C env σ (.Call (.Name x p) es [] pos) r := fun s R => by
  show wpAny _ _ (do callWith pos (← eval (.Name x p) env) [] (backTo pos (starEach es env)) (backToKw pos (keywordEach [] env))) _ _ s
  refine wpAny_bind (wpAny_mono (hx s R) (fun v s₁ h₁ => ?_) fun _ _ x => x)
  obtain ⟨k₁, rfl⟩ := h₁
  have R₁ := R.ks k₁.ks
  obtain ⟨o, fd, ho, hd⟩ := hfn _ R₁.base
  refine Calls.callWith_function (o := o) (fd := fd) (wpAny_mono (evalArgsV_ ha s₁ R₁) (fun a s₂ h₂ => ?_) fun _ _ x => x)
  obtain ⟨k₂, hkw, hv⟩ := h₂
  have R₂ := R₁.ks k₂.ks
  have hlow : fa ∉ C.S := R₁.notS ho (fun es ep q => by rw [hd] at q; cases q)
  refine ⟨⟨(k₂.ks fa o ho).1 hlow, hd⟩, ?_⟩
  rw [hkw]
  refine wpAny_mono (hs C rfl hk hfull s₂ _ _ R₂.base R₂.fr (fun x hx => (List.mem_append.mp hx).elim (R₂.own x) (R₂.outer x)) hv) (fun v s₃ h₃ => ?_) fun _ _ x => x
  exact ⟨(k₁.trans k₂).trans h₃.1, h₃.2⟩
theorem bindL_out {kindOf : Str → Option NameKind} {x : Str} : ∀ {binds : List (Str × Value)} {m : Str → Option Value}, x ∉ binds.map (·.1) → bindL kindOf binds m x = m x
  | [], _, _ => rfl
  | (n, v) :: r, m, h => by
    simp only [List.map_cons, List.mem_cons, not_or] at h
    unfold bindL
    rw [bindL_out h.2]
    split <;> simp [h.1]
theorem bindC_out {kindOf : Str → Option NameKind} {x : Str} : ∀ {binds : List (Str × Value)} {m : Str → Option Value}, x ∉ binds.map (·.1) → bindC kindOf binds m x = m x
  | [], _, _ => rfl
  | (n, v) :: r, m, h => by
    simp only [List.map_cons, List.mem_cons, not_or] at h
    unfold bindC
    rw [bindC_out h.2]
    split <;> simp [h.1]
theorem bindL_in {kindOf : Str → Option NameKind} {x : Str} {v : Value} (hk : kindOf x = some .local) : ∀ {binds : List (Str × Value)} {m : Str → Option Value}, (binds.map (·.1)).Nodup → (x, v) ∈ binds → bindL kindOf binds m x = some v
  | (n, u) :: r, m, hn, h => by
    simp only [List.map_cons, List.nodup_cons] at hn
    unfold bindL
    rcases List.mem_cons.mp h with e | h
    · cases e
      rw [bindL_out hn.1, if_pos hk]; simp
    · exact bindL_in hk hn.2 h
theorem bindC_in {kindOf : Str → Option NameKind} {x : Str} {v : Value} (hk : kindOf x ≠ some .local) : ∀ {binds : List (Str × Value)} {m : Str → Option Value}, (binds.map (·.1)).Nodup → (x, v) ∈ binds → bindC kindOf binds m x = some v
  | (n, u) :: r, m, hn, h => by
    simp only [List.map_cons, List.nodup_cons] at hn
    unfold bindC
    rcases List.mem_cons.mp h with e | h
    · cases e
      rw [bindC_out hn.1, if_neg hk]; simp
    · exact bindC_in hk hn.2 h
theorem zip_names : ∀ {names : List Str} {ms : List MV} {h : Heap} {O : List Addr} {vals : List Value}, VIns h O ms vals → ∀ {x : Str} {b : Bd}, sget (names.zip (ms.map .fz)) x = some b → ∃ m v, b = .fz m ∧ (x, v) ∈ names.zip vals ∧ VIn h O m v
  | [], _, _, _, _, _, x, b, e => by simp [sget] at e
  | n :: ns, [], _, _, _, _, x, b, e => by simp [sget] at e
  | n :: ns, m :: ms, h, O, _, ⟨v, r, rfl, hv, hr⟩, x, b, e => by
    simp only [List.map_cons, List.zip_cons_cons, sget] at e
    by_cases hx : n = x
    · rw [if_pos hx] at e; cases e; subst hx
      exact ⟨m, v, rfl, by simp, hv⟩
    · rw [if_neg hx] at e
      obtain ⟨m', v', a, b', c⟩ := zip_names hr e
      exact ⟨m', v', a, by simp [b'], c⟩
theorem owned_zip : ∀ (names : List Str) (ms : List MV), owned (names.zip (ms.map .fz)) = []
  | [], _ => rfl
  | n :: ns, [] => rfl
  | n :: ns, m :: ms => by simp only [List.map_cons, List.zip_cons_cons, owned]; exact owned_zip ns ms
/-- the frame of a call -/
noncomputable abbrev envAt (fd : FuncData) (L a : Addr) : Env := callEnvC fd L a
noncomputable def inner (C : Cx) (fd : FuncData) (L a : Addr) (O B : List Addr) (ro : Bool) (hl : C.lvl + 1 ≤ 100) : Cx where
  G := C.G
  A := C.A.deeper (envAt fd L a)
  hh := C.hh
  lvl := C.lvl + 1
  hd := by have := C.hd; show C.A.depth + 1 ≤ _; omega
  hu := by have := C.hu; show C.A.units + 3 ≤ _; omega
  hl := hl
  fs := envAt fd L a :: C.fs
  hfs := by show (C.A.frames.map _) = _; rw [C.hfs]; rfl
  S := L :: C.S
  hS := fun b hb => by
    rcases List.mem_cons.mp hb with rfl | hb
    · exact ⟨_, List.mem_cons_self, rfl⟩
    · obtain ⟨e, he, hf⟩ := C.hS b hb; exact ⟨e, List.mem_cons_of_mem _ he, hf⟩
  O := O
  mB := B
  ro := ro
/-- objects alone -/
noncomputable def GIn (h : Heap) (γ : St) : Prop := ∀ x a C d fs, (x, Bd.inst a C d fs) ∈ γ → InstIs h a C d fs
structure GOk (C : Cx) (h : Heap) (γ : St) : Prop where
  gin : GIn h γ
  apart : ∀ b ∈ instA γ, C.n₀ ≤ b ∧ ∀ e ∈ C.fs, e.frame ≠ some b
  nodup : (instA γ).Nodup
inductive KMs (S B : List Addr) (s s' : Shared) : Prop
  | mk (h' : Heap) (tk : Nat) (e : s' = { s with heap := h', toks := tk }) (k : KM S B s.heap h')
/-- what a def of the text yields that turns objects -/
noncomputable def SpecO (G : Gx) (full : Bool) (k : Nat) (f : Value) (args : List MV) (γ : St) (r : MV) (γ' : St) : Prop :=
  ∀ C : Cx, C.G = G → C.lvl ≤ k → (full = true → C.Full) → ∀ s O vals, C.ok s.heap → FramesIn C.n₀ s.heap C.fs → (∀ x ∈ O, ∃ vs : Array Value, s.heap.PlainList x vs) → VIns s.heap O args vals → GOk C s.heap γ →
    wpAny C.M C.A (call f vals) (fun v s' => KMs C.S (instA γ) s s' ∧ GIn s'.heap γ' ∧ VIn s'.heap O r v) F s
theorem sget_append : ∀ {σ τ : St} {x : Str}, sget (σ ++ τ) x = match sget σ x with | some b => some b | none => sget τ x
  | [], _, _ => rfl
  | (y, b) :: r, τ, x => by
    by_cases h : y = x
    · simp [sget, h]
    · simp [sget, h, sget_append (σ := r)]
theorem instA_append : ∀ {σ τ : St}, instA (σ ++ τ) = instA σ ++ instA τ
  | [], _ => rfl
  | (_, .fz _) :: r, τ => instA_append (σ := r)
  | (_, .own _ _) :: r, τ => instA_append (σ := r)
  | (_, .inst a C d fs) :: r, τ => by simp only [List.cons_append, instA, instA_append (σ := r)]
theorem owned_append : ∀ {σ τ : St}, owned (σ ++ τ) = owned σ ++ owned τ
  | [], _ => rfl
  | (_, .fz _) :: r, τ => owned_append (σ := r)
  | (_, .own a _) :: r, τ => by simp only [List.cons_append, owned, owned_append (σ := r)]
  | (_, .inst _ _ _ _) :: r, τ => owned_append (σ := r)
theorem instA_zip : ∀ (names : List Str) (ms : List MV), instA (names.zip (ms.map .fz)) = []
  | [], _ => rfl
  | n :: ns, [] => rfl
  | n :: ns, m :: ms => by simp only [List.map_cons, List.zip_cons_cons, instA]; exact instA_zip ns ms
noncomputable def insts : St → Bool
  | [] => true
  | (_, .inst _ _ _ _) :: r => insts r
  | _ => false
theorem sget_mem : ∀ {γ : St} {x : Str} {b : Bd}, sget γ x = some b → (x, b) ∈ γ
  | (y, c) :: r, x, b, e => by
    by_cases h : y = x
    · simp [sget, h] at e; subst h; subst e; exact List.mem_cons_self
    · simp [sget, h] at e; exact List.mem_cons_of_mem _ (sget_mem e)
theorem insts_mem : ∀ {γ : St}, insts γ = true → ∀ {x : Str} {b : Bd}, (x, b) ∈ γ → ∃ a C d fs, b = .inst a C d fs
  | (_, .inst a C d fs) :: r, h, x, b, e => by
    rcases List.mem_cons.mp e with e | e
    · cases e; exact ⟨a, C, d, fs, rfl⟩
    · exact insts_mem (γ := r) h e
theorem GIn.live {h : Heap} : ∀ {γ : St}, GIn h γ → ∀ b ∈ instA γ, ∃ o, h.get? b = some o
  | [], _, b, hb => nomatch hb
  | (_, .fz _) :: r, g, b, hb => GIn.live (γ := r) (fun x a C d fs e => g x a C d fs (List.mem_cons_of_mem _ e)) b hb
  | (_, .own _ _) :: r, g, b, hb => GIn.live (γ := r) (fun x a C d fs e => g x a C d fs (List.mem_cons_of_mem _ e)) b hb
  | (y, .inst a C d fs) :: r, g, b, hb => by
    obtain ⟨⟨sl, ea⟩, _, mA, hN, _⟩ := g y a C d fs List.mem_cons_self
    simp only [instA, List.mem_cons] at hb
    rcases hb with rfl | rfl | hb
    · exact ⟨_, ea⟩
    · obtain ⟨o, es, ep, e, _⟩ := hN; exact ⟨o, e⟩
    · exact GIn.live (γ := r) (fun x a C d fs e => g x a C d fs (List.mem_cons_of_mem _ e)) b hb
theorem owned_insts : ∀ {γ : St}, insts γ = true → owned γ = []
  | [], _ => rfl
  | (_, .inst _ _ _ _) :: r, h => owned_insts (γ := r) h
/-- the rest of the facts of a def -/
structure IsDef0 (G : Gx) (fa : Addr) (fd : FuncData) (body : List Stmt) (names : List Str) : Prop where
  at_ : ∀ h, G.ok h → ∃ o, h.get? fa = some o ∧ o.data = .func fd
  code : ∀ h, G.ok h → h.CodeRec fd.code fd.qualname
  body : fd.body = .stmts body
  clo : fd.closure = []
  co : fd.scope.isCoroutine = false
  gen : fd.scope.isGenerator = false
  kind : fd.scope.kind = .function
  glob : fd.globals = mainGlobals ∧ fd.builtins = builtinsNs
  nodup : names.Nodup
  kinds : ∀ x ∈ names, fd.scope.names.lookup x = some .local ∨ fd.scope.names.lookup x = some .cell
structure IsDef (G : Gx) (fa : Addr) (fd : FuncData) (body : List Stmt) (names : List Str) : Prop extends IsDef0 G fa fd body names where
  binds : ∀ (M : Model) (h : Heap), G.ok h → ∀ vals : List Value, vals.length = names.length → Looks M h (bindArgs fd ⟨vals, []⟩) (names.zip vals)
theorem zip_map_fst {names : List Str} {vals : List Value} (h : vals.length = names.length) : (names.zip vals).map (·.1) = names := by
  rw [List.map_fst_zip]; omega
/-- the arguments are bound to the names -/
noncomputable def Binds (C : Cx) (s : Shared) (O : List Addr) (fd : FuncData) (args : Args) (names : List Str) (ms : List MV) : Prop :=
  ∀ A, wpAny C.M A (bindArgs fd args) (fun binds s₂ => ∃ vals, binds = names.zip vals ∧ vals.length = names.length ∧ KSs [] s s₂ ∧ VIns s₂.heap O ms vals) F s
theorem Binds.of {C : Cx} {s : Shared} {O : List Addr} {fd : FuncData} {args : Args} {names : List Str} {ms : List MV} {vals : List Value} (h : Looks C.M s.heap (bindArgs fd args) (names.zip vals)) (hn : ms.length = names.length) (hv : VIns s.heap O ms vals) : Binds C s O fd args names ms :=
  fun A => h.here ⟨vals, rfl, by rw [hv.length, hn], .refl s, hv⟩
/-- a call with its arguments bound to the names: the objects B may turn -/
noncomputable def CodeG (G : Gx) (full : Bool) (k : Nat) (fa : Addr) (fd : FuncData) (names : List Str) (ms : List MV) (γ : St) (B : List Addr) (r : MV) (γ' : St) : Prop :=
  ∀ C : Cx, C.G = G → C.lvl ≤ k → (full = true → C.Full) → ∀ s O args, Binds C s O fd args names ms → C.ok s.heap → FramesIn C.n₀ s.heap C.fs → (∀ x ∈ O, ∃ vs : Array Value, s.heap.PlainList x vs) → GOk C s.heap γ →
    codeAny C.M C.A (.call (.ref fa) args) (fun res s' => match res with | .ok (.ret v) => KMs C.S B s s' ∧ GIn s'.heap γ' ∧ VIn s'.heap O r v | _ => False) s
noncomputable abbrev CodeO (G : Gx) (full : Bool) (k : Nat) (fa : Addr) (fd : FuncData) (names : List Str) (ms : List MV) (γ : St) (r : MV) (γ' : St) : Prop := CodeG G full k fa fd names ms γ (instA γ) r γ'
theorem call_cells {prog : Program} {w : World} {A : Around} {s : Shared} {R : Result → Shared → Prop} {a : Addr} {o : Obj} {fd : FuncData} {body : List Stmt} {args : Args} {P : List (Str × Value) → Shared → Prop}
    (hroom : A.depth < recursionLimit) (ho : s.heap.get? a = some o) (hdata : o.data = .func fd) (hcd : s.heap.CodeRec fd.code fd.qualname)
    (hbody : fd.body = .stmts body) (hbind : ∀ A, wpAny (model prog w) A (bindArgs fd args) P F s) (hclo : fd.closure = [])
    (h : ∀ binds s, P binds s → s.heap.NoLimit ∧ (∀ x ∈ binds, fd.scope.names.lookup x.1 = some .local ∨ (fd.scope.names.lookup x.1 = some .cell ∧ ((cellsFrom (s.heap.objs.size + 1) fd.scope.names []).lookup x.1).isSome = true)) ∧
      ∀ s₁, InCallC s (callEnvC fd s.heap.objs.size a).locals (bindL (callEnvC fd s.heap.objs.size a).kindOf binds fun _ => none) (callEnvC fd s.heap.objs.size a).cells
        (bindC (callEnvC fd s.heap.objs.size a).kindOf binds fun _ => none) s₁ →
      wpAny (model prog w) (A.deeper (callEnvC fd s.heap.objs.size a)) (execs body (callEnvC fd s.heap.objs.size a)) (fun f s' => R (.ok (.ret (match f with | .ret v => v | _ => .none))) s')
        (fun e s' => wpAny (model prog w) (A.deeper (callEnvC fd s.heap.objs.size a)) (leaving (callEnvC fd s.heap.objs.size a) e) (fun _ s'' => R (.error e) s'') (fun e' s'' => R (.error e') s'') s') s₁)
    (hco : fd.scope.isCoroutine = false) (hgen : fd.scope.isGenerator = false) (hk : fd.scope.kind = .function) :
    codeAny (model prog w) A (.call (.ref a) args) R s := by
  refine codeAny_call_function hroom ho hdata hco hgen hbody hcd ?_
  rw [hclo]
  refine wpAny_mono (hbind _) (fun binds s₂ hp => ?_) fun _ _ x => x.elim
  obtain ⟨hlim, hkind, hh⟩ := h binds s₂ hp
  refine wpAny_newFunctionEnv_cells hk hkind fun env he s' x => ?_
  subst he
  exact ⟨hlim.keeps x.toInCall.keep, codeAny_func (hh s' x)⟩
theorem rel_start {C : Cx} {fa : Addr} {fd : FuncData} {body : List Stmt} {names : List Str} {ms : List MV} {γ : St} (B : List Addr) (ro : Bool) (hro : ro = true ∨ B = instA γ) (D : IsDef0 C.G fa fd body names) (hγ : insts γ = true) (hg : ∀ p ∈ γ, fd.scope.names.lookup p.1 = none)
    {s : Shared} {O : List Addr} {vals : List Value} (hlen : vals.length = names.length) (hok : C.ok s.heap) (hfr : FramesIn C.n₀ s.heap C.fs) (hO : ∀ x ∈ O, ∃ vs : Array Value, s.heap.PlainList x vs) (hv : VIns s.heap O ms vals) (hgo : GOk C s.heap γ) (hl1 : C.lvl + 1 ≤ 100)
    {h₁ : Heap} {tk₁ : Nat} (I : InCallC s (callEnvC fd s.heap.objs.size fa).locals (bindL (callEnvC fd s.heap.objs.size fa).kindOf (names.zip vals) fun _ => none) (callEnvC fd s.heap.objs.size fa).cells (bindC (callEnvC fd s.heap.objs.size fa).kindOf (names.zip vals) fun _ => none) { s with heap := h₁, toks := tk₁ }) :
    Rel (inner C fd s.heap.objs.size fa O B ro hl1) s.heap (envAt fd s.heap.objs.size fa) (names.zip (ms.map .fz) ++ γ) h₁ := by
  let L := s.heap.objs.size
  let C' := inner C fd L fa O B ro hl1
  have hLn : s.heap.get? L = none := Heap.get?_none_of_le (Nat.le_refl _)
  have hnL : C.n₀ ≤ L := C.G.low _ hok
  have keep := I.toInCall.keep
  have how : owned (names.zip (ms.map .fz) ++ γ) = [] := by rw [owned_append, owned_zip, owned_insts hγ]; rfl
  have hin : instA (names.zip (ms.map .fz) ++ γ) = instA γ := by rw [instA_append, instA_zip]; rfl
  have hne : ∀ b ∈ instA γ, b ≠ L := fun b hb q => by
    obtain ⟨o, e⟩ := hgo.gin.live b hb
    subst q; rw [hLn] at e; cases e
  have R : Rel C' s.heap (envAt fd L fa) (names.zip (ms.map .fz) ++ γ) h₁ := by
    refine { base := C.mono _ _ (fun b o _ e => keep b o e) hok, fr := ?_, kind := D.kind, glob := D.glob, vars := ?_, own := ?_, outer := fun a ha => let ⟨vs, n, e⟩ := hO a ha; ⟨vs, n, keep _ _ e⟩, insN := ?_, insNd := ?_, keepX := (KS.of_keep keep).km, ns := ⟨_, I.toInCall.ns⟩, nsX := hLn, nsN := hnL, cells := ?_, apart := I.apart, ownX := ?_, ownN := ?_, ownNd := ?_, insX := hro.imp id fun hB b hb => .inl (by show b ∈ B; rw [hB]; rw [hin] at hb; exact hb), outX := fun a ha => let ⟨vs, n, e⟩ := hO a ha; ⟨_, e⟩ }
    · intro e he
      rcases List.mem_cons.mp he with rfl | he
      · obtain ⟨o2, es, ep, e2, d2, _⟩ := id I.toInCall.ns
        exact ⟨by rw [show (envAt fd L fa).scope.kind = _ from D.kind]; decide, L, o2, rfl, hnL, e2, es, ep, d2⟩
      · exact hfr.ks (S := []) (.of_keep keep) e he
    · intro x b hb
      rw [sget_append] at hb
      cases hq : sget (names.zip (ms.map .fz)) x with
      | some b' =>
        rw [hq] at hb
        cases hb
        obtain ⟨m, v, rfl, hmem, hvi⟩ := zip_names hv hq
        have hxn : x ∈ names := (List.of_mem_zip hmem).1
        have hnd : ((names.zip vals).map (·.1)).Nodup := by rw [zip_map_fst hlen]; exact D.nodup
        have hvi' : BIn h₁ (C'.ex (names.zip (ms.map .fz) ++ γ)) (.fz m) v := by
          unfold Cx.ex
          rw [how]
          exact VIn.ks (S := []) (.of_keep keep) hvi
        unfold VarIs
        rcases D.kinds x hxn with hk | hk
        · rw [show (envAt fd L fa).kindOf x = some .local from hk]
          exact ⟨_, v, I.toInCall.ns, bindL_in hk hnd hmem, hvi'⟩
        · rw [show (envAt fd L fa).kindOf x = some .cell from hk]
          obtain ⟨c, hc⟩ := Option.isSome_iff_exists.mp (PySem.W.cellsFrom_some (x := x) fd.scope.names (L + 1) [] (.inl hk))
          refine ⟨c, v, hc, ?_, hvi'⟩
          have := I.cell x c hc
          rwa [bindC_in (by show (envAt fd L fa).kindOf x ≠ _; rw [show (envAt fd L fa).kindOf x = some .cell from hk]; decide) hnd hmem] at this
      | none =>
        rw [hq] at hb
        have hm := sget_mem hb
        obtain ⟨a, Ca, d, fs, rfl⟩ := insts_mem hγ hm
        unfold VarIs
        rw [show (envAt fd L fa).kindOf x = none from hg _ hm]
        exact ⟨.ref a, rfl, (hgo.gin x a Ca d fs hm).ks (S := []) (.of_keep keep)⟩
    · intro a ha; rw [how] at ha; exact nomatch ha
    · intro b hb
      rw [hin] at hb
      refine ⟨(hgo.apart b hb).1, hne b hb, fun e he => ?_⟩
      rcases List.mem_cons.mp he with rfl | he
      · intro q; exact hne b hb (Option.some.inj q).symm
      · exact (hgo.apart b hb).2 e he
    · rw [hin]; exact hgo.nodup
    · intro x c hc
      have hlt := I.above x c (mem_of_lookup hc)
      exact ⟨⟨_, I.cell x c hc⟩, Heap.get?_none_of_le (Nat.le_of_lt hlt), Nat.le_trans hnL (Nat.le_of_lt hlt)⟩
    · intro a ha; rw [how] at ha; exact nomatch ha
    · intro a ha; rw [how] at ha; exact nomatch ha
    · rw [how]; exact .nil
  exact R
theorem codeG_of {G : Gx} {fa : Addr} {fd : FuncData} {body : List Stmt} {names : List Str} {ms : List MV} {γ γ' : St} (B : List Addr) (ro : Bool) (hro : ro = true ∨ B = instA γ) {r : MV} {full : Bool} {k : Nat} (D : IsDef G fa fd body names) (hk : k + 1 ≤ 100) (hn : ms.length = names.length)
    (hγ : insts γ = true) (hg : ∀ p ∈ γ, fd.scope.names.lookup p.1 = none)
    (hb : ∀ C : Cx, C.G = G → C.lvl ≤ k + 1 → (full = true → C.Full) → ∀ L, C.mB = B → C.ro = ro → (instA γ).Nodup → wpSs C (envAt fd L fa) body (names.zip (ms.map .fz) ++ γ) fun fm σ' => (match fm with | .ret m => m = r | .next => r = .none | _ => False) ∧ ∀ p ∈ γ', sget σ' p.1 = some p.2)
    (hg' : ∀ p ∈ γ', fd.scope.names.lookup p.1 = none) :
    CodeG G full k fa fd names ms γ B r γ' := fun C hG hlv hfull s₀ O args hbd hok₀ hfr₀ hO₀ hgo₀ => by
  subst hG
  obtain ⟨o, ho, hd⟩ := D.at_ _ hok₀
  refine call_cells C.room ho hd (D.code _ hok₀) D.body hbd D.clo (fun binds s hp => ?_) D.co D.gen D.kind
  obtain ⟨vals, rfl, hlen, ks, hv⟩ := hp
  obtain ⟨h₀', t₂, hse, k₂⟩ := id ks
  have kk₂ : ∀ b o, s₀.heap.get? b = some o → s.heap.get? b = some o := by rw [hse]; exact k₂.keep
  have hok : C.ok s.heap := C.mono _ _ (fun b o _ e => kk₂ b o e) hok₀
  have hfr : FramesIn C.n₀ s.heap C.fs := hfr₀.ks (S := []) (.of_keep kk₂)
  have hO : ∀ x ∈ O, ∃ vs : Array Value, s.heap.PlainList x vs := fun a ha => let ⟨vs, n, e⟩ := hO₀ a ha; ⟨vs, n, kk₂ _ _ e⟩
  have hgo : GOk C s.heap γ := ⟨fun x a Ca d fs hm => (hgo₀.gin x a Ca d fs hm).ks (S := []) (.of_keep kk₂), hgo₀.apart, hgo₀.nodup⟩
  refine ⟨C.G.nolim _ hok, ?_, fun s₁ I => ?_⟩
  · intro x hx
    have hx' : x.1 ∈ names := by
      have : x.1 ∈ (names.zip vals).map (·.1) := List.mem_map_of_mem hx
      rwa [zip_map_fst hlen] at this
    rcases D.kinds x.1 hx' with h | h
    · exact .inl h
    · exact .inr ⟨h, PySem.W.cellsFrom_some _ _ _ (.inl h)⟩
  · have hl1 : C.lvl + 1 ≤ 100 := by omega
    let L := s.heap.objs.size
    let C' := inner C fd L fa O B ro hl1
    obtain ⟨h₁, tk₁, rfl⟩ := I.toInCall.same
    have hLn : s.heap.get? L = none := Heap.get?_none_of_le (Nat.le_refl _)
    have R : Rel C' s.heap (envAt fd L fa) (names.zip (ms.map .fz) ++ γ) h₁ := rel_start B ro hro D.toIsDef0 hγ hg hlen hok hfr hO hv hgo hl1 I
    have hfull' : full = true → C'.Full := fun h e he a hf => by
      rcases List.mem_cons.mp he with rfl | he
      · cases hf; exact List.mem_cons_self
      · exact List.mem_cons_of_mem _ (hfull h e he a hf)
    refine wpAny_mono (hb C' rfl (by show C.lvl + 1 ≤ k + 1; omega) hfull' L rfl rfl hgo.nodup s.heap _ R) (fun fl s₂ p₂ => ?_) fun _ _ x => x.elim
    obtain ⟨h₂, tk₂, rfl, fm, σ', fr, R₂, q, qg⟩ := p₂
    have km2 : KM C.S B s.heap h₂ := fun b o e hB => by
      obtain ⟨k1, k2⟩ := R₂.keepX b o e hB
      refine ⟨fun hb => k1 fun hm => ?_, k2⟩
      rcases List.mem_cons.mp hm with rfl | hm
      · rw [hLn] at e; cases e
      · exact hb hm
    have kk : KMs C.S B s₀ { s with heap := h₂, toks := tk₂ } := by
      rw [hse]
      exact ⟨h₂, tk₂, rfl, fun b o eb hB => km2 b o (kk₂ b o eb) hB⟩
    have gg : GIn h₂ γ' := fun x a Ca d fs hm => by
      have hv := R₂.vars x _ (qg _ hm)
      unfold VarIs at hv
      rw [show (envAt fd L fa).kindOf x = none from hg' _ hm] at hv
      obtain ⟨v, _, hi⟩ := hv
      exact hi
    have back : ∀ {m : MV} {v : Value}, VIn h₂ (C'.ex σ') m v → VIn h₂ O m v := fun x => x.more fun a ha => .inl (List.mem_append_right _ ha)
    rcases fl with _ | _ | _ | v <;> rcases fm with _ | _ | _ | m <;> first | exact (show False from fr).elim | exact (show False from q).elim | skip
    · have q' : r = .none := q
      subst q'; exact ⟨kk, gg, rfl⟩
    · have q' : m = r := q
      subst q'; exact ⟨kk, gg, back fr⟩
theorem codeO_of {G : Gx} {fa : Addr} {fd : FuncData} {body : List Stmt} {names : List Str} {ms : List MV} {γ γ' : St} {r : MV} {full : Bool} {k : Nat} (D : IsDef G fa fd body names) (hk : k + 1 ≤ 100) (hn : ms.length = names.length)
    (hγ : insts γ = true) (hg : ∀ p ∈ γ, fd.scope.names.lookup p.1 = none)
    (hb : ∀ C : Cx, C.G = G → C.lvl ≤ k + 1 → (full = true → C.Full) → ∀ L, C.mB = instA γ → C.ro = false → (instA γ).Nodup → wpSs C (envAt fd L fa) body (names.zip (ms.map .fz) ++ γ) fun fm σ' => (match fm with | .ret m => m = r | .next => r = .none | _ => False) ∧ ∀ p ∈ γ', sget σ' p.1 = some p.2)
    (hg' : ∀ p ∈ γ', fd.scope.names.lookup p.1 = none) : CodeO G full k fa fd names ms γ r γ' := codeG_of _ false (.inr rfl) D hk hn hγ hg hb hg'
/-- a def that reads objects and turns none -/
noncomputable def SpecR (G : Gx) (full : Bool) (k : Nat) (f : Value) (args : List MV) (γ : St) (r : MV) : Prop :=
  ∀ C : Cx, C.G = G → C.lvl ≤ k → (full = true → C.Full) → ∀ s O vals, C.ok s.heap → FramesIn C.n₀ s.heap C.fs → (∀ x ∈ O, ∃ vs : Array Value, s.heap.PlainList x vs) → VIns s.heap O args vals → GOk C s.heap γ →
    wpAny C.M C.A (call f vals) (fun v s' => KSs C.S s s' ∧ VIn s'.heap O r v) F s
theorem specR_of {G : Gx} {fa : Addr} {fd : FuncData} {body : List Stmt} {names : List Str} {ms : List MV} {γ : St} {r : MV} {full : Bool} {k : Nat} (D : IsDef G fa fd body names) (hk : k + 1 ≤ 100) (hn : ms.length = names.length)
    (hγ : insts γ = true) (hg : ∀ p ∈ γ, fd.scope.names.lookup p.1 = none)
    (hb : ∀ C : Cx, C.G = G → C.lvl ≤ k + 1 → (full = true → C.Full) → ∀ L, (instA γ).Nodup → wpSs C (envAt fd L fa) body (names.zip (ms.map .fz) ++ γ) fun fm _ => match fm with | .ret m => m = r | .next => r = .none | _ => False) :
    SpecR G full k (.ref fa) ms γ r := fun C hG hlv hfull s O vals hok hfr hO hv hgo => by
  have h := codeG_of (γ := γ) (γ' := []) (r := r) [] true (.inl rfl) D hk hn hγ hg (fun C' a b c L _ _ nd => by
    intro X s R
    refine wpAny_mono (hb C' a b c L nd X s R) (fun fl s' p => ?_) fun _ _ x => x
    obtain ⟨h', tk, e, fm, σ', fr, R', q⟩ := p
    exact ⟨h', tk, e, fm, σ', fr, R', q, fun _ h => nomatch h⟩) (fun _ h => nomatch h) C hG hlv hfull s O ⟨vals, []⟩ (.of (D.binds _ _ (by rw [← hG]; exact hok) vals (by rw [hv.length, hn])) hn hv) hok hfr hO hgo
  refine wpAny_call (codeAny_mono h fun res s' p => ?_)
  rcases res with e | (_ | _ | _ | v) <;> first | exact p.elim | skip
  obtain ⟨⟨h', tk, e, km⟩, _, hv'⟩ := p
  exact ⟨⟨h', tk, e, km.ks⟩, hv'⟩
theorem CodeO.spec {G : Gx} {fa : Addr} {fd : FuncData} {body : List Stmt} {names : List Str} {ms : List MV} {γ γ' : St} {r : MV} {full : Bool} {k : Nat} (D : IsDef G fa fd body names) (hn : ms.length = names.length) (h : CodeO G full k fa fd names ms γ r γ') :
    SpecO G full k (.ref fa) ms γ r γ' := fun C hG hlv hfull s O vals hok hfr hO hv hgo => by
  refine wpAny_call (codeAny_mono (h C hG hlv hfull s O ⟨vals, []⟩ (.of (D.binds _ _ (by rw [← hG]; exact hok) vals (by rw [hv.length, hn])) hn hv) hok hfr hO hgo) fun res s' p => ?_)
  rcases res with e | (_ | _ | _ | v) <;> first | exact p | exact p.elim
theorem spec_of {G : Gx} {fa : Addr} {fd : FuncData} {body : List Stmt} {names : List Str} {ms : List MV} {r : MV} {full : Bool} {k : Nat} (D : IsDef G fa fd body names) (hk : k + 1 ≤ 100) (hn : ms.length = names.length)
    (hb : ∀ C : Cx, C.G = G → C.lvl ≤ k + 1 → (full = true → C.Full) → ∀ L, wpSs C (envAt fd L fa) body (names.zip (ms.map .fz)) fun fm _ => match fm with | .ret m => m = r | .next => r = .none | _ => False) :
    Spec G full k (.ref fa) ms r := fun C hG hlv hfull s O vals hok hfr hO hv => by
  have h := CodeO.spec D hn (codeG_of (γ := []) (γ' := []) (r := r) [] false (.inr rfl) D hk hn rfl (fun _ h => nomatch h) (fun C' a b c L _ _ _ => by
    rw [List.append_nil]
    intro X s R
    refine wpAny_mono (hb C' a b c L X s R) (fun fl s' p => ?_) fun _ _ x => x
    obtain ⟨h', tk, e, fm, σ', fr, R', q⟩ := p
    exact ⟨h', tk, e, fm, σ', fr, R', q, fun _ h => nomatch h⟩) (fun _ h => nomatch h)) C hG hlv hfull s O vals hok hfr hO hv ⟨(by intro _ _ _ _ _ h; cases h), (by intro _ h; cases h), List.nodup_nil⟩
  refine wpAny_mono h (fun v s' p => ?_) fun _ _ x => x
  obtain ⟨⟨h', tk, e, km⟩, _, hv'⟩ := p
  exact ⟨⟨h', tk, e, km.ks⟩, hv'⟩
end
end Mine
namespace Mine
open PySem PySem.W PyProof.Rows
section
variable {C : Cx} {env : Env} {σ : St}
theorem RelE.inst {h : Heap} (R : RelE C env σ h) {x : Str} {a Cl d : Addr} {fs : List (Str × MV)} (e : sget σ x = some (.inst a Cl d fs)) : InstIs h a Cl d fs := by
  have hv := R.vars x _ e
  unfold VarIs at hv
  split at hv
  · obtain ⟨_, _, _, _, _, i⟩ := hv; exact i
  · obtain ⟨_, _, _, _, _, i⟩ := hv; exact i
  · obtain ⟨_, _, _, _, _, i⟩ := hv; exact i
  · obtain ⟨_, _, i⟩ := hv; exact i
/-- what the top holds -/
noncomputable def KOk (C : Cx) (K : Frag) : Prop := ∀ h, C.ok h → K.In h
structure ClsOk (K : Frag) (Cl : Addr) : Prop where
  ga : findIn K (.ref Cl) "__getattribute__" = some (some (.builtin "object.__getattribute__"))
  gh : findIn K (.ref Cl) "__getattr__" = some none
  sa : findIn K (.ref Cl) "__setattr__" = some (some (.builtin "object.__setattr__"))
  hd : (clsIn K Cl).any (·.hasDict) = true
  po : plainOver K Cl = true
theorem look_of {es : Array DictEntry} {ep : Nat} {o : Obj} (hd : o.data = .dict es ep) (hk : StrKeys es) (n : Str) : lookIn n o = some (nsFind es n) := by
  unfold lookIn nsFind findBy
  rw [hd]
  dsimp only
  rw [← Array.find?_toList]
  cases h : es.toList.find? (fun e => e.key.isStr n) with
  | some e => rfl
  | none =>
    dsimp only
    rw [if_neg]
    · rfl
    · intro q
      obtain ⟨e, he, hr⟩ := List.any_eq_true.mp q
      obtain ⟨n', t, hkey⟩ := hk e (Array.mem_toList_iff.mp he)
      unfold DictEntry.refKey at hr
      rw [hkey] at hr
      cases hr
theorem InstIs.look {h : Heap} {a Cl d : Addr} {fs : List (Str × MV)} (I : InstIs h a Cl d fs) : ∃ sl od mA, InstAt h a ⟨.ref Cl, some d, .plain, sl⟩ Cl (some od) ∧ (∀ n, lookIn n od = some (mA n)) ∧ Flds h fs mA ∧ h.Ns1 d mA := by
  obtain ⟨⟨sl, ea⟩, hne, mA, hN, hF⟩ := I
  obtain ⟨o, es, ep, e, hd, hk, hu, hf⟩ := id hN
  exact ⟨sl, o, mA, ⟨ea, rfl, rfl, e⟩, fun n => by rw [look_of hd hk, hf], hF, hN⟩
theorem ScV.handed {h : Heap} {m : MV} {v : Value} (hs : ScV h m v) (hm : ∀ u, m = .obj u → handedIn u = true) : handedIn v = true := by
  cases m with
  | none => cases hs; rfl
  | bool b => cases hs; rfl
  | int i => obtain ⟨t, rfl⟩ := hs; rfl
  | str x => obtain ⟨t, rfl⟩ := hs; rfl
  | obj u => cases hs; exact hm _ rfl
  | deq => obtain ⟨p, rfl, _⟩ := hs; rfl
  | list _ => exact hs.elim
  | tuple _ => exact hs.elim
  | seq _ => exact hs.elim
theorem find_own {K : Frag} {Cl : Addr} {od : Obj} {name : Str} {v : Value} (hc : (clsIn K Cl).any (·.hasDict) = true) (hn : findIn K (.ref Cl) name = some none) (hl : lookIn name od = some (some v)) : findObj K Cl (some od) name = some (.value v) := by
  obtain ⟨cd, hcd, hh⟩ := any_some hc
  unfold findObj W.ownOf
  rw [hcd, hn]
  simp only [Option.bind_some, hh, if_true, hl]
theorem ev_attr {o : Expr} {name x : Str} {p : Pos} {a Cl d : Addr} {fs : List (Str × MV)} {m : MV} {K : Frag} (hK : KOk C K) (hC : ClsOk K Cl) (ho : Ev C env σ o (.obj (.ref a))) (hx : sget σ x = some (.inst a Cl d fs))
    (hf : fget fs name = some m) (hn : findIn K (.ref Cl) name = some none) (hm : ∀ u, m = .obj u → handedIn u = true) (hbase : attributeBase o name env (eval o env) = eval o env) : Ev C env σ (.Attribute o name p) m := fun s R => by
  rw [arm_eval_Attribute, hbase]
  refine wpAny_bind (wpAny_mono (ho s R) (fun ov s₁ h₁ => wpAny_bind (wpAny_standAt (wpAny_bind (wpAny_holding ?_)))) fun _ _ h => h)
  obtain ⟨k₁, rfl⟩ := h₁
  have R₁ := R.ks k₁.ks
  obtain ⟨sl, od, mA, I, hl, hF, _⟩ := (R₁.inst hx).look
  have hq := hF name
  rw [hf] at hq
  obtain ⟨v, hv, hs⟩ := hq
  refine get_value (hK _ R₁.base) I hC.ga (find_own hC.hd hn (by rw [hl, hv])) (hs.handed hm) ?_
  refine wpAny_bind (wpAny_letTemporaryGo (wpAny_pure ⟨?_, hs.vin⟩))
  exact k₁.trans (.tok s₁ _)
/-- a method of an object, called -/
theorem imeth_ {o : Expr} {name x : Str} {apos pos : Pos} {es : List Expr} {a Cl d f : Addr} {fs : List (Str × MV)} {ms : List MV} {K : Frag} {Q : Value → Shared → Prop} {E : Value → Shared → Prop} (hK : KOk C K) (hC : ClsOk K Cl) (ho : Ev C env σ o (.obj (.ref a))) (hx : sget σ x = some (.inst a Cl d fs))
    (hf : fget fs name = none) (hn : findIn K (.ref Cl) name = some (some (.ref f))) (ht : typeIn K (.ref f) = some (.type "function")) (ha : Evs C env σ es ms) (hbase : attributeBase o name env (eval o env) = eval o env) (hline : (apos.endLine == pos.line) = true) (hfew : es.length < 29)
    (hfn : ∀ h, C.ok h → ∃ o fd, h.get? f = some o ∧ o.data = .func fd)
    (s : Shared) (R : RelE C env σ s.heap) (h : ∀ s₂ vals, KSs C.S s s₂ → RelE C env σ s₂.heap → VIns s₂.heap (C.ex σ) ms vals → wpAny C.M C.A (call (.ref f) (.ref a :: vals)) Q E s₂) :
    wpAny C.M C.A (eval (.Call (.Attribute o name apos) es [] pos) env) Q E s := by
  rw [arm_eval_Call, hbase]
  refine wpAny_bind (wpAny_mono (ho s R) (fun ov s₁ h₁ => ?_) fun _ _ h => h.elim)
  obtain ⟨k₁, rfl⟩ := h₁
  have R₁ := R.ks k₁.ks
  obtain ⟨sl, od, mA, I, hl, hF, _⟩ := (R₁.inst hx).look
  have hq := hF name
  rw [hf] at hq
  refine wpAny_bind (wpAny_standAt ?_)
  have hform : methodCallForm (es.length + ([] : List Keyword).length) (backTo pos (starEach es env)) (backToKw pos (keywordEach [] env)) = true := by
    unfold methodCallForm
    rw [(plain_args ha.ts).2.1]
    show (true && true && decide (es.length + 0 + 0 < 30)) = true
    simp; lia
  have hpos : methodCallPos true o env apos pos = pure pos := by unfold methodCallPos; simp [hline]
  unfold methodCall
  rw [hform]
  refine wpAny_bind (wpAny_holding (method_fn (hK _ R₁.base) I hC.ga hC.gh hn ht (by show (lookIn name od).map (·.isSome) = some false; rw [hl, show mA name = none from hq]; rfl) ?_))
  refine wpAny_bind (wpAny_of_eq hpos ?_)
  obtain ⟨o', fd, hof, hdf⟩ := hfn _ R₁.base
  refine Calls.callWith_function (o := o') (fd := fd) (wpAny_mono (evalArgsV_ ha s₁ R₁) (fun ar s₂ h₂ => ?_) fun _ _ x => x.elim)
  obtain ⟨k₂, hkw, hv⟩ := h₂
  have R₂ := R₁.ks k₂.ks
  have hlow : f ∉ C.S := R₁.notS hof (fun es ep q => by rw [hdf] at q; cases q)
  refine ⟨⟨(k₂.ks f o' hof).1 hlow, hdf⟩, ?_⟩
  rw [hkw]
  exact h s₂ _ (k₁.trans k₂) R₂ hv
theorem Flds.within {hp : Heap} {fs : List (Str × MV)} {mA : Str → Option Value} (h : Flds hp fs mA) : Within mA (fs.map (·.1)) := fun y hy => by
  have hq := h y
  cases e : fget fs y with
  | none => rw [e] at hq; exact absurd hq hy
  | some m =>
    clear hq hy h
    induction fs with
    | nil => cases e
    | cons p r ih =>
      obtain ⟨z, c⟩ := p
      by_cases hz : z = y
      · subst hz; simp
      · simp [fget, hz] at e; simp [ih e]
theorem Flds.put {hp : Heap} {fs : List (Str × MV)} {mA : Str → Option Value} {name : Str} {m : MV} {v : Value} (h : Flds hp fs mA) (hv : ScV hp m v) : Flds hp (fput fs name m) (fun y => if y = name then some v else mA y) := fun y => by
  rw [fget_fput]
  by_cases e : name = y
  · subst e; rw [if_pos rfl]; exact ⟨v, by simp, hv⟩
  · rw [if_neg e]
    have hq := h y
    cases e2 : fget fs y with
    | none => rw [e2] at hq; show (if y = name then some v else mA y) = none; rw [if_neg (Ne.symm e)]; exact hq
    | some m' => rw [e2] at hq; obtain ⟨u, a, b⟩ := hq; exact ⟨u, by show (if y = name then some v else mA y) = some u; rw [if_neg (Ne.symm e)]; exact a, b⟩
theorem setattr_ {name : Str} {a Cl d : Addr} {fs : List (Str × MV)} {m : MV} {v : Value} {K : Frag} {s : Shared} {Q : Unit → Shared → Prop} {E : Value → Shared → Prop} (X : K.In s.heap) (hC : ClsOk K Cl) (I : InstIs s.heap a Cl d fs) (hn : findIn K (.ref Cl) name = some none) (hv : ScV s.heap m v) (hlen : fs.length < 1000)
    (h : ∀ h' tk, InstIs h' a Cl d (fput fs name m) → Heap.SameBut d s.heap h' → Q () { s with heap := h', toks := tk }) : wpAny C.M C.A (setAttr (.ref a) name v) Q E s := by
  obtain ⟨sl, od, mA, IA, hl, hF, hN⟩ := I.look
  obtain ⟨cd, hc, hd'⟩ := any_some hC.hd
  refine set_plain X IA hC.sa (osa_open (s := { s with toks := s.toks + 1 }) X IA hC.po (r := none) (by unfold takerIn; rw [hn]; rfl) fun b => ?_)
  obtain ⟨hx, _, _, _⟩ := IA
  refine wpAny_bind (wpAny_pure (wpAny_bind (wpAny_bind (wpAny_loadPart hx (wpAny_bind ((looks_clsIn (h := s.heap) X hc) _ _ _ _ (fun _ _ e => e) ?_))))))
  rw [hd']
  refine wpAny_pure (a := some d) (wpAny_bind (wpAny_pure (wpAny_bind ?_)))
  refine wpAny_nsSet1 (s := { s with toks := s.toks + 1 }) hN fun h' hn' hs => ?_
  obtain ⟨oD, esD, epD, hoD, hdD, hcD⟩ := hn'.count (Within.cons name v hF.within)
  refine wpAny_bind (wpAny_lookBehind hoD (by rw [hdD]; exact pastItsLine_dict (Nat.le_trans hcD (by rw [List.length_cons, List.length_map, sizeLine_eq]; lia))) ?_)
  refine wpAny_pure ?_
  exact h h' _ ⟨⟨sl, (hs.2 a (Ne.symm I.ne)).trans hx⟩, I.ne, _, hn', (hF.put hv).to fun _ q => (by obtain ⟨o0, es0, ep0, e0, d0, _⟩ := hN; exact q.off e0 (fun vs z => by rw [d0] at z; cases z) hs)⟩ hs
theorem instA_put {x : Str} {a Cl d : Addr} {fs fs' : List (Str × MV)} : ∀ {σ : St}, sget σ x = some (.inst a Cl d fs) → instA (sput σ x (.inst a Cl d fs')) = instA σ
  | (z, c) :: r, e => by
    by_cases hz : z = x
    · simp [sget, hz] at e; subst e; simp [sput, hz, instA]
    · simp [sget, hz] at e
      cases c <;> simp [sput, hz, instA, instA_put e]
theorem owned_put {x : Str} {a Cl d : Addr} {fs fs' : List (Str × MV)} : ∀ {σ : St}, sget σ x = some (.inst a Cl d fs) → owned (sput σ x (.inst a Cl d fs')) = owned σ
  | (z, c) :: r, e => by
    by_cases hz : z = x
    · simp [sget, hz] at e; subst e; simp [sput, hz, owned]
    · simp [sget, hz] at e
      cases c <;> simp [sput, hz, owned, owned_put e]
theorem inst_apart {x y : Str} {a Cl d a' Cl' d' : Addr} {fs fs' : List (Str × MV)} (hxy : x ≠ y) : ∀ {σ : St}, (instA σ).Nodup → sget σ x = some (.inst a Cl d fs) → sget σ y = some (.inst a' Cl' d' fs') → a ≠ a' ∧ a ≠ d' ∧ d ≠ a' ∧ d ≠ d'
  | (z, c) :: r, hn, e, e' => by
    by_cases hz : z = x
    · simp [sget, hz] at e
      subst e
      simp [sget, hz, hxy] at e'
      have := instA_mem e'
      simp only [instA, List.nodup_cons, List.mem_cons, not_or] at hn
      exact ⟨fun q => hn.1.2 (q ▸ this.1), fun q => hn.1.2 (q ▸ this.2), fun q => hn.2.1 (q ▸ this.1), fun q => hn.2.1 (q ▸ this.2)⟩
    · by_cases hz' : z = y
      · simp [sget, hz'] at e'
        subst e'
        simp [sget, hz] at e
        have := instA_mem e
        simp only [instA, List.nodup_cons, List.mem_cons, not_or] at hn
        exact ⟨fun q => hn.1.2 (q ▸ this.1), fun q => hn.2.1 (q ▸ this.1), fun q => hn.1.2 (q ▸ this.2), fun q => hn.2.1 (q ▸ this.2)⟩
      · simp [sget, hz] at e
        simp [sget, hz'] at e'
        refine inst_apart hxy ?_ e e'
        cases c with
        | inst _ _ _ _ => simp only [instA, List.nodup_cons] at hn; exact hn.2.2
        | _ => exact hn
end
end Mine
namespace Mine
open PySem PySem.W PyProof.Rows
section
variable {C : Cx} {env : Env} {σ : St}
theorem Rel.putInst (hro : C.ro = false) {X h h' : Heap} {x : Str} {a Cl d : Addr} {fs fs' : List (Str × MV)} (R : Rel C X env σ h) (hx : sget σ x = some (.inst a Cl d fs)) (I' : InstIs h' a Cl d fs') (hs : Heap.SameBut d h h') : Rel C X env (sput σ x (.inst a Cl d fs')) h' := by
  obtain ⟨_, hne, mA, ⟨o, es, ep, e, hd, _⟩, _⟩ := R.inst hx
  have hns : ∀ xs n, o.data ≠ .seq xs n := fun xs n q => by rw [hd] at q; cases q
  have hnf : ∀ vs, o.data ≠ .fields vs := fun vs q => by rw [hd] at q; cases q
  obtain ⟨hdN, hdL, hdF⟩ := R.insN d (instA_mem hx).2
  have hE : C.ex (sput σ x (.inst a Cl d fs')) = C.ex σ := by unfold Cx.ex; rw [owned_put hx]
  have hcell : ∀ {c v}, h.IsCell c v → h'.IsCell c v := fun {c v} y => y.sameBut hs (by
    rintro rfl
    obtain ⟨oc, ec, dc⟩ := y
    rw [e] at ec; cases ec; rw [hd] at dc; cases dc)
  refine { base := ok_off hdN hs R.base, fr := ?_, kind := R.kind, glob := R.glob, vars := ?_, own := ?_, outer := ?_, insN := fun b hb => R.insN b (by rw [instA_put hx] at hb; exact hb), insNd := by rw [instA_put hx]; exact R.insNd, keepX := ?_, ns := ?_, nsX := R.nsX, nsN := R.nsN, cells := ?_, apart := R.apart, ownX := fun a ha => R.ownX a (by rw [owned_put hx] at ha; exact ha), ownN := fun a ha => R.ownN a (by rw [owned_put hx] at ha; exact ha), ownNd := by rw [owned_put hx]; exact R.ownNd, insX := R.insX.imp id fun q b hb => q b (by rw [instA_put hx] at hb; exact hb), outX := R.outX }
  · intro ev hev
    obtain ⟨ak, L, oL, hf, hN, ho, es', ep', hd'⟩ := R.fr ev hev
    exact ⟨ak, L, oL, hf, hN, (hs.2 L (fun q => hdF ev hev (by rw [hf, q]))).trans ho, es', ep', hd'⟩
  · intro y b hb
    rw [sget_sput] at hb
    rw [hE]
    by_cases hxy : x = y
    · subst hxy
      rw [if_pos rfl] at hb
      cases hb
      exact (R.vars x _ hx).to (fun m q => q.sameBut hs (Ne.symm hdL)) (fun c v _ q => hcell q) fun v q => ⟨q.1, I'⟩
    · rw [if_neg hxy] at hb
      refine (R.vars y _ hb).to (fun m q => q.sameBut hs (Ne.symm hdL)) (fun c v _ q => hcell q) fun v q => BIn.off e hns hnf hs (fun _ z => z) ?_ q
      rintro a' C' d' fs'' rfl
      obtain ⟨_, _, z1, z2⟩ := inst_apart hxy R.insNd hx hb
      exact ⟨Ne.symm z1, Ne.symm z2⟩
  · intro a' ha
    rw [owned_put hx] at ha
    obtain ⟨vs, p⟩ := R.own a' ha
    exact ⟨vs, plain_off e hns hs p⟩
  · intro a' ha
    obtain ⟨vs, p⟩ := R.outer a' ha
    exact ⟨vs, plain_off e hns hs p⟩
  · intro b o' eb hB
    have hbd : b ≠ d := by
      rintro rfl
      rcases (R.insX.resolve_left (by rw [hro]; decide)) b (instA_mem hx).2 with q | q
      · exact hB q
      · rw [q] at eb; cases eb
    obtain ⟨k1, o2, k2, k3⟩ := R.keepX b o' eb hB
    exact ⟨fun q => (hs.2 b hbd).trans (k1 q), o2, (hs.2 b hbd).trans k2, k3⟩
  · obtain ⟨m, q⟩ := R.ns
    exact ⟨m, q.sameBut hs (Ne.symm hdL)⟩
  · intro y c hc
    obtain ⟨⟨v2, a2⟩, a3, a4⟩ := R.cells y c hc
    exact ⟨⟨v2, hcell a2⟩, a3, a4⟩
noncomputable def scal : MV → Bool
  | .list _ => false
  | .tuple _ => false
  | .seq _ => false
  | _ => true
theorem VIn.sc {h : Heap} {O : List Addr} {m : MV} {v : Value} (x : VIn h O m v) (hs : scal m = true) : ScV h m v := by
  cases m <;> first | exact x | cases hs
theorem wpS_setattr {o : Expr} {name x : Str} {p p' : Pos} {e : Expr} {a Cl d : Addr} {fs : List (Str × MV)} {m : MV} {K : Frag} {Q : FM → St → Prop} (hro : C.ro = false) (hK : KOk C K) (hC : ClsOk K Cl) (he : Ev C env σ e m) (ho : Ev C env σ o (.obj (.ref a))) (hx : sget σ x = some (.inst a Cl d fs))
    (hn : findIn K (.ref Cl) name = some none) (hm : scal m = true) (hlen : fs.length < 1000) (hs : swapsWith e (some (.Attribute o name p')) p.line env = pure false)
    (h : Q .next (sput σ x (.inst a Cl d (fput fs name m)))) : wpS C env (.Assign [.Attribute o name p'] e p) σ Q := fun X s R => by
  refine plainObj_wpAny_Assign_Attribute (wpAny_mono (he s R.toRelE) (fun v s₁ h₁ => ?_) fun _ _ h => h) hs
  obtain ⟨k₁, hv⟩ := h₁
  have R₁ := R.ks k₁.ks
  refine wpAny_mono (ho s₁ R₁.toRelE) (fun ov s₂ h₂ => ?_) fun _ _ h => h
  obtain ⟨k₂, rfl⟩ := h₂
  have R₂ := R₁.ks k₂.ks
  refine setattr_ (hK _ R₂.base) hC (R₂.inst hx) hn ((hv.sc hm).to fun _ q => k₂.ks.deq q) hlen fun h' tk I' hsb => ?_
  obtain ⟨h1, t1, rfl, _⟩ := k₁
  obtain ⟨h2, t2, rfl, _⟩ := k₂
  exact ⟨h', tk, rfl, .next, _, trivial, R₂.putInst hro hx I' hsb, h⟩
/-- what an operation in place yields -/
noncomputable def Inp (C : Cx) (op : Operator) (a b r : MV) : Prop :=
  ∀ s va vb, ScV s.heap a va → ScV s.heap b vb → wpAny C.M C.A (inplaceOp op va vb) (fun v s' => KSs [] s s' ∧ ScV s'.heap r v) F s
theorem inp_add_int {a b : Int} : Inp C .Add (.int a) (.int b) (.int (a + b)) := fun s va vb ha hb => by
  obtain ⟨t, rfl⟩ := ha; obtain ⟨u, rfl⟩ := hb
  exact iadd_int ⟨.tok s _, _, rfl⟩
theorem inp_add_str {x y : Str} (hsz : x.length + y.length ≤ sizeLine) : Inp C .Add (.str x) (.str y) (.str (x ++ y)) := fun s va vb ha hb => by
  obtain ⟨t, rfl⟩ := ha; obtain ⟨u, rfl⟩ := hb
  exact SB.iadd (fun t' k => ⟨.tok s _, _, rfl⟩) hsz
theorem wpS_augattr {o : Expr} {name x : Str} {p p' : Pos} {op : Operator} {e : Expr} {a Cl d : Addr} {fs : List (Str × MV)} {m m' r : MV} {K : Frag} {Q : FM → St → Prop} (hro : C.ro = false) (hK : KOk C K) (hC : ClsOk K Cl) (he : Ev C env σ e m') (ho : Ev C env σ o (.obj (.ref a))) (hx : sget σ x = some (.inst a Cl d fs))
    (hf : fget fs name = some m) (hn : findIn K (.ref Cl) name = some none) (hm : scal m = true) (hm' : scal m' = true) (hh : ∀ u, m = .obj u → handedIn u = true) (hlen : fs.length < 1000) (hop : Inp C op m m' r)
    (h : Q .next (sput σ x (.inst a Cl d (fput fs name r)))) : wpS C env (.AugAssign (.Attribute o name p') op e p) σ Q := fun X s R => by
  rw [arm_exec_AugAssign_2]
  refine wpAny_bind (wpAny_standAt (wpAny_bind (wpAny_mono (ho s R.toRelE) (fun ov s₁ h₁ => ?_) fun _ _ h => h.elim)))
  obtain ⟨k₁, rfl⟩ := h₁
  have R₁ := R.ks k₁.ks
  refine wpAny_bind (wpAny_holding (wpAny_bind (wpAny_standAt (wpAny_bind ?_))))
  obtain ⟨sl, od, mA, I, hl, hF, _⟩ := (R₁.inst hx).look
  have hq := hF name
  rw [hf] at hq
  obtain ⟨v, hv, hsc⟩ := hq
  refine get_value (hK _ R₁.base) I hC.ga (find_own hC.hd hn (by rw [hl, hv])) (hsc.handed hh) ?_
  have R₁' : Rel C X env σ { s₁ with toks := s₁.toks + 1 }.heap := R₁
  refine wpAny_bind (wpAny_holding (wpAny_mono (he { s₁ with toks := s₁.toks + 1 } R₁'.toRelE) (fun w s₂ h₂ => ?_) fun _ _ h => h.elim))
  obtain ⟨k₂, hw⟩ := h₂
  have R₂ := R₁'.ks k₂.ks
  refine wpAny_bind (wpAny_standAt (wpAny_operating (wpAny_mono (hop s₂ v w (hsc.to fun _ q => k₂.ks.deq q) (hw.sc hm')) (fun nv s₃ h₃ => ?_) fun _ _ h => h.elim)))
  obtain ⟨k₃, hnv⟩ := h₃
  have R₃ := R₂.ks (k₃.mono nil_sub).ks
  refine wpAny_bind (wpAny_standAt (wpAny_bind (wpAny_holding ?_)))
  refine setattr_ (hK _ R₃.base) hC (R₃.inst hx) hn hnv hlen fun h' tk I' hsb => ?_
  refine wpAny_bind (wpAny_release (wpAny_pure ?_))
  obtain ⟨h1, t1, rfl, _⟩ := k₁
  obtain ⟨h2, t2, rfl, _⟩ := k₂
  obtain ⟨h3, t3, rfl, _⟩ := k₃
  exact ⟨h', tk, rfl, .next, _, trivial, R₃.putInst hro hx I' hsb, h⟩
noncomputable def sputs (σ : St) : St → St
  | [] => σ
  | p :: r => sputs (sput σ p.1 p.2) r
inductive SameG : St → St → Prop
  | nil : SameG [] []
  | cons {x a Cl d fs fs' γ γ'} : SameG γ γ' → SameG ((x, .inst a Cl d fs) :: γ) ((x, .inst a Cl d fs') :: γ')
theorem SameG.keys {γ γ' : St} (h : SameG γ γ') : γ'.map (·.1) = γ.map (·.1) := by
  induction h with
  | nil => rfl
  | cons _ ih => simp [ih]
theorem sget_none {γ : St} {x : Str} (h : x ∉ γ.map (·.1)) : sget γ x = none := by
  induction γ with
  | nil => rfl
  | cons p r ih =>
    obtain ⟨y, b⟩ := p
    simp only [List.map_cons, List.mem_cons, not_or] at h
    simp [sget, Ne.symm h.1, ih h.2]
theorem sget_key {γ : St} {x : Str} (h : x ∈ γ.map (·.1)) : sget γ x ≠ none := by
  induction γ with
  | nil => cases h
  | cons p r ih =>
    obtain ⟨y, b⟩ := p
    by_cases hy : y = x
    · simp [sget, hy]
    · simp only [List.map_cons, List.mem_cons] at h
      simp [sget, hy]
      exact ih (h.resolve_left (Ne.symm hy))
theorem sputs_ {γ γ' : St} (hs : SameG γ γ') : (γ.map (·.1)).Nodup → ∀ {σ : St}, (∀ p ∈ γ, sget σ p.1 = some p.2) →
    (∀ y, sget (sputs σ γ') y = match sget γ' y with | some b => some b | none => sget σ y) ∧ instA (sputs σ γ') = instA σ ∧ owned (sputs σ γ') = owned σ := by
  induction hs with
  | nil => intro _ σ _; exact ⟨fun _ => rfl, rfl, rfl⟩
  | @cons x a Cl d fs fs' γ γ' hs ih =>
    intro hn σ hc
    simp only [List.map_cons, List.nodup_cons] at hn
    have hx := hc (x, .inst a Cl d fs) List.mem_cons_self
    obtain ⟨i1, i2, i3⟩ := ih hn.2 (σ := sput σ x (.inst a Cl d fs')) (fun p hp => by
      rw [sget_sput, if_neg]
      · exact hc p (List.mem_cons_of_mem _ hp)
      · rintro rfl; exact hn.1 (List.mem_map_of_mem hp))
    refine ⟨fun y => ?_, i2.trans (instA_put hx), i3.trans (owned_put hx)⟩
    show sget (sputs (sput σ x (.inst a Cl d fs')) γ') y = _
    rw [i1 y, sget_sput]
    by_cases hxy : x = y
    · subst hxy
      rw [sget_none (by rw [hs.keys]; exact hn.1)]
      simp [sget]
    · simp [sget, hxy]
theorem KM.deq {S B : List Addr} {h h' : Heap} (x : KM S B h h') (hB : ∀ b ∈ B, ∀ o, h.get? b = some o → ∀ vs, o.data ≠ .fields vs) {p : Addr} (y : DeqAt h p) : DeqAt h' p := by
  obtain ⟨o, n, t, e, c, d⟩ := y
  obtain ⟨_, o', e', d1, d2, d3⟩ := x p o e fun q => hB p q o e _ d
  exact ⟨o', n, t, e', d2.trans c, d1.trans d⟩
theorem VIn.km {S B O : List Addr} {h h' : Heap} (k : KM S B h h') (hB : ∀ b ∈ B, ∀ o, h.get? b = some o → ∀ xs n, o.data ≠ .seq xs n) (hB' : ∀ b ∈ B, ∀ o, h.get? b = some o → ∀ vs, o.data ≠ .fields vs) {m : MV} {v : Value} (x : VIn h O m v) : VIn h' O m v :=
  x.to (fun a _ n l => ⟨by
      obtain ⟨⟨o, e, c, nn, d⟩, qn⟩ := l
      obtain ⟨_, o', e', d1, d2, d3⟩ := k a o e fun q => hB a q o e _ _ d
      exact ⟨⟨o', e', d2.trans c, nn, d1.trans d⟩, fun hb => by obtain ⟨od, ed, dd⟩ := qn hb; rw [e] at ed; cases ed; exact ⟨o', e', d3.trans dd⟩⟩, n⟩)
    (fun a _ n l => ⟨by
      obtain ⟨o, e, c, nn, d⟩ := l
      obtain ⟨_, o', e', d1, d2, d3⟩ := k a o e fun q => hB a q o e _ _ d
      exact ⟨o', e', d2.trans c, nn, d1.trans d⟩, n⟩) (fun _ q => k.deq hB' q)
theorem VIns.km {S B O : List Addr} {h h' : Heap} (k : KM S B h h') (hB : ∀ b ∈ B, ∀ o, h.get? b = some o → ∀ xs n, o.data ≠ .seq xs n) (hB' : ∀ b ∈ B, ∀ o, h.get? b = some o → ∀ vs, o.data ≠ .fields vs) {m : List MV} {v : List Value} (x : VIns h O m v) : VIns h' O m v :=
  x.to (fun a _ n l => ⟨by
      obtain ⟨⟨o, e, c, nn, d⟩, qn⟩ := l
      obtain ⟨_, o', e', d1, d2, d3⟩ := k a o e fun q => hB a q o e _ _ d
      exact ⟨⟨o', e', d2.trans c, nn, d1.trans d⟩, fun hb => by obtain ⟨od, ed, dd⟩ := qn hb; rw [e] at ed; cases ed; exact ⟨o', e', d3.trans dd⟩⟩, n⟩)
    (fun a _ n l => ⟨by
      obtain ⟨o, e, c, nn, d⟩ := l
      obtain ⟨_, o', e', d1, d2, d3⟩ := k a o e fun q => hB a q o e _ _ d
      exact ⟨o', e', d2.trans c, nn, d1.trans d⟩, n⟩) (fun _ q => k.deq hB' q)
theorem gin_of {h : Heap} (R : RelE C env σ h) {γ : St} (hc : ∀ p ∈ γ, sget σ p.1 = some p.2) : GIn h γ := fun x a Cl d fs hm => R.inst (hc _ hm)
theorem instA_of {γ : St} : ∀ {b : Addr}, b ∈ instA γ → ∃ x a Cl d fs, (x, Bd.inst a Cl d fs) ∈ γ ∧ (b = a ∨ b = d) := by
  induction γ with
  | nil => intro b hb; cases hb
  | cons p r ih =>
    obtain ⟨y, c⟩ := p
    intro b hb
    cases c with
    | inst a Cl d fs =>
      simp only [instA, List.mem_cons] at hb
      rcases hb with rfl | rfl | hb
      · exact ⟨y, b, Cl, d, fs, List.mem_cons_self, .inl rfl⟩
      · exact ⟨y, a, Cl, b, fs, List.mem_cons_self, .inr rfl⟩
      · obtain ⟨x, a', Cl', d', fs', hm, q⟩ := ih hb; exact ⟨x, a', Cl', d', fs', List.mem_cons_of_mem _ hm, q⟩
    | fz _ => obtain ⟨x, a', Cl', d', fs', hm, q⟩ := ih hb; exact ⟨x, a', Cl', d', fs', List.mem_cons_of_mem _ hm, q⟩
    | own _ _ => obtain ⟨x, a', Cl', d', fs', hm, q⟩ := ih hb; exact ⟨x, a', Cl', d', fs', List.mem_cons_of_mem _ hm, q⟩
theorem instA_in {γ : St} (hc : ∀ p ∈ γ, sget σ p.1 = some p.2) {b : Addr} (hb : b ∈ instA γ) : b ∈ instA σ := by
  obtain ⟨x, a, Cl, d, fs, hm, q⟩ := instA_of hb
  rcases q with rfl | rfl
  · exact (instA_mem (hc _ hm)).1
  · exact (instA_mem (hc _ hm)).2
theorem gok_of {h : Heap} (R : RelE C env σ h) {γ : St} (hc : ∀ p ∈ γ, sget σ p.1 = some p.2) (hn : (instA γ).Nodup) : GOk C h γ :=
  ⟨gin_of R hc, fun b hb => ⟨(R.insN b (instA_in hc hb)).1, (R.insN b (instA_in hc hb)).2.2⟩, hn⟩
theorem obj_data {h : Heap} (R : RelE C env σ h) {γ : St} (hc : ∀ p ∈ γ, sget σ p.1 = some p.2) {b : Addr} (hb : b ∈ instA γ) {o : Obj} (e : h.get? b = some o) : o.data = .plain ∨ ∃ es ep, o.data = .dict es ep := by
  obtain ⟨x, a, Cl, d, fs, hm, q⟩ := instA_of hb
  obtain ⟨⟨sl, ea⟩, _, mA, ⟨od, es, ep, ed, dd, _⟩, _⟩ := R.inst (hc _ hm)
  rcases q with rfl | rfl
  · rw [e] at ea; cases ea; exact .inl rfl
  · rw [e] at ed; cases ed; exact .inr ⟨es, ep, dd⟩
theorem Rel.callO (hro : C.ro = false) {X h h' : Heap} {γ γ' : St} (R : Rel C X env σ h) (hc : ∀ p ∈ γ, sget σ p.1 = some p.2) (hs : SameG γ γ') (hk : (γ.map (·.1)).Nodup) (km : KM C.S (instA γ) h h') (g : GIn h' γ') : Rel C X env (sputs σ γ') h' := by
  obtain ⟨q1, q2, q3⟩ := sputs_ hs hk hc
  have hE : C.ex (sputs σ γ') = C.ex σ := by unfold Cx.ex; rw [q3]
  have hB : ∀ b ∈ instA γ, ∀ o, h.get? b = some o → ∀ xs n, o.data ≠ .seq xs n := fun b hb o e xs n q => by
    rcases obj_data R.toRelE hc hb e with z | ⟨es, ep, z⟩ <;> rw [z] at q <;> cases q
  have hB' : ∀ b ∈ instA γ, ∀ o, h.get? b = some o → ∀ vs, o.data ≠ .fields vs := fun b hb o e vs q => by
    rcases obj_data R.toRelE hc hb e with z | ⟨es, ep, z⟩ <;> rw [z] at q <;> cases q
  have hcell : ∀ {c v}, h.IsCell c v → h'.IsCell c v := fun {c v} y => by
    obtain ⟨oc, ec, dc⟩ := y
    obtain ⟨_, o', e', d1, _⟩ := km c oc ec fun q => by
      rcases obj_data R.toRelE hc q ec with z | ⟨es, ep, z⟩ <;> rw [z] at dc <;> cases dc
    exact ⟨o', e', d1.trans dc⟩
  have hns : ∀ m, h.Ns env.locals m → h'.Ns env.locals m := fun m y => by
    obtain ⟨o, es, ep, e, d, r⟩ := y
    obtain ⟨_, o', e', d1, _⟩ := km _ o e fun q => (R.insN _ (instA_in hc q)).2.1 rfl
    exact ⟨o', es, ep, e', d1.trans d, r⟩
  have hpl : ∀ {a vs}, h.PlainList a vs → h'.PlainList a vs := fun {a vs} y => by
    obtain ⟨n, e⟩ := y
    exact ⟨n, (km a _ e fun q => hB a q _ e _ _ rfl).1 (R.notS e (fun es ep => by simp))⟩
  refine { base := C.mono _ _ (fun b o hb e => (km b o e fun q => absurd hb (Nat.not_lt.mpr (R.insN b (instA_in hc q)).1)).1 (R.low hb)) R.base, fr := ?_, kind := R.kind, glob := R.glob, vars := ?_, own := ?_, outer := ?_, insN := fun b hb => R.insN b (by rw [q2] at hb; exact hb), insNd := by rw [q2]; exact R.insNd, keepX := ?_, ns := ?_, nsX := R.nsX, nsN := R.nsN, cells := ?_, apart := R.apart, ownX := fun a ha => R.ownX a (by rw [q3] at ha; exact ha), ownN := fun a ha => R.ownN a (by rw [q3] at ha; exact ha), ownNd := by rw [q3]; exact R.ownNd, insX := R.insX.imp id fun q b hb => q b (by rw [q2] at hb; exact hb), outX := R.outX }
  · intro ev hev
    obtain ⟨ak, L, oL, hf, hN, ho, es', ep', hd'⟩ := R.fr ev hev
    obtain ⟨_, o', e', d1, _⟩ := km L oL ho fun q => (R.insN _ (instA_in hc q)).2.2 ev hev hf
    exact ⟨ak, L, o', hf, hN, e', es', ep', d1.trans hd'⟩
  · intro y b hb
    rw [q1] at hb
    rw [hE]
    cases hy : sget γ' y with
    | some b' =>
      rw [hy] at hb
      cases hb
      have hm := sget_mem hy
      have hyk : y ∈ γ.map (·.1) := by rw [← hs.keys]; exact List.mem_map_of_mem (f := (·.1)) hm
      -- the same name in γ, with the same addresses
      have key : ∃ a Cl d fs fs', (y, Bd.inst a Cl d fs) ∈ γ ∧ b = .inst a Cl d fs' := by
        clear hcell hns hpl hB hB' hE q1 q2 q3 g km hk hc R
        induction hs with
        | nil => cases hm
        | @cons x a Cl d fs fs' γ γ' hs ih =>
          by_cases hxy : x = y
          · subst hxy
            simp [sget] at hy
            exact ⟨a, Cl, d, fs, fs', List.mem_cons_self, hy.symm⟩
          · simp [sget, hxy] at hy
            obtain ⟨a', C', d', f, f', z, z'⟩ := ih hy (sget_mem hy) (by rw [← hs.keys]; exact List.mem_map_of_mem (f := (·.1)) (sget_mem hy))
            exact ⟨a', C', d', f, f', List.mem_cons_of_mem _ z, z'⟩
      obtain ⟨a, Cl, d, fs, fs', hmem, rfl⟩ := key
      exact (R.vars y _ (hc _ hmem)).to hns (fun c v _ q => hcell q) fun v q => ⟨q.1, g y a Cl d fs' hm⟩
    | none =>
      rw [hy] at hb
      refine (R.vars y _ hb).to hns (fun c v _ q => hcell q) fun v q => ?_
      cases b with
      | fz m => exact VIn.km km hB hB' q
      | own a xs => obtain ⟨e, vs, p, r⟩ := q; exact ⟨e, vs, hpl p, r.km km hB hB'⟩
      | inst a Cl d fs =>
        obtain ⟨e, ⟨sl, ea⟩, hne, mA, ⟨od, es, ep, ed, dd, rr⟩, hF⟩ := q
        have nin : ∀ z, (z = a ∨ z = d) → z ∉ instA γ := fun z hz q => by
          obtain ⟨x', a', Cl', d', fs', hm, w⟩ := instA_of q
          have hne' : y ≠ x' := by
            rintro rfl
            have : y ∈ γ'.map (·.1) := by rw [hs.keys]; exact List.mem_map_of_mem (f := (·.1)) hm
            exact sget_key this hy
          obtain ⟨w1, w2, w3, w4⟩ := inst_apart hne' R.insNd hb (hc _ hm)
          rcases hz with rfl | rfl <;> rcases w with rfl | rfl <;> first | exact w1 rfl | exact w2 rfl | exact w3 rfl | exact w4 rfl
        obtain ⟨_, oa, ea', x1, x2, x3⟩ := km a _ ea (nin a (.inl rfl))
        obtain ⟨_, od', ed', y1, _⟩ := km d _ ed (nin d (.inr rfl))
        refine ⟨e, ⟨oa.slots, ?_⟩, hne, mA, ⟨od', es, ep, ed', y1.trans dd, rr⟩, hF.to fun _ q => km.deq hB' q⟩
        obtain ⟨c1, c2, c3, c4⟩ := oa
        cases x1; cases x2; cases x3
        exact ea'
  · intro a ha
    rw [q3] at ha
    obtain ⟨vs, p⟩ := R.own a ha
    exact ⟨vs, hpl p⟩
  · intro a ha
    obtain ⟨vs, p⟩ := R.outer a ha
    exact ⟨vs, hpl p⟩
  · intro b o eb hB'
    have nb : b ∉ instA γ := fun q => by
      rcases (R.insX.resolve_left (by rw [hro]; decide)) b (instA_in hc q) with z | z
      · exact hB' z
      · rw [z] at eb; cases eb
    obtain ⟨k1, o2, k2, k3⟩ := R.keepX b o eb hB'
    obtain ⟨m1, o3, m2, m3, m4, m5⟩ := km b o2 k2 nb
    refine ⟨fun q => ?_, o3, m2, m3.trans k3.1, m4.trans k3.2.1, m5.trans k3.2.2⟩
    exact (km b o (k1 q) nb).1 q
  · obtain ⟨m, q⟩ := R.ns
    exact ⟨m, hns m q⟩
  · intro y c hc'
    obtain ⟨⟨v2, a2⟩, a3, a4⟩ := R.cells y c hc'
    exact ⟨⟨v2, hcell a2⟩, a3, a4⟩
end
end Mine
namespace Mine
open PySem PySem.W PyProof.Rows
noncomputable def Cx.up (C : Cx) (hl : C.lvl + 1 ≤ 100) : Cx := { C with A := C.A.in1, lvl := C.lvl + 1, hh := C.hh, hd := by have := C.hd; show C.A.depth ≤ _; lia, hu := by have := C.hu; show C.A.units + 1 ≤ _; lia, hl := hl, hfs := C.hfs }
section
variable {C : Cx} {env : Env} {σ : St}
theorem ev_imeth {o : Expr} {name x : Str} {apos pos : Pos} {es : List Expr} {a Cl d f : Addr} {fs : List (Str × MV)} {ms : List MV} {K : Frag} {full : Bool} {k : Nat} {γ : St} {r : MV} (hK : KOk C K) (hC : ClsOk K Cl) (ho : Ev C env σ o (.obj (.ref a))) (hx : sget σ x = some (.inst a Cl d fs))
    (hf : fget fs name = none) (hn : findIn K (.ref Cl) name = some (some (.ref f))) (ht : typeIn K (.ref f) = some (.type "function")) (ha : Evs C env σ es ms) (hs : SpecR C.G full k (.ref f) (.obj (.ref a) :: ms) γ r) (hk : C.lvl ≤ k) (hfull : full = true → C.Full) (hc : ∀ p ∈ γ, sget σ p.1 = some p.2) (hnd : (instA γ).Nodup)
    (hfn : ∀ h, C.ok h → ∃ o fd, h.get? f = some o ∧ o.data = .func fd)
    (hbase : attributeBase o name env (eval o env) = eval o env) (hline : (apos.endLine == pos.line) = true) (hfew : es.length < 29) :
    Ev C env σ (.Call (.Attribute o name apos) es [] pos) r := fun s R =>
  imeth_ hK hC ho hx hf hn ht ha hbase hline hfew hfn s R fun s₂ vals k₂ R₂ hv =>
    wpAny_mono (hs C rfl hk hfull s₂ _ (.ref a :: vals) R₂.base R₂.fr (fun x hx => (List.mem_append.mp hx).elim (R₂.own x) (R₂.outer x)) ⟨.ref a, vals, rfl, rfl, hv⟩ (gok_of R₂ hc hnd)) (fun v s₃ h₃ => ⟨k₂.trans h₃.1, h₃.2⟩) fun _ _ x => x
theorem ev_prop {o : Expr} {name x : Str} {p : Pos} {a Cl d pr fget : Addr} {fs : List (Str × MV)} {rest : List Value} {K : Frag} {full : Bool} {k : Nat} {γ : St} {r : MV} {fd : FuncData} {nm : Str} (hK : KOk C K) (hC : ClsOk K Cl) (ho : Ev C env σ o (.obj (.ref a))) (hx : sget σ x = some (.inst a Cl d fs))
    (hf : ∀ od, findObj K Cl (some od) name = some (.bind (.builtin "property.__get__") (.ref pr))) (hp : recIn K pr "property" = some (.ref fget :: rest)) (hb : ∀ v, bindArgs fd ⟨[v], []⟩ = pure [(nm, v)])
    (hs : CodeG C.G full k fget fd [nm] [.obj (.ref a)] γ [] r []) (hl : C.lvl + 1 ≤ 100) (hk : C.lvl + 1 ≤ k) (hfull : full = true → C.Full) (hc : ∀ p ∈ γ, sget σ p.1 = some p.2) (hnd : (instA γ).Nodup) (hm : scal r = true) (hh : ∀ u, r = .obj u → handedIn u = true)
    (hbase : attributeBase o name env (eval o env) = eval o env) : Ev C env σ (.Attribute o name p) r := fun s R => by
  rw [arm_eval_Attribute, hbase]
  refine wpAny_bind (wpAny_mono (ho s R) (fun ov s₁ h₁ => wpAny_bind (wpAny_standAt (wpAny_bind (wpAny_holding ?_)))) fun _ _ h => h)
  obtain ⟨k₁, rfl⟩ := h₁
  have R₁ := R.ks k₁.ks
  obtain ⟨sl, od, mA, I, hl', hF, _⟩ := (R₁.inst hx).look
  refine get_bind (hK _ R₁.base) I hC.ga (hf od) hC.gh ?_
  refine wpAny_call (prop_get (s := { s₁ with toks := s₁.toks + 1 }) (hK _ R₁.base) hp ?_)
  have R₁' : RelE C env σ { s₁ with toks := s₁.toks + 1 }.heap := R₁
  have g := gok_of R₁' hc hnd
  refine codeAny_mono (hs (C.up hl) rfl hk (fun h => hfull h) { s₁ with toks := s₁.toks + 1 } (C.ex σ) ⟨[.ref a], []⟩ (.of (vals := [.ref a]) (.of_pure (hb _)) rfl ⟨_, [], rfl, rfl, rfl⟩) R₁'.base R₁'.fr (fun x hx => (List.mem_append.mp hx).elim (R₁'.own x) (R₁'.outer x)) ⟨g.gin, g.apart, g.nodup⟩) fun res s₂ h₂ => ?_
  rcases res with e | (_ | _ | _ | v) <;> first | exact h₂.elim | skip
  obtain ⟨⟨h', tk, rfl, km⟩, _, hv⟩ := h₂
  refine handed_on ((hv.sc hm).handed hh) ?_
  refine wpAny_bind (wpAny_letTemporaryGo (wpAny_pure ⟨?_, hv⟩))
  exact k₁.trans ((KSs.tok s₁ _).trans ⟨h', tk, rfl, km.ks⟩)
theorem wpS_expr {e : Expr} {p : Pos} {m : MV} {Q : FM → St → Prop} (he : Ev C env σ e m) (hi : interactive env = false) (hs : swapsWith e none p.line env = pure false) (h : Q .next σ) : wpS C env (.Expr e p) σ Q := fun X s R => by
  refine wpAny_Expr_any (wpAny_mono (he s R.toRelE) (fun v s₁ h₁ => ?_) fun _ _ h => h) hi hs
  obtain ⟨⟨h1, tk1, rfl, k⟩, hv⟩ := h₁
  exact ⟨h1, tk1, rfl, .next, σ, trivial, R.ks k, h⟩
/-- a call that turns objects, held in a name -/
theorem wpS_assign_ometh {y : Str} {py pas : Pos} {o : Expr} {name x : Str} {apos pos : Pos} {es : List Expr} {a Cl d f : Addr} {fs : List (Str × MV)} {ms : List MV} {K : Frag} {full : Bool} {k : Nat} {γ γ' : St} {r : MV} {Q : FM → St → Prop} (hro : C.ro = false) (hK : KOk C K) (hC : ClsOk K Cl) (ho : Ev C env σ o (.obj (.ref a))) (hx : sget σ x = some (.inst a Cl d fs))
    (hf : fget fs name = none) (hn : findIn K (.ref Cl) name = some (some (.ref f))) (ht : typeIn K (.ref f) = some (.type "function")) (ha : Evs C env σ es ms) (hs : SpecO C.G full k (.ref f) (.obj (.ref a) :: ms) γ r γ') (hk : C.lvl ≤ k) (hfull : full = true → C.Full) (hc : ∀ p ∈ γ, sget σ p.1 = some p.2) (hnd : (instA γ).Nodup) (hsm : SameG γ γ') (hkn : (γ.map (·.1)).Nodup)
    (hfn : ∀ h, C.ok h → ∃ o fd, h.get? f = some o ∧ o.data = .func fd)
    (hbase : attributeBase o name env (eval o env) = eval o env) (hline : (apos.endLine == pos.line) = true) (hfew : es.length < 29) (hy : Stores env y) (hq : Q .next (sput (sputs σ γ') y (.fz r))) :
    wpS C env (.Assign [.Name y py] (.Call (.Attribute o name apos) es [] pos) pas) σ Q := fun X s R => by
  refine wpAny_Assign_Name ?_ rfl
  refine imeth_ hK hC ho hx hf hn ht ha hbase hline hfew hfn s R.toRelE fun s₂ vals k₂ R₂ hv => ?_
  have R₂' := R.ks k₂.ks
  refine wpAny_mono (hs C rfl hk hfull s₂ _ (.ref a :: vals) R₂.base R₂.fr (fun x hx => (List.mem_append.mp hx).elim (R₂.own x) (R₂.outer x)) ⟨.ref a, vals, rfl, rfl, hv⟩ (gok_of R₂ hc hnd)) (fun v s₃ h₃ => ?_) fun _ _ x => x
  obtain ⟨h2, t2, rfl, _⟩ := k₂
  obtain ⟨⟨h3, t3, rfl, km⟩, g, hr⟩ := h₃
  have R₃ := R₂'.callO hro hc hsm hkn km g
  refine store_ R₃ hy (m := r) ?_ fun h' tk R' => ⟨h', tk, rfl, .next, _, trivial, R', hq⟩
  have : C.ex (sputs σ γ') = C.ex σ := by unfold Cx.ex; rw [(sputs_ hsm hkn hc).2.2]
  rw [this]; exact hr
end
end Mine
namespace Mine
open PySem PySem.W PyProof.Rows
/-- a text by its code points -/
noncomputable abbrev mk (l : List Nat) : Str := ⟨l.toArray⟩
noncomputable abbrev tx (l : List Nat) : MV := .str (mk l)
theorem mk_append (a b : List Nat) : mk a ++ mk b = mk (a ++ b) := by
  show (⟨a.toArray ++ b.toArray⟩ : Str) = _
  simp [mk]
theorem mk_length (a : List Nat) : (mk a).length = a.length := by simp [mk, Str.length]
theorem mk_toList (a : List Nat) : (mk a).cps.toList = a := by simp [mk]
theorem mk_inj {a b : List Nat} (h : mk a = mk b) : a = b := by simpa [mk] using h
theorem mk_beq (a b : List Nat) : (mk a == mk b) = (a == b) := by
  by_cases h : a = b
  · subst h; simp
  · rw [beq_eq_false_iff_ne.mpr h, beq_eq_false_iff_ne.mpr fun q => h (mk_inj q)]
section
variable {C : Cx} {env : Env} {σ : St}
theorem ev_tx {x : Str} {l : List Nat} {k : Nat} {p : Pos} (h : x = mk l) : Ev C env σ (.Constant (.str x) k p) (tx l) := h ▸ ev_str
theorem cat_tx {a b : List Nat} (h : a.length + b.length ≤ 16777216) : Bin C .Add (tx a) (tx b) (tx (a ++ b)) := by
  have := add_str_ (C := C) (x := mk a) (y := mk b) (by rw [mk_length, mk_length, sizeLine_eq]; exact h)
  rwa [mk_append] at this
theorem icat_tx {a b : List Nat} (h : a.length + b.length ≤ 16777216) : Inp C .Add (tx a) (tx b) (tx (a ++ b)) := by
  have := inp_add_str (C := C) (x := mk a) (y := mk b) (by rw [mk_length, mk_length, sizeLine_eq]; exact h)
  rwa [mk_append] at this
theorem eq_tx {a b : List Nat} : Cmp C .Eq (tx a) (tx b) (a == b) := by
  have := eq_str_ (C := C) (x := mk a) (y := mk b)
  rwa [mk_beq] at this
theorem ne_tx {a b : List Nat} : Cmp C .NotEq (tx a) (tx b) (a != b) := fun s O va vb _ ha hb => by
  obtain ⟨t, rfl⟩ := ha; obtain ⟨u, rfl⟩ := hb
  refine PyProof.Rows.ne_str ⟨.refl s, ?_⟩
  show Value.bool (!(mk a == mk b)) = _
  rw [mk_beq]; rfl
theorem ge_int_ {a b : Int} : Cmp C .GtE (.int a) (.int b) (decide (b ≤ a)) := fun s O va vb _ ha hb => by
  obtain ⟨t, rfl⟩ := ha; obtain ⟨u, rfl⟩ := hb
  exact PyProof.Rows.ge_int ⟨.refl s, rfl⟩
theorem in_tx {c : Nat} {l : List Nat} : Cmp C .In (tx [c]) (tx l) (decide (c ∈ l)) := fun s O va vb _ ha hb => by
  obtain ⟨t, rfl⟩ := ha; obtain ⟨u, rfl⟩ := hb
  refine PyProof.Rows.in_str ⟨.refl s, ?_⟩
  rw [StrLaws.found_one (mk l) c, mk_toList]
theorem notin_tx {c : Nat} {l : List Nat} : Cmp C .NotIn (tx [c]) (tx l) (!decide (c ∈ l)) := fun s O va vb _ ha hb => by
  obtain ⟨t, rfl⟩ := ha; obtain ⟨u, rfl⟩ := hb
  refine PyProof.Rows.notIn_str ⟨.refl s, ?_⟩
  rw [StrLaws.found_one (mk l) c, mk_toList]
theorem item_tx {l : List Nat} {i : Int} {c : Nat} (h0 : 0 ≤ i) (hl : l.length ≤ 16777216) (hx : l[i.toNat]? = some c) : Item C (tx l) (.int i) (tx [c]) := by
  have hlt : i.toNat < l.length := (List.getElem?_eq_some_iff.mp hx).1
  have := item_str_ (C := C) (x := mk l) (i := i) (by unfold fitsSsize; simp; omega) (by omega) (by rw [mk_length]; omega)
  rw [W.item_meets (by rw [mk_length]; omega)] at this
  rwa [show (mk l).cps.getD i.toNat 0 = c by simp [mk, Array.getD_eq_getD_getElem?, hx]] at this
theorem slice_tx {l : List Nat} {i j : Int} (h : 0 ≤ i ∧ i ≤ j ∧ j ≤ l.length) (hl : l.length ≤ 16777216) : SliceOf C (tx l) (some i) (some j) (tx ((l.drop i.toNat).take (j - i).toNat)) := by
  have := slice_str_ (C := C) (x := mk l) (lo := some i) (hi := some j) (by rw [mk_length, sizeLine_eq]; exact hl)
  rwa [show Txt.slice (mk l) (some i) (some j) = _ from StrLaws.sliceText_plain (x := mk l) (by rw [mk_toList]; exact h), mk_toList] at this
theorem slice_tx_to {l : List Nat} {j : Int} (h : 0 ≤ j ∧ j ≤ l.length) (hl : l.length ≤ 16777216) : SliceOf C (tx l) none (some j) (tx (l.take j.toNat)) := by
  have := slice_str_ (C := C) (x := mk l) (lo := none) (hi := some j) (by rw [mk_length, sizeLine_eq]; exact hl)
  rw [show Txt.slice (mk l) none (some j) = _ from StrLaws.sliceText_to (x := mk l) (by rw [mk_toList]; exact h), mk_toList] at this
  simpa using this
theorem len_tx {l : List Nat} (hl : l.length ≤ 16777216) : Fn C (.builtin "len") [tx l] (.int l.length) := by
  have := fn_len_str (C := C) (x := mk l) (by rw [mk_length]; omega)
  rwa [mk_length] at this
theorem tr_tx {l : List Nat} (hl : l.length ≤ 16777216) : Tr C (tx l) (!l.isEmpty) := by
  have := tr_str (C := C) (x := mk l) (by rw [mk_length]; omega)
  rw [mk_length] at this
  rwa [show ((l.length : Int) != 0) = !l.isEmpty by cases l with | nil => rfl | cons a r => simp; omega] at this
end
end Mine
namespace Mine
open PySem PySem.W PyProof.Rows
theorem sget_here {x : Str} {b : Bd} {r : St} : sget ((x, b) :: r) x = some b := by simp [sget]
theorem sget_there {x y : Str} {b c : Bd} {r : St} (h : (y == x) = false) (g : sget r x = some b) : sget ((y, c) :: r) x = some b := by
  have : y ≠ x := fun q => by subst q; simp at h
  simp [sget, this, g]
theorem sput_here {x : Str} {b c : Bd} {r : St} : sput ((x, c) :: r) x b = (x, b) :: r := by simp [sput]
theorem sput_there {x y : Str} {b c : Bd} {r r' : St} (h : (y == x) = false) (g : sput r x b = r') : sput ((y, c) :: r) x b = (y, c) :: r' := by
  have : y ≠ x := fun q => by subst q; simp at h
  simp [sput, this, g]
theorem sput_nil {x : Str} {b : Bd} : sput [] x b = [(x, b)] := rfl
theorem fget_here {x : Str} {b : MV} {r : List (Str × MV)} : fget ((x, b) :: r) x = some b := by simp [fget]
theorem fget_there {x y : Str} {b c : MV} {r : List (Str × MV)} (h : (y == x) = false) (g : fget r x = some b) : fget ((y, c) :: r) x = some b := by
  have : y ≠ x := fun q => by subst q; simp at h
  simp [fget, this, g]
theorem fget_not {x : Str} : fget [] x = none := rfl
theorem fget_next {x y : Str} {c : MV} {r : List (Str × MV)} (h : (y == x) = false) (g : fget r x = none) : fget ((y, c) :: r) x = none := by
  have : y ≠ x := fun q => by subst q; simp at h
  simp [fget, this, g]
theorem fput_here {x : Str} {b c : MV} {r : List (Str × MV)} : fput ((x, c) :: r) x b = (x, b) :: r := by simp [fput]
theorem fput_there {x y : Str} {b c : MV} {r r' : List (Str × MV)} (h : (y == x) = false) (g : fput r x b = r') : fput ((y, c) :: r) x b = (y, c) :: r' := by
  have : y ≠ x := fun q => by subst q; simp at h
  simp [fput, this, g]
theorem fput_nil {x : Str} {b : MV} : fput [] x b = [(x, b)] := rfl
theorem lk_here {x : Str} {k : NameKind} {r : List (Str × NameKind)} : ((x, k) :: r).lookup x = some k := by simp [List.lookup]
theorem lk_there {x y : Str} {k k' : NameKind} {r : List (Str × NameKind)} (h : (x == y) = false) (g : r.lookup x = some k) : ((y, k') :: r).lookup x = some k := by simp [List.lookup, h, g]
theorem kind_lk {env : Env} {l : List (Str × NameKind)} {x : Str} {k : NameKind} (hn : env.scope.names = l) (h : l.lookup x = some k) : env.kindOf x = some k := by
  show env.scope.names.lookup x = _
  rw [hn]; exact h
section
variable {C : Cx} {env : Env} {σ σ' : St} {Q : FM → St → Prop}
theorem ss_assign {x : Str} {p' p : Pos} {e : Expr} {m : MV} {rest : List Stmt} (he : Ev C env σ e m) (hx : Stores env x) (hs : swapsWith e (some (.Name x p')) p.line env = pure false) (hp : sput σ x (.fz m) = σ')
    (h : wpSs C env rest σ' Q) : wpSs C env (.Assign [.Name x p'] e p :: rest) σ Q := wpSs_cons (wpS_assign he hx hs (by rw [hp]; exact h))
theorem ss_if {t : Expr} {b : Bool} {body orelse rest : List Stmt} {p : Pos} (ht : EvB C env σ t b) (h1 : b = true → wpSs C env body σ fun fm σ' => match fm with | .next => wpSs C env rest σ' Q | fm => Q fm σ') (h2 : b = false → wpSs C env orelse σ fun fm σ' => match fm with | .next => wpSs C env rest σ' Q | fm => Q fm σ') : wpSs C env (.If t body orelse p :: rest) σ Q := wpSs_cons (wpS_if ht h1 h2)
theorem ss_if_no {t : Expr} {body rest : List Stmt} {p : Pos} (ht : EvB C env σ t false) (h : wpSs C env rest σ Q) : wpSs C env (.If t body [] p :: rest) σ Q := ss_if ht (fun h => nomatch h) fun _ => wpSs_nil h
theorem ss_ret {e : Expr} {p : Pos} {m : MV} {rest : List Stmt} (he : Ev C env σ e m) (h : Q (.ret m) σ) : wpSs C env (.Return (some e) p :: rest) σ Q := wpSs_cons (wpS_return he h)
theorem ss_expr {e : Expr} {p : Pos} {m : MV} {rest : List Stmt} (he : Ev C env σ e m) (hi : interactive env = false) (hs : swapsWith e none p.line env = pure false) (h : wpSs C env rest σ Q) : wpSs C env (.Expr e p :: rest) σ Q := wpSs_cons (wpS_expr he hi hs h)
theorem ss_setattr {o : Expr} {name x : Str} {p p' : Pos} {e : Expr} {a Cl d : Addr} {fs fs' : List (Str × MV)} {m : MV} {K : Frag} {rest : List Stmt} (hro : C.ro = false) (hK : KOk C K) (hC : ClsOk K Cl) (he : Ev C env σ e m) (ho : Ev C env σ o (.obj (.ref a))) (hx : sget σ x = some (.inst a Cl d fs))
    (hn : findIn K (.ref Cl) name = some none) (hm : scal m = true) (hlen : Nat.blt fs.length 1000 = true) (hs : swapsWith e (some (.Attribute o name p')) p.line env = pure false) (hf : fput fs name m = fs') (hp : sput σ x (.inst a Cl d fs') = σ')
    (h : wpSs C env rest σ' Q) : wpSs C env (.Assign [.Attribute o name p'] e p :: rest) σ Q := wpSs_cons (wpS_setattr hro hK hC he ho hx hn hm (Nat.le_of_ble_eq_true hlen) hs (by rw [hf, hp]; exact h))
theorem ss_augattr {o : Expr} {name x : Str} {p p' : Pos} {op : Operator} {e : Expr} {a Cl d : Addr} {fs fs' : List (Str × MV)} {m m' r : MV} {K : Frag} {rest : List Stmt} (hro : C.ro = false) (hK : KOk C K) (hC : ClsOk K Cl) (he : Ev C env σ e m') (ho : Ev C env σ o (.obj (.ref a))) (hx : sget σ x = some (.inst a Cl d fs))
    (hf : fget fs name = some m) (hn : findIn K (.ref Cl) name = some none) (hm : scal m = true) (hm' : scal m' = true) (hh : ∀ u, m = .obj u → handedIn u = true) (hlen : Nat.blt fs.length 1000 = true) (hop : Inp C op m m' r) (hf' : fput fs name r = fs') (hp : sput σ x (.inst a Cl d fs') = σ')
    (h : wpSs C env rest σ' Q) : wpSs C env (.AugAssign (.Attribute o name p') op e p :: rest) σ Q := wpSs_cons (wpS_augattr hro hK hC he ho hx hf hn hm hm' hh (Nat.le_of_ble_eq_true hlen) hop (by rw [hf', hp]; exact h))
end
end Mine
namespace Mine
open PySem PySem.W PyProof.Rows
theorem dq_nobool : typeLookup (.type "collections.deque") "__bool__" = pure none := by rw [typeLookup_type, builtinLookup_eq_fast]; kernel_rfl
theorem dq_len : Slot "collections.deque" "__len__" "collections.deque.__len__" :=
  .of (owner := "collections.deque") (n := "__len__") (by rw [typeLookup_type, builtinLookup_eq_fast]; kernel_rfl) (by decide +kernel) (by decide +kernel) (by decide +kernel)
    (by first | exact .inl (by decide +kernel) | exact .inr (by decide +kernel)) (by rw [isSubtype_type]; kernel_rfl)
theorem dq_len_entry : entryFor table "collections.deque.__len__" = some Builtin.«collections.deque.__len__» := entryFor_of_tree (by kernel_rfl)
theorem dq_len_args (a : Value) : argsOk "collections.deque.__len__" ⟨[a], []⟩ := by unfold argsOk; kernel_rfl
section
variable {C : Cx} {env : Env} {σ : St}
theorem DeqAt.typeIs {s : Shared} {p : Addr} (h : DeqAt s.heap p) : s.TypeIs (.ref p) "collections.deque" := by
  obtain ⟨o, n, t, e, c, d⟩ := h
  exact (show ∃ o, s.heap.get? p = some o ∧ o.cls = .type "collections.deque" from ⟨o, e, c⟩)
theorem tr_deq : Tr C .deq false := fun s O v hv => by
  obtain ⟨p, rfl, hd⟩ := hv
  have hT := DeqAt.typeIs (s := s) hd
  obtain ⟨o, n, t, e, c, d⟩ := hd
  have body : wpAny C.M C.A.in1 (Builtin.«len» ⟨[.ref p], []⟩) (fun fin s' => ∃ t, fin = .done (.ret (.int 0 t)) ∧ KSs [] s s') F s := by
    unfold Builtin.«len»
    refine wpAny_bind (m := oneArg "len" _) (wpAny_pure ?_)
    refine wpAny_bind (m := callSpecial? (.ref p) (Str.ofString "__len__")) (wpAny_callSpecial?_slot (name := Str.ofString "__len__") hT dq_len
      (wpAny_call_entry dq_len hT dq_len_entry ?_ (dq_len_args _)))
    show wpAny _ _ (do retInt (← Builtin.Deque.size (.ref p))) _ _ s
    unfold Builtin.Deque.size fieldsOf
    refine wpAny_bind (wpAny_bind (wpAny_bind (wpAny_load e ?_)))
    rw [d]
    refine wpAny_pure (wpAny_pure (wpAny_bind (wpAny_mkInt (wpAny_pure ⟨_, rfl, ?_⟩))))
    refine wpAny_bind (wpAny_holding (wpAny_pure ?_))
    refine wpAny_bind (wpAny_letGo ?_)
    show wpAny _ _ (if (0 : Int) < 0 then _ else _) _ _ _
    rw [if_neg (by omega)]
    show wpAny _ _ (if (0 : Int) ≥ 2 ^ 63 then _ else _) _ _ _
    rw [if_neg (by omega)]
    exact wpAny_bind (wpAny_mkInt (wpAny_pure ⟨_, rfl, .tok s _⟩))
  have key : wpAny C.M C.A (runValue (.builtin "len" ⟨[.ref p], []⟩)) (fun r s' => ∃ t, r = .int 0 t ∧ KSs [] s s') F s := by
    refine wpAny_runValue (codeAny_builtin entry_len ?_)
    rw [Around.under_plainId plain_len _]
    refine wpAny_mono body (fun fin s' h' => ?_) fun _ _ e => e
    obtain ⟨t, rfl, hq⟩ := h'
    exact ⟨t, rfl, hq⟩
  unfold truthy
  refine wpAny_bind (wpAny_callSpecial?_none (name := Str.ofString "__bool__") hT dq_nobool ?_)
  refine wpAny_bind (wpAny_specialOf (name := Str.ofString "__len__") hT dq_len.lookup ?_)
  refine wpAny_bind (wpAny_mono key (fun r s' h' => ?_) fun _ _ e => e)
  obtain ⟨t, rfl, hq⟩ := h'
  exact wpAny_pure ⟨hq, rfl⟩
theorem is_int_none {i : Int} : Cmp C .Is (.int i) .none false := fun s O va vb _ ha hb => by
  obtain ⟨t, rfl⟩ := ha; cases hb
  exact wpAny_is_other rfl (by simp) ⟨.refl s, rfl⟩
theorem is_str_none {x : Str} : Cmp C .Is (.str x) .none false := fun s O va vb _ ha hb => by
  obtain ⟨t, rfl⟩ := ha; cases hb
  exact wpAny_is_other rfl (by simp) ⟨.refl s, rfl⟩
theorem is_none_none : Cmp C .Is .none .none true := fun s O va vb _ ha hb => by
  cases ha; cases hb
  exact wpAny_is_self rfl ⟨.refl s, rfl⟩
theorem isnot_none_none : Cmp C .IsNot .none .none false := fun s O va vb _ ha hb => by
  cases ha; cases hb
  exact wpAny_isNot_self rfl ⟨.refl s, rfl⟩
theorem isnot_str_none {x : Str} : Cmp C .IsNot (.str x) .none true := fun s O va vb _ ha hb => by
  obtain ⟨t, rfl⟩ := ha; cases hb
  exact wpAny_isNot_other rfl (by simp) ⟨.refl s, rfl⟩
theorem isnot_ref_none {a : Addr} : Cmp C .IsNot (.obj (.ref a)) .none true := fun s O va vb _ ha hb => by
  cases ha; cases hb
  exact wpAny_isNot_other rfl (by simp) ⟨.refl s, rfl⟩
theorem isnot_type_self {T : String} : Cmp C .IsNot (.obj (.type T)) (.obj (.type T)) false := fun s O va vb _ ha hb => by
  cases ha; cases hb
  exact wpAny_isNot_self rfl ⟨.refl s, rfl⟩
theorem eq_str_none_ {x : Str} : Cmp C .Eq (.str x) .none false := fun s O va vb _ ha hb => by
  obtain ⟨t, rfl⟩ := ha; cases hb
  exact PySem.EqNone.eq_str_none ⟨.refl s, rfl⟩
theorem eq_none_none_ : Cmp C .Eq .none .none true := fun s O va vb _ ha hb => by
  cases ha; cases hb
  exact PySem.EqNone.eq_none_none ⟨.refl s, rfl⟩
theorem strs_are {h : Heap} {O : List Addr} : ∀ {ls : List (List Nat)} {vs : List Value}, VIns h O (ls.map tx) vs → StrsAre vs (ls.map mk)
  | [], _, x => by rw [show _ = [] from x]; exact .nil
  | l :: ls, _, ⟨v, r, e, hv, hr⟩ => by
    obtain ⟨t, rfl⟩ := hv
    subst e
    exact .cons _ t (strs_are hr)
theorem in_tup_tx {l : List Nat} {ls : List (List Nat)} : Cmp C .In (tx l) (.tuple (ls.map tx)) (ls.any (· == l)) := fun s O va vb _ ha hb => by
  obtain ⟨t, rfl⟩ := ha
  obtain ⟨a, vs, rfl, _, ⟨o, e, c, n, d⟩, r⟩ := hb
  refine in_tuple_strs (items := vs.toArray) ⟨o, e, c, n, d⟩ (by simpa using strs_are r) ⟨.refl s, ?_⟩
  congr 1
  rw [List.any_map]
  congr 1
  funext y
  exact mk_beq y l
theorem ev_neg {e : Expr} {i : Int} {p : Pos} (h : Ev C env σ e (.int i)) : Ev C env σ (.UnaryOp .USub e p) (.int (-i)) := fun s R => by
  refine wpAny_UnaryOp (wpAny_mono (h s R) (fun v s₁ h₁ => ?_) fun _ _ x => x)
  obtain ⟨k, t, rfl⟩ := h₁
  exact PyProof.Rows.neg_int ⟨k.trans (.tok s₁ _), _, rfl⟩
theorem fn_type_int {i : Int} : Fn C (.type "type") [.int i] (.obj (.type "int")) := fun s O vals _ ha => by
  obtain ⟨v, r, rfl, ⟨t, rfl⟩, rfl⟩ := ha
  exact call_type_of (typeIs_int _ _ _) (by decide) ⟨.refl s, rfl⟩
theorem fn_type_str {x : Str} : Fn C (.type "type") [.str x] (.obj (.type "str")) := fun s O vals _ ha => by
  obtain ⟨v, r, rfl, ⟨t, rfl⟩, rfl⟩ := ha
  exact call_type_of (typeIs_str _ _ _) (by decide) ⟨.refl s, rfl⟩
theorem fn_int_int {i : Int} : Fn C (.type "int") [.int i] (.int i) := fun s O vals _ ha => by
  obtain ⟨v, r, rfl, ⟨t, rfl⟩, rfl⟩ := ha
  exact call_int_int ⟨.refl s, _, rfl⟩
theorem wpSs_mono {sts : List Stmt} {Q Q' : FM → St → Prop} (h : wpSs C env sts σ Q) (hq : ∀ fm σ', Q fm σ' → Q' fm σ') : wpSs C env sts σ Q' := fun X s R =>
  wpAny_mono (h X s R) (fun fl s' p => let ⟨h', tk, e, fm, σ', fr, R', q⟩ := p; ⟨h', tk, e, fm, σ', fr, R', hq fm σ' q⟩) fun _ _ x => x
theorem ss_if1 {t : Expr} {b : Bool} {body orelse : List Stmt} {p : Pos} {Q : FM → St → Prop} (ht : EvB C env σ t b) (h1 : b = true → wpSs C env body σ Q) (h2 : b = false → wpSs C env orelse σ Q) : wpSs C env [.If t body orelse p] σ Q :=
  have hq : ∀ fm σ', Q fm σ' → (match fm with | .next => wpSs C env [] σ' Q | fm => Q fm σ') := fun fm σ' q => by
    cases fm <;> first | exact wpSs_nil q | exact q
  ss_if ht (fun h => wpSs_mono (h1 h) hq) fun h => wpSs_mono (h2 h) hq
theorem ss_no {t : Expr} {b : Bool} {body rest : List Stmt} {p : Pos} {Q : FM → St → Prop} (ht : EvB C env σ t b) (hb : b = false) (h : wpSs C env rest σ Q) : wpSs C env (.If t body [] p :: rest) σ Q := ss_if_no (by rw [← hb]; exact ht) h
/-- an effectful call's statement -/
theorem ss_ometh {y : Str} {py pas : Pos} {o : Expr} {name x : Str} {apos pos : Pos} {es : List Expr} {a Cl d f : Addr} {fs : List (Str × MV)} {ms : List MV} {K : Frag} {full : Bool} {k : Nat} {γ γ' : St} {r : MV} {Q : FM → St → Prop} {σ₁ σ₂ : St} {rest : List Stmt} (hro : C.ro = false) (hK : KOk C K) (hC : ClsOk K Cl) (ho : Ev C env σ o (.obj (.ref a))) (hx : sget σ x = some (.inst a Cl d fs))
    (hf : fget fs name = none) (hn : findIn K (.ref Cl) name = some (some (.ref f))) (ht : typeIn K (.ref f) = some (.type "function")) (ha : Evs C env σ es ms) (hs : SpecO C.G full k (.ref f) (.obj (.ref a) :: ms) γ r γ') (hk : C.lvl ≤ k) (hfull : full = true → C.Full) (hc : ∀ p ∈ γ, sget σ p.1 = some p.2) (hnd : (instA γ).Nodup) (hsm : SameG γ γ') (hkn : (γ.map (·.1)).Nodup)
    (hfn : ∀ h, C.ok h → ∃ o fd, h.get? f = some o ∧ o.data = .func fd)
    (hbase : attributeBase o name env (eval o env) = eval o env) (hline : (apos.endLine == pos.line) = true) (hfew : es.length < 29) (hy : Stores env y) (hp : sputs σ γ' = σ₁) (hp' : sput σ₁ y (.fz r) = σ₂) (hq : wpSs C env rest σ₂ Q) :
    wpSs C env (.Assign [.Name y py] (.Call (.Attribute o name apos) es [] pos) pas :: rest) σ Q :=
  wpSs_cons (wpS_assign_ometh hro hK hC ho hx hf hn ht ha hs hk hfull hc hnd hsm hkn hfn hbase hline hfew hy (by rw [hp, hp']; exact hq))
end
end Mine
namespace Mine
open PySem PySem.W PyProof.Rows
theorem c_nil {C : Cx} {env : Env} {σ : St} {k : Nat} {p : Pos} : Ev C env σ (.Constant (.str (Str.ofString "")) k p) (tx []) := ev_tx (by decide +kernel)
theorem c_q {C : Cx} {env : Env} {σ : St} {k : Nat} {p : Pos} : Ev C env σ (.Constant (.str (Str.ofString "\"")) k p) (tx [34]) := ev_tx (by decide +kernel)
theorem c_b {C : Cx} {env : Env} {σ : St} {k : Nat} {p : Pos} : Ev C env σ (.Constant (.str (Str.ofString " ")) k p) (tx [32]) := ev_tx (by decide +kernel)
theorem c_n257 {C : Cx} {env : Env} {σ : St} {k : Nat} {p : Pos} : Ev C env σ (.Constant (.str (Str.ofString "257")) k p) (tx [50, 53, 55]) := ev_tx (by decide +kernel)
theorem c_bq {C : Cx} {env : Env} {σ : St} {k : Nat} {p : Pos} : Ev C env σ (.Constant (.str (Str.ofString " \"")) k p) (tx [32, 34]) := ev_tx (by decide +kernel)
theorem c_lf {C : Cx} {env : Env} {σ : St} {k : Nat} {p : Pos} : Ev C env σ (.Constant (.str (Str.ofString "\n")) k p) (tx [10]) := ev_tx (by decide +kernel)
theorem c_cr {C : Cx} {env : Env} {σ : St} {k : Nat} {p : Pos} : Ev C env σ (.Constant (.str (Str.ofString "\r")) k p) (tx [13]) := ev_tx (by decide +kernel)
theorem c_crlf {C : Cx} {env : Env} {σ : St} {k : Nat} {p : Pos} : Ev C env σ (.Constant (.str (Str.ofString "\r\n")) k p) (tx [13, 10]) := ev_tx (by decide +kernel)
theorem c_a {C : Cx} {env : Env} {σ : St} {k : Nat} {p : Pos} : Ev C env σ (.Constant (.str (Str.ofString "a")) k p) (tx [97]) := ev_tx (by decide +kernel)
theorem c_c {C : Cx} {env : Env} {σ : St} {k : Nat} {p : Pos} : Ev C env σ (.Constant (.str (Str.ofString "c")) k p) (tx [99]) := ev_tx (by decide +kernel)
theorem c_hash {C : Cx} {env : Env} {σ : St} {k : Nat} {p : Pos} : Ev C env σ (.Constant (.str (Str.ofString "#")) k p) (tx [35]) := ev_tx (by decide +kernel)
theorem c_z {C : Cx} {env : Env} {σ : St} {k : Nat} {p : Pos} : Ev C env σ (.Constant (.str (Str.ofString "z")) k p) (tx [122]) := ev_tx (by decide +kernel)
end Mine
namespace Mine
open PySem PySem.W PyProof.Rows
theorem funFrames_of {n₀ : Nat} {h base : Heap} : ∀ {fs : List Env}, FramesIn n₀ h fs → (∀ e ∈ fs, ∀ L, e.frame = some L → base.get? L = none) → h.FunFrames base fs
  | [], _, _ => trivial
  | e :: r, hfr, hb => by
    obtain ⟨hk, L, o, hf, _, ho, es, ep, hd⟩ := hfr e List.mem_cons_self
    exact ⟨hk, ⟨L, o, hf, hb e List.mem_cons_self L hf, ho, fun vs q => by rw [hd] at q; cases q⟩, funFrames_of (fun e' he => hfr e' (List.mem_cons_of_mem _ he)) fun e' he => hb e' (List.mem_cons_of_mem _ he)⟩
theorem mem_frames {fs : List Env} {e : Env} {L : Addr} (he : e ∈ fs) (hf : e.frame = some L) : L ∈ fs.filterMap (·.frame) := List.mem_filterMap.mpr ⟨e, he, hf⟩
/-- an exception leaves the frame that made it -/
theorem leave_ {C : Cx} (hfull : C.Full) {env : Env} {outer : List Env} (hfs : C.fs = env :: outer) {L : Addr} (hf : env.frame = some L) {s : Shared} (hfr : FramesIn C.n₀ s.heap C.fs) {e : Addr} {oe : Obj} {vs : Array Value} (he : s.heap.get? e = some oe) (hd : oe.data = .fields vs) (h1 : vs[1]? = some .none)
    {Q : Unit → Shared → Prop} {E : Value → Shared → Prop} (h : ∀ h', KM C.S [e] s.heap h' → (∃ oe', h'.get? e = some oe' ∧ oe'.cls = oe.cls) → Q () { s with heap := h' }) : wpAny C.M C.A (leaving env (.ref e)) Q E s := by
  have hfr' := hfr
  rw [hfs] at hfr'
  refine wpAny_leaving_first (base := hideAll s.heap (e :: C.fs.filterMap (·.frame))) (outer := outer) (by rw [C.hfs, hfs]) (funFrames_of hfr' fun e' he' L' hf' => hideAll_none _ (List.mem_cons_of_mem _ (by rw [hfs]; exact mem_frames he' hf'))) hf he (fun b o q => of_hideAll _ q) (hideAll_none _ List.mem_cons_self) hd h1 fun h' hL => ?_
  obtain ⟨k1, k2, k3, k4⟩ := hL
  refine h h' (fun b o hb hB => ?_) ?_
  · have hbe : b ≠ e := fun q => hB (by rw [q]; exact List.mem_cons_self)
    by_cases hm : b ∈ C.fs.filterMap (·.frame)
    · obtain ⟨ev, hev, hfe⟩ := List.mem_filterMap.mp hm
      have hS := hfull ev hev b hfe
      obtain ⟨_, L', o', hf', _, ho', es, ep, hd'⟩ := hfr ev hev
      rw [hfe] at hf'
      cases hf'
      rw [hb] at ho'
      cases ho'
      obtain ⟨sl, q⟩ := k4 b o hb (fun vs q => by rw [hd'] at q; cases q)
      exact ⟨fun z => absurd hS z, _, q, rfl, rfl, rfl⟩
    · have q := k1 b o (hideAll_get _ hb (by simp only [List.mem_cons, not_or]; exact ⟨hbe, hm⟩))
      exact ⟨fun _ => q, o, q, rfl, rfl, rfl⟩
  · obtain ⟨oe', vs', T, oT, ts, q1, q2, _⟩ := k3
    exact ⟨oe', q1, q2⟩
/-- what a body that raises leaves -/
inductive XPost (C : Cx) (X : Heap) (env : Env) (cls : String) (γ' : St) (s : Shared) (v : Value) (s' : Shared) : Prop
  | mk (h' : Heap) (tk : Nat) (e : Addr) (oe : Obj) (vs : Array Value) (σ' : St) (es : s' = { s with heap := h', toks := tk }) (ev : v = .ref e) (he : h'.get? e = some oe) (hc : oe.cls = .type cls) (hd : oe.data = .fields vs) (h1 : vs[1]? = some .none) (hX : X.get? e = none) (R : Rel C X env σ' h') (hg : ∀ p ∈ γ', sget σ' p.1 = some p.2)
/-- a body that raises -/
noncomputable def wpX (C : Cx) (env : Env) (sts : List Stmt) (σ : St) (cls : String) (γ' : St) : Prop := ∀ X s, Rel C X env σ s.heap →
  wpAny C.M C.A (execs sts env) (fun _ _ => False) (XPost C X env cls γ' s) s
noncomputable def SpecX (G : Gx) (k : Nat) (f : Value) (args : List MV) (γ : St) (cls : String) (γ' : St) : Prop :=
  ∀ C : Cx, C.G = G → C.lvl ≤ k → C.Full → ∀ s O vals, C.ok s.heap → FramesIn C.n₀ s.heap C.fs → (∀ x ∈ O, ∃ vs : Array Value, s.heap.PlainList x vs) → VIns s.heap O args vals → GOk C s.heap γ →
    wpAny C.M C.A (call f vals) (fun _ _ => False) (fun v s' => KMs C.S (instA γ) s s' ∧ GIn s'.heap γ' ∧ ∃ e o, v = .ref e ∧ s'.heap.get? e = some o ∧ o.cls = .type cls) s
theorem specX_of {G : Gx} {fa : Addr} {fd : FuncData} {body : List Stmt} {names : List Str} {ms : List MV} {γ γ' : St} {cls : String} {k : Nat} (D : IsDef G fa fd body names) (hk : k + 1 ≤ 100) (hn : ms.length = names.length)
    (hγ : insts γ = true) (hg : ∀ p ∈ γ, fd.scope.names.lookup p.1 = none) (hsm : instA γ' = instA γ)
    (hb : ∀ C : Cx, C.G = G → C.lvl ≤ k + 1 → C.Full → ∀ L, C.mB = instA γ → C.ro = false → (instA γ).Nodup → wpX C (envAt fd L fa) body (names.zip (ms.map .fz) ++ γ) cls γ')
    (hg' : ∀ p ∈ γ', fd.scope.names.lookup p.1 = none) : SpecX G k (.ref fa) ms γ cls γ' := fun C hG hlv hfull s O vals hok hfr hO hv hgo => by
  subst hG
  obtain ⟨o, ho, hd⟩ := D.at_ _ hok
  have hlen : vals.length = names.length := by rw [hv.length, hn]
  refine wpAny_call (call_cells (P := fun binds s' => binds = names.zip vals ∧ s' = s) C.room ho hd (D.code _ hok) D.body (fun A => (D.binds _ _ hok vals hlen).here ⟨rfl, rfl⟩) D.clo (fun binds s' hp => ?_) D.co D.gen D.kind)
  obtain ⟨rfl, hse⟩ := hp
  rw [hse]
  refine ⟨C.G.nolim _ hok, ?_, fun s₁ I => ?_⟩
  · intro x hx
    have hx' : x.1 ∈ names := by
      have : x.1 ∈ (names.zip vals).map (·.1) := List.mem_map_of_mem hx
      rwa [zip_map_fst hlen] at this
    rcases D.kinds x.1 hx' with h | h
    · exact .inl h
    · exact .inr ⟨h, PySem.W.cellsFrom_some _ _ _ (.inl h)⟩
  · have hl1 : C.lvl + 1 ≤ 100 := by omega
    let L := s.heap.objs.size
    let C' := inner C fd L fa O (instA γ) false hl1
    obtain ⟨h₁, tk₁, rfl⟩ := I.toInCall.same
    have hLn : s.heap.get? L = none := Heap.get?_none_of_le (Nat.le_refl _)
    have R : Rel C' s.heap (envAt fd L fa) (names.zip (ms.map .fz) ++ γ) h₁ := rel_start (instA γ) false (.inr rfl) D.toIsDef0 hγ hg hlen hok hfr hO hv hgo hl1 I
    have hfull' : C'.Full := fun e he a hf => by
      rcases List.mem_cons.mp he with rfl | he
      · cases hf; exact List.mem_cons_self
      · exact List.mem_cons_of_mem _ (hfull e he a hf)
    refine wpAny_mono (hb C' rfl (by show C.lvl + 1 ≤ k + 1; omega) hfull' L rfl rfl hgo.nodup s.heap _ R) (fun fl s₂ p₂ => p₂.elim) fun v s₂ p₂ => ?_
    obtain ⟨h₂, tk₂, e, oe, vs, σ', rfl, rfl, he, hcl, hde, h1, hXe, R₂, qg⟩ := p₂
    refine leave_ (C := C') hfull' rfl rfl R₂.fr he hde h1 fun h₃ km ⟨oe', q1, q2⟩ => ?_
    refine ⟨⟨h₃, tk₂, rfl, fun b o eb hB => ?_⟩, fun x a Ca d fs hm => ?_, e, oe', rfl, q1, q2.trans hcl⟩
    · have hbe : b ∉ [e] := by
        simp only [List.mem_singleton]
        rintro rfl
        rw [hXe] at eb; cases eb
      obtain ⟨k1, o2, k2, k3⟩ := R₂.keepX b o eb hB
      obtain ⟨m1, o3, m2, m3, m4, m5⟩ := km b o2 k2 hbe
      refine ⟨fun hb => ?_, o3, m2, m3.trans k3.1, m4.trans k3.2.1, m5.trans k3.2.2⟩
      have hb' : b ∉ C'.S := fun hm => by
        rcases List.mem_cons.mp hm with rfl | hm
        · rw [hLn] at eb; cases eb
        · exact hb hm
      exact (km b o (k1 hb') hbe).1 hb'
    · have hv := R₂.vars x _ (qg _ hm)
      unfold VarIs at hv
      rw [show (envAt fd L fa).kindOf x = none from hg' _ hm] at hv
      obtain ⟨v, _, ⟨⟨sl, ea⟩, hne, mA, ⟨od, es, ep, ed, dd, rr⟩, hF⟩⟩ := hv
      have ha : a ∉ [e] := by simp only [List.mem_singleton]; rintro rfl; rw [he] at ea; cases ea; cases hde
      have hd' : d ∉ [e] := by simp only [List.mem_singleton]; rintro rfl; rw [he] at ed; cases ed; rw [dd] at hde; cases hde
      obtain ⟨_, oa, ea', x1, x2, x3⟩ := km a _ ea ha
      obtain ⟨_, od', ed', y1, _⟩ := km d _ ed hd'
      refine ⟨⟨oa.slots, ?_⟩, hne, mA, ⟨od', es, ep, ed', y1.trans dd, rr⟩, hF.to fun p dq => ?_⟩
      · obtain ⟨c1, c2, c3, c4⟩ := oa
        cases x1; cases x2; cases x3
        exact ea'
      · obtain ⟨o, n, t, e1, c1, d1⟩ := dq
        have hp : p ∉ [e] := by
          simp only [List.mem_singleton]; rintro rfl
          rw [he] at e1; cases e1
          rw [hde] at d1; cases d1
          simp at h1
        obtain ⟨_, o', e', z1, z2, _⟩ := km p o e1 hp
        exact ⟨o', n, t, e', z2.trans c1, z1.trans d1⟩
end Mine
namespace Mine
open PySem PySem.W PyProof.Rows
/-- what a call leaves: a value, objects turned and made -/
inductive OutO (C : Cx) (s : Shared) (B O : List Addr) (Q : MV → St → Prop) (v : Value) (s' : Shared) : Prop
  | mk (m : MV) (σ' : St) (k : KMs C.S B s s') (hv : VIn s'.heap O m v) (q : Q m σ') (hi : ∀ x a Ca d fs, sget σ' x = some (.inst a Ca d fs) → InstIs s'.heap a Ca d fs) (hn : ∀ b ∈ instA σ', C.n₀ ≤ b ∧ (b ∈ B ∨ s.heap.get? b = none) ∧ ∀ e ∈ C.fs, e.frame ≠ some b) (nd : (instA σ').Nodup)
noncomputable def CodeQ (G : Gx) (full : Bool) (k : Nat) (fa : Addr) (fd : FuncData) (names : List Str) (ms : List MV) (γ : St) (Q : MV → St → Prop) : Prop :=
  ∀ C : Cx, C.G = G → C.lvl ≤ k → (full = true → C.Full) → ∀ s O args, Binds C s O fd args names ms → C.ok s.heap → FramesIn C.n₀ s.heap C.fs → (∀ x ∈ O, ∃ vs : Array Value, s.heap.PlainList x vs) → GOk C s.heap γ →
    codeAny C.M C.A (.call (.ref fa) args) (fun res s' => match res with | .ok (.ret v) => OutO C s (instA γ) O Q v s' | _ => False) s
theorem RelE.inst' {C : Cx} {env : Env} {σ : St} {h : Heap} (R : RelE C env σ h) {x : Str} {a Cl d : Addr} {fs : List (Str × MV)} (e : sget σ x = some (.inst a Cl d fs)) : InstIs h a Cl d fs := R.inst e
theorem codeQ_of {G : Gx} {fa : Addr} {fd : FuncData} {body : List Stmt} {names : List Str} {ms : List MV} {γ : St} {Q : MV → St → Prop} {full : Bool} {k : Nat} (D : IsDef0 G fa fd body names) (hk : k + 1 ≤ 100) (hn : ms.length = names.length)
    (hγ : insts γ = true) (hg : ∀ p ∈ γ, fd.scope.names.lookup p.1 = none)
    (hb : ∀ C : Cx, C.G = G → C.lvl ≤ k + 1 → (full = true → C.Full) → ∀ L, C.mB = instA γ → C.ro = false → (instA γ).Nodup → wpSs C (envAt fd L fa) body (names.zip (ms.map .fz) ++ γ) fun fm σ' => match fm with | .ret m => Q m σ' | .next => Q .none σ' | _ => False) :
    CodeQ G full k fa fd names ms γ Q := fun C hG hlv hfull s₀ O args hbd hok₀ hfr₀ hO₀ hgo₀ => by
  subst hG
  obtain ⟨o, ho, hd⟩ := D.at_ _ hok₀
  refine call_cells C.room ho hd (D.code _ hok₀) D.body hbd D.clo (fun binds s hp => ?_) D.co D.gen D.kind
  obtain ⟨vals, rfl, hlen, ks, hv⟩ := hp
  obtain ⟨h₀', t₂, hse, k₂⟩ := id ks
  have kk₂ : ∀ b o, s₀.heap.get? b = some o → s.heap.get? b = some o := by rw [hse]; exact k₂.keep
  have hok : C.ok s.heap := C.mono _ _ (fun b o _ e => kk₂ b o e) hok₀
  have hfr : FramesIn C.n₀ s.heap C.fs := hfr₀.ks (S := []) (.of_keep kk₂)
  have hO : ∀ x ∈ O, ∃ vs : Array Value, s.heap.PlainList x vs := fun a ha => let ⟨vs, n, e⟩ := hO₀ a ha; ⟨vs, n, kk₂ _ _ e⟩
  have hgo : GOk C s.heap γ := ⟨fun x a Ca d fs hm => (hgo₀.gin x a Ca d fs hm).ks (S := []) (.of_keep kk₂), hgo₀.apart, hgo₀.nodup⟩
  refine ⟨C.G.nolim _ hok, ?_, fun s₁ I => ?_⟩
  · intro x hx
    have hx' : x.1 ∈ names := by
      have : x.1 ∈ (names.zip vals).map (·.1) := List.mem_map_of_mem hx
      rwa [zip_map_fst hlen] at this
    rcases D.kinds x.1 hx' with h | h
    · exact .inl h
    · exact .inr ⟨h, PySem.W.cellsFrom_some _ _ _ (.inl h)⟩
  · have hl1 : C.lvl + 1 ≤ 100 := by omega
    let L := s.heap.objs.size
    let C' := inner C fd L fa O (instA γ) false hl1
    obtain ⟨h₁, tk₁, rfl⟩ := I.toInCall.same
    have hLn : s.heap.get? L = none := Heap.get?_none_of_le (Nat.le_refl _)
    have R : Rel C' s.heap (envAt fd L fa) (names.zip (ms.map .fz) ++ γ) h₁ := rel_start (instA γ) false (.inr rfl) D hγ hg hlen hok hfr hO hv hgo hl1 I
    have hfull' : full = true → C'.Full := fun h e he a hf => by
      rcases List.mem_cons.mp he with rfl | he
      · cases hf; exact List.mem_cons_self
      · exact List.mem_cons_of_mem _ (hfull h e he a hf)
    refine wpAny_mono (hb C' rfl (by show C.lvl + 1 ≤ k + 1; omega) hfull' L rfl rfl hgo.nodup s.heap _ R) (fun fl s₂ p₂ => ?_) fun _ _ x => x.elim
    obtain ⟨h₂, tk₂, rfl, fm, σ', fr, R₂, q⟩ := p₂
    have km2 : KM C.S (instA γ) s.heap h₂ := fun b o e hB => by
      obtain ⟨k1, k2⟩ := R₂.keepX b o e hB
      refine ⟨fun hb => k1 fun hm => ?_, k2⟩
      rcases List.mem_cons.mp hm with rfl | hm
      · rw [hLn] at e; cases e
      · exact hb hm
    have kk : KMs C.S (instA γ) s₀ { s with heap := h₂, toks := tk₂ } := by
      rw [hse]
      exact ⟨h₂, tk₂, rfl, fun b o eb hB => km2 b o (kk₂ b o eb) hB⟩
    have fin : ∀ {m : MV} {v : Value}, VIn h₂ (C'.ex σ') m v → Q m σ' → OutO C s₀ (instA γ) O Q v { s with heap := h₂, toks := tk₂ } := fun {m v} hvm hq =>
      ⟨m, σ', kk, hvm.more fun a ha => .inl (List.mem_append_right _ ha), hq, fun x a Ca d fs hx => R₂.inst' hx, fun b hb => ⟨(R₂.insN b hb).1, ((R₂.insX.resolve_left (by simp [C', inner])) b hb).imp id fun z => (by
        cases q2 : s₀.heap.get? b with
        | none => rfl
        | some o => rw [kk₂ b o q2] at z; cases z), fun e he => (R₂.insN b hb).2.2 e (List.mem_cons_of_mem _ he)⟩, R₂.insNd⟩
    rcases fl with _ | _ | _ | v <;> rcases fm with _ | _ | _ | m <;> first | exact (show False from fr).elim | exact (show False from q).elim | skip
    · exact fin (m := .none) rfl q
    · exact fin fr q
end Mine
namespace Mine
open PySem PySem.W PyProof.Rows
section
variable {C : Cx} {env : Env} {σ : St} {cls : String} {γ' : St}
theorem wpX_step {st : Stmt} {sts : List Stmt} (h : wpS C env st σ fun fm σ' => match fm with | .next => wpX C env sts σ' cls γ' | _ => False) : wpX C env (st :: sts) σ cls γ' := fun X s R => by
  refine wpAny_execs_cons (wpAny_mono (h X s R) (fun fl s' p => ?_) fun _ _ h => h.elim)
  obtain ⟨h', tk, rfl, fm, σ', fr, R', q⟩ := p
  cases fl <;> cases fm <;> first | exact fr.elim | exact q.elim | skip
  refine wpAny_mono (q X _ R') (fun fl2 s2 p2 => p2.elim) fun v s2 p2 => ?_
  obtain ⟨h2, tk2, e, oe, vs, σ2, rfl, r1, r2, r3, r4, r5, r6, r7, r8⟩ := p2
  exact ⟨h2, tk2, e, oe, vs, σ2, rfl, r1, r2, r3, r4, r5, r6, r7, r8⟩
theorem wpX_if {t : Expr} {body orelse rest : List Stmt} {p : Pos} (ht : EvB C env σ t true) (h : wpX C env body σ cls γ') : wpX C env (.If t body orelse p :: rest) σ cls γ' := fun X s R => by
  refine wpAny_execs_cons (wpAny_If (wpAny_mono (ht s R.toRelE) (fun b' s₁ h₁ => ?_) fun _ _ h => h.elim))
  obtain ⟨⟨h1', tk1, rfl, k⟩, rfl⟩ := h₁
  refine wpAny_mono (h X _ (R.ks k)) (fun fl2 s2 p2 => p2.elim) fun v s2 p2 => ?_
  obtain ⟨h2, tk2, e, oe, vs, σ2, rfl, r1, r2, r3, r4, r5, r6, r7, r8⟩ := p2
  exact ⟨h2, tk2, e, oe, vs, σ2, rfl, r1, r2, r3, r4, r5, r6, r7, r8⟩
theorem wpX_stop {x : Str} {np pos : Pos} {rest : List Stmt} (hg : GV C x (.type "StopIteration")) (hk : env.kindOf x = some .globalImplicit) (hd : (x == ("__debug__" : Str)) = false) (hc : ∀ p ∈ γ', sget σ p.1 = some p.2) (hm : ∀ b ∈ C.mB, ∃ x a Cl d fs, sget σ x = some (.inst a Cl d fs) ∧ (b = a ∨ b = d)) :
    wpX C env (.Raise (some (.Name x np)) none pos :: rest) σ "StopIteration" γ' := fun X s R => by
  refine wpAny_execs_cons (owsi_raiseC C.hh ?_ fun h' e hm' => ?_)
  · rcases hg _ R.base with ⟨mg, a, b⟩ | ⟨mg, mb, a, b, c, d⟩
    · exact Calls.Name_function_global R.kind hk (Calls.loadGlobal_global (by rw [R.glob.1]; exact a) b ⟨rfl, rfl⟩) hd
    · exact Calls.Name_function_global R.kind hk (Calls.loadGlobal_builtin (by rw [R.glob.1]; exact a) b (by rw [R.glob.2]; exact c) d ⟨rfl, rfl⟩) hd
  · obtain ⟨t, ht, _⟩ := hm'.there
    have hXe : X.get? e = none := by
      cases q : X.get? e with
      | none => rfl
      | some o =>
        have nm : e ∉ C.mB := fun z => by
          obtain ⟨x, a, Cl, d, fs, hx, w⟩ := hm e z
          obtain ⟨⟨sl, ea⟩, _, mA, ⟨od, es, ep, ed, _⟩, _⟩ := R.inst hx
          have nw := hm'.new
          rcases w with rfl | rfl
          · rw [nw] at ea; cases ea
          · rw [nw] at ed; cases ed
        obtain ⟨_, o', e', _⟩ := R.keepX e o q nm
        have nw := hm'.new
        rw [nw] at e'; cases e'
    exact ⟨h', s.toks, e, _, _, σ, rfl, rfl, ht, rfl, rfl, rfl, hXe, R.ks (.of_keep hm'.keeps), hc⟩
end
end Mine
namespace Mine
open PySem PySem.W PyProof.Rows
theorem dq_mro : ∃ tl, mroOf (.type "collections.deque") = pure (.type "collections.deque" :: tl) := ⟨[.type "object"], by rw [mroOf_type]; kernel_rfl⟩
theorem dq_new : typeLookup (.type "collections.deque") "__new__" = pure (some (.builtin "collections.deque.__new__")) := by rw [typeLookup_type, builtinLookup_eq_fast]; kernel_rfl
theorem dq_init : Slot "collections.deque" "__init__" "collections.deque.__init__" :=
  .of (owner := "collections.deque") (n := "__init__") (by rw [typeLookup_type, builtinLookup_eq_fast]; kernel_rfl) (by decide +kernel) (by decide +kernel) (by decide +kernel)
    (by first | exact .inl (by decide +kernel) | exact .inr (by decide +kernel)) (by rw [isSubtype_type]; kernel_rfl)
theorem dq_sub : isSubtype (.type "collections.deque") (.type "collections.deque") = pure true := by rw [isSubtype_type]; kernel_rfl
theorem dq_called : TypeCalled "collections.deque" "collections.deque.__new__" "collections.deque.__init__" := by
  obtain ⟨tl, h⟩ := dq_mro
  exact ⟨by decide +kernel, by decide +kernel, ⟨_, _, h⟩, madeBy_type h dq_new (by decide +kernel), by decide +kernel, dq_sub, dq_init⟩
theorem dq_ct : checkTypeCall "collections.deque" ⟨[], []⟩ = pure () := by kernel_rfl
theorem dq_nc : checkBuiltinCall "collections.deque.__new__" ⟨[.type "collections.deque"], []⟩ = pure () := by kernel_rfl
theorem dq_new_entry : entryFor table "collections.deque.__new__" = some Builtin.«collections.deque.__new__» := entryFor_of_tree (by kernel_rfl)
theorem dq_new_plain : plainId "collections.deque.__new__" = true := by decide +kernel
theorem dq_init_entry : entryFor table "collections.deque.__init__" = some Builtin.«collections.deque.__init__» := entryFor_of_tree (by kernel_rfl)
theorem dq_init_args (a : Value) : argsOk "collections.deque.__init__" ⟨[a], []⟩ := by unfold argsOk; kernel_rfl
section
variable {C : Cx} {env : Env} {σ : St}
theorem fn_deque : Fn C (.type "collections.deque") [] .deq := fun s O vals hO ha => by
  rw [show vals = [] from ha]
  refine callType_codes (Q₁ := fun obj s₁ => obj = .ref s.heap.objs.size ∧ s₁ = { s with heap := s.heap.push { cls := .type "collections.deque", data := .fields #[.none, rawInt 0] } }) dq_called dq_ct dq_init_entry ?_ fun obj s₁ h₁ => ?_
  · refine codeAny_of_tree ?_
    show wpAny _ C.A.in1.in1 (do checkBuiltinCall "collections.deque.__new__" ⟨[.type "collections.deque"], []⟩; again (.builtin "collections.deque.__new__" ⟨[.type "collections.deque"], []⟩)) _ _ s
    refine wpAny_bind (wpAny_of_eq dq_nc (wpAny_pure ⟨plainId_quiet dq_new_plain _, codeAny_builtin dq_new_entry ?_⟩))
    rw [Around.under_plainId dq_new_plain _]
    have hsub : isSubtype (.type "collections.deque") (.type Builtin.Deque.ty) = pure true := dq_sub
    obtain ⟨hp, g, d, tk, os⟩ := s
    unfold Builtin.«collections.deque.__new__» Builtin.Deque.newArgs Builtin.Deque.new
    wp_walk
    exact ⟨rfl, rfl⟩
  · obtain ⟨rfl, rfl⟩ := h₁
    have hS : (s.heap.push { cls := .type "collections.deque", data := .fields #[.none, rawInt 0] }).get? s.heap.objs.size = some { cls := .type "collections.deque", data := .fields #[.none, rawInt 0] } := Heap.get?_push_size _ rfl
    refine ⟨⟨_, hS, rfl⟩, dq_init_args _, ?_⟩
    unfold Builtin.«collections.deque.__init__»
    dsimp only
    show wpAny _ C.A.in1.in1 (setField (.ref s.heap.objs.size) 0 .none >>= fun _ => Builtin.Deque.clear (.ref s.heap.objs.size) >>= fun _ => ret .none) _ _ _
    refine wpAny_bind (wpAny_setField hS rfl (by decide) ?_)
    have hS2 := Heap.get?_update_self (Obj.mapFields (·.setIfInBounds 0 Value.none)) hS rfl
    unfold Builtin.Deque.clear Builtin.Deque.items fieldsOf
    refine wpAny_bind (wpAny_bind (wpAny_bind (wpAny_bind (wpAny_load hS2 (wpAny_pure ?_)))))
    refine wpAny_pure ?_
    refine wpAny_pure (wpAny_pure ?_)
    refine ⟨rfl, ⟨_, s.toks, rfl, .of_keep fun b o eb => ?_⟩, _, rfl, ⟨_, 0, 0, hS2, rfl, rfl⟩⟩
    exact (Heap.get?_update_other _ _ (Nat.ne_of_gt (Heap.lt_size eb))).trans (Heap.get?_push_of_some _ eb)
end
end Mine
namespace Mine
open PySem PySem.W PyProof.Rows
/-- objects made anew join a frame's state -/
theorem Rel.join {C : Cx} {X h : Heap} {env : Env} {σ γ : St} (R : Rel C X env σ h) (hi : insts γ = true) (g : GIn h γ) (hnew : ∀ b ∈ instA γ, b ∉ instA σ ∧ C.n₀ ≤ b ∧ b ≠ env.locals ∧ (∀ e ∈ C.fs, e.frame ≠ some b) ∧ (b ∈ C.mB ∨ X.get? b = none)) (hnd : (instA γ).Nodup) (hk : ∀ p ∈ γ, env.kindOf p.1 = none) : Rel C X env (σ ++ γ) h := by
  have how : owned (σ ++ γ) = owned σ := by rw [owned_append, owned_insts hi, List.append_nil]
  have hin : instA (σ ++ γ) = instA σ ++ instA γ := instA_append
  have hE : C.ex (σ ++ γ) = C.ex σ := by unfold Cx.ex; rw [how]
  refine { base := R.base, fr := R.fr, kind := R.kind, glob := R.glob, vars := ?_, own := fun a ha => R.own a (by rw [how] at ha; exact ha), outer := R.outer, insN := ?_, insNd := ?_, keepX := R.keepX, ns := R.ns, nsX := R.nsX, nsN := R.nsN, cells := R.cells, apart := R.apart, ownX := fun a ha => R.ownX a (by rw [how] at ha; exact ha), ownN := fun a ha => R.ownN a (by rw [how] at ha; exact ha), ownNd := by rw [how]; exact R.ownNd, insX := ?_, outX := R.outX }
  · intro x b hb
    rw [sget_append] at hb
    rw [hE]
    cases hq : sget σ x with
    | some b' => rw [hq] at hb; cases hb; exact R.vars x _ hq
    | none =>
      rw [hq] at hb
      have hm := sget_mem hb
      obtain ⟨a, Ca, d, fs, rfl⟩ := insts_mem hi hm
      unfold VarIs
      rw [hk _ hm]
      exact ⟨.ref a, rfl, g x a Ca d fs hm⟩
  · intro b hb
    rw [hin] at hb
    rcases List.mem_append.mp hb with hb | hb
    · exact R.insN b hb
    · exact ⟨(hnew b hb).2.1, (hnew b hb).2.2.1, (hnew b hb).2.2.2.1⟩
  · rw [hin]
    exact List.nodup_append.mpr ⟨R.insNd, hnd, fun a ha b hb q => (hnew b hb).1 (q ▸ ha)⟩
  · refine R.insX.imp id fun q b hb => ?_
    rw [hin] at hb
    rcases List.mem_append.mp hb with hb | hb
    · exact q b hb
    · exact (hnew b hb).2.2.2.2
end Mine
namespace Mine
open PySem PySem.W PyProof.Rows PySem.Calls
theorem fc_objnew (K : Frag) : findCls K (.type "object") (.type "type") (Str.ofString "__new__") = some (.val (.builtin "object.__new__")) := by kernel_rfl
theorem opq_obj : opaqueClassAbove (.type "object") = pure none := by kernel_rfl
theorem ty_obj : typeOf (.type "object") = pure (.type "type") := by kernel_rfl
theorem tga_in (K : Frag) : findIn K (.type "type") (Str.ofString "__getattribute__") = some (some (.builtin "type.__getattribute__")) := by kernel_rfl
theorem hk_ty : hookBefore (.type "type") = pure none := by kernel_rfl
theorem sub_ty (K : Frag) : subIn K (.type "type") (.type "type") = some true := by kernel_rfl
section
variable {C : Cx} {env : Env} {σ : St}
theorem getm_objnew {K : Frag} {A : Around} {s : Shared} {pl : Sem Bool} {Q : Value × List Value → Shared → Prop} {E : Value → Shared → Prop} (X : K.In s.heap)
    (h : Q (.builtin "object.__new__", []) { s with toks := s.toks + 1 }) : wpAny C.M A (getMethod (.type "object") (Str.ofString "__new__") pl) Q E s := by
  unfold getMethod specialOf
  refine wpAny_bind (wpAny_bind (wpAny_of_eq ty_obj ((looks_findIn X (tga_in K)).here ?_)))
  dsimp only
  rw [if_pos canon_tga]
  refine wpAny_bind (cls_open (K := K) X (Looks.of_pure opq_obj) (Looks.of_pure ty_obj) (tga_in K) (Looks.of_pure hk_ty) (sub_ty K) (fc_objnew K) (wpAny_pure ?_))
  show wpAny _ _ (handedOut (.builtin "object.__new__")) _ _ _
  rw [handedOut_of rfl]
  exact wpAny_pure (wpAny_pure h)
/-- object.__new__ of a class whose maker is a text's -/
structure NewOk (M : Model) (h : Heap) (Cl : Addr) : Prop where
  obj : ∃ oc od cd sl, h.get? Cl = some ⟨oc, od, .cls cd, sl⟩ ∧ cd.abstract = false ∧ cd.hasDel = false ∧ cd.hasDict = true
  base : ∃ b, Looks M h (Bind.staticBase (.ref Cl)) b ∧ Looks M h (Bind.madeBy b) (some "object.__new__")
  typ : Looks M h (isType (.ref Cl)) true
  top : Looks M h (isSubtype (.ref Cl) (.type "object")) true
theorem objnew_run {A : Around} {Cl : Addr} {R : Result → Shared → Prop} {h : Heap} {g : Array GenState} {d : Drawn} {t : Nat} {os : OsState} {prog : Program} {w : World} (Y : NewOk (model prog w) h Cl)
    (hq : R (.ok (.ret (.ref (h.objs.size + 1)))) ⟨(h.push emptyDict).push (instObj Cl h.objs.size), g, d, t, os⟩) :
    codeAny (model prog w) A (.call (.builtin "object.__new__") ⟨[.ref Cl], []⟩) R ⟨h, g, d, t, os⟩ := by
  obtain ⟨⟨oc, od, cd, sl, hC, e1, e2, e3⟩, ⟨b, base, made⟩, typ, top⟩ := Y
  have F := PySem.F.objNew
  refine codeAny_call_builtin_code (Code.quiet_builtin _ F.quiet) ?_
  simp only [checkBuiltinCall, F.kind, F.split, F.row]
  have here : Looks (model prog w) h (Bind.madeHere "object.__new__" (.ref Cl)) () := base.andThen (made.andThen (Looks.of_pure (by simp only [Option.map_some, bne_self_eq_false, Bool.false_eq_true, if_false])))
  have args : Bind.checkArgs "object.__new__" ⟨.hand, "object.__new__", "__new__", .cls, []⟩ ⟨[.ref Cl], []⟩ = pure () := by kernel_rfl
  rw [args]
  repeat (first | simp only [bne_self_eq_false, Bool.false_eq_true, if_false] | lk)
  refine codeAny_builtin F.entry ?_
  unfold Builtin.«object.__new__»
  have fin : ∀ A', wpAny (model prog w) A' (do
      let d ← if typeHasDict (.ref Cl) then some <$> alloc { cls := .type "dict", data := .dict #[] } else pure none
      ret (← newObj (.ref Cl) .plain d)) (fun fin s' => match fin with | .done f => R (.ok f) s' | .again c' => c'.quiet = true ∧ codeAny (model prog w) A c' R s') (fun e s' => R (.error e) s') ⟨h, g, d, t, os⟩ := by
    intro A'
    show wpAny _ _ ((alloc emptyDict >>= fun x => pure (some x)) >>= _) _ _ _
    refine wpAny_bind (wpAny_bind (wpAny_alloc (wpAny_pure (wpAny_bind ?_))))
    show wpAny _ _ (newObjAsIs _ _ _) _ _ _
    unfold newObjAsIs classHasDel
    refine wpAny_bind (wpAny_alloc (wpAny_bind (wpAny_bind (wpAny_load (Heap.get?_push_of_some _ (Heap.get?_push_of_some _ hC)) (wpAny_pure ?_)))))
    rw [e2]
    refine wpAny_pure (wpAny_pure ?_)
    show R _ _
    rw [Heap.size_push]
    exact hq
  repeat (first | simp only [e1, Bool.false_eq_true, if_false] | exact fin _ | lk)
end
end Mine
namespace Mine
open PySem PySem.W PyProof.Rows PySem.Calls
theorem tc_units (Cl : Addr) (rest : List Value) (kw : List (Str × Value)) : (Code.builtin "type.__call__" ⟨.ref Cl :: rest, kw⟩).cUnits ≤ 8 := Nat.le_of_ble_eq_true rfl
noncomputable def Cx.tc (C : Cx) (hl : C.lvl + 1 ≤ 100) (Cl : Addr) (rest : List Value) (kw : List (Str × Value)) : Cx :=
  { C with
    A := C.A.under (.builtin "type.__call__" ⟨.ref Cl :: rest, kw⟩)
    lvl := C.lvl + 1
    hh := C.hh
    hd := by have := C.hd; show C.A.depth + 1 ≤ _; lia
    hu := by have := C.hu; have := tc_units Cl rest kw; show C.A.units + (Code.builtin "type.__call__" ⟨.ref Cl :: rest, kw⟩).cUnits ≤ _; lia
    hl := hl
    hfs := by unfold Around.under; rw [C.hfs]; rfl }
/-- a class whose __new__ is a def of the text -/
structure Makes2 (M : Model) (h : Heap) (Cl : Addr) : Prop where
  obj : ∃ oc od cd sl, h.get? Cl = some ⟨oc, od, .cls cd, sl⟩ ∧ cd.mro.isEmpty = false
  made : Looks M h (Bind.madeBy (.ref Cl)) none
  self : Looks M h (isSubtype (.ref Cl) (.ref Cl)) true
  call : Looks M h (specialOf (.ref Cl) "__call__") (some (.builtin "type.__call__"))
  typ : Looks M h (isInstance (.ref Cl) (.type "type")) true
theorem make_core2 {prog : Program} {w : World} {A : Around} {K : Frag} {Cl p nf fI : Addr} {R : Result → Shared → Prop} {h : Heap} {g : Array GenState} {d : Drawn} {t : Nat} {os : OsState} {rest : List Value} {kw : List (Str × Value)} {mc : Value} {sr : List Value} (X : K.In h) (Y : Makes2 (model prog w) h Cl)
    (hr : readsIn K Cl mc = true) (hc : findCls K (.ref Cl) mc "__new__" = some (.get (.builtin "staticmethod.__get__") (.ref p) .none (.ref Cl))) (hp : recIn K p "staticmethod" = some (.ref nf :: sr)) (hh : handedIn (.ref nf) = true)
    (hi : findIn K (.ref Cl) "__init__" = some (some (.ref fI))) (hf : typeIn K (.ref fI) = some (.type "function"))
    (hq : codeAny (model prog w) (A.under (.builtin "type.__call__" ⟨.ref Cl :: rest, kw⟩)) (.call (.ref nf) ⟨.ref Cl :: rest, kw⟩) (fun r s' => match r with
      | .ok (.ret v) => ∃ x ox h' t', s' = ⟨h', g, d, t', os⟩ ∧ v = .ref x ∧ h'.get? x = some ox ∧ ox.cls = .ref Cl ∧ K.In h' ∧ Makes2 (model prog w) h' Cl ∧ codeAny (model prog w) (A.under (.builtin "type.__call__" ⟨.ref Cl :: rest, kw⟩)) (.call (.ref fI) ⟨.ref x :: rest, kw⟩) (InitBack x R) s'
      | _ => False) ⟨h, g, d, t + 1, os⟩) :
    codeAny (model prog w) A (.call (.ref Cl) ⟨rest, kw⟩) R ⟨h, g, d, t, os⟩ := by
  obtain ⟨⟨oc, od, cd, sl, hC, e4⟩, made, self, call, typ⟩ := Y
  refine codeAny_of_tree ?_
  show wpAny _ _ (callAny (.ref Cl) _) _ _ _
  refine nd_load hC ?_
  show wpAny _ _ (callAny.viaDunder (.ref Cl) _) _ _ _
  unfold callAny.viaDunder
  refine wpAny_bind (call.at ?_)
  dsimp only
  rw [tc_bind]
  refine wpAny_bind (wpAny_pure (wpAny_bind (wpAny_pure ?_)))
  refine wpAny_pure (a := Fin.again (.call (.builtin "type.__call__") ⟨.ref Cl :: rest, kw⟩)) (And.intro rfl ?_)
  refine codeAny_call_builtin_at (Code.quiet_builtin _ (by decide +kernel)) entry_typeCall (check_slot tc_kind tc_split typ (tc_args _ _ _) ?_)
  unfold Builtin.«type.__call__»
  have hm : Looks (model prog w) h (mroOf (.ref Cl)) cd.mro := ((Looks.ld (part := none) hC).andThen .now).andThen .now
  repeat (first | simp only [e4, Bool.false_eq_true, if_false] | with_reducible refine cls_bind X hr hc ?_ | with_reducible refine wpAny_call ?_ | lk)
  refine sm_get (s := ⟨h, g, d, t + 1, os⟩) X hp ?_
  refine handed_on hh ?_
  repeat (first | with_reducible refine wpAny_call ?_ | lk)
  refine codeAny_mono hq fun r s' z => ?_
  rcases r with e | (v | _ | _ | _) <;> first | exact z | exact z.elim | skip
  obtain ⟨x, ox, h', t', rfl, rfl, hx, hcl, X', Y', hz⟩ := z
  obtain ⟨oxc, oxd, oxa, oxs⟩ := ox
  dsimp only at hcl
  subst hcl
  have t1 : Looks (model prog w) h' (typeOf (.ref x)) (.ref Cl) := (Looks.ld hx).andThen .now
  have s1 := Y'.self
  have i1 := looks_findIn (M := model prog w) X' hi
  have b1 := bind_fn (M := model prog w) X' (.ref x) hf
  unfold isInstance callSpecial? specialOf
  repeat (first | with_reducible refine wpAny_call ?_ | lk)
  refine codeAny_mono hz fun r s' z => ?_
  rcases r with e | (v | _ | _ | _) <;> first | exact z | exact z.elim | skip
  obtain ⟨rfl, z⟩ := z
  exact wpAny_pure (wpAny_pure z)
end Mine
namespace Mine
open PySem PySem.W PyProof.Rows PySem.Calls
section
variable {C : Cx} {env : Env} {σ : St}
structure ClsCall (M : Model) (h : Heap) (Cl : Addr) : Prop where
  obj : ∃ oc od cd sl, h.get? Cl = some ⟨oc, od, .cls cd, sl⟩
  call : Looks M h (specialOf (.ref Cl) "__call__") (some (.builtin "type.__call__"))
theorem callWith_cls_ {pos : Pos} {Cl : Addr} {args : List (Bool × Sem Value)} {keywords : List (Option Str × Sem Value)} {Q : Value → Shared → Prop} {s : Shared} (hplain : args.any (·.1) = false) (hkw : keywords.any (·.1.isNone) = false)
    (h : wpAny C.M C.A (evalArgs (.ref Cl) true args keywords) (fun a s₁ => ClsCall C.M s₁.heap Cl ∧ wpAny C.M C.A (call (.ref Cl) a.pos a.kw) Q F s₁) F s) : wpAny C.M C.A (callWith pos (.ref Cl) [] args keywords) Q F s := by
  unfold callWith
  refine wpAny_bind (wpAny_holding (wpAny_mono h (fun a s₁ h₁ => wpAny_bind (wpAny_standAt ?_)) fun _ _ x => x))
  obtain ⟨⟨⟨oc, od, cd, sl, hC⟩, hc⟩, h₁⟩ := h₁
  simp only [hplain, hkw, Bool.or_false]
  refine wpAny_bind (m := keeperOf (.ref Cl)) ?_
  unfold keeperOf
  refine wpAny_bind (wpAny_load hC ?_)
  refine wpAny_bind (hc.here ?_)
  simp only [beq_self_eq_true, if_true]
  refine wpAny_pure ?_
  exact wpAny_bind (wpAny_mono h₁ (fun r s₂ hr => wpAny_bind (wpAny_holding (wpAny_point (wpAny_pure hr)))) fun _ _ x => x)
theorem evalArgsK_ {pos : Pos} {f : Value} {es : List Expr} {ms : List MV} {kn : Str} {ke : Expr} {kp : Pos} {kv : Bool} (x : Evs C env σ es ms) (hne : es ≠ []) (hk : Ev C env σ ke (.bool kv)) (s : Shared) (R : RelE C env σ s.heap) :
    wpAny C.M C.A (evalArgs f true (backTo pos (starEach es env)) (backToKw pos (keywordEach [⟨some kn, ke, kp⟩] env))) (fun a s' => KSs C.S s s' ∧ a.kw = [(kn, .bool kv)] ∧ VIns s'.heap (C.ex σ) ms a.pos) F s := by
  unfold evalArgs
  have h := splicedV_ (pos := pos) x s R
  cases x with
  | nil => exact absurd rfl hne
  | cons a hn r =>
    rw [starEach_cons hn, backTo_cons] at h ⊢
    show wpAny _ _ (spliced _ >>= _) _ _ s
    refine wpAny_bind (wpAny_mono h (fun vs s' h' => ?_) fun _ _ x => x)
    refine wpAny_holding ?_
    have R' := R.ks h'.1.ks
    show wpAny _ _ (evalAll [do let v ← eval ke env; standAt pos; pure v] >>= _) _ _ s'
    refine wpAny_bind (wpAny_bind (wpAny_bind (wpAny_mono (hk s' R') (fun v s₂ h₂ => wpAny_bind (wpAny_standAt (wpAny_pure ?_))) fun _ _ x => x)))
    obtain ⟨k₂, rfl⟩ := h₂
    refine wpAny_bind (wpAny_holding (wpAny_pure (wpAny_pure ?_)))
    exact wpAny_bind (wpAny_pure (wpAny_pure ⟨h'.1.trans k₂, rfl, h'.2.ks k₂.ks⟩))
/-- objects made by a call -/
structure Made (C : Cx) (s s' : Shared) (γ : St) : Prop where
  ins : insts γ = true
  gin : GIn s'.heap γ
  fresh : ∀ b ∈ instA γ, C.n₀ ≤ b ∧ s.heap.get? b = none
  nodup : (instA γ).Nodup
noncomputable def Make (G : Gx) (full : Bool) (k : Nat) (f : Value) (ms : List MV) (kw : List (Str × Value)) (Q : Value → St → Prop) : Prop :=
  ∀ C : Cx, C.G = G → C.lvl ≤ k → (full = true → C.Full) → ∀ s O vals, C.ok s.heap → FramesIn C.n₀ s.heap C.fs → (∀ x ∈ O, ∃ vs : Array Value, s.heap.PlainList x vs) → VIns s.heap O ms vals →
    wpAny C.M C.A (call f vals kw) (fun v s' => KSs C.S s s' ∧ ∃ γ, Q v γ ∧ Made C s s' γ) F s
noncomputable def notKey (x : Str) : St → Bool
  | [] => true
  | (y, _) :: r => !(y == x) && notKey x r
noncomputable def keysNd : St → Bool
  | [] => true
  | (x, _) :: r => notKey x r && keysNd r
theorem notKey_ {x y : Str} {b : Bd} : ∀ {σ : St}, notKey x σ = true → (y, b) ∈ σ → x ≠ y
  | (z, c) :: r, h, hm => by
    simp only [notKey, Bool.and_eq_true, Bool.not_eq_true', beq_eq_false_iff_ne] at h
    rcases List.mem_cons.mp hm with e | hm
    · cases e; exact Ne.symm h.1
    · exact notKey_ h.2 hm
theorem sget_of_mem {x : Str} {b : Bd} : ∀ {σ : St}, keysNd σ = true → (x, b) ∈ σ → sget σ x = some b
  | (z, c) :: r, h, hm => by
    simp only [keysNd, Bool.and_eq_true] at h
    rcases List.mem_cons.mp hm with e | hm
    · cases e; simp [sget]
    · simp [sget, notKey_ h.1 hm, sget_of_mem h.2 hm]
theorem Rel.made {X : Heap} {γ : St} {s s' : Shared} (R : Rel C X env σ s.heap) (k : KSs C.S s s') (m : Made C s s' γ) (hk : ∀ p ∈ γ, env.kindOf p.1 = none) (hσ : keysNd σ = true) : Rel C X env (σ ++ γ) s'.heap := by
  refine (R.ks k.ks).join m.ins m.gin (fun b hb => ?_) m.nodup hk
  obtain ⟨hn, hf⟩ := m.fresh b hb
  refine ⟨fun q => ?_, hn, ?_, fun e he q => ?_, ?_⟩
  · obtain ⟨x, a, Cl, d, fs, hm, q⟩ := instA_of q
    obtain ⟨⟨sl, ea⟩, _, mA, ⟨od, es, ep, ed, _⟩, _⟩ := R.inst (sget_of_mem hσ hm)
    rcases q with rfl | rfl
    · rw [hf] at ea; cases ea
    · rw [hf] at ed; cases ed
  · rintro rfl
    obtain ⟨_, o, _, _, e, _⟩ := R.ns
    rw [hf] at e; cases e
  · obtain ⟨_, L, o, hL, _, ho, _⟩ := R.fr e he
    rw [q] at hL; cases hL
    rw [hf] at ho; cases ho
  · by_cases hB : b ∈ C.mB
    · exact .inl hB
    · right
      cases q : X.get? b with
      | none => rfl
      | some o =>
        obtain ⟨_, o', e', _⟩ := R.keepX b o q hB
        rw [hf] at e'; cases e'
theorem wpS_make {y fx : Str} {py p pos pas : Pos} {es : List Expr} {ms : List MV} {Cl : Addr} {full : Bool} {k : Nat} {Q0 : Value → St → Prop} {Q : FM → St → Prop} (hx : Ev C env σ (.Name fx p) (.obj (.ref Cl))) (ha : Evs C env σ es ms) (hm : Make C.G full k (.ref Cl) ms [] Q0) (hk : C.lvl ≤ k) (hfull : full = true → C.Full)
    (hc : ∀ h, C.ok h → ClsCall C.M h Cl) (hσ : keysNd σ = true) (hy : Stores env y) (hn : ∀ v γ, Q0 v γ → ∀ p ∈ γ, env.kindOf p.1 = none) (hq : ∀ v γ, Q0 v γ → Q .next (sput (σ ++ γ) y (.fz (.obj v)))) :
    wpS C env (.Assign [.Name y py] (.Call (.Name fx p) es [] pos) pas) σ Q := fun X s R => by
  refine wpAny_Assign_Name ?_ rfl
  show wpAny _ _ (do callWith pos (← eval (.Name fx p) env) [] (backTo pos (starEach es env)) (backToKw pos (keywordEach [] env))) _ _ s
  refine wpAny_bind (wpAny_mono (hx s R.toRelE) (fun v s₁ h₁ => ?_) fun _ _ x => x)
  obtain ⟨k₁, rfl⟩ := h₁
  have R₁ := R.ks k₁.ks
  refine callWith_cls_ (plain_args ha.ts).1 rfl (wpAny_mono (evalArgsV_ ha s₁ R₁.toRelE) (fun a s₂ h₂ => ?_) fun _ _ x => x)
  obtain ⟨k₂, hkw, hv⟩ := h₂
  have R₂ := R₁.ks k₂.ks
  refine ⟨hc _ R₂.base, ?_⟩
  rw [hkw]
  refine wpAny_mono (hm C rfl hk hfull s₂ _ _ R₂.base R₂.fr (fun x hx => (List.mem_append.mp hx).elim (R₂.own x) (R₂.outer x)) hv) (fun v s₃ h₃ => ?_) fun _ _ x => x
  obtain ⟨k₃, γ, q, md⟩ := h₃
  have R₃ := R₂.made k₃ md (hn v γ q) hσ
  obtain ⟨h1, t1, rfl, _⟩ := k₁
  obtain ⟨h2, t2, rfl, _⟩ := k₂
  obtain ⟨h3, t3, rfl, _⟩ := k₃
  exact store_ R₃ hy (m := .obj v) rfl fun h' tk R' => ⟨h', tk, rfl, .next, _, trivial, R', hq v γ q⟩
theorem wpS_makeK {y fx kn : Str} {py p pos pas kp : Pos} {ke : Expr} {kv : Bool} {es : List Expr} {ms : List MV} {Cl : Addr} {full : Bool} {k : Nat} {Q0 : Value → St → Prop} {Q : FM → St → Prop} (hx : Ev C env σ (.Name fx p) (.obj (.ref Cl))) (ha : Evs C env σ es ms) (hne : es ≠ []) (hke : Ev C env σ ke (.bool kv)) (hm : Make C.G full k (.ref Cl) ms [(kn, .bool kv)] Q0) (hk : C.lvl ≤ k) (hfull : full = true → C.Full)
    (hc : ∀ h, C.ok h → ClsCall C.M h Cl) (hσ : keysNd σ = true) (hy : Stores env y) (hn : ∀ v γ, Q0 v γ → ∀ p ∈ γ, env.kindOf p.1 = none) (hq : ∀ v γ, Q0 v γ → Q .next (sput (σ ++ γ) y (.fz (.obj v)))) :
    wpS C env (.Assign [.Name y py] (.Call (.Name fx p) es [⟨some kn, ke, kp⟩] pos) pas) σ Q := fun X s R => by
  refine wpAny_Assign_Name ?_ rfl
  show wpAny _ _ (do callWith pos (← eval (.Name fx p) env) [] (backTo pos (starEach es env)) (backToKw pos (keywordEach [⟨some kn, ke, kp⟩] env))) _ _ s
  refine wpAny_bind (wpAny_mono (hx s R.toRelE) (fun v s₁ h₁ => ?_) fun _ _ x => x)
  obtain ⟨k₁, rfl⟩ := h₁
  have R₁ := R.ks k₁.ks
  refine callWith_cls_ (plain_args ha.ts).1 rfl (wpAny_mono (evalArgsK_ ha hne hke s₁ R₁.toRelE) (fun a s₂ h₂ => ?_) fun _ _ x => x)
  obtain ⟨k₂, hkw, hv⟩ := h₂
  have R₂ := R₁.ks k₂.ks
  refine ⟨hc _ R₂.base, ?_⟩
  rw [hkw]
  refine wpAny_mono (hm C rfl hk hfull s₂ _ _ R₂.base R₂.fr (fun x hx => (List.mem_append.mp hx).elim (R₂.own x) (R₂.outer x)) hv) (fun v s₃ h₃ => ?_) fun _ _ x => x
  obtain ⟨k₃, γ, q, md⟩ := h₃
  have R₃ := R₂.made k₃ md (hn v γ q) hσ
  obtain ⟨h1, t1, rfl, _⟩ := k₁
  obtain ⟨h2, t2, rfl, _⟩ := k₂
  obtain ⟨h3, t3, rfl, _⟩ := k₃
  exact store_ R₃ hy (m := .obj v) rfl fun h' tk R' => ⟨h', tk, rfl, .next, _, trivial, R', hq v γ q⟩
/-- return object.__new__(cls) -/
theorem ss_ret_new {ox cx nm : Str} {p p' ap pos rp : Pos} {Cl : Addr} {K : Frag} {rest : List Stmt} {Q : FM → St → Prop} (hK : KOk C K) (hx : Ev C env σ (.Name ox p) (.obj (.type "object"))) (ha : Ev C env σ (.Name cx p') (.obj (.ref Cl))) (hN : ∀ h, C.ok h → NewOk C.M h Cl) (hσ : keysNd σ = true) (hn : env.kindOf nm = none)
    (hline : (ap.endLine == pos.line) = true) (hq : ∀ a d, Q (.ret (.obj (.ref a))) (σ ++ [(nm, .inst a Cl d [])])) :
    wpSs C env (.Return (some (.Call (.Attribute (.Name ox p) (Str.ofString "__new__") ap) [.Name cx p'] [] pos)) rp :: rest) σ Q := fun X s R => by
  refine wpAny_execs_cons (wpAny_Return_some ?_)
  rw [arm_eval_Call, show attributeBase (.Name ox p) (Str.ofString "__new__") env (eval (.Name ox p) env) = eval (.Name ox p) env from rfl]
  refine wpAny_bind (wpAny_mono (hx s R.toRelE) (fun ov s₁ h₁ => ?_) fun _ _ x => x)
  obtain ⟨k₁, rfl⟩ := h₁
  have R₁ := R.ks k₁.ks
  have has : Evs C env σ [.Name cx p'] [.obj (.ref Cl)] := .cons ha (by intro _ _ h; cases h) .nil
  refine wpAny_bind (wpAny_standAt ?_)
  have hform : methodCallForm (1 + ([] : List Keyword).length) (backTo pos (starEach [.Name cx p'] env)) (backToKw pos (keywordEach [] env)) = true := rfl
  have hpos : methodCallPos true (.Name ox p) env ap pos = pure pos := by unfold methodCallPos; simp [hline]
  unfold methodCall
  rw [show methodCallForm ([Expr.Name cx p'].length + ([] : List Keyword).length) (backTo pos (starEach [.Name cx p'] env)) (backToKw pos (keywordEach [] env)) = true from rfl]
  refine wpAny_bind (wpAny_holding (getm_objnew (hK _ R₁.base) ?_))
  refine wpAny_bind (wpAny_of_eq hpos ?_)
  have R₁' : Rel C X env σ { s₁ with toks := s₁.toks + 1 }.heap := R₁
  refine Calls.callWith_builtin (plain_args has.ts).1 (wpAny_mono (evalArgsV_ has _ R₁'.toRelE) (fun ar s₂ h₂ => ?_) fun _ _ x => x)
  obtain ⟨k₂, hkw, hv⟩ := h₂
  have R₂ := R₁'.ks k₂.ks
  rw [hkw]
  obtain ⟨v, r, e, hv1, hr⟩ := hv
  cases hv1
  rw [show r = [] from hr] at e
  rw [e]
  obtain ⟨hp, g, d, tk, os⟩ := s₂
  refine wpAny_call (objnew_run (hN _ R₂.base) ?_)
  have kp : KSs C.S ⟨hp, g, d, tk, os⟩ ⟨(hp.push emptyDict).push (instObj Cl hp.objs.size), g, d, tk, os⟩ := ⟨_, _, rfl, .of_keep fun b o e => Heap.get?_push_of_some _ (Heap.get?_push_of_some _ e)⟩
  have low : C.n₀ ≤ hp.objs.size := C.G.low _ R₂.base
  have md : Made C ⟨hp, g, d, tk, os⟩ ⟨(hp.push emptyDict).push (instObj Cl hp.objs.size), g, d, tk, os⟩ [(nm, .inst (hp.objs.size + 1) Cl hp.objs.size [])] := by
    refine ⟨rfl, ?_, ?_, ?_⟩
    · intro x a Ca d' fs hm
      simp only [List.mem_singleton, Prod.mk.injEq, Bd.inst.injEq] at hm
      obtain ⟨_, rfl, rfl, rfl, rfl⟩ := hm
      refine ⟨⟨#[], ?_⟩, (Nat.ne_of_lt (Nat.lt_succ_self hp.objs.size)), fun _ => none, ?_, fun x => rfl⟩
      · have : ((hp.push emptyDict).push (instObj Ca hp.objs.size)).get? (hp.objs.size + 1) = some (instObj Ca hp.objs.size) := by heap_get
        exact this
      · refine Heap.Ns1.of_empty ⟨emptyDict, #[], 0, ?_, rfl, (fun x hx => by simp at hx), fun _ => rfl⟩
        show ((hp.push emptyDict).push (instObj Ca hp.objs.size)).get? hp.objs.size = some emptyDict
        heap_get
    · intro b hb
      simp only [instA, List.mem_cons, List.not_mem_nil, or_false] at hb
      rcases hb with rfl | rfl
      · exact ⟨Nat.le_succ_of_le low, Heap.get?_none_of_le (Nat.le_succ _)⟩
      · exact ⟨low, Heap.get?_none_of_le (Nat.le_refl _)⟩
    · simp [instA]
  have R₃ := R₂.made kp md (by intro p hp; rw [List.mem_singleton.mp hp]; exact hn) hσ
  obtain ⟨h1, t1, rfl, _⟩ := k₁
  obtain ⟨h2, t2, e2, _⟩ := k₂
  cases e2
  exact ⟨_, _, rfl, .ret (.obj (.ref (hp.objs.size + 1))), _, rfl, R₃, hq _ _⟩
end
end Mine
namespace Mine
open PySem PySem.W PyProof.Rows PySem.Calls
noncomputable def noInst : St → St
  | [] => []
  | (_, .inst _ _ _ _) :: r => noInst r
  | (x, .fz m) :: r => (x, .fz m) :: noInst r
  | (x, .own a xs) :: r => (x, .own a xs) :: noInst r
theorem noInst_mem {p : Str × Bd} : ∀ {σ : St}, p ∈ noInst σ → p ∈ σ
  | (_, .inst _ _ _ _) :: r, h => List.mem_cons_of_mem _ (noInst_mem (σ := r) h)
  | (x, .fz m) :: r, h => by
    rcases List.mem_cons.mp h with e | h
    · rw [e]; exact List.mem_cons_self
    · exact List.mem_cons_of_mem _ (noInst_mem h)
  | (x, .own a xs) :: r, h => by
    rcases List.mem_cons.mp h with e | h
    · rw [e]; exact List.mem_cons_self
    · exact List.mem_cons_of_mem _ (noInst_mem h)
theorem noInst_instA : ∀ {σ : St}, instA (noInst σ) = []
  | [] => rfl
  | (_, .inst _ _ _ _) :: r => noInst_instA (σ := r)
  | (x, .fz m) :: r => noInst_instA (σ := r)
  | (x, .own a xs) :: r => noInst_instA (σ := r)
theorem noInst_owned : ∀ {σ : St}, owned (noInst σ) = owned σ
  | [] => rfl
  | (_, .inst _ _ _ _) :: r => noInst_owned (σ := r)
  | (x, .fz m) :: r => noInst_owned (σ := r)
  | (x, .own a xs) :: r => by simp only [noInst, owned, noInst_owned (σ := r)]
section
variable {C : Cx} {env : Env} {σ : St}
theorem Rel.forget {X h h' : Heap} {B : List Addr} (R : Rel C X env σ h) (hσ : keysNd σ = true) (hBi : ∀ b ∈ B, b ∈ instA σ) (hBX : ∀ b ∈ B, b ∈ C.mB ∨ X.get? b = none) (km : KM C.S B h h') : Rel C X env (noInst σ) h' := by
  have q3 : owned (noInst σ) = owned σ := noInst_owned
  have hE : C.ex (noInst σ) = C.ex σ := by unfold Cx.ex; rw [q3]
  have hdat : ∀ b ∈ B, ∀ o, h.get? b = some o → o.data = .plain ∨ ∃ es ep, o.data = .dict es ep := fun b hb o e => by
    obtain ⟨x, a, Cl, d, fs, hm, q⟩ := instA_of (hBi b hb)
    obtain ⟨⟨sl, ea⟩, _, mA, ⟨od, es, ep, ed, dd, _⟩, _⟩ := R.inst (sget_of_mem hσ hm)
    rcases q with rfl | rfl
    · rw [e] at ea; cases ea; exact .inl rfl
    · rw [e] at ed; cases ed; exact .inr ⟨es, ep, dd⟩
  have hB : ∀ b ∈ B, ∀ o, h.get? b = some o → ∀ xs n, o.data ≠ .seq xs n := fun b hb o e xs n q => by
    rcases hdat b hb o e with z | ⟨es, ep, z⟩ <;> rw [z] at q <;> cases q
  have hB' : ∀ b ∈ B, ∀ o, h.get? b = some o → ∀ vs, o.data ≠ .fields vs := fun b hb o e vs q => by
    rcases hdat b hb o e with z | ⟨es, ep, z⟩ <;> rw [z] at q <;> cases q
  have hcell : ∀ {c v}, h.IsCell c v → h'.IsCell c v := fun {c v} y => by
    obtain ⟨oc, ec, dc⟩ := y
    obtain ⟨_, o', e', d1, _⟩ := km c oc ec fun q => by
      rcases hdat c q oc ec with z | ⟨es, ep, z⟩ <;> rw [z] at dc <;> cases dc
    exact ⟨o', e', d1.trans dc⟩
  have hns : ∀ m, h.Ns env.locals m → h'.Ns env.locals m := fun m y => by
    obtain ⟨o, es, ep, e, d, r⟩ := y
    obtain ⟨_, o', e', d1, _⟩ := km _ o e fun q => (R.insN _ (hBi _ q)).2.1 rfl
    exact ⟨o', es, ep, e', d1.trans d, r⟩
  have hpl : ∀ {a vs}, h.PlainList a vs → h'.PlainList a vs := fun {a vs} y => by
    obtain ⟨n, e⟩ := y
    exact ⟨n, (km a _ e fun q => hB a q _ e _ _ rfl).1 (R.notS e (fun es ep => by simp))⟩
  refine { base := C.mono _ _ (fun b o hb e => (km b o e fun q => absurd hb (Nat.not_lt.mpr (R.insN b (hBi b q)).1)).1 (R.low hb)) R.base, fr := ?_, kind := R.kind, glob := R.glob, vars := ?_, own := ?_, outer := ?_, insN := ?_, insNd := ?_, keepX := ?_, ns := ?_, nsX := R.nsX, nsN := R.nsN, cells := ?_, apart := R.apart, ownX := fun a ha => R.ownX a (by rw [q3] at ha; exact ha), ownN := fun a ha => R.ownN a (by rw [q3] at ha; exact ha), ownNd := by rw [q3]; exact R.ownNd, insX := ?_, outX := R.outX }
  · intro ev hev
    obtain ⟨ak, L, oL, hf, hN, ho, es', ep', hd'⟩ := R.fr ev hev
    obtain ⟨_, o', e', d1, _⟩ := km L oL ho fun q => (R.insN L (hBi L q)).2.2 ev hev hf
    exact ⟨ak, L, o', hf, hN, e', es', ep', d1.trans hd'⟩
  · intro y b hb
    rw [hE]
    have hm := noInst_mem (sget_mem hb)
    refine (R.vars y _ (sget_of_mem hσ hm)).to hns (fun c v _ q => hcell q) fun v q => ?_
    cases b with
    | fz m => exact VIn.km km hB hB' q
    | own a xs => obtain ⟨e, vs, p, r⟩ := q; exact ⟨e, vs, hpl p, r.km km hB hB'⟩
    | inst a Cl d fs =>
      have := (instA_mem hb).1
      rw [noInst_instA] at this; cases this
  · intro a ha
    rw [q3] at ha
    obtain ⟨vs, p⟩ := R.own a ha
    exact ⟨vs, hpl p⟩
  · intro a ha
    obtain ⟨vs, p⟩ := R.outer a ha
    exact ⟨vs, hpl p⟩
  · intro b hb; rw [noInst_instA] at hb; cases hb
  · rw [noInst_instA]; exact List.nodup_nil
  · intro b o eb hb
    obtain ⟨k1, o2, k2, k3, k4, k5⟩ := R.keepX b o eb hb
    have hbB : b ∉ B := fun q => (hBX b q).elim hb fun z => by rw [z] at eb; cases eb
    obtain ⟨m1, o3, m2, m3, m4, m5⟩ := km b o2 k2 hbB
    exact ⟨fun z => (km b o (k1 z) hbB).1 z, o3, m2, m3.trans k3, m4.trans k4, m5.trans k5⟩
  · obtain ⟨m, q⟩ := R.ns
    exact ⟨m, hns m q⟩
  · intro y c hc
    obtain ⟨⟨v2, a2⟩, a3, a4⟩ := R.cells y c hc
    exact ⟨⟨v2, hcell a2⟩, a3, a4⟩
  · exact .inr fun b hb => by rw [noInst_instA] at hb; cases hb
end
end Mine
namespace Mine
open PySem PySem.W PyProof.Rows
/-- what is hidden from a turn of a loop: the frame's own slots, cells and lists -/
noncomputable def hids (env : Env) (σ : St) : List Addr := env.locals :: (env.cells.map (·.2) ++ owned σ)
section
variable {C : Cx} {env : Env} {σ σ' : St} {X h h' : Heap}
theorem lookup_of_mem_apart {l : List (Str × Addr)} {c : Addr} (h : c ∈ l.map (·.2)) : ∃ x, (x, c) ∈ l := by
  obtain ⟨p, hp, rfl⟩ := List.mem_map.mp h
  exact ⟨p.1, hp⟩
/-- every cell of the frame is reached by its name -/
noncomputable def CellsOk (env : Env) : Prop := ∀ x c, (x, c) ∈ env.cells → env.cells.lookup x = some c
theorem Rel.notHid (R : Rel C X env σ h) (hc : CellsOk env) {b : Addr} {o : Obj} (e : X.get? b = some o) : b ∉ hids env σ := fun hm => by
  rcases List.mem_cons.mp hm with rfl | hm
  · rw [R.nsX] at e; cases e
  · rcases List.mem_append.mp hm with hm | hm
    · obtain ⟨x, hx⟩ := lookup_of_mem_apart hm
      rw [(R.cells x b (hc x b hx)).2.1] at e; cases e
    · rw [R.ownX b hm] at e; cases e
theorem Rel.backX (R : Rel C X env σ h) (hc : CellsOk env) (hB : C.mB = []) {J : List Addr} (hJ : ∀ b ∈ J, X.get? b = none) (R' : Rel C (hideAll h (J ++ hids env σ)) env σ' h') : Rel C X env σ' h' := by
  have vis : ∀ b o o2, X.get? b = some o → h.get? b = some o2 → (hideAll h (J ++ hids env σ)).get? b = some o2 := fun b o o2 e e2 => by
    refine hideAll_get _ e2 fun q => ?_
    rcases List.mem_append.mp q with q | q
    · rw [hJ b q] at e; cases e
    · exact R.notHid hc e q
  have back : ∀ a, (hideAll h (J ++ hids env σ)).get? a = none → X.get? a = none := fun a ha => by
    cases q : X.get? a with
    | none => rfl
    | some o =>
      obtain ⟨_, o2, e2, _⟩ := R.keepX a o q (by rw [hB]; simp)
      rw [vis a o o2 q e2] at ha; cases ha
  refine { toRelE := R'.toRelE, keepX := ?_, ns := R'.ns, nsX := R.nsX, nsN := R.nsN, cells := fun x c hx => ⟨(R'.cells x c hx).1, (R.cells x c hx).2⟩, apart := R.apart, ownX := fun a ha => back a (R'.ownX a ha), ownN := R'.ownN, ownNd := R'.ownNd, insX := R'.insX.imp id fun q b hb => (q b hb).imp id (back b), outX := R.outX }
  intro b o e hb
  obtain ⟨k1, o2, k2, k3, k4, k5⟩ := R.keepX b o e hb
  obtain ⟨m1, o3, m2, m3, m4, m5⟩ := R'.keepX b o2 (vis b o o2 e k2) hb
  exact ⟨fun z => (R'.keepX b o (vis b o o e (k1 z)) hb).1 z, o3, m2, m3.trans k3, m4.trans k4, m5.trans k5⟩
noncomputable def Solid (o : Obj) : Prop := (∀ es ep, o.data ≠ .dict es ep) ∧ ∀ v, o.data ≠ .cell v
/-- what stands in the hidden heap stands on -/
theorem Rel.solid (R : Rel C X env σ h) (hB : C.mB = []) {b : Addr} {o : Obj} (e : X.get? b = some o) (hs : Solid o) : h.get? b = some o := by
  obtain ⟨k1, o2, k2, k3, k4, k5⟩ := R.keepX b o e (by rw [hB]; simp)
  exact k1 (R.notS k2 fun es ep q => hs.1 es ep (k3 ▸ q))
theorem Rel.seen (R : Rel C X env σ h) (hc : CellsOk env) {J : List Addr} {b : Addr} {o : Obj} (e : h.get? b = some o) (hs : Solid o) (ho : b ∉ owned σ) (hJ : b ∉ J) : (hideAll h (J ++ hids env σ)).get? b = some o := by
  refine hideAll_get _ e fun q => ?_
  rcases List.mem_append.mp q with q | q
  · exact hJ q
  · rcases List.mem_cons.mp q with rfl | q
    · obtain ⟨m, o', es, ep, e', d, _⟩ := R.ns
      rw [e] at e'; cases e'
      exact hs.1 es ep d
    · rcases List.mem_append.mp q with q | q
      · obtain ⟨x, hx⟩ := lookup_of_mem_apart q
        obtain ⟨⟨v, oc, ec, dc⟩, _⟩ := R.cells x b (hc x b hx)
        rw [e] at ec; cases ec
        exact hs.2 v dc
      · exact ho q
theorem Rel.reX (R : Rel C X env σ h) (hc : CellsOk env) (hi : instA σ = []) {J : List Addr} (hJ : ∀ b ∈ J, ∀ o, h.get? b = some o → ∀ xs n, o.data ≠ .seq xs n) : Rel C (hideAll h (J ++ hids env σ)) env σ h where
  toRelE := R.toRelE
  keepX := fun b o e _ => ⟨fun _ => of_hideAll _ e, o, of_hideAll _ e, rfl, rfl, rfl⟩
  ns := R.ns
  nsX := hideAll_none _ (List.mem_append_right _ List.mem_cons_self)
  nsN := R.nsN
  cells := fun x c hc => ⟨(R.cells x c hc).1, hideAll_none _ (List.mem_append_right _ (List.mem_cons_of_mem _ (List.mem_append_left _ (List.mem_map_of_mem (f := (·.2)) (mem_of_lookup hc))))), (R.cells x c hc).2.2⟩
  apart := R.apart
  ownX := fun a ha => hideAll_none _ (List.mem_append_right _ (List.mem_cons_of_mem _ (List.mem_append_right _ ha)))
  ownN := R.ownN
  ownNd := R.ownNd
  insX := .inr fun b hb => by rw [hi] at hb; cases hb
  outX := fun a ha => by
    obtain ⟨vs, n, e⟩ := R.outer a ha
    obtain ⟨o, q⟩ := R.outX a ha
    exact ⟨_, R.seen hc (J := J) e ⟨(fun es ep q => by cases q), (fun v q => by cases q)⟩ (fun z => by rw [R.ownX a z] at q; cases q) fun z => hJ a z _ e _ _ rfl⟩
theorem solid_list {h : Heap} {a : Addr} {its : Array Value} (l : h.IsList a its) : ∃ o, h.get? a = some o ∧ Solid o ∧ o.cls = .type "list" ∧ ∃ n, o.data = .seq its n := by
  obtain ⟨o, e, c, n, d⟩ := l
  exact ⟨o, e, ⟨(fun es ep q => by rw [d] at q; cases q), (fun v q => by rw [d] at q; cases q)⟩, c, n, d⟩
theorem solid_tuple {h : Heap} {a : Addr} {its : Array Value} (l : h.IsTuple a its) : ∃ o, h.get? a = some o ∧ Solid o ∧ o.cls = .type "tuple" ∧ ∃ n, o.data = .seq its n := by
  obtain ⟨o, e, c, n, d⟩ := l
  exact ⟨o, e, ⟨(fun es ep q => by rw [d] at q; cases q), (fun v q => by rw [d] at q; cases q)⟩, c, n, d⟩
/-- a value that stands at the loop's start stands in every turn -/
theorem VIn.turn {J : List Addr} (R : Rel C X env σ h) (hc : CellsOk env) (hB : C.mB = []) (hJ : ∀ b ∈ J, ∀ o, h.get? b = some o → (∀ xs n, o.data ≠ .seq xs n) ∧ o.cls ≠ .type "collections.deque") (R' : Rel C (hideAll h (J ++ hids env σ)) env σ' h') {m : MV} {v : Value} (x : VIn h (C.ex σ) m v) : VIn h' (C.ex σ') m v := by
  have key : ∀ a o, h.get? a = some o → Solid o → a ∉ C.ex σ → a ∉ J → h'.get? a = some o ∧ a ∉ C.ex σ' := fun a o e hs hn hj => by
    have hv := R.seen hc (J := J) e hs (fun q => hn (List.mem_append_left _ q)) hj
    refine ⟨R'.solid hB hv hs, fun q => ?_⟩
    rcases List.mem_append.mp q with q | q
    · rw [R'.ownX a q] at hv; cases hv
    · exact hn (List.mem_append_right _ q)
  refine x.to (fun a its n l => ?_) (fun a its n l => ?_) fun p d => ?_
  · obtain ⟨o, e, s, c, nn, dd⟩ := solid_list l.l
    obtain ⟨k1, k2⟩ := key a o e s n fun q => (hJ a q o e).1 _ _ dd
    exact ⟨l.ext fun o' e' => by rw [e] at e'; cases e'; exact k1, k2⟩
  · obtain ⟨o, e, s, c, nn, dd⟩ := solid_tuple l
    obtain ⟨k1, k2⟩ := key a o e s n fun q => (hJ a q o e).1 _ _ dd
    exact ⟨⟨o, k1, c, nn, dd⟩, k2⟩
  · obtain ⟨o, n, t, e, c, dd⟩ := d
    have hs : Solid o := ⟨(fun es ep q => by rw [dd] at q; cases q), (fun v q => by rw [dd] at q; cases q)⟩
    have ho : p ∉ owned σ := fun q => by
      obtain ⟨vs, nn, e'⟩ := R.own p q
      rw [e] at e'; cases e'; exact absurd (Value.type.inj c) (by decide)
    have hv := R.seen hc (J := J) e hs ho fun q => (hJ p q o e).2 c
    exact ⟨o, n, t, R'.solid hB hv hs, c, dd⟩
/-- an object beside the frame's own -/
structure Side (C : Cx) (env : Env) (h : Heap) (I : Addr) : Prop where
  low : C.n₀ ≤ I
  ne : I ≠ env.locals
  fr : ∀ e ∈ C.fs, e.frame ≠ some I
  obj : ∀ o, h.get? I = some o → (∀ xs n, o.data ≠ .seq xs n) ∧ (∀ v, o.data ≠ .cell v) ∧ (∀ vs, o.cls = .type "collections.deque" → o.data ≠ .fields vs)
theorem VIn.side {I : Addr} {O : List Addr} (hI : ∀ o, h.get? I = some o → (∀ xs n, o.data ≠ .seq xs n) ∧ (∀ v, o.data ≠ .cell v) ∧ (∀ vs, o.cls = .type "collections.deque" → o.data ≠ .fields vs)) (k : ∀ b o, b ≠ I → h.get? b = some o → h'.get? b = some o) {m : MV} {v : Value} (x : VIn h O m v) : VIn h' O m v := by
  refine x.to (fun a its n l => ?_) (fun a its n l => ?_) fun p d => ?_
  · obtain ⟨o, e, c, nn, dd⟩ := l.l
    exact ⟨l.ext fun o' e' => k a o' (by rw [e] at e'; cases e'; rintro rfl; exact (hI o e).1 _ _ dd) e', n⟩
  · obtain ⟨o, e, c, nn, dd⟩ := l
    exact ⟨⟨o, k a o (by rintro rfl; exact (hI o e).1 _ _ dd) e, c, nn, dd⟩, n⟩
  · obtain ⟨o, n, t, e, c, dd⟩ := d
    exact ⟨o, n, t, k p o (by rintro rfl; exact (hI o e).2.2 _ c dd) e, c, dd⟩
theorem VIns.side {I : Addr} {O : List Addr} (hI : ∀ o, h.get? I = some o → (∀ xs n, o.data ≠ .seq xs n) ∧ (∀ v, o.data ≠ .cell v) ∧ (∀ vs, o.cls = .type "collections.deque" → o.data ≠ .fields vs)) (k : ∀ b o, b ≠ I → h.get? b = some o → h'.get? b = some o) : ∀ {ms : List MV} {vs : List Value}, VIns h O ms vs → VIns h' O ms vs
  | [], _, x => x
  | m :: ms, _, ⟨v, r, e, a, b⟩ => ⟨v, r, e, a.side hI k, VIns.side hI k b⟩
theorem RelE.side {I : Addr} (R : RelE C env σ h) (hi : instA σ = []) (S : Side C env h I) (k : ∀ b o, b ≠ I → h.get? b = some o → h'.get? b = some o) : RelE C env σ h' := by
  have hpl : ∀ {a vs}, h.PlainList a vs → h'.PlainList a vs := fun {a vs} y => by
    obtain ⟨n, e⟩ := y
    exact ⟨n, k a _ (by rintro rfl; exact (S.obj _ e).1 _ _ rfl) e⟩
  have hns : ∀ m, h.Ns env.locals m → h'.Ns env.locals m := fun m y => by
    obtain ⟨o, es, ep, e, d, r⟩ := y
    exact ⟨o, es, ep, k _ o (Ne.symm S.ne) e, d, r⟩
  have hcell : ∀ {c v}, h.IsCell c v → h'.IsCell c v := fun {c v} y => by
    obtain ⟨o, e, d⟩ := y
    exact ⟨o, k c o (by rintro rfl; exact (S.obj _ e).2.1 _ d) e, d⟩
  refine { base := C.mono _ _ (fun b o hb e => k b o (by rintro rfl; exact absurd hb (Nat.not_lt.mpr S.low)) e) R.base, fr := ?_, kind := R.kind, glob := R.glob, vars := ?_, own := ?_, outer := ?_, insN := R.insN, insNd := R.insNd }
  · intro ev hev
    obtain ⟨ak, L, oL, hf, hN, ho, es', ep', hd'⟩ := R.fr ev hev
    exact ⟨ak, L, oL, hf, hN, k L oL (by rintro rfl; exact S.fr ev hev hf) ho, es', ep', hd'⟩
  · intro y b hb
    refine (R.vars y _ hb).to hns (fun c v _ q => hcell q) fun v q => ?_
    cases b with
    | fz m => exact VIn.side S.obj k q
    | own a xs => obtain ⟨e, vs, p, r⟩ := q; exact ⟨e, vs, hpl p, r.side S.obj k⟩
    | inst a Cl d fs =>
      have := (instA_mem hb).1
      rw [hi] at this; cases this
  · intro a ha; obtain ⟨vs, p⟩ := R.own a ha; exact ⟨vs, hpl p⟩
  · intro a ha; obtain ⟨vs, p⟩ := R.outer a ha; exact ⟨vs, hpl p⟩
theorem Rel.side {I : Addr} (R : Rel C X env σ h) (hi : instA σ = []) (S : Side C env h I) (hX : X.get? I = none) (k : ∀ b o, b ≠ I → h.get? b = some o → h'.get? b = some o) : Rel C X env σ h' := by
  refine { toRelE := R.toRelE.side hi S k, keepX := ?_, ns := ?_, nsX := R.nsX, nsN := R.nsN, cells := ?_, apart := R.apart, ownX := R.ownX, ownN := R.ownN, ownNd := R.ownNd, insX := R.insX, outX := R.outX }
  · intro b o e hb
    have hbI : b ≠ I := by rintro rfl; rw [hX] at e; cases e
    obtain ⟨k1, o2, k2, k3⟩ := R.keepX b o e hb
    exact ⟨fun z => k b o hbI (k1 z), o2, k b o2 hbI k2, k3⟩
  · obtain ⟨m, o, es, ep, e, d, r⟩ := R.ns
    exact ⟨m, o, es, ep, k _ o (Ne.symm S.ne) e, d, r⟩
  · intro y c hc
    obtain ⟨⟨v2, o, e, d⟩, a3, a4⟩ := R.cells y c hc
    exact ⟨⟨v2, o, k c o (by rintro rfl; exact (S.obj _ e).2.1 _ d) e, d⟩, a3, a4⟩
end
end Mine
namespace Mine
open PySem PySem.W PyProof.Rows
/-- an iterator's own object -/
noncomputable def Junk (o : Obj) : Prop := (∀ xs n, o.data ≠ .seq xs n) ∧ (∀ v, o.data ≠ .cell v) ∧ (∀ es ep, o.data ≠ .dict es ep) ∧ o.cls ≠ .type "collections.deque"
structure Src (C : Cx) (I : Addr) (n : Nat) (P : Nat → Value → Prop) (It : Nat → Obj → Prop) (Inv : Heap → Prop) : Prop where
  junk : ∀ i o, It i o → Junk o
  item : ∀ i (s : Shared) o (Q : Option Value → Shared → Prop) (E : Value → Shared → Prop), i < n → Inv s.heap → s.heap.get? I = some o → It i o →
    (∀ v h' tk o', P i v → h'.get? I = some o' → It (i + 1) o' → (∀ b o, b ≠ I → s.heap.get? b = some o → h'.get? b = some o) → Q (some v) { s with heap := h', toks := tk }) → wpAny C.M C.A (pyNext (.ref I)) Q E s
  done : ∀ (s : Shared) o (Q : Option Value → Shared → Prop) (E : Value → Shared → Prop), Inv s.heap → s.heap.get? I = some o → It n o →
    (∀ h' tk, (∀ b o, b ≠ I → s.heap.get? b = some o → h'.get? b = some o) → Q none { s with heap := h', toks := tk }) → wpAny C.M C.A (pyNext (.ref I)) Q E s
  self : ∀ i (s : Shared) o (Q : Value → Shared → Prop) (E : Value → Shared → Prop), s.heap.get? I = some o → It i o → Q (.ref I) s → wpAny C.M C.A (pyIter (.ref I)) Q E s
  noOwn : ∀ i o, It i o → ∀ n vs, o.cls = .type n → o.data = .fields vs → (["enumerate", "zip", "dict_itemiterator", "dict_reverseitemiterator", "odict_iterator", "itertools.zip_longest", "itertools.pairwise"].contains n && true) = false
/-- what an iterable yields, item by item -/
inductive ItAt (C : Cx) (O : List Addr) (items : List MV) (s : Shared) (it : Value) (s₂ : Shared) : Prop
  | mk (I : Addr) (P : Nat → Value → Prop) (It : Nat → Obj → Prop) (Inv : Heap → Prop) (e : it = .ref I) (k : KSs C.S s s₂) (hIs : s.heap.get? I = none) (hIn : C.n₀ ≤ I) (src : Src C I items.length P It Inv) (ho : ∃ o, s₂.heap.get? I = some o ∧ It 0 o) (inv : Inv s₂.heap)
    (stab : ∀ h', (∀ b o, b ≠ I → s₂.heap.get? b = some o → b ∉ O → Solid o → h'.get? b = some o) → Inv h') (vals : ∀ i v m, P i v → items[i]? = some m → VIn s₂.heap O m v)
noncomputable def EvIt (C : Cx) (env : Env) (σ : St) (e : Expr) (items : List MV) : Prop :=
  ∀ s, RelE C env σ s.heap → wpAny C.M C.A (eval e env) (fun x s₁ => wpAny C.M C.A (pyIter x) (fun it s₂ => ItAt C (C.ex σ) items s it s₂) F s₁) F s
section
variable {C : Cx} {env : Env} {σ : St}
theorem src_list {C : Cx} {I ax : Addr} (hne : ax ≠ I) (vs : List Value) : Src C I vs.length (fun i v => vs[i]? = some v) (fun i o => o.cls = .type "list_iterator" ∧ o.data = .fields #[.ref ax, .int i 0]) (fun h => h.IsList ax vs.toArray) where
  junk := fun i o h => ⟨(fun xs n q => by rw [h.2] at q; cases q), (fun v q => by rw [h.2] at q; cases q), (fun es ep q => by rw [h.2] at q; cases q), (fun q => by rw [h.1] at q; exact absurd (Value.type.inj q) (by decide))⟩
  item := fun i s o Q E hi hl ho hit hQ => by
    refine wpAny_pyNext_list_item (it := I) (l := ax) (i := i) (items := vs.toArray) (x := vs[i]) ⟨o, ho, hit⟩ hl (by simp [hi]) fun h' hit' hs' => ?_
    obtain ⟨o', e', c'⟩ := hit'
    exact hQ _ h' s.toks o' (by simp [hi]) e' c' fun b o hb e => hs'.extBut b o hb e
  done := fun s o Q E hl ho hit hQ => wpAny_pyNext_list_end C.hh (it := I) (l := ax) (i := vs.length) (items := vs.toArray) ⟨o, ho, hit⟩ hl (by simp) fun h' he' => hQ h' s.toks fun b o hb e => he' b o hb e
  self := fun i s o Q E ho hit hQ => wpAny_pyIter_listiter (it := I) (l := ax) (i := i) ⟨o, ho, hit⟩ hQ
  noOwn := fun i o hit n us hc hd => by
    rw [hit.1] at hc
    have := Value.type.inj hc
    subst this
    decide
theorem VIns.item {h : Heap} {O : List Addr} {ms : List MV} {vs : List Value} (x : VIns h O ms vs) {i : Nat} {v : Value} {m : MV} (e : vs[i]? = some v) (e' : ms[i]? = some m) : VIn h O m v := by
  obtain ⟨v', a, b⟩ := x.get e'
  rw [e] at a; cases a; exact b
theorem evIt_list {e : Expr} {xs : List MV} (h : Ev C env σ e (.list xs)) : EvIt C env σ e xs := fun s R => by
  refine wpAny_mono (h s R) (fun x s₁ h₁ => ?_) fun _ _ x => x
  obtain ⟨k₁, a, vs, rfl, hn, ⟨hl, _⟩, hv⟩ := h₁
  have R₁ := R.ks k₁.ks
  refine wpAny_pyIter_list hl ?_
  have hlt : a < s₁.heap.objs.size := by obtain ⟨o, e, _⟩ := hl; exact Heap.lt_size e
  have kp := keeps_push (S := C.S) (s := s₁) { cls := .type "list_iterator", data := .fields #[.ref a, .int 0 0] }
  have hlen := hv.length
  refine ⟨s₁.heap.objs.size, fun i v => vs[i]? = some v, _, _, rfl, k₁.trans kp, ?_, C.G.low _ R₁.base, hlen ▸ src_list (Nat.ne_of_lt hlt) vs, ⟨_, Heap.get?_push_size _ rfl, rfl, rfl⟩, KS.isList kp.ks hl, fun h' hk => ?_, fun i v m e e' => (hv.item e e').ks kp.ks⟩
  · cases q : s.heap.get? s₁.heap.objs.size with
    | none => rfl
    | some o => obtain ⟨_, o', e', _⟩ := k₁.ks _ o q; exact absurd (Heap.lt_size e') (Nat.lt_irrefl _)
  · obtain ⟨o, e, s, c, n, d⟩ := solid_list (KS.isList kp.ks hl)
    exact ⟨o, hk a o (Nat.ne_of_lt hlt) e hn s, c, n, d⟩
/-- a value bound to a target -/
noncomputable def Asg (C : Cx) (env : Env) (target : Expr) (m : MV) (σ σ' : St) : Prop :=
  ∀ X s v, Rel C X env σ s.heap → VIn s.heap (C.ex σ) m v → wpAny C.M C.A (assign target env v) (fun _ s' => ∃ h' tk, s' = { s with heap := h', toks := tk } ∧ Rel C X env σ' h') F s
theorem asg_name {x : Str} {p : Pos} {m : MV} (hx : Stores env x) : Asg C env (.Name x p) m σ (sput σ x (.fz m)) := fun X s v R hv =>
  wpAny_assign_Name (store_ R hx hv fun h' tk R' => ⟨h', tk, rfl, R'⟩)
theorem letGo_ {C : Cx} {target : Expr} {I : Addr} {n i : Nat} {P It Inv} (S : Src C I n P It Inv) {v : Value} {s : Shared} {o : Obj} (ho : s.heap.get? I = some o) (hit : It i o) {Q : Unit → Shared → Prop} {E : Value → Shared → Prop} (h : Q () s) : wpAny C.M C.A (letOwnedTupleGo target (.ref I) v) Q E s := by
  have tup : wpAny C.M C.A (do
    let (.ref r, .ref a) := (Value.ref I, v) | return
    let o ← load r
    match o.cls, o.data with
    | .type n, .fields vs =>
      if ["enumerate", "zip", "dict_itemiterator", "dict_reverseitemiterator", "odict_iterator", "itertools.zip_longest", "itertools.pairwise"].contains n && vs[0]? == some (rawInt a) then
        rule "for.unpacks-the-owned-tuple"
        updateField r 0 .none
    | _, _ => pure ()) Q E s := by
    cases v with
    | ref a =>
      refine wpAny_bind (wpAny_load ho ?_)
      split
      · rename_i nm vs hc hd
        have := S.noOwn i o hit nm vs hc hd
        rw [Bool.and_true] at this
        rw [this, Bool.false_and, if_neg (by decide)]
        exact wpAny_pure h
      · exact wpAny_pure h
    | _ => exact wpAny_pure h
  unfold letOwnedTupleGo
  split
  · exact tup
  · exact tup
  · exact wpAny_pure h
/-- what a state of a loop keeps -/
inductive ForInv (C : Cx) (env : Env) (items : List MV) (s : Shared) (X₁ : Heap) (J : Nat → St → Prop) (It : Nat → Obj → Prop) (I : Addr) (k : Nat) (s' : Shared) : Prop
  | mk (i : Nat) (h' : Heap) (tk : Nat) (σ' : St) (o : Obj) (e : s' = { s with heap := h', toks := tk }) (hi : i ≤ items.length) (ek : k = items.length - i) (R : Rel C X₁ env σ' h') (hJ : J i σ') (ho : h'.get? I = some o) (it : It i o)
theorem wpS_for {target iter : Expr} {body orelse : List Stmt} {p : Pos} {items : List MV} {Q : FM → St → Prop} (J : Nat → St → Prop) (hc : CellsOk env) (hB : C.mB = []) (hi : instA σ = []) (hJi : ∀ i σ', J i σ' → instA σ' = [])
    (hit : EvIt C env σ iter items) (h0 : J 0 σ)
    (turn : ∀ i m σ', items[i]? = some m → J i σ' → ∃ σ'', Asg C env target m σ' σ'' ∧ instA σ'' = [] ∧ wpSs C env body σ'' fun fm τ => match fm with | .next | .cont => J (i + 1) τ | .brk => Q .next τ | .ret v => Q (.ret v) τ)
    (fin : ∀ σ', J items.length σ' → wpSs C env orelse σ' Q) (hs : ∀ x, foldedSetIterable iter env x = pure x := by intro _; rfl) : wpS C env (.For target iter body orelse p) σ Q := fun X s R => by
  refine wpAny_For (wpAny_mono (hit s R.toRelE) (fun x s₁ h₁ => wpAny_mono h₁ (fun it s₂ h₂ => ?_) fun _ _ z => z.elim) fun _ _ z => z.elim) hs
  obtain ⟨I, P, It, Inv, rfl, k, hIs, hIn, Sr, ⟨o₀, ho₀, hit₀⟩, hInv, hstab, hval⟩ := h₂
  have R₂ := R.ks k.ks
  have hXI : X.get? I = none := by
    cases q : X.get? I with
    | none => rfl
    | some o => obtain ⟨_, o', e', _⟩ := R.keepX I o q (by rw [hB]; simp); rw [hIs] at e'; cases e'
  have hIL : I ≠ env.locals := by rintro rfl; obtain ⟨_, o, _, _, e, _⟩ := R.ns; rw [hIs] at e; cases e
  have hIF : ∀ e ∈ C.fs, e.frame ≠ some I := fun e he q => by
    obtain ⟨_, L, o, hL, _, ho, _⟩ := R.fr e he
    rw [q] at hL; cases hL; rw [hIs] at ho; cases ho
  have hIO : I ∉ C.ex σ := fun q => by
    rcases List.mem_append.mp q with q | q
    · obtain ⟨vs, n, e⟩ := R.own I q; rw [hIs] at e; cases e
    · obtain ⟨vs, n, e⟩ := R.outer I q; rw [hIs] at e; cases e
  have hJ1 : ∀ b ∈ [I], ∀ o, s₂.heap.get? b = some o → (∀ xs n, o.data ≠ .seq xs n) ∧ o.cls ≠ .type "collections.deque" := fun b hb o e => by
    rw [List.mem_singleton.mp hb] at e; rw [ho₀] at e; cases e
    obtain ⟨j1, j2, j3, j4⟩ := Sr.junk 0 _ hit₀
    exact ⟨j1, j4⟩
  obtain ⟨h2, t2, rfl, _⟩ := k
  dsimp only at R₂ ho₀ hInv hstab hval hJ1
  let X₁ := hideAll h2 ([I] ++ hids env σ)
  have R₁ : Rel C X₁ env σ h2 := R₂.reX hc hi (J := [I]) (fun b hb o e => (hJ1 b hb o e).1)
  have hX1I : X₁.get? I = none := hideAll_none _ (List.mem_append_left _ List.mem_cons_self)
  have inv' : ∀ σ' h', Rel C X₁ env σ' h' → Inv h' := fun σ' h' R' => hstab h' fun b o hb e hO hso => R'.solid hB (R₂.seen hc (J := [I]) e hso (fun q => hO (List.mem_append_left _ q)) (by simpa using hb)) hso
  have back : ∀ σ' h', Rel C X₁ env σ' h' → Rel C X env σ' h' := fun σ' h' R' => R₂.backX hc hB (J := [I]) (fun b hb => by rw [List.mem_singleton.mp hb]; exact hXI) R'
  have sideOf : ∀ h' i o, h'.get? I = some o → It i o → Side C env h' I := fun h' i o e hit => ⟨hIn, hIL, hIF, fun o' e' => by
    rw [e] at e'; cases e'
    obtain ⟨j1, j2, j3, j4⟩ := Sr.junk i _ hit
    exact ⟨j1, j2, fun _ q => absurd q j4⟩⟩
  refine codeAny_forLoop_any (ForInv C env items s X₁ J It I) ?_ items.length ⟨0, h2, t2, σ, o₀, rfl, Nat.zero_le _, by omega, R₁, h0, ho₀, hit₀⟩
  rintro k s' ⟨i, h', tk, σ', o, rfl, hile, rfl, R', hJ, ho, hit⟩
  by_cases hlt : i < items.length
  · refine Sr.item i _ o _ _ hlt (inv' σ' h' R') ho hit fun v h₁ tk₁ o₁ hP e₁ hit₁ hk₁ => ?_
    have R'₁ : Rel C X₁ env σ' h₁ := R'.side (hJi i σ' hJ) (sideOf h' i o ho hit) hX1I hk₁
    refine letGo_ Sr (s := { s with heap := h₁, toks := tk₁ }) e₁ hit₁ ?_
    obtain ⟨m, hm⟩ : ∃ m, items[i]? = some m := ⟨_, List.getElem?_eq_getElem hlt⟩
    have hv : VIn h₁ (C.ex σ') m v := VIn.turn R₂ hc hB hJ1 R'₁ (hval i v m hP hm)
    obtain ⟨σ'', ha, hi'', hb⟩ := turn i m σ' hm hJ
    -- the turn's own hidden heap: the iterator stands in it
    have R'₂ := R'₁.reX hc (hJi i σ' hJ) (J := []) (fun _ h => nomatch h)
    have hjk := Sr.junk (i + 1) _ hit₁
    have hsI : Solid o₁ := ⟨hjk.2.2.1, hjk.2.1⟩
    have hIown : I ∉ owned σ' := fun q => by obtain ⟨vs, n, e⟩ := R'₁.own I q; rw [e₁] at e; cases e; exact hjk.1 _ _ rfl
    have seenI := R'₁.seen hc (J := []) e₁ hsI hIown (by simp)
    refine wpAny_mono (ha _ { s with heap := h₁, toks := tk₁ } v R'₂ hv) (fun _ s₃ h₃ => ?_) fun _ _ z => z.elim
    obtain ⟨h₃', tk₃, rfl, R₃⟩ := h₃
    refine wpAny_mono (hb _ { s with heap := h₃', toks := tk₃ } R₃) (fun fl s₄ p₄ => ?_) fun _ _ z => z.elim
    obtain ⟨h₄, tk₄, rfl, fm, τ, fr, R₄, q⟩ := p₄
    have oI : h₄.get? I = some o₁ := R₄.solid hB seenI hsI
    have R₅ : Rel C X₁ env τ h₄ := R'₁.backX hc hB (J := []) (fun _ h => nomatch h) R₄
    rcases fl with _ | _ | _ | rv <;> rcases fm with _ | _ | _ | rm <;> first | exact (show False from fr).elim | skip
    · exact ⟨items.length - (i + 1), by omega, i + 1, h₄, tk₄, τ, o₁, rfl, hlt, rfl, R₅, q, oI, hit₁⟩
    · exact ⟨h₄, tk₄, rfl, .next, τ, trivial, back _ _ R₅, q⟩
    · exact ⟨items.length - (i + 1), by omega, i + 1, h₄, tk₄, τ, o₁, rfl, hlt, rfl, R₅, q, oI, hit₁⟩
    · exact ⟨h₄, tk₄, rfl, .ret rm, τ, fr, back _ _ R₅, q⟩
  · have hin : i = items.length := by omega
    subst hin
    refine Sr.done _ o _ _ (inv' σ' h' R') ho hit fun h₁ tk₁ hk₁ => ?_
    have R'₁ : Rel C X₁ env σ' h₁ := R'.side (hJi _ σ' hJ) (sideOf h' _ o ho hit) hX1I hk₁
    refine wpAny_mono (fin σ' hJ X { s with heap := h₁, toks := tk₁ } (back _ _ R'₁)) (fun fl s₄ p₄ => ?_) fun _ _ z => z.elim
    obtain ⟨h₄, tk₄, rfl, _, _, r1, r2, r3⟩ := p₄
    exact ⟨h₄, tk₄, rfl, _, _, r1, r2, r3⟩
end
end Mine
namespace Mine
open PySem PySem.W PyProof.Rows
theorem owned_of {σ : St} : ∀ {a : Addr}, a ∈ owned σ → ∃ x xs, (x, Bd.own a xs) ∈ σ := by
  induction σ with
  | nil => intro a h; cases h
  | cons p r ih =>
    obtain ⟨y, c⟩ := p
    intro a h
    cases c with
    | own b xs =>
      simp only [owned, List.mem_cons] at h
      rcases h with rfl | h
      · exact ⟨y, xs, List.mem_cons_self⟩
      · obtain ⟨x, xs', hm⟩ := ih h; exact ⟨x, xs', List.mem_cons_of_mem _ hm⟩
    | fz _ => obtain ⟨x, xs', hm⟩ := ih h; exact ⟨x, xs', List.mem_cons_of_mem _ hm⟩
    | inst _ _ _ _ => obtain ⟨x, xs', hm⟩ := ih h; exact ⟨x, xs', List.mem_cons_of_mem _ hm⟩
theorem owned_sput_nd {x : Str} {a : Addr} {xs : List MV} : ∀ {σ : St}, (owned σ).Nodup → a ∉ owned σ → (owned (sput σ x (.own a xs))).Nodup
  | [], _, _ => by simp [sput, owned]
  | (z, c) :: r, h, ha => by
    by_cases hz : z = x
    · cases c <;> simp_all [sput, owned]
    · cases c with
      | fz _ => simp only [sput, hz, if_false, owned] at *; exact owned_sput_nd h ha
      | inst _ _ _ _ => simp only [sput, hz, if_false, owned] at *; exact owned_sput_nd h ha
      | own b ys =>
        simp only [sput, hz, if_false, owned, List.nodup_cons, List.mem_cons, not_or] at *
        refine ⟨fun q => ?_, owned_sput_nd h.2 ha.2⟩
        rcases owned_sput_own q with rfl | q
        · exact ha.1 rfl
        · exact h.1 q
theorem instA_sput_own {x : Str} {a : Addr} {xs : List MV} : ∀ {σ : St}, instA σ = [] → instA (sput σ x (.own a xs)) = []
  | [], _ => rfl
  | (z, c) :: r, h => by
    by_cases hz : z = x
    · cases c <;> simp_all [sput, instA]
    · cases c with
      | fz _ => simp only [sput, hz, if_false, instA] at *; exact instA_sput_own h
      | own _ _ => simp only [sput, hz, if_false, instA] at *; exact instA_sput_own h
      | inst _ _ _ _ => simp [instA] at h
theorem instA_sput_fz {x : Str} {m : MV} {σ : St} (h : instA σ = []) : instA (sput σ x (.fz m)) = [] := by
  have := instA_sub (x := x) (m := m) (σ := σ)
  rw [h] at this
  exact List.sublist_nil.mp this
/-- the list at a name is the name's own -/
theorem owned_put_own {x : Str} {a : Addr} {xs ys : List MV} : ∀ {σ : St}, sget σ x = some (.own a xs) → owned (sput σ x (.own a ys)) = owned σ
  | (z, c) :: r, e => by
    by_cases hz : z = x
    · simp [sget, hz] at e; subst e; simp [sput, hz, owned]
    · simp [sget, hz] at e
      cases c <;> simp [sput, hz, owned, owned_put_own e]
theorem own_apart {x y : Str} {a b : Addr} {xs ys : List MV} (hxy : x ≠ y) : ∀ {σ : St}, (owned σ).Nodup → sget σ x = some (.own a xs) → sget σ y = some (.own b ys) → a ≠ b
  | (z, c) :: r, hn, e, e' => by
    by_cases hz : z = x
    · simp [sget, hz] at e
      subst e
      simp [sget, hz, hxy] at e'
      simp only [owned, List.nodup_cons] at hn
      rintro rfl
      exact hn.1 (owned_mem e')
    · by_cases hz' : z = y
      · simp [sget, hz'] at e'
        subst e'
        simp [sget, hz] at e
        simp only [owned, List.nodup_cons] at hn
        rintro rfl
        exact hn.1 (owned_mem e)
      · simp [sget, hz] at e
        simp [sget, hz'] at e'
        refine own_apart hxy ?_ e e'
        cases c with
        | own _ _ => simp only [owned, List.nodup_cons] at hn; exact hn.2
        | _ => exact hn
theorem owned_own_fz {x : Str} {a b : Addr} {ms : List MV} {m : MV} : ∀ {σ : St}, b ∈ owned (sput σ x (.own a ms)) → b = a ∨ b ∈ owned (sput σ x (.fz m))
  | [], h => by simp [sput, owned] at h; exact .inl h
  | (z, c) :: r, h => by
    by_cases hz : z = x
    · simp only [sput, hz, if_true, owned, List.mem_cons] at h ⊢
      exact h
    · cases c with
      | fz _ => simp only [sput, hz, if_false, owned] at h ⊢; exact owned_own_fz h
      | inst _ _ _ _ => simp only [sput, hz, if_false, owned] at h ⊢; exact owned_own_fz h
      | own c' ys =>
        simp only [sput, hz, if_false, owned, List.mem_cons] at h ⊢
        rcases h with h | h
        · exact .inr (.inl h)
        · rcases owned_own_fz (m := m) h with h | h
          · exact .inl h
          · exact .inr (.inr h)
theorem owned_own_nd {x : Str} {a : Addr} {ms : List MV} {m : MV} : ∀ {σ : St}, a ∉ owned (sput σ x (.fz m)) → (owned (sput σ x (.fz m))).Nodup → (owned (sput σ x (.own a ms))).Nodup
  | [], _, _ => by simp [sput, owned]
  | (z, c) :: r, h1, h2 => by
    by_cases hz : z = x
    · simp only [sput, hz, if_true, owned] at h1 h2 ⊢
      exact List.nodup_cons.mpr ⟨h1, h2⟩
    · cases c with
      | fz _ => simp only [sput, hz, if_false, owned] at h1 h2 ⊢; exact owned_own_nd h1 h2
      | inst _ _ _ _ => simp only [sput, hz, if_false, owned] at h1 h2 ⊢; exact owned_own_nd h1 h2
      | own c' ys =>
        simp only [sput, hz, if_false, owned, List.mem_cons, not_or, List.nodup_cons] at h1 h2 ⊢
        refine ⟨fun q => ?_, owned_own_nd h1.2 h2.2⟩
        rcases owned_own_fz (m := m) q with rfl | q
        · exact h1.1 rfl
        · exact h2.1 q
section
variable {C : Cx} {env : Env} {σ σ' : St} {X h h' : Heap}
/-- a list of the frame's own turns -/
theorem Rel.putList (R : Rel C X env σ h) (hi : instA σ = []) {x : Str} {a : Addr} {xs ys : List MV} {vs : List Value} (hx : sget σ x = some (.own a xs)) (hp : h'.PlainList a vs.toArray) (hv : VIns h (C.ex σ) ys vs) (hs : Heap.SameBut a h h') : Rel C X env (sput σ x (.own a ys)) h' := by
  have ha := owned_mem hx
  obtain ⟨vs₀, n₀, ea⟩ := R.own a ha
  have how := owned_put_own (ys := ys) hx
  have hE : C.ex (sput σ x (.own a ys)) = C.ex σ := by unfold Cx.ex; rw [how]
  have k : ∀ b o, b ≠ a → h.get? b = some o → h'.get? b = some o := fun b o hb e => (hs.2 b hb).trans e
  have vin : ∀ {m v}, VIn h (C.ex σ) m v → VIn h' (C.ex σ) m v := fun {m v} q => by
    refine q.to (fun b its n l => ?_) (fun b its n l => ?_) fun p d => ?_
    · exact ⟨l.ext fun o e => k b o (fun z => n (z ▸ List.mem_append_left _ ha)) e, n⟩
    · obtain ⟨o, e, c⟩ := l
      exact ⟨⟨o, k b o (fun z => n (z ▸ List.mem_append_left _ ha)) e, c⟩, n⟩
    · obtain ⟨o, n, t, e, c, dd⟩ := d
      exact ⟨o, n, t, k p o (by rintro rfl; rw [ea] at e; cases e; exact absurd (Value.type.inj c) (by decide)) e, c, dd⟩
  have vins : ∀ {ms ws}, VIns h (C.ex σ) ms ws → VIns h' (C.ex σ) ms ws := by
    intro ms
    induction ms with
    | nil => intro ws q; exact q
    | cons m ms ih => rintro ws ⟨v, r, e, p, q⟩; exact ⟨v, r, e, vin p, ih q⟩
  have hns : ∀ m, h.Ns env.locals m → h'.Ns env.locals m := fun m y => by
    obtain ⟨o, es, ep, e, d, r⟩ := y
    exact ⟨o, es, ep, k _ o (by rintro z; rw [z] at e; rw [ea] at e; cases e; cases d) e, d, r⟩
  have hcell : ∀ {c v}, h.IsCell c v → h'.IsCell c v := fun {c v} y => by
    obtain ⟨o, e, d⟩ := y
    exact ⟨o, k c o (by rintro rfl; rw [ea] at e; cases e; cases d) e, d⟩
  refine { base := C.mono _ _ (fun b o hb e => k b o (by rintro rfl; exact absurd hb (Nat.not_lt.mpr (R.ownN b ha))) e) R.base, fr := ?_, kind := R.kind, glob := R.glob, vars := ?_, own := ?_, outer := ?_, insN := ?_, insNd := ?_, keepX := ?_, ns := ?_, nsX := R.nsX, nsN := R.nsN, cells := ?_, apart := R.apart, ownX := fun b hb => R.ownX b (by rw [how] at hb; exact hb), ownN := fun b hb => R.ownN b (by rw [how] at hb; exact hb), ownNd := by rw [how]; exact R.ownNd, insX := ?_, outX := R.outX }
  · intro ev hev
    obtain ⟨ak, L, oL, hf, hN, ho, es', ep', hd'⟩ := R.fr ev hev
    exact ⟨ak, L, oL, hf, hN, k L oL (by rintro rfl; rw [ea] at ho; cases ho; cases hd') ho, es', ep', hd'⟩
  · intro y b hb
    rw [sget_sput] at hb
    rw [hE]
    by_cases hxy : x = y
    · subst hxy
      rw [if_pos rfl] at hb
      cases hb
      exact (R.vars x _ hx).to hns (fun c v _ q => hcell q) fun v q => ⟨q.1, vs, hp, vins hv⟩
    · rw [if_neg hxy] at hb
      refine (R.vars y _ hb).to hns (fun c v _ q => hcell q) fun v q => ?_
      cases b with
      | fz m => exact vin q
      | own b zs =>
        obtain ⟨e, ws, ⟨n, p⟩, r⟩ := q
        exact ⟨e, ws, ⟨n, k b _ (Ne.symm (own_apart hxy R.ownNd hx hb)) p⟩, vins r⟩
      | inst a Cl d fs =>
        have := (instA_mem hb).1
        rw [hi] at this; cases this
  · intro b hb
    rw [how] at hb
    by_cases hba : b = a
    · subst hba; exact ⟨_, hp⟩
    · obtain ⟨ws, n, p⟩ := R.own b hb
      exact ⟨ws, n, k b _ hba p⟩
  · intro b hb
    obtain ⟨ws, n, p⟩ := R.outer b hb
    refine ⟨ws, n, k b _ ?_ p⟩
    rintro rfl
    obtain ⟨o, q⟩ := R.outX b hb
    rw [R.ownX b ha] at q; cases q
  · intro b hb; rw [instA_sput_own hi] at hb; cases hb
  · rw [instA_sput_own hi]; exact List.nodup_nil
  · intro b o e hb
    have hbI : b ≠ a := by rintro rfl; rw [R.ownX b ha] at e; cases e
    obtain ⟨k1, o2, k2, k3⟩ := R.keepX b o e hb
    exact ⟨fun z => k b o hbI (k1 z), o2, k b o2 hbI k2, k3⟩
  · obtain ⟨m, q⟩ := R.ns
    exact ⟨m, hns m q⟩
  · intro y c hc
    obtain ⟨⟨v2, q⟩, a3, a4⟩ := R.cells y c hc
    exact ⟨⟨v2, hcell q⟩, a3, a4⟩
  · exact .inr fun b hb => by rw [instA_sput_own hi] at hb; cases hb
/-- a fresh list joins under a name of no frame's -/
theorem Rel.joinOwn (R : Rel C X env σ h) (k : KS C.S h h') {nm : Str} {a : Addr} {ms : List MV} {vs : List Value} (hf : h.get? a = none) (hn : C.n₀ ≤ a) (hp : h'.PlainList a vs.toArray) (hv : VIns h' (a :: C.ex σ) ms vs) (hB : C.mB = []) (hk : env.kindOf nm = none) : Rel C X env ((nm, .own a ms) :: σ) h' := by
  have R' := R.ks k
  have hXa : X.get? a = none := by
    cases q : X.get? a with
    | none => rfl
    | some o => obtain ⟨_, o', e', _⟩ := R.keepX a o q (by rw [hB]; simp); rw [hf] at e'; cases e'
  have hE : C.ex ((nm, .own a ms) :: σ) = a :: C.ex σ := rfl
  have more : ∀ {m v}, VIn h (C.ex σ) m v → VIn h' (a :: C.ex σ) m v := fun {m v} q => (q.more (O' := a :: C.ex σ) fun b hb => (List.mem_cons.mp hb).elim (fun z => .inr (z ▸ hf)) .inl).ks k
  have mores : ∀ {ms ws}, VIns h (C.ex σ) ms ws → VIns h' (a :: C.ex σ) ms ws := fun {ms ws} q => (q.more (O' := a :: C.ex σ) fun b hb => (List.mem_cons.mp hb).elim (fun z => .inr (z ▸ hf)) .inl).ks k
  refine { base := R'.base, fr := R'.fr, kind := R.kind, glob := R.glob, vars := ?_, own := ?_, outer := R'.outer, insN := R'.insN, insNd := R'.insNd, keepX := R'.keepX, ns := R'.ns, nsX := R.nsX, nsN := R.nsN, cells := R'.cells, apart := R.apart, ownX := ?_, ownN := ?_, ownNd := ?_, insX := R.insX, outX := R.outX }
  · intro y b hb
    rw [hE]
    by_cases hy : nm = y
    · subst hy
      simp only [sget, if_true] at hb
      cases hb
      unfold VarIs
      rw [hk]
      exact ⟨.ref a, rfl, vs, hp, hv⟩
    · simp only [sget, hy, if_false] at hb
      refine (R.vars y _ hb).to (fun m q => k.ns q) (fun c v _ q => k.isCell q) fun v q => ?_
      cases b with
      | fz m => exact more q
      | own b zs =>
        obtain ⟨e, ws, p, r⟩ := q
        obtain ⟨nn, pe⟩ := id p
        exact ⟨e, ws, k.plain p (R.notS pe (fun es ep => by simp)), mores r⟩
      | inst a Cl d fs => exact ⟨q.1, q.2.ks k⟩
  · intro b hb
    rcases List.mem_cons.mp hb with rfl | hb
    · exact ⟨_, hp⟩
    · exact R'.own b hb
  · intro b hb
    rcases List.mem_cons.mp hb with rfl | hb
    · exact hXa
    · exact R.ownX b hb
  · intro b hb
    rcases List.mem_cons.mp hb with rfl | hb
    · exact hn
    · exact R.ownN b hb
  · refine List.nodup_cons.mpr ⟨fun q => ?_, R.ownNd⟩
    obtain ⟨ws, n, e⟩ := R.own a q
    rw [hf] at e; cases e
theorem sget_ghost {nm x : Str} {b : Bd} (h : nm ≠ x) : sget ((nm, b) :: σ) x = sget σ x := by simp [sget, h]
/-- the name takes the list as its own -/
theorem Rel.thaw {nm x : Str} {a : Addr} {ms : List MV} (R : Rel C X env ((nm, .own a ms) :: sput σ x (.fz (.obj (.ref a)))) h) (hne : nm ≠ x) (hi : instA σ = []) (hk : env.kindOf nm = none) (hnone : sget σ nm = none) : Rel C X env (sput σ x (.own a ms)) h := by
  have hO1 : ∀ b, b ∈ owned (sput σ x (.own a ms)) → b = a ∨ b ∈ owned (sput σ x (.fz (.obj (.ref a)))) := fun b hb => owned_own_fz hb
  have hsub : ∀ b, b ∈ owned (sput σ x (.own a ms)) → b ∈ owned ((nm, Bd.own a ms) :: sput σ x (.fz (.obj (.ref a)))) := fun b hb => by
    rcases hO1 b hb with rfl | hb
    · exact List.mem_cons_self
    · exact List.mem_cons_of_mem _ hb
  have hE : ∀ b ∈ C.ex (sput σ x (.own a ms)), b ∈ C.ex ((nm, .own a ms) :: sput σ x (.fz (.obj (.ref a)))) := fun b hb => by
    rcases List.mem_append.mp hb with hb | hb
    · exact List.mem_append_left _ (hsub b hb)
    · exact List.mem_append_right _ hb
  have less : ∀ {m v}, VIn h (C.ex ((nm, .own a ms) :: sput σ x (.fz (.obj (.ref a))))) m v → VIn h (C.ex (sput σ x (.own a ms))) m v := fun {m v} q => q.more fun b hb => .inl (hE b hb)
  have lesss : ∀ {ms' ws}, VIns h (C.ex ((nm, .own a ms) :: sput σ x (.fz (.obj (.ref a))))) ms' ws → VIns h (C.ex (sput σ x (.own a ms))) ms' ws := fun {ms' ws} q => q.more fun b hb => .inl (hE b hb)
  have hgh := R.vars nm (.own a ms) sget_here
  unfold VarIs at hgh
  rw [hk] at hgh
  obtain ⟨_, rfl, vs, hp, hvs⟩ := hgh
  have hnd := R.ownNd
  simp only [owned, List.nodup_cons] at hnd
  have hnd' : (owned (sput σ x (.own a ms))).Nodup := owned_own_nd hnd.1 hnd.2
  refine { base := R.base, fr := R.fr, kind := R.kind, glob := R.glob, vars := ?_, own := fun b hb => R.own b (hsub b hb), outer := R.outer, insN := ?_, insNd := ?_, keepX := R.keepX, ns := R.ns, nsX := R.nsX, nsN := R.nsN, cells := R.cells, apart := R.apart, ownX := fun b hb => R.ownX b (hsub b hb), ownN := fun b hb => R.ownN b (hsub b hb), ownNd := hnd', insX := ?_, outX := R.outX }
  · intro y b hb
    rw [sget_sput] at hb
    by_cases hxy : x = y
    · subst hxy
      rw [if_pos rfl] at hb
      cases hb
      have hv := R.vars x (.fz (.obj (.ref a))) (by rw [sget_ghost hne, sget_sput, if_pos rfl])
      refine hv.to (fun m q => q) (fun c v _ q => q) fun v q => ?_
      exact ⟨q, vs, hp, lesss hvs⟩
    · rw [if_neg hxy] at hb
      by_cases hny : nm = y
      · subst hny
        rw [hnone] at hb; cases hb
      · have hv := R.vars y b (by rw [sget_ghost hny, sget_sput, if_neg hxy]; exact hb)
        refine hv.to (fun m q => q) (fun c v _ q => q) fun v q => ?_
        cases b with
        | fz m => exact less q
        | own b zs => obtain ⟨e, ws, p, r⟩ := q; exact ⟨e, ws, p, lesss r⟩
        | inst a Cl d fs => exact q
  · intro b hb; rw [instA_sput_own hi] at hb; cases hb
  · rw [instA_sput_own hi]; exact List.nodup_nil
  · exact .inr fun b hb => by rw [instA_sput_own hi] at hb; cases hb
/-- the list stands from now on -/
theorem Rel.freeze {x : Str} {a : Addr} {xs : List MV} (R : Rel C X env σ h) (hx : sget σ x = some (.own a xs)) : Rel C X env (sput σ x (.fz (.list xs))) h := by
  have hO : ∀ b ∈ owned (sput σ x (.fz (.list xs))), b ∈ owned σ := fun b hb => owned_sput hb
  have hE : ∀ b ∈ C.ex (sput σ x (.fz (.list xs))), b ∈ C.ex σ := fun b hb => List.mem_append.mpr ((List.mem_append.mp hb).imp (hO b) id)
  have hne : a ∉ C.ex (sput σ x (.fz (.list xs))) := fun q => by
    rcases List.mem_append.mp q with q | q
    · have nd := R.ownNd
      have gen : ∀ σ : St, sget σ x = some (.own a xs) → (owned σ).Nodup → a ∉ owned (sput σ x (.fz (.list xs))) := by
        intro σ
        induction σ with
        | nil => intro e; cases e
        | cons p r ih =>
          obtain ⟨z, c⟩ := p
          intro e nd
          by_cases hz : z = x
          · simp [sget, hz] at e; subst e
            simp only [owned, List.nodup_cons] at nd
            simp only [sput, hz, if_true, owned]
            exact nd.1
          · simp [sget, hz] at e
            cases c with
            | fz _ => simp only [sput, hz, if_false, owned]; exact ih e nd
            | inst _ _ _ _ => simp only [sput, hz, if_false, owned]; exact ih e nd
            | own c' ys =>
              simp only [owned, List.nodup_cons] at nd
              simp only [sput, hz, if_false, owned, List.mem_cons, not_or]
              refine ⟨?_, ih e nd.2⟩
              rintro rfl
              exact nd.1 (owned_mem e)
      exact gen σ hx nd q
    · obtain ⟨o, e⟩ := R.outX a q
      rw [R.ownX a (owned_mem hx)] at e; cases e
  have less : ∀ {m v}, VIn h (C.ex σ) m v → VIn h (C.ex (sput σ x (.fz (.list xs)))) m v := fun {m v} q => q.more fun b hb => .inl (hE b hb)
  have lesss : ∀ {ms' ws}, VIns h (C.ex σ) ms' ws → VIns h (C.ex (sput σ x (.fz (.list xs)))) ms' ws := fun {ms' ws} q => q.more fun b hb => .inl (hE b hb)
  refine { base := R.base, fr := R.fr, kind := R.kind, glob := R.glob, vars := ?_, own := fun b hb => R.own b (hO b hb), outer := R.outer, insN := fun b hb => R.insN b (instA_sub.subset hb), insNd := R.insNd.sublist instA_sub, keepX := R.keepX, ns := R.ns, nsX := R.nsX, nsN := R.nsN, cells := R.cells, apart := R.apart, ownX := fun b hb => R.ownX b (hO b hb), ownN := fun b hb => R.ownN b (hO b hb), ownNd := owned_nodup_fz R.ownNd, insX := R.insX.imp id fun q b hb => q b (instA_sub.subset hb), outX := R.outX }
  intro y b hb
  rw [sget_sput] at hb
  by_cases hxy : x = y
  · subst hxy
    rw [if_pos rfl] at hb
    cases hb
    refine (R.vars x _ hx).to (fun m q => q) (fun c v _ q => q) fun v q => ?_
    obtain ⟨rfl, vs, p, r⟩ := q
    exact ⟨a, vs, rfl, hne, .ofPlain p, lesss r⟩
  · rw [if_neg hxy] at hb
    refine (R.vars y _ hb).to (fun m q => q) (fun c v _ q => q) fun v q => ?_
    cases b with
    | fz m => exact less q
    | own b zs => obtain ⟨e, ws, p, r⟩ := q; exact ⟨e, ws, p, lesss r⟩
    | inst a Cl d fs => exact q
theorem ss_freeze {x : Str} {a : Addr} {xs : List MV} {sts : List Stmt} {Q : FM → St → Prop} {σ' : St} (hx : sget σ x = some (.own a xs)) (hp : sput σ x (.fz (.list xs)) = σ') (h : wpSs C env sts σ' Q) : wpSs C env sts σ Q := fun X s R => h X s (hp ▸ R.freeze hx)
/-- an expression that makes a list -/
noncomputable def EvN (C : Cx) (env : Env) (σ : St) (e : Expr) (ms : List MV) : Prop :=
  ∀ s, RelE C env σ s.heap → wpAny C.M C.A (eval e env) (fun v s' => ∃ a vs, v = .ref a ∧ KSs C.S s s' ∧ s.heap.get? a = none ∧ C.n₀ ≤ a ∧ s'.heap.PlainList a (List.toArray vs) ∧ VIns s'.heap (a :: C.ex σ) ms vs) F s
theorem EvN.ev {e : Expr} {ms : List MV} (x : EvN C env σ e ms) : Ev C env σ e (.list ms) := fun s R => by
  refine wpAny_mono (x s R) (fun v s' h => ?_) fun _ _ z => z
  obtain ⟨a, vs, rfl, k, hf, hn, hp, hv⟩ := h
  refine ⟨k, a, vs, rfl, fun q => ?_, .ofPlain hp, hv.more fun b hb => .inl (List.mem_cons_of_mem _ hb)⟩
  obtain ⟨o, e⟩ := R.exO a q
  rw [hf] at e; cases e
theorem evN_list {es : List Expr} {ms : List MV} {p : Pos} (h : Evs C env σ es ms) (hsz : ms.length ≤ sizeLine) : EvN C env σ (.List es p) ms := fun s R => by
  refine List_ (wpAny_mono (splicedV_ h s R) (fun vs s₁ h₁ => ?_) fun _ _ x => x)
  have R₁ := R.ks h₁.1.ks
  refine wpAny_newObj_type ?_ (by show vs.toArray.size ≤ sizeLine; rw [List.size_toArray, h₁.2.length]; exact hsz)
  refine ⟨s₁.heap.objs.size, vs, rfl, h₁.1.trans (keeps_push _), ?_, C.G.low _ R₁.base, ⟨_, Heap.get?_push_size _ rfl⟩, ?_⟩
  · cases q : s.heap.get? s₁.heap.objs.size with
    | none => rfl
    | some o => obtain ⟨_, o', e', _⟩ := h₁.1.ks _ o q; exact absurd (Heap.lt_size e') (Nat.lt_irrefl _)
  · exact (h₁.2.more (O' := s₁.heap.objs.size :: C.ex σ) fun b hb => (List.mem_cons.mp hb).elim (fun z => .inr (z ▸ Heap.get?_none_of_le (Nat.le_refl _))) .inl).ks (keeps_push (S := []) (s := s₁) _).ks
theorem wpS_own {x : Str} {p' p : Pos} {e : Expr} {ms : List MV} {Q : FM → St → Prop} (he : EvN C env σ e ms) (hx : Stores env x) (hs : swapsWith e (some (.Name x p')) p.line env = pure false) (hB : C.mB = []) (hi : instA σ = []) (hg : env.kindOf (Str.ofString "@own") = none) (hxg : (x == Str.ofString "@own") = false) (hkn : notKey (Str.ofString "@own") σ = true)
    (h : ∀ a, ∃ σ', sput σ x (.own a ms) = σ' ∧ Q .next σ') : wpS C env (.Assign [.Name x p'] e p) σ Q := fun X s R => by
  refine wpAny_Assign_Name (wpAny_mono (he s R.toRelE) (fun v s₁ h₁ => ?_) fun _ _ h => h) hs
  obtain ⟨a, vs, rfl, k, hf, hn, hp, hv⟩ := h₁
  have R₁ := R.joinOwn k.ks hf hn hp hv hB hg
  have hne : Str.ofString "@own" ≠ x := fun q => by rw [← q] at hxg; simp at hxg
  have hnone : sget σ (Str.ofString "@own") = none := by
    cases q : sget σ (Str.ofString "@own") with
    | none => rfl
    | some b => exact absurd rfl (notKey_ hkn (sget_mem q))
  obtain ⟨h1, t1, rfl, _⟩ := k
  refine store_ (m := .obj (.ref a)) R₁ hx rfl fun h' tk R' => ?_
  rw [sput_there (by simpa using hne) rfl] at R'
  have R₂ := R'.thaw hne hi hg hnone
  obtain ⟨σ', e, q⟩ := h a
  rw [e] at R₂
  exact ⟨h', tk, rfl, .next, σ', trivial, R₂, q⟩
theorem ss_own {x : Str} {p' p : Pos} {e : Expr} {ms : List MV} {rest : List Stmt} {Q : FM → St → Prop} (he : EvN C env σ e ms) (hx : Stores env x) (hs : swapsWith e (some (.Name x p')) p.line env = pure false) (hB : C.mB = []) (hi : instA σ = []) (hg : env.kindOf (Str.ofString "@own") = none) (hxg : (x == Str.ofString "@own") = false) (hkn : notKey (Str.ofString "@own") σ = true)
    (h : ∀ a, ∃ σ', sput σ x (.own a ms) = σ' ∧ wpSs C env rest σ' Q) : wpSs C env (.Assign [.Name x p'] e p :: rest) σ Q := wpSs_cons (wpS_own he hx hs hB hi hg hxg hkn h)
/-- x.append(e) -/
theorem wpS_append {x : Str} {px apos pos sp : Pos} {a : Addr} {xs : List MV} {e : Expr} {m : MV} {Q : FM → St → Prop} {σ' : St} (hx : sget σ x = some (.own a xs)) (hkx : env.kindOf x = some .local) (hd : (x == ("__debug__" : Str)) = false) (he : Ev C env σ e m) (hne : ∀ x p, e ≠ .Starred x p)
    (hi : instA σ = []) (hint : interactive env = false) (hsz : xs.length ≤ 1000000) (hline : (apos.endLine == pos.line) = true) (hp : sput σ x (.own a (xs ++ [m])) = σ') (h : Q .next σ') :
    wpS C env (.Expr (.Call (.Attribute (.Name x px) (Str.ofString "append") apos) [e] [] pos) sp) σ Q := fun X s R => by
  refine wpAny_Expr_any ?_ hint rfl
  rw [arm_eval_Call, show attributeBase (.Name x px) (Str.ofString "append") env (eval (.Name x px) env) = eval (.Name x px) env from rfl]
  have hv := R.vars x _ hx
  unfold VarIs at hv
  rw [hkx] at hv
  obtain ⟨mm, v, hn, hm, rfl, vs, ⟨nn, hpl⟩, hvs⟩ := hv
  refine wpAny_bind (wpAny_Name (wpAny_loadName_local R.kind hkx hn hm ?_) hd)
  refine wpAny_bind (wpAny_standAt ?_)
  have has : Evs C env σ [e] [m] := .cons he hne .nil
  have hform : methodCallForm ([e].length + ([] : List Keyword).length) (backTo pos (starEach [e] env)) (backToKw pos (keywordEach [] env)) = true := by
    unfold methodCallForm
    rw [(plain_args has.ts).2.1]
    rfl
  have hpos : methodCallPos true (.Name x px) env apos pos = pure pos := by unfold methodCallPos; simp [hline]
  unfold methodCall
  rw [hform]
  refine wpAny_bind (wpAny_holding (Calls.getMethod_list_append hpl rfl rfl ?_))
  refine wpAny_bind (wpAny_of_eq hpos ?_)
  refine Calls.callWith_builtin (plain_args has.ts).1 (wpAny_mono (evalArgsV_ has s R.toRelE) (fun ar s₂ h₂ => ?_) fun _ _ x => x)
  obtain ⟨k₂, hkw, hv⟩ := h₂
  have R₂ := R.ks k₂.ks
  rw [hkw]
  obtain ⟨v, r, e0, hv1, hr⟩ := hv
  rw [show r = [] from hr] at e0
  rw [e0]
  have hpl₂ : s₂.heap.PlainList a vs.toArray := k₂.ks.plain ⟨nn, hpl⟩ (R.notS hpl (fun es ep => by simp))
  have hlen := hvs.length
  refine wpAny_list_append_plain (hsz := by rw [List.size_toArray, hlen, sizeLine_eq]; lia) hpl₂ fun h' hp' hs' => ?_
  obtain ⟨h2, t2, rfl, _⟩ := k₂
  have R₃ := R₂.putList hi (ys := xs ++ [m]) (vs := vs ++ [v]) hx (by simpa using hp') ((hvs.ks (S := C.S) (by assumption)).append (VIns.one hv1)) hs'
  rw [hp] at R₃
  exact ⟨h', t2, rfl, .next, σ', trivial, R₃, h⟩
theorem ss_append {x : Str} {px apos pos sp : Pos} {a : Addr} {xs : List MV} {e : Expr} {m : MV} {rest : List Stmt} {Q : FM → St → Prop} {σ' : St} (hx : sget σ x = some (.own a xs)) (hkx : env.kindOf x = some .local) (hd : (x == ("__debug__" : Str)) = false) (he : Ev C env σ e m) (hne : ∀ x p, e ≠ .Starred x p)
    (hi : instA σ = []) (hint : interactive env = false) (hsz : xs.length ≤ 1000000) (hline : (apos.endLine == pos.line) = true) (hp : sput σ x (.own a (xs ++ [m])) = σ') (h : wpSs C env rest σ' Q) :
    wpSs C env (.Expr (.Call (.Attribute (.Name x px) (Str.ofString "append") apos) [e] [] pos) sp :: rest) σ Q := wpSs_cons (wpS_append hx hkx hd he hne hi hint hsz hline hp h)
end
end Mine
namespace Mine
open PySem PySem.W PyProof.Rows
/-- the names within a comprehension -/
structure CompEnv (scope : Scope) (cenv : Env) : Prop where
  same : ∀ y k, scope.names.lookup y = some k → k ≠ .free → cenv.kindOf y = some k
  free : ∀ y, scope.names.lookup y = some .free → cenv.kindOf y = some .cell
  none : ∀ y, scope.names.lookup y = none → cenv.kindOf y = none
/-- a comprehension's scope fits the frame around it: x alone is its own, what is free is a cell of the frame -/
structure CompOk (scope : Scope) (env : Env) (x : Str) : Prop where
  kind : scope.kind = .function
  loc : scope.names.lookup x = some .local
  only : ∀ p ∈ scope.names, p.2 = .local → p.1 = x ∨ p.1 = Str.ofString ".0"
  locs : ∀ p ∈ scope.names, p.2 = .local → scope.names.lookup p.1 = some .local
  nocell : ∀ p ∈ scope.names, p.2 ≠ .cell
  free : ∀ p ∈ scope.names, p.2 = .free → env.kindOf p.1 = some .cell ∧ ∃ c, env.cells.lookup p.1 = some c
theorem lookup_mem {α : Type} {l : List (Str × α)} {x : Str} {k : α} (h : l.lookup x = some k) : (x, k) ∈ l := by
  induction l with
  | nil => cases h
  | cons p r ih =>
    obtain ⟨y, c⟩ := p
    by_cases hx : x = y
    · subst hx; simp [List.lookup] at h; subst h; exact List.mem_cons_self
    · have : (x == y) = false := by simpa using hx
      simp [List.lookup, this] at h; exact List.mem_cons_of_mem _ (ih h)
theorem clos_of {env : Env} : ∀ (names : List (Str × NameKind)) (acc : List (Str × Addr)), (∀ p ∈ names, p.2 = .free → ∃ c, env.cells.lookup p.1 = some c) → (∀ y c, acc.lookup y = some c → env.cells.lookup y = some c) →
    ∃ cl, (forIn (m := Sem) names acc fun x r => do
        let (name, kind) := x
        if kind == .free then do let c ← cellOf env name; pure (ForInStep.yield ((name, c) :: r)) else pure (ForInStep.yield r)) = pure cl ∧
      (∀ y c, cl.lookup y = some c → env.cells.lookup y = some c) ∧ (∀ y, (acc.lookup y).isSome = true → (cl.lookup y).isSome = true) ∧ (∀ p ∈ names, p.2 = .free → (cl.lookup p.1).isSome = true)
  | [], acc, _, h2 => ⟨acc, rfl, h2, fun _ h => h, fun _ h => nomatch h⟩
  | (n, k) :: r, acc, h1, h2 => by
    rw [List.forIn_cons]
    by_cases hk : k = .free
    · subst hk
      obtain ⟨c, hc⟩ := h1 (n, .free) List.mem_cons_self rfl
      obtain ⟨cl, e, q1, q2, q3⟩ := clos_of r ((n, c) :: acc) (fun p hp => h1 p (List.mem_cons_of_mem _ hp)) (fun y c' e => by
        by_cases hy : y = n
        · subst hy; simp [List.lookup] at e; subst e; exact hc
        · have : (y == n) = false := by simpa using hy
          simp [List.lookup, this] at e; exact h2 y c' e)
      refine ⟨cl, ?_, q1, fun y hy => q2 y ?_, fun p hp hf => ?_⟩
      · have : cellOf env n = pure c := by unfold cellOf; rw [hc]
        simp only [beq_self_eq_true, if_true, this]
        exact e
      · by_cases hyn : y = n
        · subst hyn; simp [List.lookup]
        · have : (y == n) = false := by simpa using hyn
          simp [List.lookup, this, hy]
      · rcases List.mem_cons.mp hp with rfl | hp
        · exact q2 n (by simp [List.lookup])
        · exact q3 p hp hf
    · obtain ⟨cl, e, q1, q2, q3⟩ := clos_of r acc (fun p hp => h1 p (List.mem_cons_of_mem _ hp)) h2
      refine ⟨cl, ?_, q1, q2, fun p hp hf => ?_⟩
      · have : (k == NameKind.free) = false := by simpa using hk
        simp only [this, Bool.false_eq_true, if_false]
        exact e
      · rcases List.mem_cons.mp hp with rfl | hp
        · exact absurd hf hk
        · exact q3 p hp hf
theorem CompOk.clos {scope : Scope} {env : Env} {x : Str} (h : CompOk scope env x) : ∃ cl, closureFor scope env = pure cl ∧ (∀ y c, cl.lookup y = some c → env.cells.lookup y = some c) ∧ (∀ p ∈ scope.names, p.2 = .free → (cl.lookup p.1).isSome = true) := by
  obtain ⟨cl, e, q1, _, q3⟩ := clos_of (env := env) scope.names [] (fun p hp hf => (h.free p hp hf).2) (fun _ _ h => by cases h)
  refine ⟨cl, ?_, q1, q3⟩
  simp only [closureFor]
  have : (forIn (m := Sem) scope.names [] fun x r => do
        let (name, kind) := x
        if kind == .free then do let c ← cellOf env name; pure (ForInStep.yield ((name, c) :: r)) else pure (ForInStep.yield r)) = pure cl := e
  first
    | (rw [this]; rfl)
    | (erw [this]; rfl)
theorem lookup_relabel {env : Env} {y : Str} : ∀ {names : List (Str × NameKind)}, (names.map fun (n, k) => if (k == NameKind.free && env.scope.kind == .function && env.kindOf n == some .cell) then (n, NameKind.cell) else (n, k)).lookup y = (names.lookup y).map fun k => if (k == NameKind.free && env.scope.kind == .function && env.kindOf y == some .cell) then NameKind.cell else k
  | [] => rfl
  | (n, k) :: r => by
    show List.lookup y ((if (k == NameKind.free && env.scope.kind == .function && env.kindOf n == some .cell) = true then (n, NameKind.cell) else (n, k)) :: _) = _
    by_cases hy : y = n
    · subst hy
      by_cases hc : (k == NameKind.free && env.scope.kind == .function && env.kindOf y == some .cell) = true
      · rw [if_pos hc]; simp only [List.lookup_cons, beq_self_eq_true, Option.map_some, if_pos hc]
      · rw [if_neg hc]; simp only [List.lookup_cons, beq_self_eq_true, Option.map_some, if_neg hc]
    · have hb : (y == n) = false := by simpa using hy
      have ih := lookup_relabel (env := env) (y := y) (names := r)
      by_cases hc : (k == NameKind.free && env.scope.kind == .function && env.kindOf n == some .cell) = true
      · rw [if_pos hc]; simp only [List.lookup_cons, hb]; exact ih
      · rw [if_neg hc]; simp only [List.lookup_cons, hb]; exact ih
theorem compEnv_of {scope : Scope} {env : Env} {x : Str} {cl : List (Str × Addr)} {L : Addr} (h : CompOk scope env x) (hk : env.scope.kind = .function) : CompEnv scope (compEnvC scope cl L env) where
  same := fun y k e hne => by
    show (relabel scope env).names.lookup y = _
    unfold relabel
    rw [lookup_relabel, e]
    have : (k == NameKind.free) = false := by simpa using hne
    simp only [this, Bool.false_and, Option.map_some, Bool.false_eq_true, if_false]
  free := fun y e => by
    show (relabel scope env).names.lookup y = _
    unfold relabel
    rw [lookup_relabel, e]
    have := (h.free _ (lookup_mem e) rfl).1
    simp [this, hk]
  none := fun y e => by
    show (relabel scope env).names.lookup y = _
    unfold relabel
    rw [lookup_relabel, e]; rfl
section
variable {C : Cx} {env : Env} {σ : St} {h h' : Heap}
theorem VarIs.some' {env : Env} {h : Heap} {x : Str} {P : Value → Prop} (y : VarIs env h x P) : ∃ v, P v := by
  unfold VarIs at y
  split at y
  · obtain ⟨_, v, _, _, p⟩ := y; exact ⟨v, p⟩
  · obtain ⟨_, v, _, _, p⟩ := y; exact ⟨v, p⟩
  · obtain ⟨_, v, _, _, p⟩ := y; exact ⟨v, p⟩
  · exact y
theorem RelE.comp {scope : Scope} {x : Str} {cl : List (Str × Addr)} {L : Addr} {mm : Str → Option Value} {m : MV} {v : Value} (R : RelE C env σ h) (hi : instA σ = []) (h00 : sget σ (Str.ofString ".0") = none) (ok : CompOk scope env x) (hcl : ∀ y c, cl.lookup y = some c → env.cells.lookup y = some c) (hcl2 : ∀ p ∈ scope.names, p.2 = .free → (cl.lookup p.1).isSome = true)
    (hn : h.Ns L mm) (hm : mm x = some v) (hv : VIn h (C.ex σ) m v) : RelE C (compEnvC scope cl L env) ((x, .fz m) :: σ) h := by
  have ce := compEnv_of (cl := cl) (L := L) ok R.kind
  refine { base := R.base, fr := R.fr, kind := ok.kind, glob := R.glob, vars := ?_, own := R.own, outer := R.outer, insN := ?_, insNd := R.insNd }
  · intro y b hb
    show VarIs _ h y (BIn h (C.ex σ) b)
    by_cases hxy : x = y
    · subst hxy
      simp only [sget, if_true] at hb
      cases hb
      unfold VarIs
      rw [ce.same x _ ok.loc (by decide)]
      exact ⟨mm, v, hn, hm, hv⟩
    · simp only [sget, hxy, if_false] at hb
      have q := R.vars y b hb
      cases e : scope.names.lookup y with
      | none => unfold VarIs; rw [ce.none y e]; exact q.some'
      | some k =>
        by_cases hf : k = .free
        · subst hf
          have hmem := lookup_mem e
          obtain ⟨hcell, c, hc⟩ := ok.free _ hmem rfl
          obtain ⟨c', hc'⟩ := Option.isSome_iff_exists.mp (hcl2 _ hmem rfl)
          unfold VarIs
          rw [ce.free y e]
          unfold VarIs at q
          rw [hcell] at q
          obtain ⟨c2, v2, h1, h2, h3⟩ := q
          have e2 := hcl y c' hc'
          rw [h1] at e2
          have e2 := Option.some.inj e2
          subst e2
          exact ⟨c2, v2, hc', h2, h3⟩
        · unfold VarIs
          rw [ce.same y k e hf]
          have hl : k ≠ .local := fun z => (ok.only _ (lookup_mem e) z).elim (fun q => hxy q.symm) fun q => by rw [show y = Str.ofString ".0" from q, h00] at hb; cases hb
          have hcc : k ≠ .cell := ok.nocell _ (lookup_mem e)
          cases k <;> first | exact absurd rfl hl | exact absurd rfl hcc | exact absurd rfl hf | exact q.some'
  · intro b hb
    have : instA ((x, Bd.fz m) :: σ) = [] := hi
    rw [this] at hb; cases hb
theorem RelE.joinOwn (R : RelE C env σ h) (k : KS C.S h h') {nm : Str} {a : Addr} {ms : List MV} {vs : List Value} (hf : h.get? a = none) (hp : h'.PlainList a vs.toArray) (hv : VIns h' (a :: C.ex σ) ms vs) (hk : env.kindOf nm = none) : RelE C env ((nm, .own a ms) :: σ) h' := by
  have R' := R.ks k
  have hE : C.ex ((nm, .own a ms) :: σ) = a :: C.ex σ := rfl
  have more : ∀ {m v}, VIn h (C.ex σ) m v → VIn h' (a :: C.ex σ) m v := fun {m v} q => (q.more (O' := a :: C.ex σ) fun b hb => (List.mem_cons.mp hb).elim (fun z => .inr (z ▸ hf)) .inl).ks k
  have mores : ∀ {ms ws}, VIns h (C.ex σ) ms ws → VIns h' (a :: C.ex σ) ms ws := fun {ms ws} q => (q.more (O' := a :: C.ex σ) fun b hb => (List.mem_cons.mp hb).elim (fun z => .inr (z ▸ hf)) .inl).ks k
  refine { base := R'.base, fr := R'.fr, kind := R.kind, glob := R.glob, vars := ?_, own := ?_, outer := R'.outer, insN := R'.insN, insNd := R'.insNd }
  · intro y b hb
    rw [hE]
    by_cases hy : nm = y
    · subst hy
      simp only [sget, if_true] at hb
      cases hb
      unfold VarIs
      rw [hk]
      exact ⟨.ref a, rfl, vs, hp, hv⟩
    · simp only [sget, hy, if_false] at hb
      refine (R.vars y _ hb).to (fun m q => k.ns q) (fun c v _ q => k.isCell q) fun v q => ?_
      cases b with
      | fz m => exact more q
      | own b zs =>
        obtain ⟨e, ws, p, r⟩ := q
        obtain ⟨nn, pe⟩ := id p
        exact ⟨e, ws, k.plain p (R.notS pe (fun es ep => by simp)), mores r⟩
      | inst a Cl d fs => exact ⟨q.1, q.2.ks k⟩
  · intro b hb
    rcases List.mem_cons.mp hb with rfl | hb
    · exact ⟨_, hp⟩
    · exact R'.own b hb
noncomputable def EvIfs (C : Cx) (env : Env) (σ : St) : List Expr → Bool → Prop
  | [], b => b = true
  | c :: cs, b => ∃ b1, EvB C env σ c b1 ∧ (b1 = true → EvIfs C env σ cs b) ∧ (b1 = false → b = false)
theorem ifs_false {env : Env} : ∀ (cs : List Expr), (forIn (m := Sem) cs false fun c r => if r = true then do let ok ← isTrue c env (eval c env); pure (ForInStep.yield ok) else pure (ForInStep.yield r)) = pure false
  | [] => rfl
  | c :: cs => by
    rw [List.forIn_cons]
    simp only [Bool.false_eq_true, if_false]
    exact ifs_false cs
theorem ifs_ : ∀ {cs : List Expr} {b : Bool}, EvIfs C env σ cs b → ∀ s, RelE C env σ s.heap →
    wpAny C.M C.A (forIn cs true fun c r => if r = true then do let ok ← isTrue c env (eval c env); pure (ForInStep.yield ok) else pure (ForInStep.yield r)) (fun ok s' => KSs C.S s s' ∧ ok = b) F s
  | [], b, e, s, R => wpAny_pure ⟨.refl s, (show b = true from e).symm⟩
  | c :: cs, b, ⟨b1, hb, h1, h2⟩, s, R => by
    rw [List.forIn_cons]
    simp only [if_true]
    refine wpAny_bind (wpAny_bind (wpAny_mono (hb s R) (fun b' s₁ h₁ => ?_) fun _ _ z => z))
    obtain ⟨k, rfl⟩ := h₁
    refine wpAny_pure ?_
    cases b' with
    | true => exact wpAny_mono (ifs_ (h1 rfl) s₁ (R.ks k.ks)) (fun ok s₂ h₂ => ⟨k.trans h₂.1, h₂.2⟩) fun _ _ z => z
    | false =>
      show wpAny _ _ (forIn cs false _) _ _ _
      rw [ifs_false]
      exact wpAny_pure ⟨k, (h2 rfl).symm⟩
theorem VIn.km' {S B O : List Addr} (k : KM S B h h') (hB : ∀ b ∈ B, ∀ o, h.get? b = some o → (∀ xs n, o.data ≠ .seq xs n) ∧ o.cls ≠ .type "collections.deque") {m : MV} {v : Value} (x : VIn h O m v) : VIn h' O m v :=
  x.to (fun a _ n l => ⟨by
      obtain ⟨⟨o, e, c, nn, d⟩, qn⟩ := l
      obtain ⟨_, o', e', d1, d2, d3⟩ := k a o e fun q => (hB a q o e).1 _ _ d
      exact ⟨⟨o', e', d2.trans c, nn, d1.trans d⟩, fun hb => by obtain ⟨od, ed, dd⟩ := qn hb; rw [e] at ed; cases ed; exact ⟨o', e', d3.trans dd⟩⟩, n⟩)
    (fun a _ n l => ⟨by
      obtain ⟨o, e, c, nn, d⟩ := l
      obtain ⟨_, o', e', d1, d2, d3⟩ := k a o e fun q => (hB a q o e).1 _ _ d
      exact ⟨o', e', d2.trans c, nn, d1.trans d⟩, n⟩) (fun p q => by
      obtain ⟨o, n, t, e, c, d⟩ := q
      obtain ⟨_, o', e', d1, d2, d3⟩ := k p o e fun q => (hB p q o e).2 c
      exact ⟨o', n, t, e', d2.trans c, d1.trans d⟩)
theorem kindFun {scope : Scope} {env : Env} {cl : List (Str × Addr)} {L : Addr} (h : scope.kind = .function) : ((compEnvC scope cl L env).scope.kind == .class || ((compEnvC scope cl L env).scope.kind == .module && (compEnvC scope cl L env).locals != (compEnvC scope cl L env).globals)) = false := by
  have hq : (compEnvC scope cl L env).scope.kind = .function := h
  rw [hq]; rfl
/-- the results of a comprehension's turns, up to the i-th -/
noncomputable def compRes (items : List MV) (p : Nat → Bool) (f : Nat → MV) (i : Nat) : List MV := ((List.range i).filter p).map f
theorem compRes_succ (items : List MV) (p : Nat → Bool) (f : Nat → MV) (i : Nat) : compRes items p f (i + 1) = compRes items p f i ++ (if p i then [f i] else []) := by
  unfold compRes
  rw [List.range_succ, List.filter_append, List.map_append]
  by_cases h : p i <;> simp [h]
/-- what a state of a comprehension's walk keeps -/
inductive CompInv (C : Cx) (σ : St) (items : List MV) (p : Nat → Bool) (f : Nat → MV) (s : Shared) (h2 : Heap) (It : Nat → Obj → Prop) (I D L : Addr) (k : Nat) (s' : Shared) : Prop
  | mk (i : Nat) (h' : Heap) (tk : Nat) (mm : Str → Option Value) (vs : List Value) (o : Obj) (e : s' = { s with heap := h', toks := tk }) (hi : i ≤ items.length) (ek : k = items.length - i) (km : KM C.S [I] h2 h') (hI : h'.get? I = some o) (it : It i o) (hD : h'.PlainList D (List.toArray vs)) (hL : h'.Ns L mm) (hv : VIns h' (D :: C.ex σ) (compRes items p f i) vs)
theorem comp_block {elt iter : Expr} {x : Str} {px : Pos} {ifs : List Expr} {scope : Scope} {pos : Pos} {cl : List (Str × Addr)} {items : List MV} {p : Nat → Bool} {f : Nat → MV} {s : Shared} {RR : Value → Addr → Result → Shared → Prop} {E : Value → Shared → Prop}
    (R : RelE C env σ s.heap) (hi : instA σ = []) (h00 : notKey (Str.ofString ".0") σ = true) (ok : CompOk scope env x) (hclos : closureFor scope env = pure cl) (hcl : ∀ y c, cl.lookup y = some c → env.cells.lookup y = some c) (hcl2 : ∀ p ∈ scope.names, p.2 = .free → (cl.lookup p.1).isSome = true) (hsz : items.length ≤ 1000000)
    (hg : env.kindOf (Str.ofString "@acc") = none)
    (tests : ∀ i m cenv D cur, items[i]? = some m → CompEnv scope cenv → EvIfs C cenv ((x, .fz m) :: (Str.ofString "@acc", .own D cur) :: σ) ifs (p i))
    (helt : ∀ i m cenv D cur, items[i]? = some m → p i = true → CompEnv scope cenv → Ev C cenv ((x, .fz m) :: (Str.ofString "@acc", .own D cur) :: σ) elt (f i))
    {it : Value} {s₂ : Shared} (hit : ItAt C (C.ex σ) items s it s₂)
    (hRR : ∀ D L h' tk mm vs, KS C.S s.heap h' → s.heap.get? D = none → s.heap.get? L = none → C.n₀ ≤ D → C.n₀ ≤ L → h'.Ns L mm → h'.PlainList D (List.toArray vs) → VIns h' (D :: C.ex σ) (compRes items p f items.length) vs → RR (.ref D) L (.ok .next) { s with heap := h', toks := tk }) :
    wpAny C.M C.A (newList []) (fun acc s₃ => wpAny C.M C.A (newFunctionEnv scope env.globals cl [] env.qual none .none (some env)) (fun cenv s₄ =>
      codeAny C.M C.A (.compStart (.ListComp elt [⟨.Name x px, iter, ifs, 0⟩] scope pos) 0 it acc { cenv with scope := relabel scope env }) (RR acc cenv.locals) s₄) E s₃) E s₂ := by
  obtain ⟨I, P, It, Inv, rfl, k, hIs, hIn, Sr, ⟨o₀, ho₀, hit₀⟩, hInv, hstab, hval⟩ := hit
  have R₂ := R.ks k.ks
  have hj0 := Sr.junk 0 _ hit₀
  have hk0 : ∀ {D : Addr} {cur : List MV}, sget ((Str.ofString "@acc", Bd.own D cur) :: σ) (Str.ofString ".0") = none := fun {D cur} => by
    have ne : Str.ofString "@acc" ≠ Str.ofString ".0" := by decide +kernel
    rw [sget, if_neg ne]
    cases q : sget σ (Str.ofString ".0") with
    | none => rfl
    | some b => exact absurd rfl (notKey_ h00 (sget_mem q))
  have hJ1 : ∀ b ∈ [I], ∀ o, s₂.heap.get? b = some o → (∀ xs n, o.data ≠ .seq xs n) ∧ o.cls ≠ .type "collections.deque" := fun b hb o e => by
    rw [List.mem_singleton.mp hb] at e; rw [ho₀] at e; cases e
    exact ⟨hj0.1, hj0.2.2.2⟩
  refine wpAny_newObj_type (wpAny_newFunctionEnv ok.nocell (by intro y hy; simp at hy) (fun h₁ hns₁ hsb₁ => ?_) ok.kind)
  dsimp only at hns₁ hsb₁ ⊢
  obtain ⟨h2, t2, rfl, ks2⟩ := k
  dsimp only at R₂ ho₀ hInv hstab hval hJ1 hns₁ hsb₁ ⊢
  generalize hH2 : h2.push { cls := .type "list", dict := none, data := .seq ([] : List Value).toArray } = H2 at hns₁ hsb₁ ⊢
  generalize hD : h2.objs.size = D at hns₁ hsb₁ ⊢
  have hC : H2.objs.size = D + 1 := by rw [← hH2, Heap.size_push, hD]
  generalize hL : H2.objs.size = L at hns₁ hsb₁ ⊢
  have hDL : D ≠ L := by rw [hL] at hC; rw [hC]; exact Nat.ne_of_lt (Nat.lt_succ_self _)
  have hDleL : D ≤ L := by rw [hL] at hC; rw [hC]; exact Nat.le_succ _
  have fresh2 : ∀ a, D ≤ a → h2.get? a = none := fun a ha => Heap.get?_none_of_le (by rw [hD]; exact ha)
  have hDf : h2.get? D = none := fresh2 D (Nat.le_refl _)
  have hLf : h2.get? L = none := fresh2 L hDleL
  have freshS : ∀ a, h2.get? a = none → s.heap.get? a = none := fun a ha => by
    cases q : s.heap.get? a with
    | none => rfl
    | some o => obtain ⟨_, o', e', _⟩ := ks2 a o q; rw [ha] at e'; cases e'
  have hDn : C.n₀ ≤ D := by rw [← hD]; exact C.G.low _ R₂.base
  have hLn : C.n₀ ≤ L := by rw [hL] at hC; rw [hC]; exact Nat.le_succ_of_le hDn
  have old : ∀ b o, h2.get? b = some o → h₁.get? b = some o := fun b o e => by
    have hb : b < D := by rw [← hD]; exact Heap.lt_size e
    exact hsb₁.extBut b o (Nat.ne_of_lt (Nat.lt_of_lt_of_le hb hDleL)) (Heap.get?_push_of_some _ (hH2 ▸ Heap.get?_push_of_some _ e))
  have hacc : h₁.PlainList D (List.toArray []) := ⟨_, hsb₁.extBut _ _ hDL (Heap.get?_push_of_some _ (by rw [← hH2, ← hD]; exact Heap.get?_push_size _ rfl))⟩
  have hIlt : h₁.get? I = some o₀ := old I _ ho₀
  let cenv := compEnvC scope cl L env
  have hck : cenv.kindOf x = some .local := (compEnv_of ok R.kind).same x _ ok.loc (by decide)
  have ce : CompEnv scope cenv := compEnv_of ok R.kind
  -- the loop
  have loop : ∀ tk₁, codeAny C.M C.A (.compLoop (.ListComp elt [⟨.Name x px, iter, ifs, 0⟩] scope pos) 0 (.ref I) (.ref D) cenv) (RR (.ref D) L) { s with heap := h₁, toks := tk₁ } := fun tk₁ => by
    obtain ⟨R₀, hR₀⟩ : ∃ R₀ : Result → Shared → Prop, R₀ = RR (.ref D) L := ⟨_, rfl⟩
    rw [← hR₀]
    refine codeAny_compLoop_tests (CompInv C σ items p f s h2 It I D L) ?_ items.length (by exact ⟨0, h₁, tk₁, _, [], o₀, rfl, Nat.zero_le _, by lia, (KS.of_keep old).km, hIlt, hit₀, hacc, hns₁, rfl⟩)
    intro k s' hk
    obtain ⟨i, h', tk, mm, vs, o, rfl, hile, rfl, km, hoI, hit, hpl, hn, hvs⟩ := hk
    have ksS : ∀ h', KM C.S [I] h2 h' → KS C.S s.heap h' := fun h' km b o e => by
      obtain ⟨a1, o1, a2, a3, a4, a5⟩ := ks2 b o e
      have hb : b ∉ [I] := by rw [List.mem_singleton]; rintro rfl; rw [hIs] at e; cases e
      obtain ⟨b1, o2, b2, b3, b4, b5⟩ := km b o1 a2 hb
      exact ⟨fun q => (km b o (a1 q) hb).1 q, o2, b2, b3.trans a3, b4.trans a4, b5.trans a5⟩
    have inv' : ∀ h', KM C.S [I] h2 h' → Inv h' := fun h' km => hstab h' fun b o hb e hO hso => (km b o e (by simpa using hb)).1 (R₂.notS e hso.1)
    by_cases hlt : i < items.length
    · refine Sr.item i _ o _ _ hlt (inv' h' km) hoI hit fun v h3 tk3 o3 hP e3 hit3 hk3 => ?_
      obtain ⟨m, hm⟩ : ∃ m, items[i]? = some m := ⟨_, List.getElem?_eq_getElem hlt⟩
      have hj3 := Sr.junk (i + 1) _ hit3
      have hDI : D ≠ I := by rintro rfl; rw [hDf] at ho₀; cases ho₀
      have hLI : L ≠ I := by rintro rfl; rw [hLf] at ho₀; cases ho₀
      have km3 : KM C.S [I] h2 h3 := fun b ob e hb => by
        obtain ⟨c1, oc, c2, c3⟩ := km b ob e hb
        have hbI : b ≠ I := by simpa using hb
        exact ⟨fun q => hk3 b ob hbI (c1 q), oc, hk3 b oc hbI c2, c3⟩
      have n3 : h3.Ns L mm := by
        obtain ⟨ol, es, ep, e, d, r⟩ := hn
        exact ⟨ol, es, ep, hk3 L ol hLI e, d, r⟩
      have pl3 : h3.PlainList D (List.toArray vs) := by obtain ⟨n, e⟩ := hpl; exact ⟨n, hk3 D _ hDI e⟩
      have vs3 : VIns h3 (D :: C.ex σ) (compRes items p f i) vs := hvs.side (I := I) (fun o' e' => by
        rw [hoI] at e'; cases e'
        have hj := Sr.junk i _ hit
        exact ⟨hj.1, hj.2.1, fun _ q => absurd q hj.2.2.2⟩) hk3
      -- the target
      refine wpAny_assign_Name (wpAny_storeName_local (env := cenv) hck n3 (fun h4 n4 hs4 => ?_) (kindFun ok.kind))
      have k4 : ∀ b o, b ≠ L → h3.get? b = some o → h4.get? b = some o := fun b o hb e => hs4.extBut b o hb e
      have km4 : KM C.S [I] h2 h4 := fun b ob e hb => by
        obtain ⟨c1, oc, c2, c3⟩ := km3 b ob e hb
        have hbL : b ≠ L := by rintro rfl; rw [hLf] at e; cases e
        exact ⟨fun q => k4 b ob hbL (c1 q), oc, k4 b oc hbL c2, c3⟩
      obtain ⟨oL, esL, epL, eL, dL, _⟩ := id n3
      have vs4 : VIns h4 (D :: C.ex σ) (compRes items p f i) vs := vs3.off eL (fun xs n q => by rw [dL] at q; cases q) (fun ws q => by rw [dL] at q; cases q) hs4 (fun _ z => z)
      have pl4 : h4.PlainList D (List.toArray vs) := by obtain ⟨n, e⟩ := pl3; exact ⟨n, k4 D _ hDL e⟩
      have i4 : h4.get? I = some o3 := k4 I _ (Ne.symm hLI) e3
      have hv4 : VIn h4 (D :: C.ex σ) m v := VIn.km' km4 hJ1 ((hval i v m hP hm).more fun b hb => (List.mem_cons.mp hb).elim (fun z => .inr (z ▸ hDf)) .inl)
      have R4 : RelE C cenv ((x, .fz m) :: (Str.ofString "@acc", .own D (compRes items p f i)) :: σ) h4 := (R.joinOwn (ksS h4 km4) (freshS D hDf) pl4 vs4 hg).comp hi hk0 ok hcl hcl2 n4 (by simp) hv4
      refine wpAny_mono (ifs_ (tests i m cenv D _ hm ce) { s with heap := h4, toks := tk3 + 1 } R4) (fun okb s5 h5 => ?_) fun _ _ z => z.elim
      obtain ⟨⟨h5', tk5, rfl, ks5⟩, rfl⟩ := h5
      have R5 := R4.ks ks5
      have stepKS : ∀ {ha hb : Heap}, RelE C cenv ((x, .fz m) :: (Str.ofString "@acc", .own D (compRes items p f i)) :: σ) ha → KS C.S ha hb → KM C.S [I] h2 ha → ha.get? I = some o3 → ha.PlainList D (List.toArray vs) → (∃ mm, ha.Ns L mm) → VIns ha (D :: C.ex σ) (compRes items p f i) vs →
          KM C.S [I] h2 hb ∧ hb.get? I = some o3 ∧ hb.PlainList D (List.toArray vs) ∧ (∃ mm, hb.Ns L mm) ∧ VIns hb (D :: C.ex σ) (compRes items p f i) vs := fun {ha hb} Ra kab kma ia pla na va => by
        refine ⟨fun b ob e hb' => ?_, ?_, ?_, ?_, va.ks kab⟩
        · obtain ⟨c1, oc, c2, c3, c4, c5⟩ := kma b ob e hb'
          obtain ⟨d1, od, d2, d3, d4, d5⟩ := kab b oc c2
          exact ⟨fun q => (kab b ob (c1 q)).1 q, od, d2, d3.trans c3, d4.trans c4, d5.trans c5⟩
        · exact (kab I _ ia).1 (Ra.notS ia hj3.2.2.1)
        · obtain ⟨n, e⟩ := pla
          exact ⟨n, (kab D _ e).1 (Ra.notS e (fun es ep => by simp))⟩
        · obtain ⟨mm, q⟩ := na; exact ⟨mm, kab.ns q⟩
      obtain ⟨km5, i5, pl5, ⟨mm5, n5⟩, vs5⟩ := stepKS R4 ks5 km4 i4 pl4 ⟨_, n4⟩ vs4
      cases hpi : p i with
      | false =>
        rw [if_neg (by decide)]
        refine ⟨items.length - (i + 1), by lia, ?_⟩
        refine ⟨i + 1, h5', tk5, mm5, vs, o3, rfl, hlt, rfl, km5, i5, hit3, pl5, n5, ?_⟩
        rw [compRes_succ, hpi]; simpa using vs5
      | true =>
        rw [if_pos rfl]
        refine wpAny_mono (helt i m cenv D _ hm hpi ce { s with heap := h5', toks := tk5 } R5) (fun y s6 h6 => ?_) fun _ _ z => z.elim
        obtain ⟨⟨h6', tk6, rfl, ks6⟩, hy⟩ := h6
        obtain ⟨km6, i6, pl6, ⟨mm6, n6⟩, vs6⟩ := stepKS R5 ks6 km5 i5 pl5 ⟨_, n5⟩ vs5
        have hlen := vs6.length
        have hle : (compRes items p f i).length ≤ i := by
          unfold compRes
          rw [List.length_map]
          exact Nat.le_trans (List.length_filter_le _ _) (by simp)
        refine wpAny_list_append_plain (hsz := by rw [List.size_toArray, hlen, sizeLine_eq]; lia) pl6 fun h7 pl7 hs7 => ?_
        have k7 : ∀ b o, b ≠ D → h6'.get? b = some o → h7.get? b = some o := fun b o hb e => hs7.extBut b o hb e
        obtain ⟨nD, eD⟩ := pl6
        have vin7 : ∀ {m v}, VIn h6' (D :: C.ex σ) m v → VIn h7 (D :: C.ex σ) m v := fun {m v} q => by
          refine q.to (fun b its n l => ?_) (fun b its n l => ?_) fun p d => ?_
          · exact ⟨l.ext fun o e => k7 b o (fun z => n (z ▸ List.mem_cons_self)) e, n⟩
          · obtain ⟨o, e, c⟩ := l
            exact ⟨⟨o, k7 b o (fun z => n (z ▸ List.mem_cons_self)) e, c⟩, n⟩
          · obtain ⟨o, n, t, e, c, dd⟩ := d
            exact ⟨o, n, t, k7 p o (by rintro rfl; rw [eD] at e; cases e; exact absurd (Value.type.inj c) (by decide)) e, c, dd⟩
        have vins7 : ∀ {ms ws}, VIns h6' (D :: C.ex σ) ms ws → VIns h7 (D :: C.ex σ) ms ws := by
          intro ms
          induction ms with
          | nil => intro ws q; exact q
          | cons m ms ih => rintro ws ⟨v, r, e, p, q⟩; exact ⟨v, r, e, vin7 p, ih q⟩
        have hy' : VIn h6' (D :: C.ex σ) (f i) y := hy
        refine ⟨items.length - (i + 1), by lia, ?_⟩
        refine ⟨i + 1, h7, tk6, mm6, vs ++ [y], o3, rfl, hlt, rfl, ?_, ?_, hit3, by simpa using pl7, ?_, ?_⟩
        · intro b ob e hb
          have hbD : b ≠ D := by rintro rfl; rw [hDf] at e; cases e
          obtain ⟨c1, oc, c2, c3⟩ := km6 b ob e hb
          exact ⟨fun q => k7 b ob hbD (c1 q), oc, k7 b oc hbD c2, c3⟩
        · exact k7 I _ (Ne.symm hDI) i6
        · obtain ⟨ol, es, ep, e, d, r⟩ := n6
          exact ⟨ol, es, ep, k7 L ol (Ne.symm hDL) e, d, r⟩
        · rw [compRes_succ, hpi, if_pos rfl]
          exact vins7 (vs6.append (VIns.one hy'))
    · have hin : i = items.length := by lia
      subst hin
      refine Sr.done _ o _ _ (inv' h' km) hoI hit fun h3 tk3 hk3 => ?_
      have hDI : D ≠ I := by rintro rfl; rw [hDf] at ho₀; cases ho₀
      have hLI : L ≠ I := by rintro rfl; rw [hLf] at ho₀; cases ho₀
      have km3 : KM C.S [I] h2 h3 := fun b ob e hb => by
        obtain ⟨c1, oc, c2, c3⟩ := km b ob e hb
        have hbI : b ≠ I := by simpa using hb
        exact ⟨fun q => hk3 b ob hbI (c1 q), oc, hk3 b oc hbI c2, c3⟩
      show R₀ _ _
      rw [hR₀]
      refine hRR D L h3 tk3 mm vs (ksS h3 km3) (freshS D hDf) (freshS L hLf) hDn hLn ?_ ?_ ?_
      · obtain ⟨ol, es, ep, e, d, r⟩ := hn
        exact ⟨ol, es, ep, hk3 L ol hLI e, d, r⟩
      · obtain ⟨n, e⟩ := hpl; exact ⟨n, hk3 D _ hDI e⟩
      · exact hvs.side (I := I) (fun o' e' => by
          rw [hoI] at e'; cases e'
          have hj := Sr.junk _ _ hit
          exact ⟨hj.1, hj.2.1, fun _ q => absurd q hj.2.2.2⟩) hk3
  exact codeAny_compStart_list (loop _) (Sr.self 0 _ _ _ _ hIlt hit₀ (loop _))
theorem CompOk.names {scope : Scope} {env : Env} {x : Str} (ok : CompOk scope env x) : ∀ y ∈ scope.names, y.2 = .local → scope.names.lookup y.1 = some .local := ok.locs
theorem evN_comp {elt iter : Expr} {x : Str} {px : Pos} {ifs : List Expr} {scope : Scope} {pos : Pos} {items : List MV} {p : Nat → Bool} {f : Nat → MV} {res : List MV}
    (hit : EvIt C env σ iter items) (hi : instA σ = []) (h00 : notKey (Str.ofString ".0") σ = true) (ok : CompOk scope env x) (hsz : items.length ≤ 1000000) (hg : env.kindOf (Str.ofString "@acc") = none)
    (tests : ∀ i m cenv D cur, items[i]? = some m → CompEnv scope cenv → EvIfs C cenv ((x, .fz m) :: (Str.ofString "@acc", .own D cur) :: σ) ifs (p i))
    (helt : ∀ i m cenv D cur, items[i]? = some m → p i = true → CompEnv scope cenv → Ev C cenv ((x, .fz m) :: (Str.ofString "@acc", .own D cur) :: σ) elt (f i))
    (hres : compRes items p f items.length = res) (hs : ∀ x, foldedSetIterable iter env x = pure x := by intro _; rfl) :
    EvN C env σ (.ListComp elt [⟨.Name x px, iter, ifs, 0⟩] scope pos) res := fun s R => by
  obtain ⟨cl, hclos, hcl, hcl2⟩ := ok.clos
  rw [eval_ListComp]
  refine wpAny_comprehension_free (use := none) rfl hs hclos ok.kind ok.names (wpAny_mono (hit s R) (fun xv s₁ h₁ => wpAny_mono h₁ (fun it s₂ h₂ => ?_) fun _ _ e => e) fun _ _ e => e)
  refine comp_block (RR := fun acc L => compPost C.M C.A F none _ acc L) R hi h00 ok hclos hcl hcl2 hsz hg tests helt h₂ fun D L h' tk mm vs ks hD hL hDn hLn hn hp hv => ?_
  rw [hres] at hv
  obtain ⟨oL, esL, epL, eL, dL, _⟩ := id hn
  refine ⟨mm, hn, fun h'' hs'' => ⟨D, vs, rfl, ⟨h'', tk, rfl, fun b o e => ?_⟩, hD, hDn, ?_, hv.off eL (fun xs n q => by rw [dL] at q; cases q) (fun ws q => by rw [dL] at q; cases q) hs'' (fun _ z => z)⟩⟩
  · have hbL : b ≠ L := by rintro rfl; rw [hL] at e; cases e
    obtain ⟨k1, o2, k2, k3⟩ := ks b o e
    exact ⟨fun q => hs''.extBut b o hbL (k1 q), o2, hs''.extBut b o2 hbL k2, k3⟩
  · obtain ⟨n, e⟩ := hp
    exact ⟨n, hs''.extBut D _ (by rintro rfl; rw [e] at eL; cases eL; cases dL) e⟩
end
end Mine
namespace Mine
open PySem PySem.W PyProof.Rows PyProof.V PySem.SeqAt
/-- a text cut at a mark, from the left -/
noncomputable def cutS (y : List Nat) : Nat → List Nat → List (List Nat)
  | _, [] => [[]]
  | k + 1, _ :: r => cutS y k r
  | 0, c :: r => if y.isPrefixOf (c :: r) then [] :: cutS y (y.length - 1) r else match cutS y 0 r with | p :: ps => (c :: p) :: ps | [] => [[c]]
noncomputable abbrev cutL (y l : List Nat) : List (List Nat) := cutS y 0 l
noncomputable def joinL (sep : List Nat) : List (List Nat) → List Nat
  | [] => []
  | [x] => x
  | x :: y :: r => x ++ sep ++ joinL sep (y :: r)
theorem cutS_ne (y : List Nat) : ∀ (k : Nat) (l : List Nat), cutS y k l ≠ []
  | 0, [] => by simp [cutS]
  | _ + 1, [] => by simp [cutS]
  | k + 1, _ :: r => by rw [cutS]; exact cutS_ne y k r
  | 0, c :: r => by
    rw [cutS]
    split
    · simp
    · split <;> simp
theorem cutS_skip (y : List Nat) : ∀ (k : Nat) (l : List Nat), cutS y k l = cutS y 0 (l.drop k)
  | 0, l => rfl
  | k + 1, [] => by simp [cutS]
  | k + 1, _ :: r => by rw [cutS, cutS_skip y k r]; rfl
theorem cut_none {y : List Nat} : ∀ {l : List Nat}, (∀ k, k < l.length → ¬ y <+: l.drop k) → cutS y 0 l = [l]
  | [], _ => rfl
  | c :: r, h => by
    have h0 : ¬ y <+: c :: r := h 0 (by simp)
    have hb : y.isPrefixOf (c :: r) = false := by
      cases q : y.isPrefixOf (c :: r) with
      | false => rfl
      | true => exact absurd (List.isPrefixOf_iff_prefix.mp q) h0
    rw [cutS, hb, cut_none (l := r) fun k hk => h (k + 1) (by simp; lia)]
    rfl
theorem cut_first {y : List Nat} (hy : y ≠ []) : ∀ {k : Nat} {l : List Nat}, k < l.length → (∀ j, j < k → ¬ y <+: l.drop j) → y <+: l.drop k → cutS y 0 l = l.take k :: cutS y 0 (l.drop (k + y.length))
  | 0, [], hk, _, _ => by simp at hk
  | 0, c :: r, _, _, h => by
    have hb : y.isPrefixOf (c :: r) = true := List.isPrefixOf_iff_prefix.mpr h
    rw [cutS, hb, if_pos rfl, cutS_skip]
    obtain ⟨a, t, rfl⟩ := List.exists_cons_of_ne_nil hy
    simp
  | k + 1, [], hk, _, _ => by simp at hk
  | k + 1, c :: r, hk, h1, h2 => by
    have h0 : ¬ y <+: c :: r := h1 0 (by lia)
    have hb : y.isPrefixOf (c :: r) = false := by
      cases q : y.isPrefixOf (c :: r) with
      | false => rfl
      | true => exact absurd (List.isPrefixOf_iff_prefix.mp q) h0
    rw [cutS, hb, cut_first hy (k := k) (l := r) (by simpa using hk) (fun j hj => h1 (j + 1) (by lia)) h2]
    have : k + 1 + y.length = (k + y.length) + 1 := by lia
    simp [this]
theorem joinL_cons (sep : List Nat) (c : Nat) (p : List Nat) : ∀ ps, joinL sep ((c :: p) :: ps) = c :: joinL sep (p :: ps)
  | [] => rfl
  | q :: r => by simp [joinL]
theorem joinL_nil (sep p : List Nat) (ps : List (List Nat)) : joinL sep ([] :: p :: ps) = sep ++ joinL sep (p :: ps) := by simp [joinL]
/-- every c turned into b -/
noncomputable def rep1 (c : Nat) (b : List Nat) : List Nat → List Nat
  | [] => []
  | x :: r => if x = c then b ++ rep1 c b r else x :: rep1 c b r
theorem rep1_cut (c : Nat) (b : List Nat) : ∀ l, joinL b (cutS [c] 0 l) = rep1 c b l
  | [] => rfl
  | x :: r => by
    have ih := rep1_cut c b r
    by_cases hx : x = c
    · subst hx
      obtain ⟨p, ps, e⟩ := List.exists_cons_of_ne_nil (cutS_ne [x] 0 r)
      rw [rep1, if_pos rfl, cutS, show [x].isPrefixOf (x :: r) = true by simp [List.isPrefixOf], if_pos rfl]
      show joinL b ([] :: cutS [x] 0 r) = _
      rw [e, joinL_nil, ← e, ih]
    · obtain ⟨p, ps, e⟩ := List.exists_cons_of_ne_nil (cutS_ne [c] 0 r)
      rw [rep1, if_neg hx, cutS, show [c].isPrefixOf (x :: r) = false by simp [List.isPrefixOf, Ne.symm hx], e, if_neg (by decide)]
      show joinL b ((x :: p) :: ps) = _
      rw [joinL_cons, ← e, ih]
theorem at_iff {l y : List Nat} {k : Nat} (hy : y ≠ []) : StrLaws.At (mk l) (mk y) (mk l).length k ↔ k < l.length ∧ y <+: l.drop k := by
  unfold StrLaws.At
  rw [StrLaws.subAt_eq, mk_length, mk_length, mk_toList, mk_toList]
  have hpos : 0 < y.length := List.length_pos_iff.mpr hy
  constructor
  · rintro ⟨h1, h2⟩
    refine ⟨by lia, ?_⟩
    have := eq_of_beq h2
    rw [← this]
    exact List.take_prefix _ _
  · rintro ⟨h1, t, h2⟩
    have hl := congrArg List.length h2
    simp at hl
    refine ⟨by lia, ?_⟩
    rw [← h2]
    simp
theorem strSub_mk (l : List Nat) (i j : Nat) : Builtin.Str.strSub (mk l) i j = mk ((l.drop i).take (j - i)) := by
  have := StrLaws.strSub_toList (mk l) i j
  rw [mk_toList] at this
  exact StrLaws.mk_of_toList this
theorem parts_cut {l y : List Nat} (hy : y ≠ []) : ∀ (cuts : List Nat) (a f : Nat), a ≤ l.length → StrLaws.ChainG (mk l) (mk y) (mk l).length a cuts f → (∀ k, f ≤ k → ¬ StrLaws.At (mk l) (mk y) (mk l).length k) → StrLaws.partsFrom (mk l) (mk y).length a cuts = (cutS y 0 (l.drop a)).map mk
  | [], a, f, ha, h, hn => by
    have e : f = a := h
    subst e
    rw [StrLaws.partsFrom, strSub_mk, mk_length, cut_none, List.map_singleton]
    · congr 2
      rw [List.take_of_length_le]; simp
    · intro k hk q
      rw [List.length_drop] at hk
      rw [List.drop_drop] at q
      exact hn (f + k) (by lia) ((at_iff hy).mpr ⟨by lia, q⟩)
  | c :: r, a, f, ha, h, hn => by
    obtain ⟨h1, h2, h3, h4⟩ := h
    obtain ⟨hc, hp⟩ := (at_iff hy).mp h2
    have hle : c + y.length ≤ l.length := by
      have := h2.1
      rwa [mk_length, mk_length] at this
    rw [StrLaws.partsFrom, parts_cut hy r (c + (mk y).length) f (by rw [mk_length]; exact hle) h4 hn, strSub_mk]
    rw [cut_first hy (k := c - a) (l := l.drop a) (by rw [List.length_drop]; lia) ?_ ?_]
    · rw [List.map_cons, List.drop_drop, mk_length, show a + (c - a + y.length) = c + y.length by lia]
    · intro j hj q
      rw [List.drop_drop] at q
      exact h3 (a + j) (by lia) (by lia) ((at_iff hy).mpr ⟨by lia, q⟩)
    · rw [List.drop_drop, show a + (c - a) = c by lia]; exact hp
theorem between_cut (l y : List Nat) (hy : y ≠ []) : Builtin.Str.partsBetween (mk l) (Builtin.Str.occurrences (mk l) (mk y) 0 (mk l).length ((mk l).length + 1)) (mk y).length = (cutL y l).map mk := by
  obtain ⟨f, h1, h2⟩ := StrLaws.occ_tight (mk l) (mk y) (by rw [mk_length]; exact List.length_pos_iff.mpr hy)
  rw [StrLaws.partsBetween_eq, parts_cut hy _ 0 f (Nat.zero_le _) h1 h2]
  rfl
theorem occ_empty {l y : List Nat} (hy : y ≠ []) (h : (Builtin.Str.occurrences (mk l) (mk y) 0 (mk l).length ((mk l).length + 1)).isEmpty = true) : cutL y l = [l] := by
  have := between_cut l y hy
  rw [List.isEmpty_iff.mp h, StrLaws.partsBetween_eq, StrLaws.partsFrom, StrLaws.sub_whole] at this
  have h2 := congrArg (List.map (fun x : Str => x.cps.toList)) this
  simpa [Function.comp_def] using h2.symm
theorem join_mk (sep : List Nat) : ∀ ls : List (List Nat), Str.join (mk sep) (ls.map mk) = mk (joinL sep ls)
  | [] => rfl
  | [x] => rfl
  | x :: y :: r => by
    show mk x ++ mk sep ++ Str.join (mk sep) ((y :: r).map mk) = _
    rw [join_mk sep (y :: r), mk_append, mk_append]
    rfl
theorem replace_mk (l a b : List Nat) (ha : a ≠ []) : Txt.replace (mk l) (mk a) (mk b) = mk (joinL b (cutL a l)) := by
  unfold Txt.replace
  have h0 : ((mk a).length == 0) = false := by
    rw [mk_length]
    cases a with
    | nil => exact absurd rfl ha
    | cons _ _ => rfl
  rw [h0, Bool.false_and, Bool.or_false]
  split
  · rename_i h
    rw [occ_empty ha h]; rfl
  · rw [between_cut l a ha, StrLaws.glued_eq_join, join_mk]
theorem count_mk (l : List Nat) (c : Nat) : Txt.count (mk l) (mk [c]) = ((l.count c : Nat) : Int) := by
  have key : (Builtin.Str.occurrences (mk l) (mk [c]) 0 (mk l).length ((mk l).length + 1)).length + 1 = (cutL [c] l).length := by
    have := congrArg List.length (between_cut l [c] (by simp))
    rw [List.length_map] at this
    rw [← this]
    have gen : ∀ (cuts : List Nat) (a : Nat), (StrLaws.partsFrom (mk l) (mk [c]).length a cuts).length = cuts.length + 1 := by
      intro cuts
      induction cuts with
      | nil => intro a; rfl
      | cons x r ih => intro a; rw [StrLaws.partsFrom, List.length_cons, ih]; rfl
    rw [StrLaws.partsBetween_eq, gen]
  have cnt : ∀ l : List Nat, (cutS [c] 0 l).length = l.count c + 1 := by
    intro l
    induction l with
    | nil => rfl
    | cons x r ih =>
      obtain ⟨p, ps, e⟩ := List.exists_cons_of_ne_nil (cutS_ne [c] 0 r)
      by_cases hx : x = c
      · subst hx
        rw [cutS, show [x].isPrefixOf (x :: r) = true by simp [List.isPrefixOf], if_pos rfl, List.count_cons_self]
        show (cutS [x] 0 r).length + 1 = _
        rw [ih]
      · rw [cutS, show [c].isPrefixOf (x :: r) = false by simp [List.isPrefixOf, Ne.symm hx], e, if_neg (by decide), List.count_cons_of_ne (by simpa using hx)]
        show (ps.length + 1) = _
        rw [← ih, e]; rfl
  have := cnt l
  unfold Txt.count
  rw [show (Builtin.Str.occurrences (mk l) (mk [c]) 0 (mk l).length ((mk l).length + 1)).length = l.count c by have := cnt l; unfold cutL at key; lia]
section
variable {C : Cx} {env : Env} {σ : St}
/-- text.replace(old, new), the two with marks of their own -/
theorem fn_replace {l a b : List Nat} {t u : Tok} (ha : a ≠ []) (hab : a ≠ b) (ht : t ≠ 0) (hu : u ≠ 0) (htu : t ≠ u) (hl : l.length ≤ 100000) (hb : b.length ≤ 20) : Fn C (.builtin "str.replace") [tx l, .obj (.str (mk a) t), .obj (.str (mk b) u)] (tx (joinL b (cutL a l))) := fun s O vals _ hv => by
  obtain ⟨v, r, rfl, ⟨tv, rfl⟩, v2, r2, rfl, rfl, v3, r3, rfl, rfl, rfl⟩ := hv
  refine SC.replace ht hu htu (by simpa using hab) (by rw [mk_length, mk_length]; have : (l.length + 1) * b.length ≤ (l.length + 1) * 20 := Nat.mul_le_mul_left _ hb; lia) fun t' k => ⟨.tok s _, t', ?_⟩
  rw [replace_mk l a b ha]
theorem vins_strs {h : Heap} {O : List Addr} : ∀ {ls : List (List Nat)} {vs : List Value}, VIns h O (ls.map tx) vs → ∃ l : List (Str × Tok), vs = strValues l ∧ l.map (·.1) = ls.map mk
  | [], vs, x => ⟨[], x, rfl⟩
  | x :: ls, vs, hx => by
    obtain ⟨v, r, rfl, ⟨t, rfl⟩, q⟩ := hx
    obtain ⟨l, rfl, e⟩ := vins_strs q
    exact ⟨(mk x, t) :: l, rfl, by simp [e]⟩
theorem joinFit {sep : List Nat} {ls : List (List Nat)} {B : Nat} (hB : ∀ y ∈ ls, y.length ≤ B) (h : ls.length * B + ls.length * sep.length ≤ 16777216) : JoinOk (mk sep) (ls.map mk) = true := by
  have := StrLaws.joinFits (sep := mk sep) (texts := ls.map mk) (B := B) (fun y hy => by
    obtain ⟨x, hx, rfl⟩ := List.mem_map.mp hy
    rw [mk_length]; exact hB x hx) (by rw [List.length_map, mk_length]; exact h)
  first
    | exact this
    | (unfold JoinOk; simpa using this)
theorem fn_join {sep : List Nat} {ls : List (List Nat)} (hok : JoinOk (mk sep) (ls.map mk) = true) : Fn C (.builtin "str.join") [tx sep, .list (ls.map tx)] (tx (joinL sep ls)) := fun s O vals hO hv => by
  obtain ⟨v, r, rfl, ⟨tv, rfl⟩, v2, r2, rfl, ⟨a, vs, rfl, ⟨hl, _⟩, q⟩, rfl⟩ := hv
  obtain ⟨l, rfl, e⟩ := vins_strs q
  refine SC.join hl e hok fun t' k => ⟨.tok s _, t', ?_⟩
  show Value.str (Builtin.Str.glued (mk sep) (ls.map mk)) t' = _
  rw [StrLaws.glued_eq_join, join_mk]
theorem fn_count {l : List Nat} {c : Nat} : Fn C (.builtin "str.count") [tx l, tx [c]] (.int (l.count c : Nat)) := fun s O vals hO hv => by
  obtain ⟨v, r, rfl, ⟨tv, rfl⟩, v2, r2, rfl, ⟨tu, rfl⟩, rfl⟩ := hv
  exact SC.count (by rw [count_mk]; exact ⟨.tok s _, _, rfl⟩)
theorem m_join {l : List Nat} : MethAt C (Str.ofString "join") (tx l) "str.join" := fun s O va hv pl Q h => by obtain ⟨t, rfl⟩ := hv; exact GM.join h
theorem m_count {l : List Nat} : MethAt C (Str.ofString "count") (tx l) "str.count" := fun s O va hv pl Q h => by obtain ⟨t, rfl⟩ := hv; exact GM.count h
theorem fn_chr {i : Int} (h0 : 0 ≤ i) (h1 : i ≤ 1114111) : Fn C (.builtin "chr") [.int i] (tx [i.toNat]) := fun s O vals hO hv => by
  obtain ⟨v, r, rfl, ⟨tv, rfl⟩, rfl⟩ := hv
  exact chr_of_range h0 h1 ⟨.tok s _, _, rfl⟩
end
mutual
noncomputable def dat : MV → PyData
  | .none => .none
  | .bool b => .bool b
  | .int i => .int i
  | .str x => .str x
  | .list xs => .list (dats xs)
  | .tuple xs => .tuple (dats xs)
  | .seq xs => .list (dats xs)
  | .obj _ => .none
  | .deq => .none
noncomputable def dats : List MV → List PyData
  | [] => []
  | x :: xs => dat x :: dats xs
end
mutual
noncomputable def isDat : MV → Bool
  | .list xs => isDats xs
  | .tuple xs => isDats xs
  | .seq xs => isDats xs
  | .obj _ => false
  | .deq => false
  | _ => true
noncomputable def isDats : List MV → Bool
  | [] => true
  | x :: xs => isDat x && isDats xs
end
mutual
theorem reads_of {h : Heap} {O : List Addr} : ∀ {m : MV} {v : Value}, isDat m = true → VIn h O m v → ∃ as, Reads h v (dat m) as
  | .none, _, _, e => by cases e; exact ⟨_, by rw [dat]; exact .none⟩
  | .bool b, _, _, e => by cases e; exact ⟨_, by rw [dat]; exact .bool b⟩
  | .int i, _, _, e => by obtain ⟨t, rfl⟩ := e; exact ⟨_, by rw [dat]; exact .int i t⟩
  | .str x, _, _, e => by obtain ⟨t, rfl⟩ := e; exact ⟨_, by rw [dat]; exact .str x t⟩
  | .list xs, _, d, e => by
    obtain ⟨a, vs, rfl, _, ⟨⟨o, ho, hc, n, hd⟩, _⟩, q⟩ := e
    rw [isDat] at d
    obtain ⟨as, r⟩ := readsAll_of d q
    exact ⟨_, by rw [dat]; exact .list ho hc hd (by simpa using r)⟩
  | .seq xs, _, d, e => by
    obtain ⟨a, vs, rfl, _, ⟨⟨o, ho, hc, n, hd⟩, _⟩, q⟩ := e
    rw [isDat] at d
    obtain ⟨as, r⟩ := readsAll_of d q
    exact ⟨_, by rw [dat]; exact .list ho hc hd (by simpa using r)⟩
  | .tuple xs, _, d, e => by
    obtain ⟨a, vs, rfl, _, ⟨o, ho, hc, n, hd⟩, q⟩ := e
    rw [isDat] at d
    obtain ⟨as, r⟩ := readsAll_of d q
    exact ⟨_, by rw [dat]; exact .tuple ho hc hd (by simpa using r)⟩
  | .obj _, _, d, _ => by rw [isDat] at d; cases d
  | .deq, _, d, _ => by rw [isDat] at d; cases d
theorem readsAll_of {h : Heap} {O : List Addr} : ∀ {ms : List MV} {vs : List Value}, isDats ms = true → VIns h O ms vs → ∃ as, ReadsAll h vs (dats ms) as
  | [], _, _, e => by rw [show _ = [] from e]; exact ⟨_, by rw [dats]; exact .nil⟩
  | m :: ms, _, d, ⟨v, r, e, a, b⟩ => by
    rw [isDats, Bool.and_eq_true] at d
    obtain ⟨as, ra⟩ := reads_of d.1 a
    obtain ⟨bs, rb⟩ := readsAll_of d.2 b
    rw [e]
    exact ⟨_, by rw [dats]; exact .cons ra rb⟩
end
theorem reads_t {h : Heap} {O : List Addr} {m : MV} {v : Value} (d : isDat m = true) (e : VT h O m v) : ∃ as, Reads h v (dat m) as := by
  cases m with
  | list xs =>
    obtain ⟨a, vs, rfl, ⟨⟨o, ho, hc, n, hd⟩, _⟩, q⟩ := e
    rw [isDat] at d
    obtain ⟨as, r⟩ := readsAll_of d q
    exact ⟨_, by rw [dat]; exact .list ho hc hd (by simpa using r)⟩
  | _ => exact reads_of (O := O) d e
theorem eq_dat {C : Cx} {m m' : MV} (d : isDat m = true) (d' : isDat m' = true) (hs : shaped (dat m) = true) (hs' : shaped (dat m') = true) (hm : noMix (dat m) (dat m') = true) : Cmp C .Eq m m' (PySem.Spec.same (dat m) (dat m')) := fun s O va vb _ ha hb => by
  obtain ⟨as, ra⟩ := reads_t d ha
  obtain ⟨bs, rb⟩ := reads_t d' hb
  exact eq_dataH_same ra rb hs hs' (by have := C.hu; have := C.hl; unfold cLine; lia) hm ⟨.refl s, rfl⟩
theorem ne_dat {C : Cx} {m m' : MV} (d : isDat m = true) (d' : isDat m' = true) (hs : shaped (dat m) = true) (hs' : shaped (dat m') = true) (hm : noMix (dat m) (dat m') = true) : Cmp C .NotEq m m' (!PySem.Spec.same (dat m) (dat m')) := fun s O va vb _ ha hb => by
  obtain ⟨as, ra⟩ := reads_t d ha
  obtain ⟨bs, rb⟩ := reads_t d' hb
  exact ne_dataH_same ra rb hs hs' (by have := C.hu; have := C.hl; unfold cLine; lia) hm ⟨.refl s, rfl⟩
section
variable {C : Cx} {env : Env} {σ : St}
theorem add_list_ {xs ys : List MV} (hsz : xs.length + ys.length ≤ 1000000) : Bin C .Add (.list xs) (.list ys) (.list (xs ++ ys)) := fun s O va vb hO ha hb => by
  obtain ⟨a, vs, rfl, ⟨l, _⟩, q⟩ := ha
  obtain ⟨b, ws, rfl, ⟨l2, _⟩, q2⟩ := hb
  have e1 := q.length
  have e2 := q2.length
  obtain ⟨⟨cls, dd, data, sl⟩, ho, hc, n, hd⟩ := l
  obtain ⟨⟨cls2, dd2, data2, sl2⟩, ho2, hc2, n2, hd2⟩ := l2
  simp only at hc hd hc2 hd2
  subst hc hd hc2 hd2
  have e : vs.toArray ++ ws.toArray = (vs ++ ws).toArray := by simp
  refine concat_meets ⟨_, ho, rfl⟩ ⟨_, ho2, rfl⟩ noFill_list_add seq_list_add PySem.F.slot_list_add PySem.F.entry_list_add (PySem.F.args_list_add_2 _ _) (list_addW a b vs.toArray ws.toArray n n2 dd dd2 sl sl2 (by rw [List.size_toArray, List.size_toArray, sizeLine_eq]; lia)) ⟨ho, ho2, ?_⟩
  rw [e]
  exact ⟨keeps_push _, newL hO (q.append q2)⟩
end
end Mine
namespace Mine
open PySem PySem.W PyProof.Rows
section
variable {C : Cx} {env : Env} {σ : St}
/-- code that runs once a value has been made -/
noncomputable def wpP (C : Cx) (env : Env) (sts : List Stmt) (σ : St) (Q : FM → St → Prop) : Prop :=
  ∀ X s, 0 < s.toks → Rel C X env σ s.heap → wpAny C.M C.A (execs sts env) (Post C X env Q s) F s
noncomputable def wpSP (C : Cx) (env : Env) (st : Stmt) (σ : St) (Q : FM → St → Prop) : Prop :=
  ∀ X s, 0 < s.toks → Rel C X env σ s.heap → wpAny C.M C.A (exec st env) (Post C X env Q s) F s
theorem wpP_of {sts : List Stmt} {Q : FM → St → Prop} (h : wpSs C env sts σ Q) : wpP C env sts σ Q := fun X s _ R => h X s R
theorem wpSP_of {st : Stmt} {Q : FM → St → Prop} (h : wpS C env st σ Q) : wpSP C env st σ Q := fun X s _ R => h X s R
theorem wpP_consP {st : Stmt} {sts : List Stmt} {Q : FM → St → Prop} (h : wpSP C env st σ fun fm σ' => match fm with | .next => wpP C env sts σ' Q | fm => Q fm σ') : wpP C env (st :: sts) σ Q := fun X s hp R => by
  refine wpAny_execs_cons (wpAny_mono (wpAny_toks (h X s hp R)) (fun fl s' p => ?_) fun _ _ h => h.2)
  obtain ⟨ht, h', tk, rfl, fm, σ', fr, R', q⟩ := p
  cases fl with
  | next =>
    cases fm with
    | next =>
      refine wpAny_mono (q X _ (Nat.lt_of_lt_of_le hp ht) R') (fun fl2 s2 p2 => ?_) fun _ _ h => h
      obtain ⟨h2, tk2, rfl, _, _, r1, r2, r3⟩ := p2
      exact ⟨h2, tk2, rfl, _, _, r1, r2, r3⟩
    | _ => exact fr.elim
  | brk => cases fm <;> first | exact fr.elim | exact ⟨h', tk, rfl, _, σ', fr, R', q⟩
  | cont => cases fm <;> first | exact fr.elim | exact ⟨h', tk, rfl, _, σ', fr, R', q⟩
  | ret v => cases fm <;> first | exact fr.elim | exact ⟨h', tk, rfl, _, σ', fr, R', q⟩
theorem wpP_cons {st : Stmt} {sts : List Stmt} {Q : FM → St → Prop} (h : wpS C env st σ fun fm σ' => match fm with | .next => wpP C env sts σ' Q | fm => Q fm σ') : wpP C env (st :: sts) σ Q := wpP_consP (wpSP_of h)
/-- a name's first store makes a value -/
theorem ssP_first {x : Str} {p' p : Pos} {e : Expr} {m : MV} {rest : List Stmt} {Q : FM → St → Prop} {σ' : St} (he : Ev C env σ e m) (hk : env.kindOf x = some .local) (hs : swapsWith e (some (.Name x p')) p.line env = pure false) (hp : sput σ x (.fz m) = σ') (h : wpP C env rest σ' Q) : wpSs C env (.Assign [.Name x p'] e p :: rest) σ Q := fun X s R => by
  refine wpAny_execs_cons (wpAny_Assign_Name (wpAny_mono (he s R.toRelE) (fun v s₁ h₁ => ?_) fun _ _ h => h.elim) hs)
  obtain ⟨⟨h1, tk1, rfl, k⟩, hv⟩ := h₁
  have R₁ := R.ks k
  obtain ⟨mm, hn⟩ := R₁.ns
  refine wpAny_storeName_local hk hn (fun h' hn' hs' => ?_) (by rw [R₁.kind]; rfl)
  have R₂ := R₁.putLocal hk hn hn' hs' hv
  rw [hp] at R₂
  refine wpAny_mono (h X _ (Nat.succ_pos _) R₂) (fun fl s2 p2 => ?_) fun _ _ h => h
  obtain ⟨h2, tk2, rfl, _, _, r1, r2, r3⟩ := p2
  exact ⟨h2, tk2, rfl, _, _, r1, r2, r3⟩
/-- an expression once a value has been made -/
noncomputable def EvQ (C : Cx) (env : Env) (σ : St) (e : Expr) (m : MV) : Prop :=
  ∀ s, 0 < s.toks → RelE C env σ s.heap → wpAny C.M C.A (eval e env) (fun v s' => KSs C.S s s' ∧ VIn s'.heap (C.ex σ) m v) F s
theorem EvQ.of {e : Expr} {m : MV} (h : Ev C env σ e m) : EvQ C env σ e m := fun s _ R => h s R
/-- e.replace('..', '..') -/
theorem evP_replace {o : Expr} {l a b : List Nat} {x y : Str} {k1 k2 : Nat} {p1 p2 apos pos : Pos} (ho : EvQ C env σ o (tx l)) (hx : x = mk a) (hy : y = mk b) (ha : a ≠ []) (hab : a ≠ b) (hl : l.length ≤ 100000) (hb : b.length ≤ 20)
    (hbase : attributeBase o (Str.ofString "replace") env (eval o env) = eval o env) (hline : (apos.endLine == pos.line) = true) :
    EvQ C env σ (.Call (.Attribute o (Str.ofString "replace") apos) [.Constant (.str x) k1 p1, .Constant (.str y) k2 p2] [] pos) (tx (joinL b (cutL a l))) := fun s hp R => by
  subst hx hy
  rw [arm_eval_Call, hbase]
  refine wpAny_bind (wpAny_mono (wpAny_toks (ho s hp R)) (fun ov s₁ h₁ => ?_) fun _ _ x => x.2)
  obtain ⟨ht, k₁, tv, rfl⟩ := h₁
  have hp₁ : 0 < s₁.toks := Nat.lt_of_lt_of_le hp ht
  have R₁ := R.ks k₁.ks
  refine wpAny_bind (wpAny_standAt ?_)
  have hpos : methodCallPos true o env apos pos = pure pos := by unfold methodCallPos; simp [hline]
  unfold methodCall
  rw [show methodCallForm ([Expr.Constant (.str (mk a)) k1 p1, .Constant (.str (mk b)) k2 p2].length + ([] : List Keyword).length) (backTo pos (starEach [.Constant (.str (mk a)) k1 p1, .Constant (.str (mk b)) k2 p2] env)) (backToKw pos (keywordEach [] env)) = true from rfl]
  refine wpAny_bind (wpAny_holding (GM.replace ?_))
  refine wpAny_bind (wpAny_of_eq hpos ?_)
  have key : wpAny C.M C.A (evalArgs (.builtin "str.replace") true (backTo pos (starEach [.Constant (.str (mk a)) k1 p1, .Constant (.str (mk b)) k2 p2] env)) []) (fun ar s' => s' = { s₁ with toks := s₁.toks + 1 + 1 } ∧ ar.kw = [] ∧ ar.pos = [.str (mk a) s₁.toks, .str (mk b) (s₁.toks + 1)]) F s₁ := by
    unfold evalArgs
    show wpAny _ _ (spliced (backTo pos ((false, eval (.Constant (.str (mk a)) k1 p1) env) :: (false, eval (.Constant (.str (mk b)) k2 p2) env) :: [])) >>= _) _ _ s₁
    refine wpAny_bind (Calls.spliced_cons (Calls.Constant_str (k := k1) (pos := p1) (Calls.spliced_cons (Calls.Constant_str (k := k2) (pos := p2) (Calls.spliced_nil ?_)))))
    refine wpAny_bind (wpAny_pure (wpAny_holding ?_))
    exact wpAny_bind (wpAny_pure (wpAny_bind (wpAny_pure (wpAny_pure ⟨rfl, rfl, rfl⟩))))
  refine Calls.callWith_builtin rfl (wpAny_mono key (fun ar s₂ h₂ => ?_) fun _ _ x => x)
  obtain ⟨rfl, hkw, hps⟩ := h₂
  rw [hkw, hps]
  have R₂ : RelE C env σ ({ s₁ with toks := s₁.toks + 1 + 1 } : Shared).heap := R₁
  refine wpAny_mono (fn_replace (C := C) (t := s₁.toks) (u := s₁.toks + 1) ha hab (Nat.ne_of_gt hp₁) (Nat.succ_ne_zero _) (Nat.ne_of_lt (Nat.lt_succ_self _)) hl hb { s₁ with toks := s₁.toks + 1 + 1 } (C.ex σ) _ R₂.exO ⟨_, _, rfl, ⟨tv, rfl⟩, _, _, rfl, rfl, _, [], rfl, rfl, rfl⟩) (fun v s₃ h₃ => ?_) fun _ _ h => h
  exact ⟨(k₁.trans (.tok s₁ _)).trans (h₃.1.mono nil_sub), h₃.2⟩
theorem wpSP_ifcmp {l r : Expr} {op : CmpOp} {pc p : Pos} {a b : MV} {c : Bool} {body orelse : List Stmt} {Q : FM → St → Prop} (hl : EvQ C env σ l a) (hr : EvT C env σ r b) (ho : Cmp C op a b c) (hm : behindInMarks op r = false) (h1 : c = true → wpSs C env body σ Q) (h2 : c = false → wpSs C env orelse σ Q) : wpSP C env (.If (.Compare l [op] [r] pc) body orelse p) σ Q := fun X s hp R => by
  refine wpAny_If (wpAny_isTrue_Compare1 (wpAny_mono (hl s hp R.toRelE) (fun va s₁ h₁ => ?_) fun _ _ h => h) hm)
  obtain ⟨k₁, v₁⟩ := h₁
  have R₁ := R.ks k₁.ks
  refine wpAny_mono (hr s₁ R₁.toRelE) (fun vb s₂ h₂ => ?_) fun _ _ h => h
  obtain ⟨k₂, v₂⟩ := h₂
  have R₂ := R₁.ks k₂.ks
  refine wpAny_mono (ho s₂ _ va vb R₂.exO (v₁.ks k₂.ks).t v₂) (fun v s₃ h₃ => ?_) fun _ _ h => h
  obtain ⟨k₃, rfl⟩ := h₃
  have R₃ := R₂.ks (k₃.mono nil_sub (S' := C.S)).ks
  refine wpAny_truthy_bool ?_
  obtain ⟨h1', t1, rfl, _⟩ := k₁
  obtain ⟨h2', t2, rfl, _⟩ := k₂
  obtain ⟨h3', t3, rfl, _⟩ := k₃
  have fix : ∀ sts, wpSs C env sts σ Q → wpAny C.M C.A (execs sts env) (Post C X env Q s) F { s with heap := h3', toks := t3 } := fun sts hq => by
    refine wpAny_mono (hq X _ R₃) (fun fl s2 p2 => ?_) fun _ _ h => h
    obtain ⟨h2, tk2, rfl, _, _, r1, r2, r3⟩ := p2
    exact ⟨h2, tk2, rfl, _, _, r1, r2, r3⟩
  cases c with
  | true => exact fix _ (h1 rfl)
  | false => exact fix _ (h2 rfl)
end
end Mine
namespace Mine
open PySem PySem.W PyProof.Rows
section
variable {C : Cx} {env : Env} {σ : St}
theorem draw_list {prog : Program} {w : World} {A : Around} {E : Value → Shared → Prop} {it t : Addr} {items : Array Value} (hne : t ≠ it) : ∀ (n i : Nat) (s : Shared) (Q : List Value → Shared → Prop), s.heap.IsListIter it t i → s.heap.IsList t items → i + n ≤ items.size →
    (∀ h', h'.IsListIter it t (i + n) → Heap.SameBut it s.heap h' → Q ((items.toList.drop i).take n) { s with heap := h' }) → wpAny (model prog w) A (draw (.ref it) n) Q E s
  | 0, i, s, Q, hit, _, _, hQ => by
    show wpAny _ _ (pure []) Q E s
    exact wpAny_pure (by simpa using hQ s.heap hit (Heap.SameBut.refl ..))
  | n + 1, i, s, Q, hit, ht, hle, hQ => by
    have hlt : i < items.size := by lia
    show wpAny _ _ (pyNext (.ref it) >>= _) Q E s
    refine wpAny_bind (wpAny_pyNext_list_item hit ht (x := items[i]) (by simp [hlt]) fun h₁ hit₁ hs₁ => ?_)
    refine wpAny_bind (wpAny_holding (draw_list hne n (i + 1) _ _ hit₁ (ht.extBut hs₁.extBut hne) (by lia) fun h₂ hit₂ hs₂ => wpAny_pure ?_))
    have hd : items.toList.drop i = items[i] :: items.toList.drop (i + 1) := by simp [List.drop_eq_getElem_cons, hlt]
    have := hQ h₂ (by rw [show i + (n + 1) = i + 1 + n by lia]; exact hit₂) (hs₁.trans hs₂)
    rw [hd, List.take_succ_cons] at this
    exact this
theorem unpackItems_list {prog : Program} {w : World} {A : Around} {E : Value → Shared → Prop} {s : Shared} {t : Addr} {items : Array Value} {Q : List Value → Shared → Prop} (hh : A.handled = none) (ht : s.heap.IsList t items)
    (hQ : ∀ h', Heap.ExtBut s.heap.objs.size s.heap h' → Q items.toList { s with heap := h' }) : wpAny (model prog w) A (unpackItems (.ref t) items.size none) Q E s := by
  have hlt : t ≠ s.heap.objs.size := by obtain ⟨o, ho, _⟩ := ht; exact Nat.ne_of_lt (Heap.lt_size ho)
  unfold unpackItems
  refine wpAny_bind ?_
  unfold notIterableAtAll
  refine wpAny_bind (wpAny_specialOf ht.typeIs slot_list_iter.lookup ?_)
  refine wpAny_pure ?_
  simp only [Bool.false_eq_true, if_false]
  refine wpAny_bind (wpAny_holding (wpAny_pyIter_list ht ?_))
  have kp : ∀ b o, s.heap.get? b = some o → (s.heap.push { cls := .type "list_iterator", data := .fields #[.ref t, .int 0 0] }).get? b = some o := fun _ _ e => Heap.get?_push_of_some _ e
  have ht0 : (s.heap.push { cls := .type "list_iterator", data := .fields #[.ref t, .int 0 0] }).IsList t items := by obtain ⟨o, e, r⟩ := ht; exact ⟨o, kp _ _ e, r⟩
  refine wpAny_bind (wpAny_holding (draw_list hlt items.size 0 _ _ ⟨_, Heap.get?_push_size _ rfl, rfl, rfl⟩ ht0 (by lia) fun h₁ hit₁ hs₁ => ?_))
  have hall : List.take items.size (List.drop 0 items.toList) = items.toList := by
    rw [List.drop_zero]; exact List.take_of_length_le (by simp)
  rw [hall]
  rw [if_neg (by simp)]
  have ht₁ : h₁.IsList t items := ht0.extBut hs₁.extBut hlt
  refine wpAny_bind (wpAny_holding (wpAny_pyNext_list_end hh hit₁ ht₁ (by simp) fun h₂ he₂ => ?_))
  simp only [Option.isSome_none, Bool.false_eq_true, if_false]
  refine wpAny_pure (hQ h₂ fun b o hb e => he₂ b o hb (hs₁.extBut b o hb (kp b o e)))
theorem asg_pair {x y : Str} {px py pos : Pos} {k : Nat} {a b : MV} (hx : Stores env x) (hy : Stores env y) (hc : CellsOk env) (hB : C.mB = []) (hi : instA σ = []) : Asg C env (.Tuple [.Name x px, .Name y py] k pos) (.list [a, b]) σ (sput (sput σ x (.fz a)) y (.fz b)) := fun X s v R hv => by
  obtain ⟨l, vs, rfl, hO, ⟨hl, _⟩, va, r, rfl, ha, vb, r2, rfl, hb, rfl⟩ := hv
  rw [assign_Tuple]
  refine wpAny_bind (wpAny_standAt ?_)
  unfold unpack
  show wpAny _ _ (holding [.ref l] (unpackItems (.ref l) 2 none) >>= fun items => assignInOrder [assign (.Name x px) env, assign (.Name y py) env] items) _ _ s
  refine wpAny_bind (wpAny_holding (unpackItems_list (items := [va, vb].toArray) C.hh hl fun h₁ he₁ => ?_))
  have k : KS C.S s.heap h₁ := .of_keep fun b o e => he₁ b o (Nat.ne_of_lt (Heap.lt_size e)) e
  have R₁ := R.ks k
  show wpAny _ _ (assignInOrder [assign (.Name x px) env, assign (.Name y py) env] [va, vb]) _ _ _
  have ha₁ := ha.ks k
  have hb₁ := hb.ks k
  have R₂ : Rel C (hideAll h₁ (([] : List Addr) ++ hids env σ)) env σ h₁ := R₁.reX hc hi (J := []) (fun _ h => nomatch h)
  show wpAny _ _ (holding [vb] (assign (.Name x px) env va) >>= fun _ => holding [] (assign (.Name y py) env vb) >>= fun _ => pure ()) _ _ _
  refine wpAny_bind (wpAny_holding (wpAny_assign_Name (store_ (s := { s with heap := h₁ }) R₂ hx ha₁ fun h₂ t₂ R₃ => ?_)))
  have hb₂ : VIn h₂ (C.ex (sput σ x (.fz a))) b vb := VIn.turn R₁ hc hB (J := []) (fun _ h => nomatch h) R₃ hb₁
  have R₄ : Rel C X env (sput σ x (.fz a)) h₂ := R₁.backX hc hB (J := []) (fun _ h => nomatch h) R₃
  refine wpAny_bind (wpAny_holding (wpAny_assign_Name (store_ (s := { s with heap := h₂, toks := t₂ }) R₄ hy hb₂ fun h₃ t₃ R₅ => ?_)))
  exact wpAny_pure ⟨h₃, t₃, rfl, R₅⟩
end
end Mine
namespace Mine
open PySem PySem.W PyProof.Rows
theorem spec_ofB {G : Gx} {fa : Addr} {fd : FuncData} {body : List Stmt} {names : List Str} {ms : List MV} {r : MV} {full : Bool} {k : Nat} (D : IsDef G fa fd body names) (hk : k + 1 ≤ 100) (hn : ms.length = names.length)
    (hb : ∀ C : Cx, C.G = G → C.lvl ≤ k + 1 → (full = true → C.Full) → ∀ L, C.mB = [] → wpSs C (envAt fd L fa) body (names.zip (ms.map .fz)) fun fm _ => match fm with | .ret m => m = r | .next => r = .none | _ => False) :
    Spec G full k (.ref fa) ms r := fun C hG hlv hfull s O vals hok hfr hO hv => by
  have h := CodeO.spec D hn (codeG_of (γ := []) (γ' := []) (r := r) [] false (.inr rfl) D hk hn rfl (fun _ h => nomatch h) (fun C' a b c L hmB _ _ => by
    rw [List.append_nil]
    intro X s R
    refine wpAny_mono (hb C' a b c L hmB X s R) (fun fl s' p => ?_) fun _ _ x => x
    obtain ⟨h', tk, e, fm, σ', fr, R', q⟩ := p
    exact ⟨h', tk, e, fm, σ', fr, R', q, fun _ h => nomatch h⟩) (fun _ h => nomatch h)) C hG hlv hfull s O vals hok hfr hO hv ⟨(by intro _ _ _ _ _ h; cases h), (by intro _ h; cases h), List.nodup_nil⟩
  refine wpAny_mono h (fun v s' p => ?_) fun _ _ x => x
  obtain ⟨⟨h', tk, e, km⟩, _, hv'⟩ := p
  exact ⟨⟨h', tk, e, km.ks⟩, hv'⟩
theorem cells_none {fd : FuncData} {L fa : Addr} (h : (cellsFrom (L + 1) fd.scope.names []) = []) : CellsOk (envAt fd L fa) := fun x c hm => by
  have : (envAt fd L fa).cells = [] := h
  rw [this] at hm; cases hm
end Mine
namespace Mine
open PySem PySem.W PyProof.Rows
noncomputable def compB (scope : Scope) (x : Str) (fr : List Str) : Bool := scope.kind == .function && scope.names.lookup x == some .local && scope.names.all fun p => match p.2 with | .local => (p.1 == x || p.1 == Str.ofString ".0") && scope.names.lookup p.1 == some .local | .cell => false | .free => fr.contains p.1 | _ => true
theorem compOk_of {scope : Scope} {env : Env} {x : Str} {fr : List Str} (h : compB scope x fr = true) (hf : ∀ y ∈ fr, env.kindOf y = some .cell ∧ ∃ c, env.cells.lookup y = some c) : CompOk scope env x := by
  unfold compB at h
  simp only [Bool.and_eq_true, beq_iff_eq] at h
  obtain ⟨⟨h1, h2⟩, h3⟩ := h
  have h3 := List.all_eq_true.mp h3
  refine ⟨h1, h2, fun p hp hl => ?_, fun p hp hl => ?_, fun p hp hl => ?_, fun p hp hl => ?_⟩
  · have := h3 p hp; rw [hl] at this
    simp only [Bool.and_eq_true, Bool.or_eq_true, beq_iff_eq] at this
    exact this.1
  · have := h3 p hp; rw [hl] at this
    simp only [Bool.and_eq_true, Bool.or_eq_true, beq_iff_eq] at this
    exact this.2
  · have := h3 p hp; rw [hl] at this; cases this
  · have := h3 p hp; rw [hl] at this; exact hf p.1 (by simpa using this)
theorem compRes_filter {α : Type} (d : α) (q : α → Bool) (g : α → MV) (items : List MV) : ∀ xs : List α, compRes items (fun i => q (xs.getD i d)) (fun i => g (xs.getD i d)) xs.length = (xs.filter q).map g
  | [] => rfl
  | x :: r => by
    have ih := compRes_filter d q g items r
    unfold compRes at ih ⊢
    rw [List.length_cons, List.range_succ_eq_map, List.filter_cons, List.filter_map]
    have e1 : (fun i => q ((x :: r).getD i d)) ∘ Nat.succ = fun i => q (r.getD i d) := by funext i; simp
    have e2 : (fun i => g ((x :: r).getD i d)) ∘ Nat.succ = fun i => g (r.getD i d) := by funext i; simp
    rw [e1]
    by_cases hx : q x = true
    · have h0 : q ((x :: r).getD 0 d) = true := by simpa using hx
      rw [if_pos h0, List.map_cons, List.map_map, e2, ih, List.filter_cons, if_pos hx, List.map_cons]
      simp
    · have h0 : ¬ q ((x :: r).getD 0 d) = true := by simpa using hx
      rw [if_neg h0, List.map_map, e2, ih, List.filter_cons, if_neg hx]
theorem compRes_map {α : Type} (d : α) (g : α → MV) (items : List MV) (xs : List α) : compRes items (fun _ => true) (fun i => g (xs.getD i d)) xs.length = xs.map g := by
  have := compRes_filter d (fun _ => true) g items xs
  rwa [List.filter_eq_self.mpr (fun _ _ => rfl)] at this
end Mine
namespace Mine
open PySem PySem.W PyProof.Rows
section
variable {C : Cx} {env : Env} {σ : St}
end
end Mine
namespace Mine
open PySem PySem.W PyProof.Rows
open PySem.SeqAt
mutual
theorem same_self : ∀ m : MV, PySem.Spec.same (dat m) (dat m) = true
  | .none => by simp [dat, PySem.Spec.same]
  | .bool _ => by simp [dat, PySem.Spec.same]
  | .int _ => by simp [dat, PySem.Spec.same]
  | .str _ => by simp [dat, PySem.Spec.same]
  | .list xs => by rw [dat]; simp only [PySem.Spec.same]; exact sames_self xs
  | .tuple xs => by rw [dat]; simp only [PySem.Spec.same]; exact sames_self xs
  | .seq xs => by rw [dat]; simp only [PySem.Spec.same]; exact sames_self xs
  | .obj _ => by simp [dat, PySem.Spec.same]
  | .deq => by simp [dat, PySem.Spec.same]
theorem sames_self : ∀ ms : List MV, PySem.Spec.sameAll (dats ms) (dats ms) = true
  | [] => by simp [dats, PySem.Spec.sameAll]
  | m :: ms => by rw [dats]; simp only [PySem.Spec.sameAll, same_self m, sames_self ms, Bool.and_self]
end
mutual
theorem noMix_self : ∀ m : MV, noMix (dat m) (dat m) = true
  | .none => by simp [dat, noMix]
  | .bool _ => by simp [dat, noMix]
  | .int _ => by simp [dat, noMix]
  | .str _ => by simp [dat, noMix]
  | .list xs => by rw [dat]; simp only [noMix]; exact noMixs_self xs
  | .tuple xs => by rw [dat]; simp only [noMix]; exact noMixs_self xs
  | .seq xs => by rw [dat]; simp only [noMix]; exact noMixs_self xs
  | .obj _ => by simp [dat, noMix]
  | .deq => by simp [dat, noMix]
theorem noMixs_self : ∀ ms : List MV, noMixAll (dats ms) (dats ms) = true
  | [] => by simp [dats, noMixAll]
  | m :: ms => by rw [dats]; simp only [noMixAll, noMix_self m, noMixs_self ms, Bool.and_self]
end
/-- texts that hold code points alone -/
noncomputable def CpOk (ls : List (List Nat)) : Prop := ∀ l ∈ ls, ∀ c ∈ l, c < 1114112
theorem strOk_mk {l : List Nat} (h : ∀ c ∈ l, c < 1114112) : PyData.strOk (mk l) = true := by
  unfold PyData.strOk
  rw [← Array.all_toList, mk_toList, List.all_eq_true]
  intro c hc
  exact decide_eq_true (h c hc)
theorem lslice_to {α : Type} (xs : List α) (k : Nat) : lslice xs none (some (k : Int)) = xs.take k := by
  unfold lslice
  simp only [Option.elim_none, Option.elim_some, List.drop_zero, Nat.sub_zero]
  have : clipAt xs.length (k : Int) = min k xs.length := by unfold clipAt; rw [if_neg (by omega)]; omega
  rw [this]
  by_cases h : k ≤ xs.length
  · rw [Nat.min_eq_left h]
  · rw [Nat.min_eq_right (by omega), List.take_of_length_le (Nat.le_refl _), List.take_of_length_le (by omega)]
end Mine
namespace Mine
open PySem PySem.W PyProof.Rows PySem.SeqAt
noncomputable abbrev ni (n : Nat) : MV := .int (n : Int)
noncomputable def rngObj (x left : Int) : Obj := { cls := .type "range_iterator", dict := none, data := .fields #[rawInt x, rawInt left, rawInt 1], slots := #[] }
section
variable {C : Cx} {env : Env} {σ : St}
theorem src_range {I : Addr} (a : Int) (n : Nat) : Src C I n (fun i v => ∃ t, v = .int (a + i) t) (fun i o => o = rngObj (a + i) ((n : Int) - i)) (fun _ => True) where
  junk := fun i o h => by
    subst h
    exact ⟨(fun xs n q => by cases q), (fun v q => by cases q), (fun es ep q => by cases q), (fun q => absurd (Value.type.inj q) (by decide))⟩
  item := fun i s o Q E hi _ ho hit hQ => by
    subst hit
    refine wpAny_pyNext_range_item (it := I) (x := a + i) (left := (n : Int) - i) (step := 1) ho (by lia) fun h' hit' hs' => ?_
    refine hQ _ h' _ _ ⟨_, rfl⟩ hit' ?_ fun b o hb e => hs'.extBut b o hb e
    have e1 : a + ((i + 1 : Nat) : Int) = a + (i : Int) + 1 := by lia
    have e2 : (n : Int) - ((i + 1 : Nat) : Int) = (n : Int) - (i : Int) - 1 := by lia
    rw [e1, e2]; rfl
  done := fun s o Q E _ ho hit hQ => by
    subst hit
    exact wpAny_pyNext_range_end C.hh (it := I) (x := a + n) (left := (n : Int) - n) (step := 1) ho (by lia) fun h' he' => hQ h' s.toks fun b o hb e => he' b o hb e
  self := fun i s o Q E ho hit hQ => by
    subst hit
    exact wpAny_pyIter_rangeiter (it := I) (x := a + i) (left := (n : Int) - i) (step := 1) ho hQ
  noOwn := fun i o hit k us hc hd => by
    subst hit
    have := Value.type.inj hc
    subst this
    decide
theorem rangeSize_one {a b : Int} {n : Nat} (h : b = a + n) : Builtin.Range.rangeSize a b 1 = n := by
  subst h
  unfold Builtin.Range.rangeSize
  rw [if_pos (by decide)]
  split
  · rw [Int.ediv_one]; lia
  · lia
theorem itAt_range {a b : Int} {n : Nat} {s s₁ : Shared} {r : Addr} {t u v : Tok} {O : List Addr} (k₁ : KSs C.S s s₁) (low : C.n₀ ≤ s₁.heap.objs.size) (hr : IsRange s₁.heap r a b 1 t u v) (hn : b = a + n) (ha : -1000000 ≤ a) (hb : b ≤ 1000000) :
    wpAny C.M C.A (pyIter (.ref r)) (fun it s₂ => ItAt C O ((List.range n).map fun i => .int (a + (i : Nat))) s it s₂) F s₁ := by
  have hrs := rangeSize_one hn
  refine wpAny_pyIter_range hr (small_one (by lia) (by lia) (by lia) (by lia)) ?_
  have kp := keeps_push (S := C.S) (s := s₁) { cls := .type "range_iterator", data := .fields #[rawInt a, rawInt (Builtin.Range.rangeSize a b 1), rawInt 1] }
  refine ⟨s₁.heap.objs.size, fun i v => ∃ t, v = .int (a + i) t, fun i o => o = rngObj (a + i) ((n : Int) - i), fun _ => True, rfl, k₁.trans kp, ?_, low, ?_, ⟨_, Heap.get?_push_size _ rfl, ?_⟩, trivial, fun _ _ => trivial, fun i v m e e' => ?_⟩
  · cases q : s.heap.get? s₁.heap.objs.size with
    | none => rfl
    | some o => obtain ⟨_, o', e', _⟩ := k₁.ks _ o q; exact absurd (Heap.lt_size e') (Nat.lt_irrefl _)
  · have := src_range (C := C) (I := s₁.heap.objs.size) a n
    rwa [show ((List.range n).map fun i => MV.int (a + (i : Nat))).length = n by simp]
  · rw [hrs]; simp [rngObj]
  · obtain ⟨t, rfl⟩ := e
    rw [List.getElem?_map] at e'
    obtain ⟨j, hj, rfl⟩ := Option.map_eq_some_iff.mp e'
    have hlt := (List.getElem?_eq_some_iff.mp hj).1
    have : j = i := by simpa using ((List.getElem?_eq_some_iff.mp hj).2).symm
    subst this
    exact ⟨t, rfl⟩
/-- range(n) -/
theorem evIt_range {x : Str} {p pos : Pos} {e : Expr} {n : Nat} (hx : Ev C env σ (.Name x p) (.obj (.type "range"))) (he : EvT C env σ e (.int n)) (hs : ∀ x p, e ≠ .Starred x p) (hn : n ≤ 1000000) :
    EvIt C env σ (.Call (.Name x p) [e] [] pos) ((List.range n).map ni) := fun s R => by
  show wpAny _ _ (do callWith pos (← eval (.Name x p) env) [] (backTo pos (starEach [e] env)) (backToKw pos (keywordEach [] env))) _ _ s
  have ha : EvTs C env σ [e] [.int n] := .cons he hs .nil
  refine wpAny_bind (wpAny_mono (hx s R) (fun v s₁ h₁ => ?_) fun _ _ x => x)
  obtain ⟨k₁, rfl⟩ := h₁
  refine callWith_typ (plain_args ha).1 (wpAny_mono (evalArgs_ ha s₁ (R.ks k₁.ks)) (fun a s₂ h₂ => ?_) fun _ _ x => x)
  obtain ⟨k₂, hkw, hv⟩ := h₂
  rw [hkw]
  obtain ⟨v, r, e0, ⟨tv, rfl⟩, hr⟩ := hv
  rw [show r = [] from hr] at e0
  rw [e0]
  have R₂ := (R.ks k₁.ks).ks k₂.ks
  refine call_range_1 ?_
  have kp : KSs C.S s₂ { s₂ with heap := s₂.heap.push { cls := .type "range", data := .fields #[.int 0 s₂.toks, .int n tv, .int 1 (s₂.toks + 1)] }, toks := s₂.toks + 1 + 1 } := ⟨_, _, rfl, .of_keep fun _ _ e => Heap.get?_push_of_some _ e⟩
  have hm : ((List.range n).map ni) = (List.range n).map fun i => MV.int ((0 : Int) + (i : Nat)) := by simp [ni]
  rw [hm]
  exact itAt_range ((k₁.trans k₂).trans kp) (C.G.low _ (R₂.ks kp.ks).base) (Heap.get?_push_size _ rfl) (by lia) (by lia) (by lia)
/-- range(a, b) -/
theorem evIt_range2 {x : Str} {p pos : Pos} {e e2 : Expr} {a n : Nat} {b : Int} (hx : Ev C env σ (.Name x p) (.obj (.type "range"))) (he : EvT C env σ e (.int a)) (hs : ∀ x p, e ≠ .Starred x p) (he2 : EvT C env σ e2 (.int b)) (hs2 : ∀ x p, e2 ≠ .Starred x p) (hb : b = a + n) (hn : b ≤ 1000000) :
    EvIt C env σ (.Call (.Name x p) [e, e2] [] pos) ((List.range n).map fun i => .int ((a : Int) + (i : Nat))) := fun s R => by
  show wpAny _ _ (do callWith pos (← eval (.Name x p) env) [] (backTo pos (starEach [e, e2] env)) (backToKw pos (keywordEach [] env))) _ _ s
  have ha : EvTs C env σ [e, e2] [.int a, .int b] := .cons he hs (.cons he2 hs2 .nil)
  refine wpAny_bind (wpAny_mono (hx s R) (fun v s₁ h₁ => ?_) fun _ _ x => x)
  obtain ⟨k₁, rfl⟩ := h₁
  refine callWith_typ (plain_args ha).1 (wpAny_mono (evalArgs_ ha s₁ (R.ks k₁.ks)) (fun ar s₂ h₂ => ?_) fun _ _ x => x)
  obtain ⟨k₂, hkw, hv⟩ := h₂
  rw [hkw]
  obtain ⟨v, r, e0, ⟨tv, rfl⟩, v2, r2, e1, ⟨tv2, rfl⟩, hr⟩ := hv
  rw [show r2 = [] from hr] at e1
  rw [e1] at e0
  rw [e0]
  have R₂ := (R.ks k₁.ks).ks k₂.ks
  refine call_range_2 ?_
  have kp : KSs C.S s₂ { s₂ with heap := s₂.heap.push { cls := .type "range", data := .fields #[.int (a : Int) tv, .int b tv2, .int 1 s₂.toks] }, toks := s₂.toks + 1 } := ⟨_, _, rfl, .of_keep fun _ _ e => Heap.get?_push_of_some _ e⟩
  exact itAt_range ((k₁.trans k₂).trans kp) (C.G.low _ (R₂.ks kp.ks).base) (Heap.get?_push_size _ rfl) hb (by lia) (by lia)
theorem ints_are {h : Heap} {O : List Addr} : ∀ {ns : List Int} {vs : List Value}, VIns h O (ns.map .int) vs → IntsAre vs ns
  | [], _, x => by rw [show _ = [] from x]; exact .nil
  | n :: ns, _, ⟨v, r, e, hv, hr⟩ => by
    obtain ⟨t, rfl⟩ := hv
    subst e
    exact .cons _ t (ints_are hr)
theorem fn_sum {ns : List Int} : Fn C (.builtin "sum") [.list (ns.map .int)] (.int ns.sum) := fun s O vals _ hv => by
  obtain ⟨v, r, rfl, ⟨a, vs, rfl, ⟨hl, _⟩, hvs⟩, rfl⟩ := hv
  have hi := ints_are hvs
  obtain ⟨xs, hx⟩ := hi.allInts.items
  have hl' : s.heap.IsList a (intItems xs) := hx ▸ hl
  refine sum_intListG C.hh hl' fun h' tk t' hk => ?_
  have e1 : ns = xs.toList.map (·.1) := by
    rw [← nums_intItems, ← hx]
    exact (show numsOf vs.toArray.toList = ns from hi.numsOf).symm
  have e2 : preSum (numAt xs) xs.size = ns.sum := by
    rw [preSum_eq, List.take_of_length_le (by simp), e1]
  rw [e2]
  exact ⟨⟨h', tk, rfl, .of_keep hk⟩, _, rfl⟩
theorem m_lcount {xs : List MV} : MethAt C (Str.ofString "count") (.list xs) "list.count" := fun s O va hv pl Q h => by
  obtain ⟨a, vs, rfl, ⟨hl, hd⟩, _⟩ := hv
  exact getMethod_list_of PySem.F.slot_list_count PySem.F.type_list_count hl (hd rfl) h
theorem m_lindex {xs : List MV} : MethAt C (Str.ofString "index") (.list xs) "list.index" := fun s O va hv pl Q h => by
  obtain ⟨a, vs, rfl, ⟨hl, hd⟩, _⟩ := hv
  exact getMethod_list_of PySem.F.slot_list_index PySem.F.type_list_index hl (hd rfl) h
theorem count_ni (k : Nat) : ∀ ns : List Nat, (ns.map fun (n : Nat) => (n : Int)).count (k : Int) = ns.count k
  | [] => rfl
  | n :: r => by
    rw [List.map_cons, List.count_cons, List.count_cons, count_ni k r]
    by_cases h : n = k
    · subst h; simp
    · have : ((n : Int) == (k : Int)) = false := beq_eq_false_iff_ne.mpr (by lia)
      simp [this, h]
theorem map_ni (ns : List Nat) : ns.map ni = (ns.map fun (n : Nat) => (n : Int)).map .int := by rw [List.map_map]; rfl
theorem fn_lcount {ns : List Nat} {k : Nat} : Fn C (.builtin "list.count") [.list (ns.map ni), ni k] (ni (ns.count k)) := fun s O vals _ hv => by
  obtain ⟨v, r, rfl, ⟨a, vs, rfl, ⟨hl, _⟩, hvs⟩, v2, r2, rfl, ⟨tv, rfl⟩, rfl⟩ := hv
  rw [map_ni] at hvs
  refine count_list_ints hl (ints_are hvs) ?_
  rw [count_ni]
  exact ⟨.tok s _, _, rfl⟩
theorem isStr_at (k : Str) : ∀ {vs : List Value} {ys : List Str}, StrsAre vs ys → ∀ (i : Nat) (h : i < vs.length) (h' : i < ys.length), isStrOf k vs[i] = (ys[i] == k)
  | _, _, .cons n u r, 0, _, _ => rfl
  | _, _, .cons n u r, i + 1, h, h' => isStr_at k r i (by simpa using h) (by simpa using h')
theorem strs_len : ∀ {vs : List Value} {ys : List Str}, StrsAre vs ys → vs.length = ys.length
  | _, _, .nil => rfl
  | _, _, .cons n u r => by simp [strs_len r]
theorem fn_lindex {ls : List (List Nat)} {x : List Nat} {j : Nat} (hj : ls[j]? = some x) (hno : ∀ i, i < j → ls[i]? ≠ some x) (hlen : ls.length ≤ 1000000) : Fn C (.builtin "list.index") [.list (ls.map tx), tx x] (ni j) := fun s O vals _ hv => by
  obtain ⟨v, r, rfl, ⟨a, vs, rfl, ⟨hl, _⟩, hvs⟩, v2, r2, rfl, ⟨tv, rfl⟩, rfl⟩ := hv
  have hs := strs_are hvs
  have hln := strs_len hs
  obtain ⟨⟨cls, dd, data, sl⟩, ho, hc, n, hd⟩ := id hl
  simp only at hc hd
  subst hc hd
  obtain ⟨hjl, hje⟩ := List.getElem?_eq_some_iff.mp hj
  rw [List.length_map] at hln
  refine call_meets PySem.F.slot_list_index ⟨_, ho, rfl⟩ PySem.F.entry_list_index (PySem.F.args_list_index_2 _ _)
    (list_indexAt a vs.toArray n dd sl (.str (mk x) tv) (isStrOf (mk x)) j (by simp; lia) (by lia) ?_ ?_) ⟨ho, fun y hy => (eq_isStrOf (mk x) tv hs y (by simpa using hy)).at _ _, ⟨.tok s _, _, rfl⟩⟩
  · show isStrOf (mk x) vs[j] = true
    rw [isStr_at (mk x) hs j (by lia) (by rw [List.length_map]; exact hjl)]
    simp [hje]
  · intro i his hlt
    have his' : i < vs.length := by simpa using his
    show isStrOf (mk x) vs[i] = false
    rw [isStr_at (mk x) hs i his' (by rw [List.length_map]; lia)]
    rw [List.getElem_map]
    have : ls[i]'(by lia) ≠ x := fun q => hno i hlt (by rw [List.getElem?_eq_getElem (by lia), q])
    exact beq_eq_false_iff_ne.mpr fun q => this (mk_inj q)
theorem foldl_rep {α : Type} (x : Array α) : ∀ (k : Nat) (acc : Array α), ((List.replicate k x).foldl (· ++ ·) acc).toList = acc.toList ++ (List.replicate k x.toList).flatten
  | 0, acc => by simp
  | k + 1, acc => by rw [List.replicate_succ, List.foldl_cons, foldl_rep x k]; simp [List.replicate_succ]
theorem rep_flat (c : Nat) : ∀ k, (List.replicate k [c]).flatten = List.replicate k c
  | 0 => rfl
  | k + 1 => by rw [List.replicate_succ, List.flatten_cons, rep_flat c k]; rfl
theorem mul_tx {c : Nat} {k : Nat} (hk : k ≤ 100000) : Bin C .Mult (tx [c]) (ni k) (tx (List.replicate k c)) := fun s O va vb _ ha hb => by
  obtain ⟨t, rfl⟩ := ha; obtain ⟨u, rfl⟩ := hb
  have hlen : (mk [c]).length = 1 := rfl
  refine P.mul_str (by
      have h1 : ¬ (k : Int) < -(2 ^ 63 : Int) := by lia
      have h2 : ¬ (k : Int) ≥ 2 ^ 63 := by lia
      rw [decide_eq_false h1, decide_eq_false h2]; rfl) (fun h1 _ => ?_) (fun h1 _ => ?_) ?_
  · rw [hlen]
    have : (1 : Int) ≤ (2 ^ 63 - 1) / (k : Int) := by
      apply Int.le_ediv_of_mul_le (by lia)
      lia
    show ¬ ((1 : Nat) : Int) > (2 ^ 63 - 1) / (k : Int)
    lia
  · rw [hlen]
    unfold Builtin.Str.tooLong
    rw [sizeLine_eq]
    exact decide_eq_false (by lia)
  · split
    · rename_i h
      have : k = 0 := by lia
      subst this
      exact ⟨by decide, .tok s _, _, rfl⟩
    · split
      · rename_i h
        have : k = 1 := by
          have : (k : Int) = 1 := by simpa [hlen] using h
          lia
        subst this
        exact ⟨.refl s, _, rfl⟩
      · have e : (⟨(List.replicate (k : Int).toNat (mk [c]).cps).foldl (· ++ ·) #[]⟩ : Str) = mk (List.replicate k c) := by
          have h1 := foldl_rep (mk [c]).cps k #[]
          rw [show (mk [c]).cps.toList = [c] from rfl, rep_flat] at h1
          rw [show (k : Int).toNat = k by lia]
          show (⟨_⟩ : Str) = ⟨(List.replicate k c).toArray⟩
          congr 1
          exact Array.toList_inj.mp (by simpa using h1)
        rw [e]
        exact ⟨by rw [mk_length, List.length_replicate, sizeLine_eq]; lia, .tok s _, _, rfl⟩
end
end Mine
namespace Mine
open PySem PySem.W PyProof.Rows PySem.SeqAt
/-- data: numbers, texts and lists of them, at most k deep -/
structure DD (k : Nat) (m : MV) : Prop where
  d : isDat m = true
  l : (dat m).canLay0 = true
  h : (dat m).depth ≤ k
theorem DD.int {k : Nat} {i : Int} : DD k (.int i) := ⟨by simp [isDat], by rw [dat]; rfl, by rw [dat]; exact Nat.zero_le _⟩
theorem DD.tx {k : Nat} {l : List Nat} (h : ∀ c ∈ l, c < 1114112) : DD k (tx l) := ⟨by simp [isDat], by rw [dat]; exact strOk_mk h, by rw [dat]; exact Nat.zero_le _⟩
theorem DD.nil {k : Nat} : DD (k + 1) (.list []) := ⟨by simp [isDat, isDats], by rw [dat, dats]; rfl, by rw [dat, dats]; exact Nat.le_add_left _ _⟩
theorem dds {k : Nat} : ∀ {ms : List MV}, (∀ m ∈ ms, DD k m) → isDats ms = true ∧ PyData.canLayAll0 (dats ms) = true ∧ PyData.depthAll (dats ms) ≤ k
  | [], _ => ⟨by simp [isDats], by rw [dats]; rfl, by rw [dats]; exact Nat.zero_le _⟩
  | m :: r, h => by
    obtain ⟨a, b, c⟩ := dds (ms := r) fun x hx => h x (List.mem_cons_of_mem _ hx)
    have hm := h m List.mem_cons_self
    refine ⟨by rw [isDats, hm.d, a]; rfl, ?_, ?_⟩
    · rw [dats]; show ((dat m).canLay0 && PyData.canLayAll0 (dats r)) = true; rw [hm.l, b]; rfl
    · rw [dats]; show max (dat m).depth (PyData.depthAll (dats r)) ≤ k; exact Nat.max_le.mpr ⟨hm.h, c⟩
theorem DD.list {k : Nat} {ms : List MV} (h : ∀ m ∈ ms, DD k m) : DD (k + 1) (.list ms) := by
  obtain ⟨a, b, c⟩ := dds h
  exact ⟨by rw [isDat]; exact a, by rw [dat]; exact b, by rw [dat]; exact Nat.succ_le_succ c⟩
theorem DD.seq {k : Nat} {ms : List MV} (h : ∀ m ∈ ms, DD k m) : DD (k + 1) (.seq ms) := by
  obtain ⟨a, b, c⟩ := dds h
  exact ⟨by rw [isDat]; exact a, by rw [dat]; exact b, by rw [dat]; exact Nat.succ_le_succ c⟩
theorem DD.shaped {k : Nat} {m : MV} (h : DD k m) (hk : k ≤ 64) : shaped (dat m) = true := by
  unfold PySem.SeqAt.shaped
  rw [h.l, decide_eq_true (Nat.le_trans h.h hk)]; rfl
section
variable {C : Cx} {env : Env} {σ : St}
theorem ne_self {k : Nat} {m : MV} (h : DD k m) (hk : k ≤ 64) : Cmp C .NotEq m m false := by
  have := ne_dat (C := C) h.d h.d (h.shaped hk) (h.shaped hk) (noMix_self _)
  rwa [same_self] at this
theorem same_nil (ms : List MV) : PySem.Spec.same (dat (.list ms)) (dat (.list [])) = ms.isEmpty := by
  rw [dat, dat]; cases ms <;> simp [PySem.Spec.same, dats, PySem.Spec.sameAll]
theorem mix_nil (ms : List MV) : noMix (dat (.list ms)) (dat (.list [])) = true := by
  rw [dat, dat]; cases ms <;> simp [noMix, dats, noMixAll]
theorem eq_nil {k : Nat} {ms : List MV} (h : DD (k + 1) (.list ms)) (hk : k + 1 ≤ 64) : Cmp C .Eq (.list ms) (.list []) ms.isEmpty := by
  have := eq_dat (C := C) h.d (DD.nil (k := k)).d (h.shaped hk) (DD.nil.shaped hk) (mix_nil ms)
  rwa [same_nil] at this
theorem ne_nil {k : Nat} {ms : List MV} (h : DD (k + 1) (.list ms)) (hk : k + 1 ≤ 64) : Cmp C .NotEq (.list ms) (.list []) (!ms.isEmpty) := by
  have := ne_dat (C := C) h.d (DD.nil (k := k)).d (h.shaped hk) (DD.nil.shaped hk) (mix_nil ms)
  rwa [same_nil] at this
theorem ne_nil_seq {k : Nat} {ms : List MV} (h : DD (k + 1) (.seq ms)) (hk : k + 1 ≤ 64) : Cmp C .NotEq (.seq ms) (.list []) (!ms.isEmpty) := by
  have e : dat (.seq ms) = dat (.list ms) := by rw [dat, dat]
  have := ne_dat (C := C) h.d (DD.nil (k := k)).d (h.shaped hk) (DD.nil.shaped hk) (by rw [e]; exact mix_nil ms)
  rwa [e, same_nil] at this
theorem any_dats (d : PyData) : ∀ ms : List MV, (dats ms).any (fun y => PyData.eqv y d) = ms.any fun m => PyData.eqv (dat m) d
  | [] => by rw [dats]; rfl
  | m :: r => by rw [dats, List.any_cons, List.any_cons, any_dats d r]
theorem in_dd {k : Nat} {m : MV} {ms : List MV} (h : DD k m) (hs : ∀ x ∈ ms, DD k x) (hk : k ≤ 64) : Cmp C .In m (.list ms) (ms.any fun y => PyData.eqv (dat y) (dat m)) := fun s O va vb _ ha hb => by
  obtain ⟨as, ra⟩ := reads_t h.d ha
  obtain ⟨b1, b2, b3⟩ := dds hs
  obtain ⟨bs, rb⟩ := reads_t (m := .list ms) (by rw [isDat]; exact b1) hb
  rw [dat] at rb
  refine in_list_reads rb ra b2 h.l ?_ ⟨.refl s, by rw [any_dats]⟩
  have := C.hu; have := C.hl; unfold cLine
  have := Nat.min_le_left (PyData.depthAll (dats ms)) (dat m).depth
  omega
theorem notin_dd {k : Nat} {m : MV} {ms : List MV} (h : DD k m) (hs : ∀ x ∈ ms, DD k x) (hk : k ≤ 64) : Cmp C .NotIn m (.list ms) (!ms.any fun y => PyData.eqv (dat y) (dat m)) := fun s O va vb _ ha hb => by
  obtain ⟨as, ra⟩ := reads_t h.d ha
  obtain ⟨b1, b2, b3⟩ := dds hs
  obtain ⟨bs, rb⟩ := reads_t (m := .list ms) (by rw [isDat]; exact b1) hb
  rw [dat] at rb
  refine notIn_list_reads rb ra b2 h.l ?_ ⟨.refl s, by rw [any_dats]⟩
  have := C.hu; have := C.hl; unfold cLine
  have := Nat.min_le_left (PyData.depthAll (dats ms)) (dat m).depth
  omega
theorem any_ni (k : Nat) (ns : List Nat) : ((ns.map ni).any fun y => PyData.eqv (dat y) (dat (ni k))) = decide (k ∈ ns) := by
  rw [Bool.eq_iff_iff, List.any_eq_true, decide_eq_true_iff]
  constructor
  · rintro ⟨y, hy, e⟩
    obtain ⟨n, hn, rfl⟩ := List.mem_map.mp hy
    rw [dat, dat, PyData.eqv] at e
    have : (n : Int) = k := beq_iff_eq.mp e
    have : n = k := by omega
    exact this ▸ hn
  · intro h
    exact ⟨_, List.mem_map_of_mem h, by rw [dat, PyData.eqv]; simp⟩
noncomputable abbrev pr (p : Nat × Nat) : MV := .list [ni p.1, ni p.2]
theorem any_pr (p : Nat × Nat) (ps : List (Nat × Nat)) : ((ps.map pr).any fun y => PyData.eqv (dat y) (dat (pr p))) = decide (p ∈ ps) := by
  rw [Bool.eq_iff_iff, List.any_eq_true, decide_eq_true_iff]
  constructor
  · rintro ⟨y, hy, e⟩
    obtain ⟨q, hq, rfl⟩ := List.mem_map.mp hy
    simp only [pr, dat, dats, PyData.eqv, PyData.eqvAll, Bool.and_true, Bool.and_eq_true, beq_iff_eq] at e
    have : q = p := Prod.ext (by omega) (by omega)
    exact this ▸ hq
  · intro h
    exact ⟨_, List.mem_map_of_mem h, by simp [pr, dat, dats, PyData.eqv, PyData.eqvAll]⟩
theorem in_ni {k : Nat} {ns : List Nat} : Cmp C .In (ni k) (.list (ns.map ni)) (decide (k ∈ ns)) := by
  have := in_dd (C := C) (k := 0) (m := ni k) (ms := ns.map ni) .int (fun x hx => by obtain ⟨n, _, rfl⟩ := List.mem_map.mp hx; exact .int) (by decide)
  rwa [any_ni] at this
theorem notin_ni {k : Nat} {ns : List Nat} : Cmp C .NotIn (ni k) (.list (ns.map ni)) (decide (k ∉ ns)) := by
  have := notin_dd (C := C) (k := 0) (m := ni k) (ms := ns.map ni) .int (fun x hx => by obtain ⟨n, _, rfl⟩ := List.mem_map.mp hx; exact .int) (by decide)
  rw [any_ni] at this
  rwa [show (!decide (k ∈ ns)) = decide (k ∉ ns) by simp] at this
theorem dd_pr (p : Nat × Nat) : DD 1 (pr p) := .list fun m hm => by
  simp only [List.mem_cons, List.not_mem_nil, or_false] at hm
  rcases hm with rfl | rfl <;> exact .int
theorem dd_prs (ps : List (Nat × Nat)) : DD 2 (.list (ps.map pr)) := .list fun m hm => by
  obtain ⟨p, _, rfl⟩ := List.mem_map.mp hm
  exact dd_pr p
theorem notin_pr {p : Nat × Nat} {ps : List (Nat × Nat)} : Cmp C .NotIn (pr p) (.list (ps.map pr)) (decide (p ∉ ps)) := by
  have := notin_dd (C := C) (k := 1) (m := pr p) (ms := ps.map pr) (dd_pr p) (fun x hx => by obtain ⟨q, _, rfl⟩ := List.mem_map.mp hx; exact dd_pr q) (by decide)
  rw [any_pr] at this
  rwa [show (!decide (p ∈ ps)) = decide (p ∉ ps) by simp] at this
theorem dd_txs {k : Nat} {ls : List (List Nat)} (h : CpOk ls) : DD (k + 1) (.list (ls.map tx)) := .list fun m hm => by
  obtain ⟨l, hl, rfl⟩ := List.mem_map.mp hm
  exact .tx (h l hl)
end
end Mine
namespace Mine
open PySem PySem.W PyProof.Rows PySem.SeqAt
noncomputable abbrev comp2 (y x : Str) (py px p1 p2 p3 : Pos) (iter : Expr) (scope : Scope) (pos : Pos) : Expr := .ListComp (.Name y p3) [⟨.Name x px, iter, [], 0⟩, ⟨.Name y py, .Name x p1, [], 0⟩] scope pos
section
variable {y x : Str} {py px p1 p2 p3 : Pos} {iter : Expr} {scope : Scope} {pos : Pos}
theorem turn_outer (it acc : Value) (env : Env) : compTurn (comp2 y x py px p1 p2 p3 iter scope pos) 0 it acc env = (standAt iter.pos >>= fun _ => pyNext it >>= fun r => match r with
      | none => pure (.done .next)
      | some v => letOwnedTupleGo (.Name x px) it v >>= fun _ => assign (.Name x px) env v >>= fun _ =>
        (eval (.Name x p1) env >>= fun z => standAt p1 >>= fun _ => foldedSetIterable (.Name x p1) env z >>= fun z => holding [z] (pyIter z) >>= fun i2 => runOwn (.compStart (comp2 y x py px p1 p2 p3 iter scope pos) 1 i2 acc env) env >>= fun _ =>
          again (.compLoop (comp2 y x py px p1 p2 p3 iter scope pos) 0 it acc env))) := by rfl
theorem turn_inner (it acc : Value) (env : Env) : compTurn (comp2 y x py px p1 p2 p3 iter scope pos) 1 it acc env = (standAt p1 >>= fun _ => pyNext it >>= fun r => match r with
      | none => pure (.done .next)
      | some v => letOwnedTupleGo (.Name y py) it v >>= fun _ => assign (.Name y py) env v >>= fun _ =>
        (eval (.Name y p3) env >>= fun z => call (.builtin "list.append") [acc, z] >>= fun _ => pure ()) >>= fun _ =>
          again (.compLoop (comp2 y x py px p1 p2 p3 iter scope pos) 1 it acc env)) := by rfl
variable {prog : Program} {w : World} {A : Around} {E : Value → Shared → Prop} {R : Result → Shared → Prop} {s : Shared} {it acc : Value} {env : Env}
theorem codeAny_outer (I : Nat → Shared → Prop)
    (turn : ∀ n s, I n s → wpAny (model prog w) A (pyNext it) (fun r s₁ => match r with
      | none => R (.ok .next) s₁
      | some v => wpAny (model prog w) A (assign (.Name x px) env v) (fun _ s₂ => wpAny (model prog w) A (eval (.Name x p1) env) (fun z s₃ =>
          wpAny (model prog w) A (pyIter z) (fun i2 s₄ => codeAny (model prog w) (A.mark none) (.compStart (comp2 y x py px p1 p2 p3 iter scope pos) 1 i2 acc env) (fun r s₅ => match r with | .ok _ => ∃ m, m < n ∧ I m s₅ | .error _ => False) s₄) (fun _ _ => False) s₃)
          (fun _ _ => False) s₂) (fun _ _ => False) s₁) (fun _ _ => False) s)
    (n : Nat) (h : I n s) : codeAny (model prog w) A (.compLoop (comp2 y x py px p1 p2 p3 iter scope pos) 0 it acc env) R s := by
  refine codeAny_loop rfl I (fun n s hI => ?_) n h
  show wpAny _ A ((compTurn (comp2 y x py px p1 p2 p3 iter scope pos) 0 it acc env).onRaise (fun x => do noteFrame x env; theTreesLotGoes x)) _ _ s
  refine wpAny_noted ?_
  rw [turn_outer]
  refine wpAny_bind (wpAny_standAt (wpAny_bind (wpAny_mono (turn n s hI) (fun r s₁ h₁ => ?_) fun _ _ h' => h'.elim)))
  cases r with
  | none => exact wpAny_pure h₁
  | some v =>
    refine wpAny_bind (wpAny_of_eq rfl ?_)
    refine wpAny_bind (wpAny_mono h₁ (fun _ s₂ h₂ => ?_) fun _ _ h' => h'.elim)
    refine wpAny_bind (wpAny_mono h₂ (fun z s₃ h₃ => ?_) fun _ _ h' => h'.elim)
    refine wpAny_bind (wpAny_standAt (wpAny_bind (wpAny_of_eq (show foldedSetIterable (.Name x p1) env z = pure z from rfl) ?_)))
    refine wpAny_bind (wpAny_holding (wpAny_mono h₃ (fun i2 s₄ h₄ => ?_) fun _ _ h' => h'.elim))
    refine wpAny_bind (wpAny_runOwn (codeAny_mono h₄ fun res s₅ h₅ => ?_) (by intro q; cases q))
    cases res with
    | error e => exact h₅.elim
    | ok f => exact wpAny_pure ⟨rfl, h₅⟩
theorem codeAny_inner (I : Nat → Shared → Prop)
    (turn : ∀ n s, I n s → wpAny (model prog w) A (pyNext it) (fun r s₁ => match r with
      | none => R (.ok .next) s₁
      | some v => wpAny (model prog w) A (assign (.Name y py) env v) (fun _ s₂ => wpAny (model prog w) A (eval (.Name y p3) env) (fun z s₃ =>
          wpAny (model prog w) A (call (.builtin "list.append") [acc, z]) (fun _ s₄ => ∃ m, m < n ∧ I m s₄) (fun _ _ => False) s₃)
          (fun _ _ => False) s₂) (fun _ _ => False) s₁) (fun _ _ => False) s)
    (n : Nat) (h : I n s) : codeAny (model prog w) A (.compLoop (comp2 y x py px p1 p2 p3 iter scope pos) 1 it acc env) R s := by
  refine codeAny_loop rfl I (fun n s hI => ?_) n h
  show wpAny _ A ((compTurn (comp2 y x py px p1 p2 p3 iter scope pos) 1 it acc env).onRaise (fun x => do noteFrame x env; theTreesLotGoes x)) _ _ s
  refine wpAny_noted ?_
  rw [turn_inner]
  refine wpAny_bind (wpAny_standAt (wpAny_bind (wpAny_mono (turn n s hI) (fun r s₁ h₁ => ?_) fun _ _ h' => h'.elim)))
  cases r with
  | none => exact wpAny_pure h₁
  | some v =>
    refine wpAny_bind (wpAny_of_eq rfl ?_)
    exact wpAny_bind (wpAny_mono h₁ (fun _ s₂ h₂ => wpAny_bind (wpAny_bind (wpAny_mono h₂ (fun z s₃ h₃ => wpAny_bind (wpAny_mono h₃
      (fun _ s₄ h₄ => wpAny_pure (wpAny_pure ⟨rfl, h₄⟩)) fun _ _ h' => h'.elim)) fun _ _ h' => h'.elim))) fun _ _ h' => h'.elim)
theorem codeAny_start1 (h0 : codeAny (model prog w) A (.compLoop (comp2 y x py px p1 p2 p3 iter scope pos) 1 it acc env) R s)
    (h : wpAny (model prog w) A (pyIter it) (fun it' s' => codeAny (model prog w) A (.compLoop (comp2 y x py px p1 p2 p3 iter scope pos) 1 it' acc env) R s') (fun _ _ => False) s) :
    codeAny (model prog w) A (.compStart (comp2 y x py px p1 p2 p3 iter scope pos) 1 it acc env) R s := by
  refine codeAny_of_tree ?_
  show wpAny _ _ ((compStart (comp2 y x py px p1 p2 p3 iter scope pos) 1 it acc env).onRaise (fun x => do noteFrame x env; standAt theWindowsPlace)) _ _ s
  refine wpAny_notedAt ?_
  unfold compStart
  show wpAny _ _ (ask >>= _) _ _ s
  refine wpAny_bind (wpAny_askSetting (wpAny_ite ?_))
  split
  · first
      | exact wpAny_bind (wpAny_pure (wpAny_pure (And.intro rfl h0)))
      | exact wpAny_pure (And.intro rfl h0)
  · first
      | exact wpAny_bind (wpAny_rule (wpAny_bind (wpAny_standAt (wpAny_bind (wpAny_mono h (fun it' s' h' => wpAny_pure (And.intro rfl h')) fun _ _ x => x.elim)))))
      | (refine wpAny_bind (wpAny_rule ?_); show wpAny _ _ (standAt p1 >>= _) _ _ s; exact wpAny_bind (wpAny_standAt (wpAny_bind (wpAny_mono h (fun it' s' h' => wpAny_pure (And.intro rfl h')) fun _ _ x => x.elim))))
end
/-- values that are the numbers -/
noncomputable def NA : List Nat → List Value → Prop
  | [], vs => vs = []
  | n :: r, vs => ∃ t w, vs = .int n t :: w ∧ NA r w
theorem NA.vins {h : Heap} {O : List Addr} : ∀ {ns : List Nat} {vs : List Value}, NA ns vs → VIns h O (ns.map ni) vs
  | [], _, x => x
  | n :: r, _, ⟨t, w, e, q⟩ => ⟨_, w, e, ⟨t, rfl⟩, NA.vins q⟩
theorem VIns.na {h : Heap} {O : List Addr} : ∀ {ns : List Nat} {vs : List Value}, VIns h O (ns.map ni) vs → NA ns vs
  | [], _, x => x
  | n :: r, _, ⟨v, w, e, ⟨t, ht⟩, q⟩ => ⟨t, w, by rw [e, ht], VIns.na q⟩
theorem NA.len : ∀ {ns : List Nat} {vs : List Value}, NA ns vs → vs.length = ns.length
  | [], _, x => by rw [show _ = [] from x]; rfl
  | n :: r, _, ⟨t, w, e, q⟩ => by rw [e, List.length_cons, List.length_cons, NA.len q]
theorem NA.app : ∀ {ns ms : List Nat} {vs ws : List Value}, NA ns vs → NA ms ws → NA (ns ++ ms) (vs ++ ws)
  | [], _, _, _, x, y => by rw [show _ = [] from x]; exact y
  | n :: r, _, _, _, ⟨t, w, e, q⟩, y => ⟨t, w ++ _, by rw [e]; rfl, NA.app q y⟩
theorem NA.get : ∀ {ns : List Nat} {vs : List Value}, NA ns vs → ∀ {i : Nat} {v : Value}, vs[i]? = some v → ∃ n t, ns[i]? = some n ∧ v = .int n t
  | [], _, x, i, v, e => by rw [show _ = [] from x] at e; simp at e
  | n :: r, _, ⟨t, w, e0, q⟩, 0, v, e => by rw [e0] at e; simp at e; exact ⟨n, t, rfl, e.symm⟩
  | n :: r, _, ⟨t, w, e0, q⟩, i + 1, v, e => by rw [e0] at e; simp at e; simpa using NA.get q e
structure Comp2Ok (scope : Scope) (x y : Str) : Prop where
  kind : scope.kind = .function
  lx : scope.names.lookup x = some .local
  ly : scope.names.lookup y = some .local
  nofree : ∀ p ∈ scope.names, p.2 ≠ .free
  nocell : ∀ p ∈ scope.names, p.2 ≠ .cell
  locs : ∀ p ∈ scope.names, p.2 = .local → scope.names.lookup p.1 = some .local
noncomputable def comp2B (scope : Scope) (x y : Str) : Bool := scope.kind == .function && scope.names.lookup x == some .local && scope.names.lookup y == some .local && scope.names.all fun p => match p.2 with | .local => scope.names.lookup p.1 == some .local | .cell => false | .free => false | _ => true
theorem comp2Ok_of {scope : Scope} {x y : Str} (h : comp2B scope x y = true) : Comp2Ok scope x y := by
  unfold comp2B at h
  simp only [Bool.and_eq_true, beq_iff_eq] at h
  obtain ⟨⟨⟨h1, h2⟩, h3⟩, h4⟩ := h
  have h4 := List.all_eq_true.mp h4
  refine ⟨h1, h2, h3, fun p hp hl => ?_, fun p hp hl => ?_, fun p hp hl => ?_⟩
  · have := h4 p hp; rw [hl] at this; cases this
  · have := h4 p hp; rw [hl] at this; cases this
  · have := h4 p hp; rw [hl] at this; simpa using this
/-- what a state of the outer walk keeps -/
inductive OutInv (s : Shared) (ls : List (List Nat)) (Kp : Heap → Prop) (It : Nat → Obj → Prop) (I D L : Addr) (k : Nat) (s' : Shared) : Prop
  | mk (i : Nat) (h' : Heap) (tk : Nat) (mm : Str → Option Value) (vs : List Value) (o : Obj) (e : s' = { s with heap := h', toks := tk }) (hi : i ≤ ls.length) (ek : k = ls.length - i) (kp : Kp h') (hI : h'.get? I = some o) (it : It i o) (hD : h'.PlainList D (List.toArray vs)) (hL : h'.Ns L mm) (hv : NA (ls.take i).flatten vs)
/-- and of the inner one -/
inductive InInv (s : Shared) (pre l : List Nat) (Kp : Heap → Prop) (o3 : Obj) (I J a D L : Addr) (k : Nat) (s' : Shared) : Prop
  | mk (j : Nat) (h' : Heap) (tk : Nat) (mm : Str → Option Value) (ws : List Value) (e : s' = { s with heap := h', toks := tk }) (hj : j ≤ l.length) (ek : k = l.length - j) (kp : Kp h') (hI : h'.get? I = some o3) (it : h'.IsListIter J a j) (hD : h'.PlainList D (List.toArray ws)) (hL : h'.Ns L mm) (hv : NA (pre ++ l.take j) ws)
section
variable {C : Cx} {env : Env} {σ : St} {h h' : Heap}
theorem evN_flat {y x : Str} {py px p1 p2 p3 : Pos} {iter : Expr} {scope : Scope} {pos : Pos} {ls : List (List Nat)} (hit : EvIt C env σ iter (ls.map fun l => .list (l.map ni))) (ok : Comp2Ok scope x y) (hxy : x ≠ y) (hd : (x == ("__debug__" : Str)) = false) (hd' : (y == ("__debug__" : Str)) = false) (hsz : ls.length * 1000 ≤ 1000000) (hl : ∀ l ∈ ls, l.length ≤ 1000)
    (hs : ∀ x, foldedSetIterable iter env x = pure x := by intro _; rfl) : EvN C env σ (comp2 y x py px p1 p2 p3 iter scope pos) (ls.flatten.map ni) := fun s R => by
  obtain ⟨cl, hclos, _, _, _⟩ := clos_of (env := env) scope.names [] (fun p hp hf => absurd hf (ok.nofree p hp)) (fun _ _ h => by cases h)
  have hclos : closureFor scope env = pure cl := by
    simp only [closureFor]
    first
      | (rw [hclos]; rfl)
      | (erw [hclos]; rfl)
  rw [eval_ListComp]
  refine wpAny_comprehension_free (use := none) rfl hs hclos ok.kind ok.locs (wpAny_mono (hit s R) (fun xv s₁ h₁ => wpAny_mono h₁ (fun it s₂ h₂ => ?_) fun _ _ e => e) fun _ _ e => e)
  obtain ⟨I, P, It, Inv, rfl, k, hIs, hIn, Sr, ⟨o₀, ho₀, hit₀⟩, hInv, hstab, hval⟩ := h₂
  have R₂ := R.ks k.ks
  have hj0 := Sr.junk 0 _ hit₀
  refine wpAny_newObj_type (wpAny_newFunctionEnv ok.nocell (by intro y hy; simp at hy) (fun h₁ hns₁ hsb₁ => ?_) ok.kind)
  dsimp only at hns₁ hsb₁ ⊢
  obtain ⟨h2, t2, rfl, ks2⟩ := k
  dsimp only at R₂ ho₀ hInv hstab hval hns₁ hsb₁ ⊢
  generalize hH2 : h2.push { cls := .type "list", dict := none, data := .seq ([] : List Value).toArray } = H2 at hns₁ hsb₁ ⊢
  generalize hD : h2.objs.size = D at hns₁ hsb₁ ⊢
  have hC : H2.objs.size = D + 1 := by rw [← hH2, Heap.size_push, hD]
  generalize hL : H2.objs.size = L at hns₁ hsb₁ ⊢
  have hDL : D ≠ L := by rw [hL] at hC; rw [hC]; exact Nat.ne_of_lt (Nat.lt_succ_self _)
  have hDleL : D ≤ L := by rw [hL] at hC; rw [hC]; exact Nat.le_succ _
  have fresh2 : ∀ a, D ≤ a → h2.get? a = none := fun a ha => Heap.get?_none_of_le (by rw [hD]; exact ha)
  have hDf : h2.get? D = none := fresh2 D (Nat.le_refl _)
  have hLf : h2.get? L = none := fresh2 L hDleL
  have freshS : ∀ a, h2.get? a = none → s.heap.get? a = none := fun a ha => by
    cases q : s.heap.get? a with
    | none => rfl
    | some o => obtain ⟨_, o', e', _⟩ := ks2 a o q; rw [ha] at e'; cases e'
  have hDn : C.n₀ ≤ D := by rw [← hD]; exact C.G.low _ R₂.base
  have old : ∀ b o, h2.get? b = some o → h₁.get? b = some o := fun b o e => by
    have hb : b < D := by rw [← hD]; exact Heap.lt_size e
    exact hsb₁.extBut b o (Nat.ne_of_lt (Nat.lt_of_lt_of_le hb hDleL)) (Heap.get?_push_of_some _ (hH2 ▸ Heap.get?_push_of_some _ e))
  have hacc : h₁.PlainList D (List.toArray []) := ⟨_, hsb₁.extBut _ _ hDL (Heap.get?_push_of_some _ (by rw [← hH2, ← hD]; exact Heap.get?_push_size _ rfl))⟩
  have hIlt : h₁.get? I = some o₀ := old I _ ho₀
  have hDI : D ≠ I := by rintro rfl; rw [hDf] at ho₀; cases ho₀
  have hLI : L ≠ I := by rintro rfl; rw [hLf] at ho₀; cases ho₀
  let cenv := compEnvC scope cl L env
  have hlk : ∀ z, scope.names.lookup z = some .local → cenv.kindOf z = some .local := fun z e => by
    show (relabel scope env).names.lookup z = _
    unfold relabel
    rw [lookup_relabel, e]; rfl
  have hkx := hlk x ok.lx
  have hky := hlk y ok.ly
  have hkf : cenv.scope.kind = .function := ok.kind
  -- what a state of the loops keeps
  let Kp : Heap → Prop := fun h' => ∀ b o, b ≠ I → h2.get? b = some o → h'.get? b = some o
  have inv' : ∀ h', Kp h' → Inv h' := fun h' kp => hstab h' fun b o hb e _ _ => kp b o hb e
  have loop : ∀ tk₁, codeAny C.M C.A (.compLoop (comp2 y x py px p1 p2 p3 iter scope pos) 0 (.ref I) (.ref D) cenv) (compPost C.M C.A F none (fun v s' => ∃ a vs, v = .ref a ∧ KSs C.S s s' ∧ s.heap.get? a = none ∧ C.n₀ ≤ a ∧ s'.heap.PlainList a (List.toArray vs) ∧ VIns s'.heap (a :: C.ex σ) (ls.flatten.map ni) vs) (.ref D) L) { s with heap := h₁, toks := tk₁ } := fun tk₁ => by
    refine codeAny_outer (OutInv s ls Kp It I D L) ?_ ls.length
      ⟨0, h₁, tk₁, _, [], o₀, rfl, Nat.zero_le _, by lia, fun b o _ e => old b o e, hIlt, hit₀, hacc, hns₁, rfl⟩
    rintro k s' ⟨i, h', tk, mm, vs, o, rfl, hile, rfl, kp, hoI, hit, hpl, hn, hvs⟩
    by_cases hlt : i < ls.length
    · refine Sr.item i _ o _ _ (by rw [List.length_map]; exact hlt) (inv' h' kp) hoI hit fun v h3 tk3 o3 hP e3 hit3 hk3 => ?_
      obtain ⟨l, hml⟩ : ∃ l, ls[i]? = some l := ⟨_, List.getElem?_eq_getElem hlt⟩
      have hll := hl l (List.mem_of_getElem? hml)
      obtain ⟨a, vsI, rfl, haO, ⟨haL, _⟩, hvI⟩ := hval i v (.list (l.map ni)) hP (by rw [List.getElem?_map, hml]; rfl)
      have naI := VIns.na hvI
      have haI : a ≠ I := by
        rintro rfl
        obtain ⟨oa, ea, _, n, da⟩ := haL
        rw [ho₀] at ea; cases ea
        exact hj0.1 _ _ da
      obtain ⟨oa, ea, ca, na, da⟩ := id haL
      have kp3 : Kp h3 := fun b ob hb e => hk3 b ob hb (kp b ob hb e)
      have n3 : h3.Ns L mm := by
        obtain ⟨ol, es, ep, e, d, r⟩ := hn
        exact ⟨ol, es, ep, hk3 L ol hLI e, d, r⟩
      obtain ⟨nD, eD⟩ := hpl
      have pl3 : h3.PlainList D (List.toArray vs) := ⟨nD, hk3 D _ hDI eD⟩
      refine wpAny_assign_Name (wpAny_storeName_local (env := cenv) hkx n3 (fun h4 n4 hs4 => ?_) (kindFun ok.kind))
      have k4 : ∀ b o, b ≠ L → h3.get? b = some o → h4.get? b = some o := fun b o hb e => hs4.extBut b o hb e
      have kp4 : Kp h4 := fun b ob hb e => k4 b ob (by rintro rfl; rw [hLf] at e; cases e) (kp3 b ob hb e)
      obtain ⟨nD3, eD3⟩ := pl3
      have pl4 : h4.PlainList D (List.toArray vs) := ⟨nD3, k4 D _ hDL eD3⟩
      have i4 : h4.get? I = some o3 := k4 I _ (Ne.symm hLI) e3
      have haL4 : a ≠ L := by rintro rfl; rw [hLf] at ea; cases ea
      have l4 : h4.IsList a vsI.toArray := ⟨oa, kp4 a oa haI ea, ca, na, da⟩
      refine wpAny_Name (wpAny_loadName_local (env := cenv) hkf hkx n4 (show _ = some (.ref a) by simp) ?_) hd
      refine wpAny_pyIter_list l4 ?_
      -- the inner walk
      generalize hJ : h4.objs.size = J
      have alt : a < J := by rw [← hJ]; exact Heap.lt_size (kp4 a oa haI ea)
      have Jf : h4.get? J = none := Heap.get?_none_of_le (by rw [hJ]; exact Nat.le_refl _)
      have hJI : J ≠ I := by rintro rfl; rw [Jf] at i4; cases i4
      have hJL : J ≠ L := fun q => by obtain ⟨ol, es, ep, e, d, r⟩ := n4; have e' : h4.get? L = some ol := e; rw [← q, Jf] at e'; cases e'
      have hJD : J ≠ D := by rintro rfl; obtain ⟨n, e⟩ := pl4; rw [Jf] at e; cases e
      have haJ : a ≠ J := Nat.ne_of_lt alt
      have haD : a ≠ D := by rintro rfl; rw [hDf] at ea; cases ea
      have kJ : ∀ b o, h4.get? b = some o → (h4.push { cls := .type "list_iterator", data := .fields #[.ref a, .int 0 0] }).get? b = some o := fun b o e => Heap.get?_push_of_some _ e
      have eJ : (h4.push { cls := .type "list_iterator", data := .fields #[.ref a, .int 0 0] }).IsListIter J a 0 := ⟨_, by rw [← hJ]; exact Heap.get?_push_size _ rfl, rfl, rfl⟩
      generalize hH5 : h4.push { cls := .type "list_iterator", data := .fields #[.ref a, .int 0 0] } = H5 at kJ eJ ⊢
      have n5 : H5.Ns L (fun z => if z = x then some (.ref a) else mm z) := by
        obtain ⟨ol, es, ep, e, d, r⟩ := n4
        exact ⟨ol, es, ep, kJ L ol e, d, r⟩
      have pl5 : H5.PlainList D (List.toArray vs) := by obtain ⟨n, e⟩ := pl4; exact ⟨n, kJ D _ e⟩
      have kp5 : Kp H5 := fun b ob hb e => kJ b ob (kp4 b ob hb e)
      have i5 : H5.get? I = some o3 := kJ I _ i4
      have inner : ∀ tk, codeAny C.M (C.A.mark none) (.compLoop (comp2 y x py px p1 p2 p3 iter scope pos) 1 (.ref J) (.ref D) cenv) (fun r s₅ => match r with | .ok _ => ∃ m, m < ls.length - i ∧ OutInv s ls Kp It I D L m s₅ | .error _ => False) { s with heap := H5, toks := tk } := fun tk => by
        refine codeAny_inner (InInv s (ls.take i).flatten l Kp o3 I J a D L) ?_ l.length
          ⟨0, H5, tk, _, vs, rfl, Nat.zero_le _, by lia, kp5, i5, eJ, pl5, n5, by simpa using hvs⟩
        rintro k s' ⟨j, g, tkj, mj, ws, rfl, hjle, rfl, kpj, ij, itj, plj, nj, naj⟩
        have lj : g.IsList a vsI.toArray := ⟨oa, kpj a oa haI ea, ca, na, da⟩
        have hlenI := naI.len
        by_cases hjl : j < l.length
        · have hjv : j < vsI.length := by rw [hlenI]; exact hjl
          obtain ⟨c, tc, hc1, hc2⟩ := naI.get (List.getElem?_eq_getElem hjv)
          refine wpAny_pyNext_list_item itj lj (x := vsI[j]) (by simp [hjv]) fun g1 it1 sb1 => ?_
          have k1 : ∀ b o, b ≠ J → g.get? b = some o → g1.get? b = some o := fun b o hb e => sb1.extBut b o hb e
          have n1 : g1.Ns L mj := by
            obtain ⟨ol, es, ep, e, d, r⟩ := nj
            exact ⟨ol, es, ep, k1 L ol (Ne.symm hJL) e, d, r⟩
          obtain ⟨nw, ew⟩ := plj
          refine wpAny_assign_Name (wpAny_storeName_local (env := cenv) hky n1 (fun g2 n2 sb2 => ?_) (kindFun ok.kind))
          have k2 : ∀ b o, b ≠ L → g1.get? b = some o → g2.get? b = some o := fun b o hb e => sb2.extBut b o hb e
          refine wpAny_Name (wpAny_loadName_local (env := cenv) hkf hky n2 (show _ = some vsI[j] by simp) ?_) hd'
          have pl2 : g2.PlainList D (List.toArray ws) := ⟨nw, k2 D _ hDL (k1 D _ (Ne.symm hJD) ew)⟩
          have hlw := naj.len
          refine wpAny_list_append_plain (hsz := by
            rw [List.size_toArray, hlw, sizeLine_eq]
            rw [List.length_append]
            have h1 : (ls.take i).flatten.length ≤ ls.length * 1000 := by
              have gen : ∀ (q : List (List Nat)), (∀ l ∈ q, l.length ≤ 1000) → q.flatten.length ≤ q.length * 1000 := by
                intro q
                induction q with
                | nil => intro _; simp
                | cons z r ih =>
                  intro hz
                  have := ih fun l hl => hz l (List.mem_cons_of_mem _ hl)
                  have := hz z List.mem_cons_self
                  rw [List.flatten_cons, List.length_append, List.length_cons]; lia
              have := gen (ls.take i) fun l hl' => hl l (List.mem_of_mem_take hl')
              have : (ls.take i).length ≤ ls.length := by rw [List.length_take]; lia
              lia
            have h2 : (l.take j).length ≤ 1000 := by rw [List.length_take]; lia
            lia) pl2 fun g3 pl3' sb3 => ?_
          have k3 : ∀ b o, b ≠ D → g2.get? b = some o → g3.get? b = some o := fun b o hb e => sb3.extBut b o hb e
          refine ⟨l.length - (j + 1), by lia, j + 1, g3, _, (fun z => if z = y then some vsI[j] else mj z), ws ++ [vsI[j]], rfl, hjl, rfl, fun b ob hb e => ?_, ?_, ?_, by simpa using pl3', ?_, ?_⟩
          · have hbJ : b ≠ J := by rintro rfl; exact absurd (kp4 b ob hb e) (by rw [Jf]; simp)
            have hbL : b ≠ L := by rintro rfl; rw [hLf] at e; cases e
            have hbD : b ≠ D := by rintro rfl; rw [hDf] at e; cases e
            exact k3 b ob hbD (k2 b ob hbL (k1 b ob hbJ (kpj b ob hb e)))
          · exact k3 I _ (Ne.symm hDI) (k2 I _ (Ne.symm hLI) (k1 I _ (Ne.symm hJI) ij))
          · obtain ⟨oj, ej, r⟩ := it1
            exact ⟨oj, k3 J _ hJD (k2 J _ hJL ej), r⟩
          · obtain ⟨ol, es, ep, e, d, r⟩ := n2
            exact ⟨ol, es, ep, k3 L ol (Ne.symm hDL) e, d, r⟩
          · have : l.take (j + 1) = l.take j ++ [c] := by rw [List.take_add_one, hc1]; rfl
            rw [this, ← List.append_assoc]
            exact naj.app ⟨tc, [], by rw [hc2], rfl⟩
        · have hje : j = l.length := by lia
          subst hje
          refine wpAny_pyNext_list_end (by exact C.hh) itj lj (by simp [hlenI]) fun g1 sb1 => ?_
          have k1 : ∀ b o, b ≠ J → g.get? b = some o → g1.get? b = some o := fun b o hb e => sb1 b o hb e
          refine ⟨ls.length - (i + 1), by lia, i + 1, g1, tkj, mj, ws, o3, rfl, hlt, rfl, fun b ob hb e => ?_, k1 I _ (Ne.symm hJI) ij, hit3, ?_, ?_, ?_⟩
          · have hbJ : b ≠ J := by rintro rfl; exact absurd (kp4 b ob hb e) (by rw [Jf]; simp)
            exact k1 b ob hbJ (kpj b ob hb e)
          · obtain ⟨n, e⟩ := plj; exact ⟨n, k1 D _ (Ne.symm hJD) e⟩
          · obtain ⟨ol, es, ep, e, d, r⟩ := nj
            exact ⟨ol, es, ep, k1 L ol (Ne.symm hJL) e, d, r⟩
          · have : ls.take (i + 1) = ls.take i ++ [l] := by rw [List.take_add_one, hml]; rfl
            rw [this, List.flatten_append]
            simpa using naj
      exact codeAny_start1 (inner _) (wpAny_pyIter_listiter eJ (inner _))
    · have hie : i = ls.length := by lia
      subst hie
      refine Sr.done _ o _ _ (inv' h' kp) hoI (by rw [List.length_map]; exact hit) fun h3 tk3 hk3 => ?_
      have n3 : h3.Ns L mm := by
        obtain ⟨ol, es, ep, e, d, r⟩ := hn
        exact ⟨ol, es, ep, hk3 L ol hLI e, d, r⟩
      obtain ⟨oL, esL, epL, eL, dL, _⟩ := id n3
      refine ⟨mm, n3, fun h'' hs'' => ⟨D, vs, rfl, ⟨h'', tk3, rfl, fun b o e => ?_⟩, freshS D hDf, hDn, ?_, ?_⟩⟩
      · obtain ⟨c1, o1, c2, c3⟩ := ks2 b o e
        have hbI : b ≠ I := by rintro rfl; rw [hIs] at e; cases e
        have hbL : b ≠ L := by rintro rfl; rw [freshS b hLf] at e; cases e
        have up : ∀ o', h2.get? b = some o' → h''.get? b = some o' := fun o' e' => hs''.extBut b o' hbL (hk3 b o' hbI (kp b o' hbI e'))
        exact ⟨fun q => up o (c1 q), o1, up o1 c2, c3⟩
      · obtain ⟨n, e⟩ := hpl
        exact ⟨n, hs''.extBut D _ hDL (hk3 D _ hDI e)⟩
      · have := hvs
        rw [List.take_length] at this
        exact this.vins
  exact codeAny_compStart_list (loop _) (Sr.self 0 _ _ _ _ hIlt hit₀ (loop _))
end
end Mine
namespace Mine
open PySem PySem.W PyProof.Rows PySem.SeqAt
open MeetsSeq MeetsSeq2 MeetsSeq3 SeqRoads2
open AutoSeq1 (wpAny_loadPart')
theorem lt_loop0 (l b : Addr) (items items2 : Array Value) (n n2 : Nat) (dd dd2 : Option Addr) (sl sl2 : Array (Option Value)) (x y : Int) (t u : Tok) (hx : items[0]? = some (.int x t)) (hy : items2[0]? = some (.int y u)) (hxy : x ≠ y) :
    Meets (Builtin.«list.__eq__.loop» ⟨[.ref l, .ref b, rawInt 0, rawInt 0], []⟩)
      (fun A R s => s.heap.get? l = some { cls := .type "list", dict := dd, data := .seq items n, slots := sl } ∧ s.heap.get? b = some { cls := .type "list", dict := dd2, data := .seq items2 n2, slots := sl2 } ∧
        R (.ok (.ret (.bool (decide (x < y))))) s) := by
  intro prog w A R s h
  obtain ⟨hp, g, d, tk, os⟩ := s; obtain ⟨hl, hb, h⟩ := h
  wp_walk using wpAny_loadPart' hl, wpAny_loadPart' hb
  rw [show items[(0 : Int).toNat]? = some (.int x t) from hx, show items2[(0 : Int).toNat]? = some (.int y u) from hy]
  refine wpAny_bind (EqGives.int x y t u _ _ _ _ _ _ ?_)
  rw [beq_eq_false_iff_ne.mpr hxy]
  wp_walk using wpAny_loadPart' hl, wpAny_loadPart' hb
  rw [show items[(0 : Int).toNat]? = some (.int x t) from hx, show items2[(0 : Int).toNat]? = some (.int y u) from hy]
  show wpAny _ _ (richCompare .Lt (.int x t) (.int y u) >>= fun r => ret r) _ _ _
  refine wpAny_bind (wpAny_richCompare_same (op := .Lt) (T := "int") (id := "int.__lt__") (typeIs_int _ _ _) (typeIs_int _ _ _) slot_int_lt (call_int_lt ⟨by simp, ?_⟩))
  exact wpAny_pure h
theorem lt_lists (l b : Addr) (items items2 : Array Value) (n n2 : Nat) (dd dd2 : Option Addr) (sl sl2 : Array (Option Value)) (x y : Int) (t u : Tok) (hx : items[0]? = some (.int x t)) (hy : items2[0]? = some (.int y u)) (hxy : x ≠ y) :
    Meets (Builtin.«list.__lt__» ⟨[.ref l, .ref b], []⟩)
      (fun A R s => s.heap.get? l = some { cls := .type "list", dict := dd, data := .seq items n, slots := sl } ∧ s.heap.get? b = some { cls := .type "list", dict := dd2, data := .seq items2 n2, slots := sl2 } ∧
        R (.ok (.ret (.bool (decide (x < y))))) s) := by
  intro prog w A R s h
  obtain ⟨hp, g, d, tk, os⟩ := s; obtain ⟨hl, hb, h⟩ := h
  have f3 := AutoSeq1.sub_list_list
  wp_walk using wpAny_loadPart' hl, wpAny_loadPart' hb
  exact ⟨plainId_quiet plain_eq_loop _, codeAny_builtin entry_eq_loop (by
    rw [Around.under_plainId plain_eq_loop _]
    exact lt_loop0 l b items items2 n n2 dd dd2 sl sl2 x y t u hx hy hxy prog w A R _ ⟨hl, hb, h⟩)⟩
section
variable {prog : Program} {w : World} {A : Around} {E : Value → Shared → Prop} {s : Shared}
/-- a list whose first item is the number -/
noncomputable def HeadAt (h : Heap) (v : Value) (x : Int) : Prop := ∃ l its t, v = .ref l ∧ h.IsList l its ∧ its[0]? = some (.int x t)
theorem key_lt {v v' : Value} {x y : Int} {Q : Bool → Shared → Prop} (hu : A.units < cLine) (hv : HeadAt s.heap v x) (hv' : HeadAt s.heap v' y) (hxy : x ≠ y) (h : Q (decide (x < y)) s) : wpAny (model prog w) A (keyLt' oneType' v v') Q E s := by
  obtain ⟨l, its, t, rfl, hl, hx⟩ := hv
  obtain ⟨b, its2, u, rfl, hb, hy⟩ := hv'
  obtain ⟨⟨cls, dd, data, sl⟩, ho, hc, n, hd⟩ := id hl
  obtain ⟨⟨cls2, dd2, data2, sl2⟩, ho2, hc2, n2, hd2⟩ := id hb
  simp only at hc hd hc2 hd2
  subst hc hd hc2 hd2
  rw [keyLt'_oneType, oneLt'_eq]
  simp only [if_true]
  refine wpAny_bind (wpAny_cRoomFor hu ?_)
  refine wpAny_bind (wpAny_callSpecialIfBound?_slot hl.typeIs PySem.F.slot_list_lt (call_meets PySem.F.slot_list_lt hl.typeIs PySem.F.entry_list_lt (PySem.F.args_list_lt_2 _ _) (lt_lists l b its its2 n n2 dd dd2 sl sl2 x y t u hx hy hxy) ⟨ho, ho2, ?_⟩))
  exact wpAny_truthy_bool h
end
/-- the sort's questions answered by the keys -/
noncomputable def kRun {α : Type} (ks : List Nat) : KasT α → Option α
  | .ret a => some a
  | .ask i j k => if i < ks.length ∧ j < ks.length ∧ i ≠ j then kRun ks (k (decide (ks.getD i 0 < ks.getD j 0))) else none
section
variable {prog : Program} {w : World} {A : Around} {s : Shared}
theorem kRun_wp {α : Type} {ks : List Nat} {vs : List Value} (hu : A.units < cLine) (hk : ∀ i, i < ks.length → HeadAt s.heap (vs.getD i .none) (ks.getD i 0)) (hnd : ∀ i j, i < ks.length → j < ks.length → i ≠ j → ks.getD i 0 ≠ ks.getD j 0) {Q : α → Shared → Prop} : ∀ (t : KasT α) (a : α), kRun ks t = some a → Q a s → t.kasWp (kas_ask prog w A oneType' vs) Q s
  | .ret a, b, h, q => by
    rw [kRun] at h; cases h; exact q
  | .ask i j k, b, h, q => by
    rw [kRun] at h
    split at h
    · rename_i hij
      show kas_ask prog w A oneType' vs i j _ s
      unfold kas_ask
      refine key_lt hu (hk i hij.1) (hk j hij.2.1) (fun e => hnd i j hij.1 hij.2.1 hij.2.2 (by lia)) ?_
      have := kRun_wp hu hk hnd (k (decide (ks.getD i 0 < ks.getD j 0))) b h q
      have e : decide (((ks.getD i 0 : Nat) : Int) < ((ks.getD j 0 : Nat) : Int)) = decide (ks.getD i 0 < ks.getD j 0) := by
        by_cases hh : ks.getD i 0 < ks.getD j 0
        · rw [decide_eq_true hh, decide_eq_true (by lia)]
        · rw [decide_eq_false hh, decide_eq_false (by lia)]
      rw [e]; exact this
    · cases h
end
noncomputable def keyLists : List (List Nat) := ((List.range 4).flatMap fun a => ((List.range 4).filter (· ≠ a)).flatMap fun b => [a, b] :: (((List.range 4).filter fun c => c ≠ a ∧ c ≠ b).flatMap fun c => [a, b, c] :: (((List.range 4).filter fun d => d ≠ a ∧ d ≠ b ∧ d ≠ c).map fun d => [a, b, c, d])))
noncomputable def sortOk (ks : List Nat) : Bool := match kRun ks (kas_sort ks.length) with
  | some p => p.toList.all (· < ks.length) && p.size == ks.length && (p.toList.map fun i => ks.getD i 0) == (List.range 4).filter (fun x => decide (x ∈ ks))
  | none => false
theorem keys_ok : keyLists.all sortOk = true := by decide +kernel
theorem nodup_lt : ∀ (n : Nat) (l : List Nat), l.Nodup → (∀ x ∈ l, x < n) → l.length ≤ n
  | 0, l, _, h => by cases l with
    | nil => exact Nat.le_refl _
    | cons a r => exact absurd (h a List.mem_cons_self) (Nat.not_lt_zero _)
  | n + 1, l, hn, h => by
    have ih := nodup_lt n (l.filter fun x => x != n) (hn.sublist List.filter_sublist) fun x hx => by
      obtain ⟨h1, h2⟩ := List.mem_filter.mp hx
      have := h x h1
      have : x ≠ n := by simpa using h2
      lia
    have : l.length ≤ (l.filter fun x => x != n).length + 1 := by
      clear ih h
      induction l with
      | nil => simp
      | cons a r ih =>
        rw [List.nodup_cons] at hn
        rw [List.filter_cons]
        by_cases e : a = n
        · subst e
          have : r.filter (fun x => x != a) = r := List.filter_eq_self.mpr fun x hx => by
            have : x ≠ a := fun q => hn.1 (q ▸ hx)
            simpa using this
          simp [this]
        · have := ih hn.2
          simp [e]; lia
    lia
theorem mem_keys {ks : List Nat} (h2 : 2 ≤ ks.length) (h4 : ∀ k ∈ ks, k < 4) (hnd : ks.Nodup) : ks ∈ keyLists := by
  have gen : ∀ a b (r : List Nat), (∀ k ∈ a :: b :: r, k < 4) → (a :: b :: r).Nodup → a :: b :: r ∈ keyLists := by
    intro a b r h4 hnd
    have hl := nodup_lt 4 _ hnd h4
    have ha := h4 a (by simp)
    have hb := h4 b (by simp)
    simp only [List.nodup_cons, List.mem_cons, not_or] at hnd
    unfold keyLists
    rw [List.mem_flatMap]
    refine ⟨a, List.mem_range.mpr ha, ?_⟩
    rw [List.mem_flatMap]
    refine ⟨b, by simp [hb]; exact Ne.symm hnd.1.1, ?_⟩
    match r with
    | [] => simp
    | c :: r =>
      have hc := h4 c (by simp)
      simp only [List.nodup_cons, List.mem_cons, not_or] at hnd
      refine List.mem_cons_of_mem _ ?_
      rw [List.mem_flatMap]
      refine ⟨c, by simp only [List.mem_filter, List.mem_range, decide_eq_true_eq]; exact ⟨hc, fun q => hnd.1.2.1 q.symm, fun q => hnd.2.1.1 q.symm⟩, ?_⟩
      match r with
      | [] => simp
      | d :: r =>
        have hd := h4 d (by simp)
        simp only [List.nodup_cons, List.mem_cons, not_or] at hnd
        match r with
        | [] =>
          refine List.mem_cons_of_mem _ ?_
          rw [List.mem_map]
          exact ⟨d, by simp only [List.mem_filter, List.mem_range, decide_eq_true_eq]; exact ⟨hd, fun q => hnd.1.2.2.1 q.symm, fun q => hnd.2.1.2.1 q.symm, fun q => hnd.2.2.1.1 q.symm⟩, rfl⟩
        | e :: r =>
          simp only [List.length_cons] at hl
          lia
  match ks, h2 with
  | a :: b :: r, _ => exact gen a b r h4 hnd
theorem map_inj {α β : Type} (f : α → β) {ps : List α} (hinj : ∀ x ∈ ps, ∀ y ∈ ps, f x = f y → x = y) : ∀ {l l' : List α}, (∀ x ∈ l, x ∈ ps) → (∀ x ∈ l', x ∈ ps) → l.map f = l'.map f → l = l'
  | [], [], _, _, _ => rfl
  | [], _ :: _, _, _, h => by simp at h
  | _ :: _, [], _, _, h => by simp at h
  | a :: r, b :: r', h1, h2, h => by
    simp only [List.map_cons, List.cons.injEq] at h
    rw [hinj a (h1 a List.mem_cons_self) b (h2 b List.mem_cons_self) h.1, map_inj f hinj (fun x hx => h1 x (List.mem_cons_of_mem _ hx)) (fun x hx => h2 x (List.mem_cons_of_mem _ hx)) h.2]
theorem inj_of_nodup {α β : Type} (f : α → β) : ∀ {ps : List α}, (ps.map f).Nodup → ∀ x ∈ ps, ∀ y ∈ ps, f x = f y → x = y
  | [], _, x, hx, _, _, _ => nomatch hx
  | a :: r, h, x, hx, y, hy, e => by
    rw [List.map_cons, List.nodup_cons] at h
    rcases List.mem_cons.mp hx with e1 | hx1
    · rcases List.mem_cons.mp hy with e2 | hy1
      · rw [e1, e2]
      · exact absurd (List.mem_map_of_mem (f := f) hy1) (by rw [← e, e1]; exact h.1)
    · rcases List.mem_cons.mp hy with e2 | hy1
      · exact absurd (List.mem_map_of_mem (f := f) hx1) (by rw [e, e2]; exact h.1)
      · exact inj_of_nodup f h.2 x hx1 y hy1 e
theorem asc_eq {l l' : List Nat} (h : l.Pairwise (· < ·)) (h' : l'.Pairwise (· < ·)) (hm : ∀ x, x ∈ l ↔ x ∈ l') : l = l' := by
  have hn : l.Nodup := h.imp fun h => Nat.ne_of_lt h
  have hn' : l'.Nodup := h'.imp fun h => Nat.ne_of_lt h
  have hp := (List.perm_ext_iff_of_nodup hn hn').mpr hm
  exact hp.eq_of_pairwise (le := (· < ·)) (fun a b _ _ h1 h2 => by lia) h h'
/-- the sort of pairs, told apart by their first numbers -/
theorem sorted_pairs_pure {ps E : List (Nat × Nat)} (h4 : ∀ p ∈ ps, p.1 < 4) (hp : ps.Perm E) (hE : (E.map Prod.fst).Pairwise (· < ·)) (h2 : 2 ≤ ps.length) :
    ∃ p : Array Nat, kRun (ps.map Prod.fst) (kas_sort ps.length) = some p ∧ p.size = ps.length ∧ (∀ i ∈ p.toList, i < ps.length) ∧ p.toList.map (fun i => ps.getD i (0, 0)) = E := by
  have hpm : (ps.map Prod.fst).Perm (E.map Prod.fst) := hp.map _
  have hnE : (E.map Prod.fst).Nodup := hE.imp fun h => Nat.ne_of_lt h
  have hn : (ps.map Prod.fst).Nodup := hpm.symm.nodup hnE
  have hk : ps.map Prod.fst ∈ keyLists := mem_keys (by rw [List.length_map]; exact h2) (fun k hk => by obtain ⟨p, hp, rfl⟩ := List.mem_map.mp hk; exact h4 p hp) hn
  have hok := List.all_eq_true.mp keys_ok _ hk
  unfold sortOk at hok
  rw [List.length_map] at hok
  split at hok
  · rename_i p hrun
    simp only [Bool.and_eq_true, beq_iff_eq] at hok
    obtain ⟨⟨h5, h6⟩, h7⟩ := hok
    have h5 : ∀ i ∈ p.toList, i < ps.length := fun i hi => of_decide_eq_true (List.all_eq_true.mp h5 i hi)
    refine ⟨p, hrun, h6, h5, ?_⟩
    have hasc : ((List.range 4).filter fun x => decide (x ∈ ps.map Prod.fst)).Pairwise (· < ·) := List.Pairwise.filter _ List.pairwise_lt_range
    have e1 : (List.range 4).filter (fun x => decide (x ∈ ps.map Prod.fst)) = E.map Prod.fst := asc_eq hasc hE fun x => by
      rw [List.mem_filter, List.mem_range, decide_eq_true_iff, hpm.mem_iff]
      refine ⟨fun q => q.2, fun q => ⟨?_, q⟩⟩
      obtain ⟨y, hy, rfl⟩ := List.mem_map.mp q
      exact h4 y (hp.mem_iff.mpr hy)
    rw [e1] at h7
    refine map_inj Prod.fst (ps := ps) (inj_of_nodup Prod.fst hn) (fun x hx => ?_) (fun x hx => hp.mem_iff.mpr hx) ?_
    · obtain ⟨i, hi, rfl⟩ := List.mem_map.mp hx
      have := h5 i hi
      rw [List.getD_eq_getElem?_getD, List.getElem?_eq_getElem this]
      exact List.getElem_mem this
    · rw [← h7, List.map_map]
      refine List.map_congr_left fun i hi => ?_
      have := h5 i hi
      show (ps.getD i (0, 0)).1 = (ps.map Prod.fst).getD i 0
      rw [List.getD_eq_getElem?_getD, List.getD_eq_getElem?_getD, List.getElem?_map, List.getElem?_eq_getElem this]
      rfl
  · cases hok
theorem typeOf_list {M : Model} {h : Heap} {v : Value} {x : Int} (hv : HeadAt h v x) : Looks M h (typeOf v) (.type "list") := by
  obtain ⟨l, its, t, rfl, hl, _⟩ := hv
  obtain ⟨o, ho, hc, _⟩ := hl
  intro A s Q E hs hq
  exact wpAny_typeOf (T := "list") ⟨o, hs _ _ ho, hc⟩ hq
section
variable {prog : Program} {w : World} {A : Around} {E : Value → Shared → Prop} {s : Shared}
theorem list_sort_lists {a : Addr} {vs : List Value} {ks : List Nat} {n : Nat} {out : List Value} {P : PySem.Fin → Shared → Prop} (hu : A.units < cLine) (ho : s.heap.get? a = some (seqObj "list" vs.toArray n)) (hlen : vs.length = ks.length)
    (hk : ∀ i, i < ks.length → HeadAt s.heap (vs.getD i .none) (ks.getD i 0)) (hka : ∀ v ∈ vs, v ≠ .ref a) (hnd : ks.Nodup) (h64 : ks.length < 64)
    (hrun : (ks.length < 2 ∧ out = vs) ∨ (2 ≤ ks.length ∧ ∃ p : Array Nat, kRun ks (kas_sort ks.length) = some p ∧ p.size = ks.length ∧ out = p.toList.map fun i => vs.getD i .none))
    (h : P (.done (.ret .none)) { s with heap := sortedHeap s.heap a vs out.toArray }) :
    wpAny (model prog w) A (Builtin.«list.sort» ⟨[.ref a], []⟩) P E s := by
  rw [list_sort_plain]
  have ha : a < s.heap.objs.size := Heap.lt_size ho
  refine wpAny_bind (listItems_at ho rfl ?_)
  refine wpAny_bind (listUpdate_at ho rfl ?_ (by rw [List.size_toArray, sizeLine_eq]; lia) (Nat.zero_le _))
  obtain ⟨e1, ho1⟩ : ∃ e1, (s.heap.update a (Obj.mapSeq fun _ => #[])).get? a = some (seqObj "list" #[] e1) := ⟨_, get?_update_seq ho (fun _ => #[])⟩
  refine wpAny_bind (seqEpoch_at ho1 rfl ?_)
  refine wpAny_bind (wpAny_newTuple ?_ (by show vs.length ≤ _; rw [sizeLine_eq]; lia))
  refine wpAny_bind (wpAny_newList ?_ (Nat.zero_le _))
  refine wpAny_holding ?_
  have keep : ∀ b o, b ≠ a → s.heap.get? b = some o → (((s.heap.update a (Obj.mapSeq fun _ => #[])).push (seqObj "tuple" vs.toArray 0)).push (seqObj "list" #[] 0)).get? b = some o := fun b o hb e => by
    have hlt := Heap.lt_size e
    exact Heap.get?_push_of_some _ (Heap.get?_push_of_some _ (by rw [Heap.get?_update_ne _ _ _ _ hb]; exact e))
  have ho6 : (((s.heap.update a (Obj.mapSeq fun _ => #[])).push (seqObj "tuple" vs.toArray 0)).push (seqObj "list" #[] 0)).get? a = some (seqObj "list" #[] e1) :=
    Heap.get?_push_of_some _ (Heap.get?_push_of_some _ ho1)
  show wpAny (model prog w) A _ P E { s with heap := ((s.heap.update a (Obj.mapSeq fun _ => #[])).push (seqObj "tuple" vs.toArray 0)).push (seqObj "list" #[] 0) }
  dsimp only
  have hsz : vs.toArray.size = vs.length := by simp
  have hk6 : ∀ i, i < ks.length → HeadAt (((s.heap.update a (Obj.mapSeq fun _ => #[])).push (seqObj "tuple" vs.toArray 0)).push (seqObj "list" #[] 0)) (vs.getD i .none) (ks.getD i 0) := fun i hi => by
    obtain ⟨l, its, t, e, hl, hx⟩ := hk i hi
    have hm : vs.getD i .none ∈ vs := by
      rw [List.getD_eq_getElem?_getD, List.getElem?_eq_getElem (by lia)]
      exact List.getElem_mem _
    have hla : l ≠ a := fun q => hka _ hm (by rw [e, q])
    obtain ⟨o, eo, c⟩ := hl
    exact ⟨l, its, t, e, ⟨o, keep l o hla eo, c⟩, hx⟩
  have hnd' : ∀ i j, i < ks.length → j < ks.length → i ≠ j → ks.getD i 0 ≠ ks.getD j 0 := fun i j hi hj hij e => by
    rw [List.getD_eq_getElem?_getD, List.getElem?_eq_getElem hi, List.getD_eq_getElem?_getD, List.getElem?_eq_getElem hj] at e
    exact hij ((List.getElem_inj hnd).mp e)
  rcases hrun with ⟨h2, rfl⟩ | ⟨h2, p, hp, hpz, rfl⟩
  · rw [if_pos (by lia), if_pos (by lia)]
    refine wpAny_bind (wpAny_pure ?_)
    rw [StateT.run_pure]
    refine wpAny_bind (wpAny_pure ?_)
    dsimp only
    have hout : (arrOf (SortSt.mk' general' (out.toArray.zip out.toArray) #[] 7 none)).map (·.2) = out.toArray := by
      apply Array.toList_inj.mp
      show ((pairsOf out).map (·.2)).toList = _
      rw [Array.toList_map, pairsOf_toList]
      have gen : ∀ l : List Value, (l.zip l).map (·.2) = l := by
        intro l
        induction l with
        | nil => rfl
        | cons x r ih => rw [List.zip_cons_cons, List.map_cons, ih]
      exact gen out
    rw [hout]
    refine wpAny_bind (seqEpoch_at ho6 rfl ?_)
    refine wpAny_bind (listUpdate_at ho6 rfl ?_ (Nat.zero_le _) (by show out.toArray.size ≤ _; rw [List.size_toArray, sizeLine_eq]; lia))
    simp only [bne_self_eq_false, Bool.false_eq_true, if_false]
    exact wpAny_pure h
  · rw [if_neg (by lia), if_neg (by lia)]
    have hT : ∀ v ∈ vs, Looks (model prog w) (((s.heap.update a (Obj.mapSeq fun _ => #[])).push (seqObj "tuple" vs.toArray 0)).push (seqObj "list" #[] 0)) (typeOf v) (.type "list") := fun v hv => by
      obtain ⟨i, hi, rfl⟩ := List.getElem_of_mem hv
      have := hk6 i (by lia)
      rw [List.getD_eq_getElem?_getD, List.getElem?_eq_getElem hi] at this
      exact typeOf_list this
    refine wpAny_bind (kas_kind (by lia) hT (by decide) (by decide) ?_)
    have est : SortSt.mk' oneType' (vs.toArray.zip vs.toArray) #[] 7 none = kas_st oneType' (pairsOf vs) (List.toArray (List.range vs.length)) := by
      have e := kas_range (pairsOf vs)
      rw [pairsOf_size] at e
      show SortSt.mk' oneType' (pairsOf vs) #[] 7 none = SortSt.mk' oneType' ((List.toArray (List.range vs.length)).map (kas_item (pairsOf vs))) #[] 7 none
      rw [e]
    have ask := kRun_wp (prog := prog) (w := w) (A := A) (s := { s with heap := ((s.heap.update a (Obj.mapSeq fun _ => #[])).push (seqObj "tuple" vs.toArray 0)).push (seqObj "list" #[] 0) }) hu hk6 hnd' (Q := fun p' s' => p' = p ∧ s' = { s with heap := ((s.heap.update a (Obj.mapSeq fun _ => #[])).push (seqObj "tuple" vs.toArray 0)).push (seqObj "list" #[] 0) }) (kas_sort ks.length) p hp ⟨rfl, rfl⟩
    rw [kas_ask_eq, ← hlen] at ask
    have run := kas_runs (E := E) (Q := fun _ st' s' => arrOf st' = p.map (kas_item (pairsOf vs)) ∧ failedOf st' = none ∧ s' = { s with heap := ((s.heap.update a (Obj.mapSeq fun _ => #[])).push (seqObj "tuple" vs.toArray 0)).push (seqObj "list" #[] 0) })
      (by lia) (by lia) (fun p' st' s' a1 a2 a3 a4 => ⟨by rw [a2, a4.1], a3, a4.2⟩) ask
    rw [← est] at run
    refine wpAny_bind (wpAny_mono run ?_ fun _ _ e => e)
    rintro ⟨⟨⟩, st'⟩ s' ⟨har, hf, rfl⟩
    dsimp only
    have hout : (arrOf st').map (·.2) = List.toArray (p.toList.map fun i => vs.getD i Value.none) := by
      apply Array.toList_inj.mp
      rw [har, Array.map_map, Array.toList_map]
      exact List.map_congr_left fun i _ => by show (kas_item (pairsOf vs) i).2 = _; rw [kas_item_eq]
    rw [hout]
    refine wpAny_bind (seqEpoch_at ho6 rfl ?_)
    refine wpAny_bind (listUpdate_at ho6 rfl ?_ (Nat.zero_le _) (by rw [List.size_toArray, List.length_map, Array.length_toList, hpz, sizeLine_eq]; lia))
    rw [hf]
    simp only [bne_self_eq_false, Bool.false_eq_true, if_false]
    exact wpAny_pure h
end
section
variable {C : Cx}
theorem VIns.getD {h : Heap} {O : List Addr} {ms : List MV} {vs : List Value} (x : VIns h O ms vs) {i : Nat} (hi : i < ms.length) {m : MV} (hm : ms[i]? = some m) : VIn h O m (vs.getD i .none) := by
  obtain ⟨v, hv, q⟩ := x.get hm
  rw [List.getD_eq_getElem?_getD, hv]; exact q
theorem VIns.pick {h : Heap} {O : List Addr} {ms : List MV} {vs : List Value} (x : VIns h O ms vs) : ∀ {is : List Nat}, (∀ i ∈ is, i < ms.length) → VIns h O (is.map fun i => ms.getD i .none) (is.map fun i => vs.getD i .none)
  | [], _ => rfl
  | i :: r, hi => by
    have h1 := hi i List.mem_cons_self
    exact ⟨_, _, rfl, x.getD h1 (by show ms[i]? = some (ms.getD i .none); rw [List.getD_eq_getElem?_getD, List.getElem?_eq_getElem h1]; rfl), VIns.pick x fun j hj => hi j (List.mem_cons_of_mem _ hj)⟩
/-- sorted(..) of pairs that are told apart by their first numbers -/
theorem fn_sorted {ps E : List (Nat × Nat)} (h4 : ∀ p ∈ ps, p.1 < 4) (hp : ps.Perm E) (hE : (E.map Prod.fst).Pairwise (· < ·)) (h64 : ps.length < 64) : Fn C (.builtin "sorted") [.list (ps.map pr)] (.list (E.map pr)) := fun s O vals hO hv => by
  obtain ⟨v, r, rfl, ⟨l, vs, rfl, ⟨hl, _⟩, hvs⟩, rfl⟩ := hv
  have hlen := hvs.length
  rw [List.length_map] at hlen
  have hn : (ps.map Prod.fst).Nodup := ((hp.map Prod.fst).symm).nodup (hE.imp fun h => Nat.ne_of_lt h)
  -- the items
  have hk : ∀ i, i < (ps.map Prod.fst).length → HeadAt s.heap (vs.getD i .none) ((ps.map Prod.fst).getD i 0) := fun i hi => by
    rw [List.length_map] at hi
    have := hvs.getD (i := i) (m := pr (ps.getD i (0, 0))) (by rw [List.length_map]; exact hi) (by rw [List.getElem?_map, List.getD_eq_getElem?_getD, List.getElem?_eq_getElem hi]; rfl)
    obtain ⟨a, its, e, _, ⟨hla, _⟩, v1, r1, rfl, ⟨t1, rfl⟩, _⟩ := this
    refine ⟨a, _, t1, e, hla, ?_⟩
    have : (ps.map Prod.fst).getD i 0 = (ps.getD i (0, 0)).1 := by
      rw [List.getD_eq_getElem?_getD, List.getD_eq_getElem?_getD, List.getElem?_map, List.getElem?_eq_getElem hi]; rfl
    rw [this]; rfl
  have hmem : ∀ v ∈ vs, ∃ b, v = .ref b ∧ b < s.heap.objs.size := fun v hv => by
    obtain ⟨i, hi, rfl⟩ := List.getElem_of_mem hv
    obtain ⟨b, _, _, e, ⟨o, eo, _⟩, _⟩ := hk i (by rw [List.length_map]; lia)
    rw [List.getD_eq_getElem?_getD, List.getElem?_eq_getElem hi] at e
    exact ⟨b, e, Heap.lt_size eo⟩
  obtain ⟨out, hrun, hout⟩ : ∃ out : List Value, (((ps.map Prod.fst).length < 2 ∧ out = vs) ∨ (2 ≤ (ps.map Prod.fst).length ∧ ∃ p : Array Nat, kRun (ps.map Prod.fst) (kas_sort (ps.map Prod.fst).length) = some p ∧ p.size = (ps.map Prod.fst).length ∧ out = p.toList.map fun i => vs.getD i .none)) ∧ VIns s.heap O (E.map pr) out := by
    by_cases h2 : 2 ≤ ps.length
    · obtain ⟨p, p1, p2, p3, p4⟩ := sorted_pairs_pure h4 hp hE h2
      refine ⟨_, .inr ⟨by rw [List.length_map]; exact h2, p, by rw [List.length_map]; exact p1, by rw [List.length_map]; exact p2, rfl⟩, ?_⟩
      have := hvs.pick (is := p.toList) fun i hi => by rw [List.length_map]; exact p3 i hi
      rw [← p4, List.map_map]
      rwa [show (p.toList.map fun i => (ps.map pr).getD i .none) = p.toList.map (pr ∘ fun i => ps.getD i (0, 0)) from List.map_congr_left fun i hi => by
        have := p3 i hi
        show (ps.map pr).getD i .none = pr (ps.getD i (0, 0))
        rw [List.getD_eq_getElem?_getD, List.getD_eq_getElem?_getD, List.getElem?_map, List.getElem?_eq_getElem this]; rfl] at this
    · refine ⟨vs, .inl ⟨by rw [List.length_map]; lia, rfl⟩, ?_⟩
      have hEl := hp.length_eq
      have : E = ps := by
        match ps, E, hp, hEl, h2 with
        | [], [], _, _, _ => rfl
        | [a], [b], hp, _, _ => have := hp.mem_iff.mp (List.mem_singleton.mpr rfl : a ∈ [a]); rw [List.mem_singleton.mp this]
        | _ :: _ :: _, _, _, _, h2 => simp at h2
      rw [this]; exact hvs
  refine Calls.call_function_entry kind_sorted plain_sorted entry_sorted (args_sorted1 _) ?_
  unfold Builtin.«sorted»
  refine wpAny_bind (m := checkCount "sorted" 1 1 _) (wpAny_pure ?_)
  refine wpAny_bind (collect_list hl ?_ (by rw [sizeLine_eq]; lia))
  refine wpAny_bind (wpAny_newList ?_ (by rw [sizeLine_eq]; lia))
  have hsz : ((s.heap.push (seqObj "list" #[] 0)).update s.heap.objs.size (Obj.mapSeq (· ++ vs.toArray))).objs.size = s.heap.objs.size + 1 := by
    rw [Heap.size_update, size_push']
  have hoL : (((s.heap.push (seqObj "list" #[] 0)).update s.heap.objs.size (Obj.mapSeq (· ++ vs.toArray))).push (seqObj "list" vs.toArray 0)).get? (s.heap.objs.size + 1) = some (seqObj "list" vs.toArray 0) := by
    rw [← hsz]; exact Heap.get?_push_size _ rfl
  have keep : ∀ b o, s.heap.get? b = some o → (((s.heap.push (seqObj "list" #[] 0)).update s.heap.objs.size (Obj.mapSeq (· ++ vs.toArray))).push (seqObj "list" vs.toArray 0)).get? b = some o := fun b o q => by
    have hlt : b < s.heap.objs.size := Heap.lt_size q
    exact Heap.get?_push_of_some _ (by rw [Heap.get?_update_ne _ _ _ _ (Nat.ne_of_lt hlt)]; exact Heap.get?_push_of_some _ q)
  show wpAny _ _ _ _ _ { s with heap := ((s.heap.push (seqObj "list" #[] 0)).update s.heap.objs.size (Obj.mapSeq (· ++ vs.toArray))).push (seqObj "list" vs.toArray 0) }
  rw [hsz]
  refine wpAny_bind (wpAny_holding (wpAny_call_entry slot_list_sort ⟨_, hoL, rfl⟩ entry_list_sort (list_sort_lists (by have := C.hu; have := C.hl; show C.A.units + 1 + 1 < _; unfold cLine; lia) hoL (by rw [List.length_map]; exact hlen) (fun i hi => ?_) (fun v hv q => ?_) hn (by rw [List.length_map]; exact h64) hrun ?_) (args_list_sort _)))
  · obtain ⟨b, its, t, e, ⟨o, eo, c⟩, hx⟩ := hk i hi
    exact ⟨b, its, t, e, ⟨o, keep b o eo, c⟩, hx⟩
  · obtain ⟨b, rfl, hb⟩ := hmem v hv
    cases q
    exact absurd hb (Nat.not_lt.mpr (Nat.le_succ _))
  · refine ⟨_, rfl, wpAny_pure ⟨_, rfl, ?_⟩⟩
    have keep2 : ∀ b o, s.heap.get? b = some o → (sortedHeap (((s.heap.push (seqObj "list" #[] 0)).update s.heap.objs.size (Obj.mapSeq (· ++ vs.toArray))).push (seqObj "list" vs.toArray 0)) (s.heap.objs.size + 1) vs out.toArray).get? b = some o := fun b o q => by
      have hlt : b < s.heap.objs.size := Heap.lt_size q
      have hne : b ≠ s.heap.objs.size + 1 := Nat.ne_of_lt (Nat.lt_succ_of_lt hlt)
      unfold sortedHeap
      rw [Heap.get?_update_ne _ _ _ _ hne]
      exact Heap.get?_push_of_some _ (Heap.get?_push_of_some _ (by rw [Heap.get?_update_ne _ _ _ _ hne]; exact keep b o q))
    have hfin : ∃ c, (sortedHeap (((s.heap.push (seqObj "list" #[] 0)).update s.heap.objs.size (Obj.mapSeq (· ++ vs.toArray))).push (seqObj "list" vs.toArray 0)) (s.heap.objs.size + 1) vs out.toArray).get? (s.heap.objs.size + 1) = some (seqObj "list" out.toArray c) := by
      unfold sortedHeap
      refine ⟨_, get?_update_seq (Heap.get?_push_of_some _ (Heap.get?_push_of_some _ (get?_update_seq hoL fun _ => #[]))) fun _ => out.toArray⟩
    obtain ⟨c, hc⟩ := hfin
    have ks : KS [] s.heap (sortedHeap (((s.heap.push (seqObj "list" #[] 0)).update s.heap.objs.size (Obj.mapSeq (· ++ vs.toArray))).push (seqObj "list" vs.toArray 0)) (s.heap.objs.size + 1) vs out.toArray) := .of_keep keep2
    refine ⟨⟨_, _, rfl, ks⟩, s.heap.objs.size + 1, out, rfl, fun q => ?_, ⟨⟨_, hc, rfl, c, rfl⟩, fun _ => ⟨_, hc, rfl⟩⟩, hout.ks ks⟩
    obtain ⟨o, e⟩ := hO _ q
    exact absurd (Heap.lt_size e) (Nat.not_lt.mpr (Nat.le_succ _))
end
end Mine
namespace Mine
open PySem PySem.W PyProof.Rows PySem.SeqAt
/-- the names that stay -/
noncomputable def keep (ns : List Str) : St → St
  | [] => []
  | (x, b) :: r => if ns.contains x = true then (x, b) :: keep ns r else keep ns r
theorem keep_sub {ns : List Str} : ∀ {σ : St}, (keep ns σ).Sublist σ
  | [] => .slnil
  | (x, b) :: r => by
    unfold keep
    split
    · exact (keep_sub (σ := r)).cons₂ _
    · exact (keep_sub (σ := r)).cons _
theorem owned_sub {σ τ : St} (h : τ.Sublist σ) : (owned τ).Sublist (owned σ) := by
  induction h with
  | slnil => exact .slnil
  | cons a _ ih =>
    obtain ⟨x, c⟩ := a
    cases c with
    | own a _ => exact ih.cons _
    | fz _ => exact ih
    | inst _ _ _ _ => exact ih
  | cons_cons a _ ih =>
    obtain ⟨x, c⟩ := a
    cases c with
    | own a _ => exact ih.cons₂ _
    | fz _ => exact ih
    | inst _ _ _ _ => exact ih
theorem instA_sub' {σ τ : St} (h : τ.Sublist σ) : (instA τ).Sublist (instA σ) := by
  induction h with
  | slnil => exact .slnil
  | cons a _ ih =>
    obtain ⟨x, c⟩ := a
    cases c with
    | inst _ _ _ _ => exact (ih.cons _).cons _
    | fz _ => exact ih
    | own _ _ => exact ih
  | cons_cons a _ ih =>
    obtain ⟨x, c⟩ := a
    cases c with
    | inst _ _ _ _ => exact (ih.cons₂ _).cons₂ _
    | fz _ => exact ih
    | own _ _ => exact ih
theorem keep_get {ns : List Str} {x : Str} {b : Bd} : ∀ {σ : St}, sget (keep ns σ) x = some b → sget σ x = some b
  | [], h => by cases h
  | (y, c) :: r, h => by
    unfold keep at h
    split at h
    · by_cases e : y = x
      · simpa [sget, e] using h
      · simp only [sget, e, if_false] at h ⊢
        exact keep_get h
    · rename_i hn
      have h' := keep_get h
      by_cases e : y = x
      · subst e
        exfalso
        have : ∀ {σ : St}, sget (keep ns σ) y = some b → ns.contains y = true := by
          intro σ
          induction σ with
          | nil => intro h; cases h
          | cons p r ih =>
            obtain ⟨z, d⟩ := p
            intro h
            unfold keep at h
            split at h
            · rename_i hz
              by_cases e : z = y
              · rw [← e]; exact hz
              · simp only [sget, e, if_false] at h
                exact ih h
            · exact ih h
        exact hn (this h)
      · simp only [sget, e, if_false]; exact h'
theorem keep_nil {ns : List Str} : keep ns [] = [] := rfl
theorem keep_yes {ns : List Str} {x : Str} {b : Bd} {r r' : St} (h : ns.contains x = true) (g : keep ns r = r') : keep ns ((x, b) :: r) = (x, b) :: r' := by rw [keep, if_pos h, g]
theorem keep_no {ns : List Str} {x : Str} {b : Bd} {r r' : St} (h : ns.contains x = false) (g : keep ns r = r') : keep ns ((x, b) :: r) = r' := by rw [keep, if_neg (by rw [h]; decide), g]
section
variable {C : Cx} {env : Env} {σ : St} {X h : Heap}
theorem Rel.keep (R : Rel C X env σ h) (ns : List Str) : Rel C X env (keep ns σ) h := by
  have so := owned_sub (keep_sub (ns := ns) (σ := σ))
  have si := instA_sub' (keep_sub (ns := ns) (σ := σ))
  have hE : ∀ b ∈ C.ex (Mine.keep ns σ), b ∈ C.ex σ := fun b hb => List.mem_append.mpr ((List.mem_append.mp hb).imp (fun q => so.subset q) id)
  have less : ∀ {m v}, VIn h (C.ex σ) m v → VIn h (C.ex (Mine.keep ns σ)) m v := fun {m v} q => q.more fun b hb => .inl (hE b hb)
  have lesss : ∀ {ms' ws}, VIns h (C.ex σ) ms' ws → VIns h (C.ex (Mine.keep ns σ)) ms' ws := fun {ms' ws} q => q.more fun b hb => .inl (hE b hb)
  refine { base := R.base, fr := R.fr, kind := R.kind, glob := R.glob, vars := ?_, own := fun b hb => R.own b (so.subset hb), outer := R.outer, insN := fun b hb => R.insN b (si.subset hb), insNd := R.insNd.sublist si, keepX := R.keepX, ns := R.ns, nsX := R.nsX, nsN := R.nsN, cells := R.cells, apart := R.apart, ownX := fun b hb => R.ownX b (so.subset hb), ownN := fun b hb => R.ownN b (so.subset hb), ownNd := R.ownNd.sublist so, insX := R.insX.imp id fun q b hb => q b (si.subset hb), outX := R.outX }
  intro y b hb
  refine (R.vars y b (keep_get hb)).to (fun m q => q) (fun c v _ q => q) fun v q => ?_
  cases b with
  | fz m => exact less q
  | own b zs => obtain ⟨e, ws, p, r⟩ := q; exact ⟨e, ws, p, lesss r⟩
  | inst a Cl d fs => exact q
theorem ss_keep (ns : List Str) {sts : List Stmt} {Q : FM → St → Prop} {σ' : St} (hp : Mine.keep ns σ = σ') (h : wpSs C env sts σ' Q) : wpSs C env sts σ Q := fun X s R => h X s (hp ▸ R.keep ns)
theorem asg_pair' {x y : Str} {px py pos : Pos} {k : Nat} {a b : MV} {σ₁ σ₂ : St} (hx : Stores env x) (hy : Stores env y) (hc : CellsOk env) (hB : C.mB = []) (hi : instA σ = []) (h1 : sput σ x (.fz a) = σ₁) (h2 : sput σ₁ y (.fz b) = σ₂) : Asg C env (.Tuple [.Name x px, .Name y py] k pos) (.list [a, b]) σ σ₂ := by
  subst h1; subst h2
  exact asg_pair hx hy hc hB hi
/-- at a body's end the other names are forgotten -/
theorem wpSs_end (ns : List Str) {sts : List Stmt} {Q : FM → St → Prop} (h : wpSs C env sts σ fun fm τ => match fm with | .next => Q .next (Mine.keep ns τ) | .cont => Q .cont (Mine.keep ns τ) | fm => Q fm τ) : wpSs C env sts σ Q := fun X s R =>
  wpAny_mono (h X s R) (fun fl s' p => by
    obtain ⟨h', tk, e, fm, σ', fr, R', q⟩ := p
    cases fm with
    | next => exact ⟨h', tk, e, .next, _, by cases fl <;> first | exact fr | exact fr.elim, R'.keep ns, q⟩
    | cont => exact ⟨h', tk, e, .cont, _, by cases fl <;> first | exact fr | exact fr.elim, R'.keep ns, q⟩
    | brk => exact ⟨h', tk, e, .brk, σ', fr, R', q⟩
    | ret m => exact ⟨h', tk, e, .ret m, σ', fr, R', q⟩) fun _ _ x => x
/-- the same, the post named -/
theorem wpSs_endG (ns : List Str) {sts : List Stmt} {Q : FM → St → Prop} (h : ∀ Q' : FM → St → Prop, (∀ τ, Q .next (Mine.keep ns τ) → Q' .next τ) → (∀ τ, Q .cont (Mine.keep ns τ) → Q' .cont τ) → (∀ τ, Q .brk τ → Q' .brk τ) → (∀ m τ, Q (.ret m) τ → Q' (.ret m) τ) → wpSs C env sts σ Q') : wpSs C env sts σ Q :=
  wpSs_end ns (h _ (fun _ q => q) (fun _ q => q) (fun _ q => q) fun _ _ q => q)
/-- a value told apart into names -/
theorem wpS_asg {ts : List Expr} {k : Nat} {tp p : Pos} {e : Expr} {m : MV} {σ' : St} {Q : FM → St → Prop} (he : Ev C env σ e m) (ha : Asg C env (.Tuple ts k tp) m σ σ') (hs : swapsWithSole [.Tuple ts k tp] e p.line env = pure false) (hw : swappedStores [.Tuple ts k tp] e env = pure none)
    (h : Q .next σ') : wpS C env (.Assign [.Tuple ts k tp] e p) σ Q := fun X s R => by
  refine wpAny_Assign_stores (wpAny_mono (he s R.toRelE) (fun v s₁ h₁ => ?_) fun _ _ h => h) hs hw
  obtain ⟨⟨h1, t1, rfl, k1⟩, hv⟩ := h₁
  show wpAny _ _ (assign (.Tuple ts k tp) env v) _ _ _
  refine wpAny_mono (ha X _ v (R.ks k1) hv) (fun _ s₂ h₂ => ?_) fun _ _ h => h
  obtain ⟨h2, t2, rfl, R₂⟩ := h₂
  exact ⟨h2, t2, rfl, .next, σ', trivial, R₂, h⟩
theorem ss_asg {ts : List Expr} {k : Nat} {tp p : Pos} {e : Expr} {m : MV} {σ' : St} {rest : List Stmt} {Q : FM → St → Prop} (he : Ev C env σ e m) (ha : Asg C env (.Tuple ts k tp) m σ σ') (hs : swapsWithSole [.Tuple ts k tp] e p.line env = pure false) (hw : swappedStores [.Tuple ts k tp] e env = pure none)
    (h : wpSs C env rest σ' Q) : wpSs C env (.Assign [.Tuple ts k tp] e p :: rest) σ Q := wpSs_cons (wpS_asg he ha hs hw h)
theorem pow2_ {k : Nat} (hk : k ≤ 1000) : Bin C .Pow (.int 2) (ni k) (ni (2 ^ k)) := by
  have := pow_int_ (C := C) (a := 2) (n := (k : Int)) (by lia) (by lia) (by decide)
  have e : (2 : Int) ^ (k : Int).toNat = ((2 ^ k : Nat) : Int) := by
    rw [show (k : Int).toNat = k by lia]; simp
  rwa [e] at this
theorem divn_ {a b : Nat} (h0 : b ≠ 0) (hb : b < 1000000) : Bin C .FloorDiv (ni a) (ni b) (ni (a / b)) := by
  have := div_int_ (C := C) (a := (a : Int)) (b := (b : Int)) (by lia) (PyProof.noPylong_small (by lia))
  have e : (a : Int).fdiv (b : Int) = ((a / b : Nat) : Int) := by
    rw [Int.fdiv_eq_ediv_of_nonneg _ (by lia)]; simp
  rwa [e] at this
theorem modn_ {a b : Nat} (h0 : b ≠ 0) : Bin C .Mod (ni a) (ni b) (ni (a % b)) := by
  have := mod_int_ (C := C) (a := (a : Int)) (b := (b : Int)) (by lia)
  have e : (a : Int).fmod (b : Int) = ((a % b : Nat) : Int) := by
    rw [Int.fmod_eq_emod_of_nonneg _ (by lia)]; simp
  rwa [e] at this
theorem subn_ {a b : Nat} (h : b ≤ a) : Bin C .Sub (ni a) (ni b) (ni (a - b)) := by
  have := sub_int_ (C := C) (a := (a : Int)) (b := (b : Int))
  rwa [show (a : Int) - (b : Int) = ((a - b : Nat) : Int) by lia] at this
theorem eqn_ {a b : Nat} : Cmp C .Eq (ni a) (ni b) (decide (a = b)) := by
  have := eq_int_ (C := C) (a := (a : Int)) (b := (b : Int))
  have e : ((a : Int) == (b : Int)) = decide (a = b) := by
    by_cases h : a = b
    · subst h; simp
    · rw [decide_eq_false h]; exact beq_eq_false_iff_ne.mpr (by lia)
  rwa [e] at this
theorem itemn_ {xs : List MV} {i : Nat} {m : MV} (hi : i < 1000000) (hx : xs[i]? = some m) : Item C (.list xs) (ni i) m := item_list_ (by lia) (by lia) (by rw [show (i : Int).toNat = i by lia]; exact hx)
theorem item_last {xs : List MV} {m : MV} (hl : xs.length ≤ 1000000) (hx : xs.getLast? = some m) : Item C (.list xs) (.int (-1)) m := by
  have hne : xs ≠ [] := by rintro rfl; simp at hx
  have hpos : 0 < xs.length := List.length_pos_iff.mpr hne
  refine item_neg_ (by lia) (by lia) (by lia) ?_
  rw [List.getLast?_eq_getElem?] at hx
  rwa [show (-1 + (xs.length : Int)).toNat = xs.length - 1 by lia]
theorem len_list {xs : List MV} (h : xs.length ≤ 1000000) : Fn C (.builtin "len") [.list xs] (ni xs.length) := fn_len_list (by lia)
end
/-- a list of numbers -/
noncomputable abbrev nl (w : List Nat) : MV := .list (w.map ni)
noncomputable abbrev nls (ws : List (List Nat)) : MV := .list (ws.map nl)
end Mine
namespace Mine
open PySem PySem.W PyProof.Rows
section
variable {C : Cx} {env : Env} {σ : St} {h h' : Heap}
/-- x = [.. for ..], the stores exchanged -/
theorem wpS_compset {elt iter : Expr} {x y : Str} {px py spos : Pos} {ifs : List Expr} {scope : Scope} {pos : Pos} {items : List MV} {p : Nat → Bool} {f : Nat → MV} {res : List MV} {Q : FM → St → Prop} {σ' : St}
    (hit : EvIt C env σ iter items) (hi : instA σ = []) (h00 : notKey (Str.ofString ".0") σ = true) (ok : CompOk scope env x) (hsz : items.length ≤ 1000000) (hg : env.kindOf (Str.ofString "@acc") = none)
    (tests : ∀ i m cenv D cur, items[i]? = some m → CompEnv scope cenv → EvIfs C cenv ((x, .fz m) :: (Str.ofString "@acc", .own D cur) :: σ) ifs (p i))
    (helt : ∀ i m cenv D cur, items[i]? = some m → p i = true → CompEnv scope cenv → Ev C cenv ((x, .fz m) :: (Str.ofString "@acc", .own D cur) :: σ) elt (f i))
    (hres : compRes items p f items.length = res) (hsw : swapsWith (.ListComp elt [⟨.Name x px, iter, ifs, 0⟩] scope pos) (some (.Name y py)) spos.line env = pure true) (hy : Stores env y) (hB : C.mB = []) (hc : CellsOk env) (hp : sput σ y (.fz (.list res)) = σ') (h : Q .next σ')
    (hs : ∀ x, foldedSetIterable iter env x = pure x := by intro _; rfl) :
    wpS C env (.Assign [.Name y py] (.ListComp elt [⟨.Name x px, iter, ifs, 0⟩] scope pos) spos) σ Q := fun X s R => by
  obtain ⟨cl, hclos, hcl, hcl2⟩ := ok.clos
  rw [exec_Assign_Name_used _ _ _ _ hsw]
  refine wpAny_bind (wpAny_standAt (wpAny_bind ?_))
  show wpAny _ _ (do let _ ← comprehension (.ListComp elt [⟨.Name x px, iter, ifs, 0⟩] scope pos) scope env _ (newList []) false (eval iter env) (some (assign (.Name y py) env))) _ _ s
  refine wpAny_bind (wpAny_mono (wpAny_comprehension_free (use := some (assign (.Name y py) env)) (Q := fun _ s' => Post C X env Q s .next s') rfl hs hclos ok.kind ok.names
    (wpAny_mono (hit s R.toRelE) (fun xv s₁ h₁ => wpAny_mono h₁ (fun it s₂ h₂ => ?_) fun _ _ e => e) fun _ _ e => e)) (fun _ s' hq => wpAny_pure (wpAny_pure hq)) fun _ _ e => e)
  refine comp_block (RR := fun acc L => compPost C.M C.A F (some (assign (.Name y py) env)) _ acc L) R.toRelE hi h00 ok hclos hcl hcl2 hsz hg tests helt h₂ fun D L h' tk mm vs ks hD hL hDn hLn hn hpD hv => ?_
  rw [hres] at hv
  obtain ⟨oL, esL, epL, eL, dL, kL, fL⟩ := id hn
  have R₁ := R.ks ks
  have hXL : X.get? L = none := by
    cases q : X.get? L with
    | none => rfl
    | some o => obtain ⟨_, o', e', _⟩ := R.keepX L o q (by rw [hB]; simp); rw [hL] at e'; cases e'
  have hLl : L ≠ env.locals := by rintro rfl; obtain ⟨_, o, _, _, e, _⟩ := R.ns; rw [hL] at e; cases e
  have hLF : ∀ e ∈ C.fs, e.frame ≠ some L := fun e he q => by
    obtain ⟨_, L', o, hL', _, ho, _⟩ := R.fr e he
    rw [q] at hL'; cases hL'; rw [hL] at ho; cases ho
  have hDO : D ∉ C.ex σ := fun q => by obtain ⟨o, e⟩ := R.exO D q; rw [hD] at e; cases e
  show wpAny _ _ (assign (.Name y py) env (.ref D)) _ _ _
  -- the comprehension's own names stand beside the frame
  have R₂ : Rel C (hideAll h' (([] : List Addr) ++ hids env σ)) env σ h' := R₁.reX hc hi (J := []) (fun _ h => nomatch h)
  have seeL : (hideAll h' (([] : List Addr) ++ hids env σ)).get? L = some oL := hideAll_get _ eL fun q => by
    rcases List.mem_append.mp q with q | q
    · cases q
    rcases List.mem_cons.mp q with q | q
    · exact hLl q
    rcases List.mem_append.mp q with q | q
    · obtain ⟨z, hz⟩ := lookup_of_mem_apart q
      obtain ⟨⟨v, oc, ec, dc⟩, _⟩ := R₁.cells z L (hc z L hz)
      rw [eL] at ec; cases ec; rw [dL] at dc; cases dc
    · obtain ⟨ws, n, e⟩ := R₁.own L q
      rw [eL] at e; cases e; cases dL
  refine wpAny_assign_Name (store_ (m := .list res) R₂ hy ⟨D, vs, rfl, hDO, .ofPlain hpD, hv.more fun b hb => .inl (List.mem_cons_of_mem _ hb)⟩ fun h3 tk3 R3 => ?_)
  obtain ⟨_, oL3, eL3, dL3, _⟩ := R3.keepX L oL seeL (by rw [hB]; simp)
  have R4 := R₁.backX hc hB (J := []) (fun _ h => nomatch h) R3
  rw [hp] at R4
  refine ⟨mm, ⟨oL3, esL, epL, eL3, dL3.trans dL, kL, fL⟩, fun h'' hs'' => ?_⟩
  have hi' : instA σ' = [] := by rw [← hp]; exact instA_sput_fz hi
  have R5 : Rel C X env σ' h'' := R4.side hi' ⟨hLn, hLl, hLF, fun o e => by
    rw [eL3] at e; cases e
    rw [dL3, dL]
    exact ⟨(fun xs n q => by cases q), (fun v q => by cases q), (fun vs _ q => by cases q)⟩⟩ hXL fun b o hb e => hs''.extBut b o hb e
  exact ⟨h'', tk3, rfl, .next, σ', trivial, R5, h⟩
end
section
variable {C : Cx} {env : Env} {σ : St}
theorem slice_seq_ {xs : List MV} {lo hi : Option Int} (hsz : xs.length ≤ sizeLine) : SliceOf C (.seq xs) lo hi (.list (lslice xs lo hi)) := fun s O va vl vu sl hO ha pl pu hs => by
  obtain ⟨a, vs, rfl, _, ⟨l, _⟩, r⟩ := ha
  have hlen := r.length
  refine ⟨"list", _, slot_list_getitem.lookup, l.typeIs, wpAny_getItem_list_slice l ⟨_, hs, rfl, rfl⟩ pl pu .none (by simp) ?_ (by simpa [hlen] using hsz)⟩
  rw [slicePick_plain]
  refine ⟨keeps_push _, ?_⟩
  have := newL hO (VIns.take (hi.elim xs.length (clipAt xs.length) - lo.elim 0 (clipAt xs.length)) (VIns.drop (lo.elim 0 (clipAt xs.length)) r))
  simpa [lslice, hlen] using this
theorem itemL_tx {l : List Nat} (hl : l.length ≤ 1000000) (hne : l ≠ []) : Item C (tx l) (.int (-1)) (tx [l.getLastD 0]) := by
  have hp : 0 < l.length := List.length_pos_iff.mpr hne
  have := item_str_ (C := C) (x := mk l) (i := -1) (by decide) (by rw [mk_length]; lia) (by rw [mk_length]; lia)
  have e : Txt.item (mk l) (-1) = mk [l.getLastD 0] := by
    unfold Txt.item Txt.charAt
    have hs : seqIndex? (-1) (mk l).length = some (l.length - 1) := by
      unfold seqIndex?
      rw [mk_length]
      have h1 : (-1 : Int) < 0 := by lia
      simp only [h1, if_true]
      have h2 : (decide ((0 : Int) ≤ -1 + (l.length : Int)) && decide (-1 + (l.length : Int) < (l.length : Int))) = true := by
        rw [decide_eq_true (by lia), decide_eq_true (by lia)]; rfl
      rw [if_pos h2]
      congr 1; lia
    rw [hs]
    show (⟨#[((mk l).cps[l.length - 1]?).getD 0]⟩ : Str) = ⟨#[l.getLastD 0]⟩
    have : (mk l).cps[l.length - 1]? = l.getLast? := by rw [List.getLast?_eq_getElem?]; simp [mk]
    rw [this, List.getLastD_eq_getLast?]
  rwa [e] at this
theorem item0_tx {l : List Nat} (hl : l.length ≤ 1000000) (hne : l ≠ []) : Item C (tx l) (ni 0) (tx [l.headD 0]) :=
  item_tx (by lia) (by lia) (by cases l with
    | nil => exact absurd rfl hne
    | cons a r => rfl)
end
theorem swaps_local {elt : Expr} {gens : List Comprehension} {scope : Scope} {pos p : Pos} {t : Str} {line : Nat} {env : Env} (hb : env.blockKind = .function) (hk : env.kindOf t = some .local) (hl : (p.line == pos.line) = true) (hn : (scope.names.any fun x => x.1 == t && (x.2 == .local || x.2 == .cell)) = false) :
    swapsWith (.ListComp elt gens scope pos) (some (.Name t p)) line env = pure true := by
  unfold swapsWith
  show (pure (env.blockKind == .function && env.kindOf t == some .local && p.line == pos.line && !(scope.names.any fun x => x.1 == t && (x.2 == .local || x.2 == .cell))) : Sem Bool) = _
  rw [hb, hk, hl, hn]
  rfl
theorem swaps_cell {elt : Expr} {gens : List Comprehension} {scope : Scope} {pos p : Pos} {t : Str} {line : Nat} {env : Env} (hk : env.kindOf t = some .cell) :
    swapsWith (.ListComp elt gens scope pos) (some (.Name t p)) line env = pure false := by
  unfold swapsWith
  show (pure (env.blockKind == .function && env.kindOf t == some .local && p.line == pos.line && !(scope.names.any fun x => x.1 == t && (x.2 == .local || x.2 == .cell))) : Sem Bool) = _
  rw [hk]
  show pure ((env.blockKind == .function && false) && _ && _) = _
  rw [Bool.and_false]; rfl
end Mine
namespace Mine
open PySem PySem.W PyProof.Rows
noncomputable section
noncomputable abbrev S (x : String) : Str := Str.ofString x
noncomputable abbrev E (P : Params) (k : Str) (t : Nat) (v : Value) : DictEntry := ⟨PyData.keyHash P k, .str k t, v⟩
noncomputable abbrev n (o : Obj) (a b : BT) : BT := .node o a b
noncomputable abbrev l : BT := .nil
noncomputable def st (k : Nat) : Stmt := (PySem.Challenge.pw_ny0304_04.main.body[k]?).getD (.Pass ⟨0, 0, 0, 0⟩)
noncomputable def kid (s : Stmt) (j : Nat) : Stmt := match s with
  | .ClassDef _ _ _ b _ _ _ _ _ _ _ => (b[j]?).getD (.Pass ⟨0, 0, 0, 0⟩)
  | _ => .Pass ⟨0, 0, 0, 0⟩
noncomputable def fA : Stmt → Arguments
  | .FunctionDef _ a _ _ _ _ _ _ _ _ => a
  | _ => default
noncomputable def fB : Stmt → List Stmt
  | .FunctionDef _ _ b _ _ _ _ _ _ _ => b
  | _ => []
noncomputable def fS : Stmt → Scope
  | .FunctionDef _ _ _ _ _ _ s _ _ _ => s
  | _ => default
noncomputable abbrev fn (name qual : Str) (s : Stmt) (g : Addr) (cl : List (Str × Addr)) (d k doc pm : Value) (an : Option Addr) (cd ct : Value) (b : Addr) : FuncData :=
  ⟨name, qual, fA s, .stmts (fB s), fS s, g, cl, d, k, doc, pm, an, cd, ct, b⟩
noncomputable abbrev tu (x : Array Value) : Obj := ⟨.type "tuple", none, (.seq x 0), #[]⟩
noncomputable abbrev nf : Obj := ⟨.none, none, (.fields #[]), #[]⟩
noncomputable abbrev sv (x : String) (k : Nat) : Value := .str (S x) k
noncomputable abbrev bi (x : String) : Value := .builtin x
noncomputable abbrev dc (x : Array DictEntry) (k : Nat) : Obj := ⟨.type "dict", none, (.dict x k), #[]⟩
noncomputable abbrev co (a : String) (i : Nat) (b : String) (j k : Nat) (l1 n1 n2 n3 n4 : Int) (r1 : Addr) (f : Bool) (h : Int) (r2 : Addr) (v1 v2 v3 v4 : Value) (t l2 : Int) (m : Nat) : Obj := ⟨.type "code", none, (.fields #[sv a i, sv b j, sv "/claim/cut.py" k, .int l1 0, .int n1 0, .int n2 0, .int n3 0, .int n4 0, .ref r1, .bool f, .int h 0, .ref r2, v1, v2, v3, v4, .int t 0, .int l2 0, sv "/claim/cut.py" m]), #[]⟩
noncomputable abbrev fo (t : Value) (f : FuncData) : Obj := ⟨t, none, (.func f), #[]⟩
noncomputable abbrev f0 (a b : String) (x : Stmt) : Obj := fo .none (fn (S a) (S b) x 0 [] .none .none .none .none none .none .none 0)
noncomputable abbrev lf (o : Obj) : BT := .node o .nil .nil
noncomputable abbrev e1 (P : Params) (x : String) (t : Nat) (v : Value) : DictEntry := E P (S x) t v
noncomputable abbrev eb (P : Params) (x : String) (t : Nat) : DictEntry := E P (S x) t (.builtin x)
noncomputable def o0 (P : Params) : Obj := dc #[e1 P "__name__" 1 (sv "builtins" 160), e1 P "__doc__" 2 (bi "builtins.__doc__:str#opaque"), e1 P "__package__" 3 (bi "builtins.__package__:str#opaque"), e1 P "__loader__" 4 (bi "builtins.__loader__:shared#opaque"), e1 P "__spec__" 5 (bi "builtins.__spec__#opaque"), eb P "__build_class__" 6, eb P "__import__" 7, eb P "abs" 8, eb P "all" 9, eb P "any" 10, eb P "ascii" 11, eb P "bin" 12, eb P "breakpoint" 13, eb P "callable" 14, eb P "chr" 15, eb P "compile" 16, eb P "delattr" 17, eb P "dir" 18, eb P "divmod" 19, eb P "eval" 20, eb P "exec" 21, eb P "format" 22, eb P "getattr" 23, eb P "globals" 24, eb P "hasattr" 25, eb P "hash" 26, eb P "hex" 27, eb P "id" 28, eb P "input" 29, eb P "isinstance" 30, eb P "issubclass" 31, eb P "iter" 32, eb P "aiter" 33, eb P "len" 34, eb P "locals" 35, eb P "max" 36, eb P "min" 37, eb P "next" 38, eb P "anext" 39, eb P "oct" 40, eb P "ord" 41, eb P "pow" 42, eb P "print" 43, eb P "repr" 44, eb P "round" 45, eb P "setattr" 46, eb P "sorted" 47, eb P "sum" 48, eb P "vars" 49, e1 P "None" 50 .none, e1 P "Ellipsis" 51 .ellipsis, e1 P "NotImplemented" 52 .notImplemented, e1 P "False" 53 (.bool false), e1 P "True" 54 (.bool true), e1 P "bool" 55 (.type "bool"), e1 P "memoryview" 56 (.type "memoryview"), e1 P "bytearray" 57 (.type "bytearray"), e1 P "bytes" 58 (.type "bytes"), e1 P "classmethod" 59 (.type "classmethod"), e1 P "complex" 60 (.type "complex"), e1 P "dict" 61 (.type "dict"), e1 P "enumerate" 62 (.type "enumerate"), e1 P "filter" 63 (.type "filter"), e1 P "float" 64 (.type "float"), e1 P "frozenset" 65 (.type "frozenset"), e1 P "property" 66 (.type "property"), e1 P "int" 67 (.type "int"), e1 P "list" 68 (.type "list"), e1 P "map" 69 (.type "map"), e1 P "object" 70 (.type "object"), e1 P "range" 71 (.type "range"), e1 P "reversed" 72 (.type "reversed"), e1 P "set" 73 (.type "set"), e1 P "slice" 74 (.type "slice"), e1 P "staticmethod" 75 (.type "staticmethod"), e1 P "str" 76 (.type "str"), e1 P "super" 77 (.type "super"), e1 P "tuple" 78 (.type "tuple"), e1 P "type" 79 (.type "type"), e1 P "zip" 80 (.type "zip"), e1 P "__debug__" 81 (.bool true), e1 P "BaseException" 82 (.type "BaseException"), e1 P "BaseExceptionGroup" 83 (.type "BaseExceptionGroup"), e1 P "Exception" 84 (.type "Exception"), e1 P "GeneratorExit" 85 (.type "GeneratorExit"), e1 P "KeyboardInterrupt" 86 (.type "KeyboardInterrupt"), e1 P "SystemExit" 87 (.type "SystemExit"), e1 P "ArithmeticError" 88 (.type "ArithmeticError"), e1 P "AssertionError" 89 (.type "AssertionError"), e1 P "AttributeError" 90 (.type "AttributeError"), e1 P "BufferError" 91 (.type "BufferError"), e1 P "EOFError" 92 (.type "EOFError"), e1 P "ImportError" 93 (.type "ImportError"), e1 P "LookupError" 94 (.type "LookupError"), e1 P "MemoryError" 95 (.type "MemoryError"), e1 P "NameError" 96 (.type "NameError"), e1 P "OSError" 97 (.type "OSError"), e1 P "ReferenceError" 98 (.type "ReferenceError"), e1 P "RuntimeError" 99 (.type "RuntimeError"), e1 P "StopAsyncIteration" 100 (.type "StopAsyncIteration"), e1 P "StopIteration" 101 (.type "StopIteration"), e1 P "SyntaxError" 102 (.type "SyntaxError"), e1 P "SystemError" 103 (.type "SystemError"), e1 P "TypeError" 104 (.type "TypeError"), e1 P "ValueError" 105 (.type "ValueError"), e1 P "Warning" 106 (.type "Warning"), e1 P "FloatingPointError" 107 (.type "FloatingPointError"), e1 P "OverflowError" 108 (.type "OverflowError"), e1 P "ZeroDivisionError" 109 (.type "ZeroDivisionError"), e1 P "BytesWarning" 110 (.type "BytesWarning"), e1 P "DeprecationWarning" 111 (.type "DeprecationWarning"), e1 P "EncodingWarning" 112 (.type "EncodingWarning"), e1 P "FutureWarning" 113 (.type "FutureWarning"), e1 P "ImportWarning" 114 (.type "ImportWarning"), e1 P "PendingDeprecationWarning" 115 (.type "PendingDeprecationWarning"), e1 P "ResourceWarning" 116 (.type "ResourceWarning"), e1 P "RuntimeWarning" 117 (.type "RuntimeWarning"), e1 P "SyntaxWarning" 118 (.type "SyntaxWarning"), e1 P "UnicodeWarning" 119 (.type "UnicodeWarning"), e1 P "UserWarning" 120 (.type "UserWarning"), e1 P "BlockingIOError" 121 (.type "BlockingIOError"), e1 P "ChildProcessError" 122 (.type "ChildProcessError"), e1 P "ConnectionError" 123 (.type "ConnectionError"), e1 P "FileExistsError" 124 (.type "FileExistsError"), e1 P "FileNotFoundError" 125 (.type "FileNotFoundError"), e1 P "InterruptedError" 126 (.type "InterruptedError"), e1 P "IsADirectoryError" 127 (.type "IsADirectoryError"), e1 P "NotADirectoryError" 128 (.type "NotADirectoryError"), e1 P "PermissionError" 129 (.type "PermissionError"), e1 P "ProcessLookupError" 130 (.type "ProcessLookupError"), e1 P "TimeoutError" 131 (.type "TimeoutError"), e1 P "IndentationError" 132 (.type "IndentationError"), e1 P "_IncompleteInputError" 133 (.type "_IncompleteInputError"), e1 P "IndexError" 134 (.type "IndexError"), e1 P "KeyError" 135 (.type "KeyError"), e1 P "ModuleNotFoundError" 136 (.type "ModuleNotFoundError"), e1 P "NotImplementedError" 137 (.type "NotImplementedError"), e1 P "PythonFinalizationError" 138 (.type "PythonFinalizationError"), e1 P "RecursionError" 139 (.type "RecursionError"), e1 P "UnboundLocalError" 140 (.type "UnboundLocalError"), e1 P "UnicodeError" 141 (.type "UnicodeError"), e1 P "BrokenPipeError" 142 (.type "BrokenPipeError"), e1 P "ConnectionAbortedError" 143 (.type "ConnectionAbortedError"), e1 P "ConnectionRefusedError" 144 (.type "ConnectionRefusedError"), e1 P "ConnectionResetError" 145 (.type "ConnectionResetError"), e1 P "TabError" 146 (.type "TabError"), e1 P "UnicodeDecodeError" 147 (.type "UnicodeDecodeError"), e1 P "UnicodeEncodeError" 148 (.type "UnicodeEncodeError"), e1 P "UnicodeTranslateError" 149 (.type "UnicodeTranslateError"), e1 P "ExceptionGroup" 150 (.type "ExceptionGroup"), e1 P "EnvironmentError" 151 (.type "OSError"), e1 P "IOError" 152 (.type "OSError"), eb P "open" 153, e1 P "quit" 154 (bi "builtins.quit#opaque"), e1 P "exit" 155 (bi "builtins.exit#opaque"), e1 P "copyright" 156 (bi "builtins.copyright#opaque"), e1 P "credits" 157 (bi "builtins.credits#opaque"), e1 P "license" 158 (bi "builtins.license#opaque"), e1 P "help" 159 (bi "builtins.help#opaque")] 159
noncomputable def o1 (P : Params) : Obj := dc #[e1 P "builtins" 162 (.ref 4), e1 P "__main__" 163 (.ref 5), e1 P "_collections" 246 (.ref 13)] 3
noncomputable def o2 (P : Params) : Obj := ⟨.none, none, (.dict #[e1 P "\x69mport.loaded._collections" 185 (.bool true), e1 P "class._frozen_importlib.BuiltinImporter" 187 (.ref 15), e1 P "watched.\x69mport" 208 (.ref 19), e1 P "class._frozen_importlib.ModuleSpec" 218 (.ref 23), e1 P "sys.modules.booked-epoch" 247 (.int 3 0), e1 P "sys.modules.landed._collections" 248 (.bool true), e1 P "\x69mport.later-laid._collections" 263 (.bool true), e1 P "watched.library" 265 (.ref 28), e1 P "watched.library-objects" 0 (.str (PySem.Str.mk #[13]) 0), e1 P "watched.library-deep._collections" 266 (.str (PySem.Str.mk #[4, 0, 0, 12, 4, 0, 0, 12, 4, 0, 0, 3, 4, 0, 0, 12, 8, 4, 100, 105, 99, 116, 2]) 0)] 10), #[]⟩
noncomputable def o3 (P : Params) : Obj := dc #[e1 P "__name__" 165 (sv "__main__" 164), e1 P "__doc__" 166 .none, e1 P "__package__" 167 .none, e1 P "__loader__" 168 (bi "__main__.__loader__#opaque"), e1 P "__spec__" 169 .none, e1 P "__annotations__" 170 (.ref 6), e1 P "__builtins__" 171 (.ref 4), e1 P "__file__" 173 (sv "/claim/cut.py" 172), e1 P "__cached__" 174 .none, e1 P "deque" 272 (.type "collections.deque")] 10
noncomputable def o4 : Obj := ⟨.type "module", (some 0), .plain, #[]⟩
noncomputable def o5 : Obj := ⟨.type "module", (some 3), .plain, #[]⟩
noncomputable def o6 : Obj := dc #[] 0
noncomputable def o7 : Obj := tu #[]
noncomputable def o8 : Obj := nf
noncomputable def o9 : Obj := co "<module>" 176 "<module>" 177 178 1 0 0 0 0 7 false 175 8 .none .none .none .none 179 1 180
noncomputable def o10 : Obj := ⟨.type "frame", none, .plain, #[(some (.ref 9)), (some (.ref 3)), (some (.ref 3)), none, (some (sv "__main__" 164)), none, (some (.ref 0))]⟩
noncomputable def o11 : Obj := tu #[sv "deque" 182]
noncomputable def o12 (P : Params) : Obj := dc #[e1 P "__name__" 250 (sv "_collections" 249), e1 P "__doc__" 251 (bi "off-the-table:_collections.__doc__:shared#opaque"), e1 P "__package__" 253 (sv "" 252), e1 P "__loader__" 254 (bi "off-the-table:_collections.__loader__:shared#opaque"), e1 P "__spec__" 255 (bi "off-the-table:_collections.__spec__:shared#opaque"), e1 P "_count_elements" 256 (bi "_collections._count_elements"), e1 P "deque" 257 (.type "collections.deque"), e1 P "defaultdict" 258 (.type "collections.defaultdict"), e1 P "_deque_iterator" 259 (bi "off-the-table:_collections._deque_iterator:shared#opaque"), e1 P "_deque_reverse_iterator" 260 (bi "off-the-table:_collections._deque_reverse_iterator:shared#opaque"), e1 P "_tuplegetter" 261 (.type "collections._tuplegetter"), e1 P "OrderedDict" 262 (.type "collections.OrderedDict")] 12
noncomputable def o13 : Obj := ⟨.type "module", (some 12), .plain, #[]⟩
noncomputable def o14 (P : Params) : Obj := dc #[e1 P "__module__" 191 (sv "_frozen_importlib" 188), e1 P "__firstlineno__" 192 (.int 971 189), e1 P "__doc__" 193 (bi "_frozen_importlib.BuiltinImporter.__doc__:str#opaque"), e1 P "_ORIGIN" 194 (sv "built-in" 190), e1 P "find_spec" 195 (bi "_frozen_importlib.BuiltinImporter.find_spec#opaque"), e1 P "create_module" 196 (bi "_frozen_importlib.BuiltinImporter.create_module#opaque"), e1 P "exec_module" 197 (bi "_frozen_importlib.BuiltinImporter.exec_module#opaque"), e1 P "get_code" 198 (bi "_frozen_importlib.BuiltinImporter.get_code#opaque"), e1 P "get_source" 199 (bi "_frozen_importlib.BuiltinImporter.get_source#opaque"), e1 P "is_package" 200 (bi "_frozen_importlib.BuiltinImporter.is_package#opaque"), e1 P "load_module" 201 (bi "_frozen_importlib.BuiltinImporter.load_module#opaque"), e1 P "__static_attributes__" 202 (.ref 16), e1 P "__dict__" 204 (.ref 17), e1 P "__weakref__" 206 (.ref 18)] 14
noncomputable def o15 : Obj := ⟨.type "type", none, (.cls ⟨(S "BuiltinImporter"), [.type "object"], [.ref 15, .type "object"], 14, (S "BuiltinImporter"), true, [], [], false, none, false⟩), #[]⟩
noncomputable def o16 : Obj := tu #[]
noncomputable def o17 : Obj := ⟨.type "getset_descriptor", none, (.fields #[sv "__dict__" 203, .ref 15, bi "function.__dict__", bi "function.__dict__#set"]), #[]⟩
noncomputable def o18 : Obj := ⟨.type "getset_descriptor", none, (.fields #[sv "__weakref__" 205, .ref 15, bi "ExceptionGroup.__weakref__", .none]), #[]⟩
noncomputable def o19 : Obj := ⟨.none, none, (.seq #[.int 14 0, .str (PySem.Str.mk #[6, 191, 10, 95, 95, 109, 111, 100, 117, 108, 101, 95, 95, 6, 188, 17, 95, 102, 114, 111, 122, 101, 110, 95, 105, 109, 112, 111, 114, 116, 108, 105, 98, 6, 192, 15, 95, 95, 102, 105, 114, 115, 116, 108, 105, 110, 101, 110, 111, 95, 95, 4, 189, 0, 971, 6, 193, 7, 95, 95, 100, 111, 99, 95, 95, 9, 52, 95, 102, 114, 111, 122, 101, 110, 95, 105, 109, 112, 111, 114, 116, 108, 105, 98, 46, 66, 117, 105, 108, 116, 105, 110, 73, 109, 112, 111, 114, 116, 101, 114, 46, 95, 95, 100, 111, 99, 95, 95, 58, 115, 116, 114, 35, 111, 112, 97, 113, 117, 101, 6, 194, 7, 95, 79, 82, 73, 71, 73, 78, 6, 190, 8, 98, 117, 105, 108, 116, 45, 105, 110, 6, 195, 9, 102, 105, 110, 100, 95, 115, 112, 101, 99, 9, 50, 95, 102, 114, 111, 122, 101, 110, 95, 105, 109, 112, 111, 114, 116, 108, 105, 98, 46, 66, 117, 105, 108, 116, 105, 110, 73, 109, 112, 111, 114, 116, 101, 114, 46, 102, 105, 110, 100, 95, 115, 112, 101, 99, 35, 111, 112, 97, 113, 117, 101, 6, 196, 13, 99, 114, 101, 97, 116, 101, 95, 109, 111, 100, 117, 108, 101, 9, 54, 95, 102, 114, 111, 122, 101, 110, 95, 105, 109, 112, 111, 114, 116, 108, 105, 98, 46, 66, 117, 105, 108, 116, 105, 110, 73, 109, 112, 111, 114, 116, 101, 114, 46, 99, 114, 101, 97, 116, 101, 95, 109, 111, 100, 117, 108, 101, 35, 111, 112, 97, 113, 117, 101, 6, 197, 11, 101, 120, 101, 99, 95, 109, 111, 100, 117, 108, 101, 9, 52, 95, 102, 114, 111, 122, 101, 110, 95, 105, 109, 112, 111, 114, 116, 108, 105, 98, 46, 66, 117, 105, 108, 116, 105, 110, 73, 109, 112, 111, 114, 116, 101, 114, 46, 101, 120, 101, 99, 95, 109, 111, 100, 117, 108, 101, 35, 111, 112, 97, 113, 117, 101, 6, 198, 8, 103, 101, 116, 95, 99, 111, 100, 101, 9, 49, 95, 102, 114, 111, 122, 101, 110, 95, 105, 109, 112, 111, 114, 116, 108, 105, 98, 46, 66, 117, 105, 108, 116, 105, 110, 73, 109, 112, 111, 114, 116, 101, 114, 46, 103, 101, 116, 95, 99, 111, 100, 101, 35, 111, 112, 97, 113, 117, 101, 6, 199, 10, 103, 101, 116, 95, 115, 111, 117, 114, 99, 101, 9, 51, 95, 102, 114, 111, 122, 101, 110, 95, 105, 109, 112, 111, 114, 116, 108, 105, 98, 46, 66, 117, 105, 108, 116, 105, 110, 73, 109, 112, 111, 114, 116, 101, 114, 46, 103, 101, 116, 95, 115, 111, 117, 114, 99, 101, 35, 111, 112, 97, 113, 117, 101, 6, 200, 10, 105, 115, 95, 112, 97, 99, 107, 97, 103, 101, 9, 51, 95, 102, 114, 111, 122, 101, 110, 95, 105, 109, 112, 111, 114, 116, 108, 105, 98, 46, 66, 117, 105, 108, 116, 105, 110, 73, 109, 112, 111, 114, 116, 101, 114, 46, 105, 115, 95, 112, 97, 99, 107, 97, 103, 101, 35, 111, 112, 97, 113, 117, 101, 6, 201, 11, 108, 111, 97, 100, 95, 109, 111, 100, 117, 108, 101, 9, 52, 95, 102, 114, 111, 122, 101, 110, 95, 105, 109, 112, 111, 114, 116, 108, 105, 98, 46, 66, 117, 105, 108, 116, 105, 110, 73, 109, 112, 111, 114, 116, 101, 114, 46, 108, 111, 97, 100, 95, 109, 111, 100, 117, 108, 101, 35, 111, 112, 97, 113, 117, 101, 6, 202, 21, 95, 95, 115, 116, 97, 116, 105, 99, 95, 97, 116, 116, 114, 105, 98, 117, 116, 101, 115, 95, 95, 4, 0, 0, 16, 6, 204, 8, 95, 95, 100, 105, 99, 116, 95, 95, 4, 0, 0, 17, 6, 206, 11, 95, 95, 119, 101, 97, 107, 114, 101, 102, 95, 95, 4, 0, 0, 18]) 0, .bool true, .bool true, sv "" 207, .int 22 0, .str (PySem.Str.mk #[6, 229, 10, 95, 95, 109, 111, 100, 117, 108, 101, 95, 95, 6, 219, 17, 95, 102, 114, 111, 122, 101, 110, 95, 105, 109, 112, 111, 114, 116, 108, 105, 98, 6, 230, 15, 95, 95, 102, 105, 114, 115, 116, 108, 105, 110, 101, 110, 111, 95, 95, 4, 220, 0, 562, 6, 231, 7, 95, 95, 100, 111, 99, 95, 95, 9, 47, 95, 102, 114, 111, 122, 101, 110, 95, 105, 109, 112, 111, 114, 116, 108, 105, 98, 46, 77, 111, 100, 117, 108, 101, 83, 112, 101, 99, 46, 95, 95, 100, 111, 99, 95, 95, 58, 115, 116, 114, 35, 111, 112, 97, 113, 117, 101, 6, 232, 8, 95, 95, 105, 110, 105, 116, 95, 95, 9, 44, 95, 102, 114, 111, 122, 101, 110, 95, 105, 109, 112, 111, 114, 116, 108, 105, 98, 46, 77, 111, 100, 117, 108, 101, 83, 112, 101, 99, 46, 95, 95, 105, 110, 105, 116, 95, 95, 35, 111, 112, 97, 113, 117, 101, 6, 233, 8, 95, 95, 114, 101, 112, 114, 95, 95, 9, 44, 95, 102, 114, 111, 122, 101, 110, 95, 105, 109, 112, 111, 114, 116, 108, 105, 98, 46, 77, 111, 100, 117, 108, 101, 83, 112, 101, 99, 46, 95, 95, 114, 101, 112, 114, 95, 95, 35, 111, 112, 97, 113, 117, 101, 6, 234, 6, 95, 95, 101, 113, 95, 95, 9, 42, 95, 102, 114, 111, 122, 101, 110, 95, 105, 109, 112, 111, 114, 116, 108, 105, 98, 46, 77, 111, 100, 117, 108, 101, 83, 112, 101, 99, 46, 95, 95, 101, 113, 95, 95, 35, 111, 112, 97, 113, 117, 101, 6, 235, 6, 99, 97, 99, 104, 101, 100, 9, 42, 95, 102, 114, 111, 122, 101, 110, 95, 105, 109, 112, 111, 114, 116, 108, 105, 98, 46, 77, 111, 100, 117, 108, 101, 83, 112, 101, 99, 46, 99, 97, 99, 104, 101, 100, 35, 111, 112, 97, 113, 117, 101, 6, 236, 6, 112, 97, 114, 101, 110, 116, 9, 42, 95, 102, 114, 111, 122, 101, 110, 95, 105, 109, 112, 111, 114, 116, 108, 105, 98, 46, 77, 111, 100, 117, 108, 101, 83, 112, 101, 99, 46, 112, 97, 114, 101, 110, 116, 35, 111, 112, 97, 113, 117, 101, 6, 237, 12, 104, 97, 115, 95, 108, 111, 99, 97, 116, 105, 111, 110, 9, 48, 95, 102, 114, 111, 122, 101, 110, 95, 105, 109, 112, 111, 114, 116, 108, 105, 98, 46, 77, 111, 100, 117, 108, 101, 83, 112, 101, 99, 46, 104, 97, 115, 95, 108, 111, 99, 97, 116, 105, 111, 110, 35, 111, 112, 97, 113, 117, 101, 6, 238, 21, 95, 95, 115, 116, 97, 116, 105, 99, 95, 97, 116, 116, 114, 105, 98, 117, 116, 101, 115, 95, 95, 4, 0, 0, 24, 6, 240, 8, 95, 95, 100, 105, 99, 116, 95, 95, 4, 0, 0, 25, 6, 242, 11, 95, 95, 119, 101, 97, 107, 114, 101, 102, 95, 95, 4, 0, 0, 26, 6, 243, 8, 95, 95, 104, 97, 115, 104, 95, 95, 0]) 0, .bool true, .bool true, sv "" 244] 1), #[]⟩
noncomputable def o20 : Obj := ⟨.type "list", none, (.seq #[] 0), #[]⟩
noncomputable def o21 (P : Params) : Obj := dc #[e1 P "name" 210 (sv "_collections" 209), e1 P "loader" 211 (.ref 15), e1 P "origin" 212 (sv "built-in" 186), e1 P "loader_state" 213 .none, e1 P "submodule_search_locations" 214 .none, e1 P "_uninitialized_submodules" 215 (.ref 20), e1 P "_set_fileattr" 216 (.bool false), e1 P "_cached" 217 .none, e1 P "_initializing" 245 (.bool false)] 9
noncomputable def o22 (P : Params) : Obj := dc #[e1 P "__module__" 229 (sv "_frozen_importlib" 219), e1 P "__firstlineno__" 230 (.int 562 220), e1 P "__doc__" 231 (bi "_frozen_importlib.ModuleSpec.__doc__:str#opaque"), e1 P "__init__" 232 (bi "_frozen_importlib.ModuleSpec.__init__#opaque"), e1 P "__repr__" 233 (bi "_frozen_importlib.ModuleSpec.__repr__#opaque"), e1 P "__eq__" 234 (bi "_frozen_importlib.ModuleSpec.__eq__#opaque"), e1 P "cached" 235 (bi "_frozen_importlib.ModuleSpec.cached#opaque"), e1 P "parent" 236 (bi "_frozen_importlib.ModuleSpec.parent#opaque"), e1 P "has_location" 237 (bi "_frozen_importlib.ModuleSpec.has_location#opaque"), e1 P "__static_attributes__" 238 (.ref 24), e1 P "__dict__" 240 (.ref 25), e1 P "__weakref__" 242 (.ref 26), e1 P "__hash__" 243 .none] 13
noncomputable def o23 : Obj := ⟨.type "type", none, (.cls ⟨(S "ModuleSpec"), [.type "object"], [.ref 23, .type "object"], 22, (S "ModuleSpec"), true, [], [], false, none, false⟩), #[]⟩
noncomputable def o24 : Obj := tu #[sv "_cached" 221, sv "_set_fileattr" 222, sv "_uninitialized_submodules" 223, sv "loader" 224, sv "loader_state" 225, sv "name" 226, sv "origin" 227, sv "submodule_search_locations" 228]
noncomputable def o25 : Obj := ⟨.type "getset_descriptor", none, (.fields #[sv "__dict__" 239, .ref 23, bi "function.__dict__", bi "function.__dict__#set"]), #[]⟩
noncomputable def o26 : Obj := ⟨.type "getset_descriptor", none, (.fields #[sv "__weakref__" 241, .ref 23, bi "ExceptionGroup.__weakref__", .none]), #[]⟩
noncomputable def o27 : Obj := ⟨.ref 23, (some 21), .plain, #[]⟩
noncomputable def o28 : Obj := ⟨.none, none, (.seq #[.int 12 0, .str (PySem.Str.mk #[6, 250, 8, 95, 95, 110, 97, 109, 101, 95, 95, 6, 249, 12, 95, 99, 111, 108, 108, 101, 99, 116, 105, 111, 110, 115, 6, 251, 7, 95, 95, 100, 111, 99, 95, 95, 9, 31, 95, 99, 111, 108, 108, 101, 99, 116, 105, 111, 110, 115, 46, 95, 95, 100, 111, 99, 95, 95, 58, 115, 116, 114, 35, 111, 112, 97, 113, 117, 101, 6, 253, 11, 95, 95, 112, 97, 99, 107, 97, 103, 101, 95, 95, 6, 252, 0, 6, 254, 10, 95, 95, 108, 111, 97, 100, 101, 114, 95, 95, 4, 0, 0, 15, 6, 255, 8, 95, 95, 115, 112, 101, 99, 95, 95, 4, 0, 0, 27, 6, 256, 15, 95, 99, 111, 117, 110, 116, 95, 101, 108, 101, 109, 101, 110, 116, 115, 9, 28, 95, 99, 111, 108, 108, 101, 99, 116, 105, 111, 110, 115, 46, 95, 99, 111, 117, 110, 116, 95, 101, 108, 101, 109, 101, 110, 116, 115, 6, 257, 5, 100, 101, 113, 117, 101, 8, 17, 99, 111, 108, 108, 101, 99, 116, 105, 111, 110, 115, 46, 100, 101, 113, 117, 101, 6, 258, 11, 100, 101, 102, 97, 117, 108, 116, 100, 105, 99, 116, 8, 23, 99, 111, 108, 108, 101, 99, 116, 105, 111, 110, 115, 46, 100, 101, 102, 97, 117, 108, 116, 100, 105, 99, 116, 6, 259, 15, 95, 100, 101, 113, 117, 101, 95, 105, 116, 101, 114, 97, 116, 111, 114, 8, 27, 99, 111, 108, 108, 101, 99, 116, 105, 111, 110, 115, 46, 95, 100, 101, 113, 117, 101, 95, 105, 116, 101, 114, 97, 116, 111, 114, 6, 260, 23, 95, 100, 101, 113, 117, 101, 95, 114, 101, 118, 101, 114, 115, 101, 95, 105, 116, 101, 114, 97, 116, 111, 114, 8, 35, 99, 111, 108, 108, 101, 99, 116, 105, 111, 110, 115, 46, 95, 100, 101, 113, 117, 101, 95, 114, 101, 118, 101, 114, 115, 101, 95, 105, 116, 101, 114, 97, 116, 111, 114, 6, 261, 12, 95, 116, 117, 112, 108, 101, 103, 101, 116, 116, 101, 114, 8, 24, 99, 111, 108, 108, 101, 99, 116, 105, 111, 110, 115, 46, 95, 116, 117, 112, 108, 101, 103, 101, 116, 116, 101, 114, 6, 262, 11, 79, 114, 100, 101, 114, 101, 100, 68, 105, 99, 116, 8, 23, 99, 111, 108, 108, 101, 99, 116, 105, 111, 110, 115, 46, 79, 114, 100, 101, 114, 101, 100, 68, 105, 99, 116]) 0, .bool true, .bool false, sv "_collections" 264] 0), #[]⟩
noncomputable def H0 (P : Params) : Heap := ⟨⟨[o0 P, o1 P, o2 P, o3 P, o4, o5, o6, o7, o8, o9, o10, o11, o12 P, o13, o14 P, o15, o16, o17, o18, o19, o20, o21 P, o22 P, o23, o24, o25, o26, o27, o28]⟩, {}⟩
noncomputable def o29 : Obj := tu #[]
noncomputable def o30 : Obj := nf
noncomputable def o31 : Obj := co "<module>" 274 "<module>" 275 276 1 0 0 0 0 29 false 273 30 .none .none .none .none 277 1 278
noncomputable def o32 : Obj := ⟨.type "frame", none, .plain, #[(some (.ref 31)), (some (.ref 3)), (some (.ref 3)), none, (some (sv "__main__" 164)), none, (some (.ref 0))]⟩
noncomputable def Ha (P : Params) : Heap := ⟨⟨[o0 P, o1 P, o2 P, o3 P, o4, o5, o6, o7, o8, o9, o10, o11, o12 P, o13, o14 P, o15, o16, o17, o18, o19, o20, o21 P, o22 P, o23, o24, o25, o26, o27, o28, o29, o30, o31, o32]⟩, {}⟩
noncomputable def T0 (P : Params) : BT := (n (o0 P) (n (o1 P) (n (o3 P) (n o7 (n o15 (lf o31) l) (lf o23)) (n o11 (lf o19) (lf o27))) (n o5 (n o9 (lf o17) (lf o25)) (n o13 (lf (o21 P)) (lf o29)))) (n (o2 P) (n o4 (n o8 (n o16 (lf o32) l) (lf o24)) (n (o12 P) (lf o20) (lf o28))) (n o6 (n o10 (lf o18) (lf o26)) (n (o14 P) (lf (o22 P)) (lf o30)))))
noncomputable def S0 (w : World) (os : OsState) : SharedT := ⟨T0 w.params, 33, {}, #[], {}, 279, os⟩
noncomputable def en : Env := { scope := PySem.Challenge.pw_ny0304_04.main.scope, locals := mainNs, globals := mainNs, cells := [], code := .ref 31, frame := some 32 }
noncomputable def fq : Pos := ⟨0, 0, 0, 0⟩
theorem pre (w : World) (os : OsState) : topGo treeTable PySem.Challenge.pw_ny0304_04 w 29 (some (.ref 6)) 12 ⟨H0 w.params, #[], {}, 273, os⟩ (topStub PySem.Challenge.pw_ny0304_04) = some (⟨Ha w.params, #[], {}, 279, os⟩, ⟨denote treeTable (.body (behindTheImports PySem.Challenge.pw_ny0304_04) en), (.body (behindTheImports PySem.Challenge.pw_ny0304_04) en), ⟨0, 0, 0, 0⟩, [topFrame fq]⟩) := by kernel_rfl
theorem blk (w : World) (os : OsState) : segRun treeTable PySem.Challenge.pw_ny0304_04 w 29 (some (.ref 6)) 1 1 ⟨Ha w.params, #[], {}, 279, os⟩ (blockOf (behindTheImports PySem.Challenge.pw_ny0304_04) en (.body (behindTheImports PySem.Challenge.pw_ny0304_04) en) ⟨0, 0, 0, 0⟩ [topFrame fq]) = some (.next, (S0 w os).abs, (.body (behindTheImports PySem.Challenge.pw_ny0304_04) en), ⟨0, 0, 0, 0⟩) := by kernel_rfl
noncomputable def o33 (P : Params) : Obj := ⟨.none, none, (.dict #[e1 P "\x69mport.loaded._collections" 185 (.bool true), e1 P "class._frozen_importlib.BuiltinImporter" 187 (.ref 15), e1 P "watched.\x69mport" 208 (.ref 19), e1 P "class._frozen_importlib.ModuleSpec" 218 (.ref 23), e1 P "sys.modules.booked-epoch" 247 (.int 3 0), e1 P "sys.modules.landed._collections" 248 (.bool true), e1 P "\x69mport.later-laid._collections" 263 (.bool true), e1 P "watched.library" 265 (.ref 28), e1 P "watched.library-objects" 0 (.str (PySem.Str.mk #[13]) 0), e1 P "watched.library-deep._collections" 266 (.str (PySem.Str.mk #[4, 0, 0, 12, 4, 0, 0, 12, 4, 0, 0, 3, 4, 0, 0, 12, 8, 4, 100, 105, 99, 116, 2]) 0), e1 P "type.__subclasses__.OSError.0" 322 (.int 63 0), e1 P "type.__subclasses__.OSError.n" 323 (.int 1 0)] 12), #[]⟩
noncomputable def o34 (P : Params) : Obj := dc #[e1 P "__name__" 165 (sv "io" 286), e1 P "__doc__" 166 .none, e1 P "__package__" 167 .none, e1 P "__loader__" 168 (bi "__main__.__loader__#opaque"), e1 P "__spec__" 169 .none, e1 P "__annotations__" 170 (.ref 6), e1 P "__builtins__" 171 (.ref 4), e1 P "__file__" 173 (sv "/claim/cut.py" 172), e1 P "__cached__" 174 .none, e1 P "deque" 272 (.type "collections.deque"), e1 P "_wall" 285 (.ref 39), e1 P "_whence" 295 (.ref 46), e1 P "_index" 303 (.ref 53), e1 P "UnsupportedOperation" 325 (.ref 63)] 14
noncomputable def o35 : Obj := ⟨.none, none, (.fields #[.int 2 0, .int 0 0, .ref 38, .int 6 0, .int 0 0, .ref 45, .int 11 0, .int 0 0, .ref 52, .int 18 0, .int 0 0, .ref 59]), #[]⟩
noncomputable def o36 : Obj := tu #[]
noncomputable def o37 : Obj := nf
noncomputable def o38 : Obj := tu #[sv "k" 282]
noncomputable def o39 : Obj := tu #[]
noncomputable def o40 : Obj := f0 "_wall" "_wall" (st 1)
noncomputable def o41 : Obj := co "_wall" 279 "_wall" 280 281 2 1 0 0 3 33 true 273 34 .none (.ref 35) (.ref 36) (.ref 37) 283 2 284
noncomputable def o42 : Obj := fo (.type "function") (fn (S "_wall") (S "_wall") (st 1) 3 [] .none .none .none (sv "__main__" 164) none (.ref 38) .none 0)
noncomputable def o43 : Obj := tu #[]
noncomputable def o44 : Obj := nf
noncomputable def o45 : Obj := tu #[sv "n" 291, sv "what" 292]
noncomputable def o46 : Obj := tu #[]
noncomputable def o47 : Obj := f0 "_whence" "_whence" (st 3)
noncomputable def o48 : Obj := co "_whence" 288 "_whence" 289 290 6 2 0 0 3 40 true 273 41 .none (.ref 42) (.ref 43) (.ref 44) 293 6 294
noncomputable def o49 : Obj := fo (.type "function") (fn (S "_whence") (S "_whence") (st 3) 3 [] .none .none .none (sv "io" 286) none (.ref 45) .none 0)
noncomputable def o50 : Obj := tu #[]
noncomputable def o51 : Obj := nf
noncomputable def o52 : Obj := tu #[sv "n" 299, sv "what" 300]
noncomputable def o53 : Obj := tu #[]
noncomputable def o54 : Obj := f0 "_index" "_index" (st 4)
noncomputable def o55 : Obj := co "_index" 296 "_index" 297 298 11 2 0 0 3 47 true 273 48 .none (.ref 49) (.ref 50) (.ref 51) 301 11 302
noncomputable def o56 : Obj := fo (.type "function") (fn (S "_index") (S "_index") (st 4) 3 [] .none .none .none (sv "io" 286) none (.ref 52) .none 0)
noncomputable def o57 : Obj := tu #[.type "OSError", .type "ValueError"]
noncomputable def o58 : Obj := ⟨.type "builtin_function_or_method", none, (.fields #[bi "type.__prepare__", .type "type"]), #[]⟩
noncomputable def o59 (P : Params) : Obj := dc #[e1 P "__module__" 311 (sv "io" 316), e1 P "__qualname__" 313 (sv "UnsupportedOperation" 312), e1 P "__firstlineno__" 315 (.int 18 314), e1 P "__static_attributes__" 318 (.ref 61)] 4
noncomputable def o60 : Obj := tu #[]
noncomputable def o61 : Obj := nf
noncomputable def o62 : Obj := co "UnsupportedOperation" 306 "UnsupportedOperation" 307 308 18 0 0 0 0 57 false 273 58 .none .none .none .none 309 18 310
noncomputable def o63 : Obj := ⟨.type "frame", none, .plain, #[(some (.ref 59)), (some (.ref 3)), (some (.ref 56)), none, (some (sv "io" 286)), none, (some (.ref 0))]⟩
noncomputable def o64 : Obj := tu #[]
noncomputable def o65 (P : Params) : Obj := dc #[e1 P "__module__" 311 (sv "io" 316), e1 P "__firstlineno__" 315 (.int 18 314), e1 P "__static_attributes__" 318 (.ref 61), e1 P "__weakref__" 320 (.ref 64), e1 P "__doc__" 321 .none] 3
noncomputable def o66 : Obj := ⟨.type "type", none, (.cls ⟨(S "UnsupportedOperation"), [.type "OSError", .type "ValueError"], [.ref 63, .type "OSError", .type "ValueError", .type "Exception", .type "BaseException", .type "object"], 62, (S "UnsupportedOperation"), true, [], [], false, none, false⟩), #[(some (.ref 54)), none, (some (sv "UnsupportedOperation" 304)), (some (sv "UnsupportedOperation" 312)), (some (bi "OSError.__new__")), (some (.bool true))]⟩
noncomputable def o67 : Obj := ⟨.type "getset_descriptor", none, (.fields #[sv "__weakref__" 319, .ref 63, bi "ExceptionGroup.__weakref__", .none]), #[]⟩
noncomputable def o68 : Obj := ⟨.type "super", none, (.fields #[.ref 63, .ref 63, .ref 63]), #[]⟩
noncomputable def o69 : Obj := ⟨.type "builtin_function_or_method", none, (.fields #[bi "object.__init_subclass__", .ref 63]), #[]⟩
noncomputable def T1 (P : Params) : BT := (n (o0 P) (n (o1 P) (n (o34 P) (n o7 (n o15 (n o31 (lf o66) l) (lf o50)) (n o23 (lf o42) (lf o58))) (n o11 (n o19 (lf o38) (lf o54)) (n o27 (lf o46) (lf o62)))) (n o5 (n o9 (n o17 (n o36 (lf o68) l) (lf o52)) (n o25 (lf o44) (lf o60))) (n o13 (n (o21 P) (lf o40) (lf o56)) (n o29 (lf o48) (lf o64))))) (n (o33 P) (n o4 (n o8 (n o16 (n o32 (lf o67) l) (lf o51)) (n o24 (lf o43) (lf (o59 P)))) (n (o12 P) (n o20 (lf o39) (lf o55)) (n o28 (lf o47) (lf o63)))) (n o6 (n o10 (n o18 (n o37 (lf o69) l) (lf o53)) (n o26 (lf o45) (lf o61))) (n (o14 P) (n (o22 P) (lf o41) (lf o57)) (n o35 (lf o49) (lf (o65 P)))))))
noncomputable def S1 (w : World) (os : OsState) : SharedT := ⟨T1 w.params, 67, {}, #[], {}, 326, os⟩
noncomputable def ss1 : List Stmt := [st 1, st 2, st 3, st 4, st 5]
theorem pc1 (w : World) (os : OsState) : segRunT treeTable PySem.Challenge.pw_ny0304_04 w 29 (some (.ref 6)) 1 307 (S0 w os) (piecesOf ss1 en (.body (behindTheImports PySem.Challenge.pw_ny0304_04) en) ⟨0, 0, 0, 0⟩ [topFrame fq]) = some (.next, S1 w os, (.body (behindTheImports PySem.Challenge.pw_ny0304_04) en), ⟨18, 0, 19, 21⟩) := by kernel_rfl
noncomputable def o70 (P : Params) : Obj := dc #[e1 P "__name__" 165 (sv "io" 286), e1 P "__doc__" 166 .none, e1 P "__package__" 167 .none, e1 P "__loader__" 168 (bi "__main__.__loader__#opaque"), e1 P "__spec__" 169 .none, e1 P "__annotations__" 170 (.ref 6), e1 P "__builtins__" 171 (.ref 4), e1 P "__file__" 173 (sv "/claim/cut.py" 172), e1 P "__cached__" 174 .none, e1 P "deque" 272 (.type "collections.deque"), e1 P "_wall" 285 (.ref 39), e1 P "_whence" 295 (.ref 46), e1 P "_index" 303 (.ref 53), e1 P "UnsupportedOperation" 325 (.ref 63), e1 P "IOBase" 357 (.ref 83)] 15
noncomputable def o71 : Obj := ⟨.none, none, (.fields #[.int 2 0, .int 0 0, .ref 38, .int 6 0, .int 0 0, .ref 45, .int 11 0, .int 0 0, .ref 52, .int 18 0, .int 0 0, .ref 59, .int 20 0, .int 0 0, .ref 72]), #[]⟩
noncomputable def o72 : Obj := tu #[]
noncomputable def o73 : Obj := ⟨.type "builtin_function_or_method", none, (.fields #[bi "type.__prepare__", .type "type"]), #[]⟩
noncomputable def o74 (P : Params) : Obj := dc #[e1 P "__module__" 333 (sv "io" 338), e1 P "__qualname__" 335 (sv "IOBase" 334), e1 P "__firstlineno__" 337 (.int 20 336), e1 P "__new__" 348 (.ref 80), e1 P "__static_attributes__" 349 (.ref 81)] 5
noncomputable def o75 : Obj := tu #[]
noncomputable def o76 : Obj := ⟨.none, none, (.fields #[.int 23 0, .int 4 0, .ref 79]), #[]⟩
noncomputable def o77 : Obj := co "IOBase" 328 "IOBase" 329 330 20 0 0 0 0 70 false 273 71 .none .none .none .none 331 20 332
noncomputable def o78 : Obj := ⟨.type "frame", none, .plain, #[(some (.ref 72)), (some (.ref 3)), (some (.ref 69)), none, (some (sv "io" 286)), none, (some (.ref 0))]⟩
noncomputable def o79 : Obj := tu #[]
noncomputable def o80 : Obj := nf
noncomputable def o81 : Obj := tu #[sv "cls" 343, sv "args" 344, sv "kwargs" 345]
noncomputable def o82 : Obj := tu #[]
noncomputable def o83 : Obj := f0 "__new__" "IOBase.__new__" (kid (st 6) 1)
noncomputable def o84 : Obj := co "__new__" 340 "IOBase.__new__" 341 342 23 1 1 0 15 74 true 273 75 .none (.ref 76) (.ref 77) (.ref 78) 346 23 347
noncomputable def o85 : Obj := fo (.type "function") (fn (S "__new__") (S "IOBase.__new__") (kid (st 6) 1) 3 [] .none .none .none (sv "io" 286) none (.ref 79) .none 0)
noncomputable def o86 : Obj := tu #[]
noncomputable def o87 (P : Params) : Obj := dc #[e1 P "__module__" 333 (sv "io" 338), e1 P "__firstlineno__" 337 (.int 20 336), e1 P "__new__" 348 (.ref 84), e1 P "__static_attributes__" 349 (.ref 81), e1 P "__dict__" 352 (.ref 85), e1 P "__weakref__" 354 (.ref 86), e1 P "__doc__" 355 .none] 4
noncomputable def o88 : Obj := ⟨.type "type", none, (.cls ⟨(S "IOBase"), [.type "object"], [.ref 83, .type "object"], 82, (S "IOBase"), true, [], [], false, none, false⟩), #[none, none, (some (sv "IOBase" 326)), (some (sv "IOBase" 334)), (some .none), (some (.bool true))]⟩
noncomputable def o89 : Obj := ⟨.type "staticmethod", none, (.fields #[.ref 80]), #[]⟩
noncomputable def o90 : Obj := ⟨.type "getset_descriptor", none, (.fields #[sv "__dict__" 351, .ref 83, bi "function.__dict__", bi "function.__dict__#set"]), #[]⟩
noncomputable def o91 : Obj := ⟨.type "getset_descriptor", none, (.fields #[sv "__weakref__" 353, .ref 83, bi "ExceptionGroup.__weakref__", .none]), #[]⟩
noncomputable def o92 : Obj := ⟨.type "super", none, (.fields #[.ref 83, .ref 83, .ref 83]), #[]⟩
noncomputable def o93 : Obj := ⟨.type "builtin_function_or_method", none, (.fields #[bi "object.__init_subclass__", .ref 83]), #[]⟩
noncomputable def T2 (P : Params) : BT := (n (o0 P) (n (o1 P) (n (o70 P) (n o7 (n o15 (n o31 (lf o66) l) (n o50 (lf o84) l)) (n o23 (n o42 (lf o76) l) (n o58 (lf o92) l))) (n o11 (n o19 (n o38 (lf o72) l) (n o54 (lf o88) l)) (n o27 (n o46 (lf o80) l) (lf o62)))) (n o5 (n o9 (n o17 (n o36 (lf o68) l) (n o52 (lf o86) l)) (n o25 (n o44 (lf o78) l) (lf o60))) (n o13 (n (o21 P) (n o40 (lf (o74 P)) l) (n o56 (lf o90) l)) (n o29 (n o48 (lf o82) l) (lf o64))))) (n (o33 P) (n o4 (n o8 (n o16 (n o32 (lf o67) l) (n o51 (lf o85) l)) (n o24 (n o43 (lf o77) l) (n (o59 P) (lf o93) l))) (n (o12 P) (n o20 (n o39 (lf o73) l) (n o55 (lf o89) l)) (n o28 (n o47 (lf o81) l) (lf o63)))) (n o6 (n o10 (n o18 (n o37 (lf o69) l) (n o53 (lf (o87 P)) l)) (n o26 (n o45 (lf o79) l) (lf o61))) (n (o14 P) (n (o22 P) (n o41 (lf o75) l) (n o57 (lf o91) l)) (n o71 (n o49 (lf o83) l) (lf (o65 P)))))))
noncomputable def S2 (w : World) (os : OsState) : SharedT := ⟨T2 w.params, 89, {}, #[], {}, 358, os⟩
noncomputable def ss2 : List Stmt := [st 6]
theorem pc2 (w : World) (os : OsState) : segRunT treeTable PySem.Challenge.pw_ny0304_04 w 29 (some (.ref 6)) 1 240 (S1 w os) (piecesOf ss2 en (.body (behindTheImports PySem.Challenge.pw_ny0304_04) en) ⟨18, 0, 19, 21⟩ [topFrame fq]) = some (.next, S2 w os, (.body (behindTheImports PySem.Challenge.pw_ny0304_04) en), ⟨20, 0, 26, 34⟩) := by kernel_rfl
noncomputable def o94 (P : Params) : Obj := dc #[e1 P "__name__" 165 (sv "io" 286), e1 P "__doc__" 166 .none, e1 P "__package__" 167 .none, e1 P "__loader__" 168 (bi "__main__.__loader__#opaque"), e1 P "__spec__" 169 .none, e1 P "__annotations__" 170 (.ref 6), e1 P "__builtins__" 171 (.ref 4), e1 P "__file__" 173 (sv "/claim/cut.py" 172), e1 P "__cached__" 174 .none, e1 P "deque" 272 (.type "collections.deque"), e1 P "_wall" 285 (.ref 39), e1 P "_whence" 295 (.ref 46), e1 P "_index" 303 (.ref 53), e1 P "UnsupportedOperation" 325 (.ref 63), e1 P "IOBase" 357 (.ref 83), e1 P "BufferedIOBase" 375 (.ref 98), e1 P "TextIOBase" 393 (.ref 110)] 17
noncomputable def o95 : Obj := ⟨.none, none, (.fields #[.int 2 0, .int 0 0, .ref 38, .int 6 0, .int 0 0, .ref 45, .int 11 0, .int 0 0, .ref 52, .int 18 0, .int 0 0, .ref 59, .int 20 0, .int 0 0, .ref 72, .int 27 0, .int 0 0, .ref 94, .int 29 0, .int 0 0, .ref 106]), #[]⟩
noncomputable def o96 : Obj := ⟨.type "type", none, (.cls ⟨(S "IOBase"), [.type "object"], [.ref 83, .type "object"], 82, (S "IOBase"), true, [], [.ref 98, .ref 110], false, none, false⟩), #[none, none, (some (sv "IOBase" 326)), (some (sv "IOBase" 334)), (some .none), (some (.bool true))]⟩
noncomputable def o97 : Obj := tu #[.ref 83]
noncomputable def o98 : Obj := ⟨.type "builtin_function_or_method", none, (.fields #[bi "type.__prepare__", .type "type"]), #[]⟩
noncomputable def o99 (P : Params) : Obj := dc #[e1 P "__module__" 365 (sv "io" 370), e1 P "__qualname__" 367 (sv "BufferedIOBase" 366), e1 P "__firstlineno__" 369 (.int 27 368), e1 P "__static_attributes__" 372 (.ref 96)] 4
noncomputable def o100 : Obj := tu #[]
noncomputable def o101 : Obj := nf
noncomputable def o102 : Obj := co "BufferedIOBase" 360 "BufferedIOBase" 361 362 27 0 0 0 0 92 false 273 93 .none .none .none .none 363 27 364
noncomputable def o103 : Obj := ⟨.type "frame", none, .plain, #[(some (.ref 94)), (some (.ref 3)), (some (.ref 91)), none, (some (sv "io" 286)), none, (some (.ref 0))]⟩
noncomputable def o104 : Obj := tu #[]
noncomputable def o105 (P : Params) : Obj := dc #[e1 P "__module__" 365 (sv "io" 370), e1 P "__firstlineno__" 369 (.int 27 368), e1 P "__static_attributes__" 372 (.ref 96), e1 P "__doc__" 373 .none] 2
noncomputable def o106 : Obj := ⟨.type "type", none, (.cls ⟨(S "BufferedIOBase"), [.ref 83], [.ref 98, .ref 83, .type "object"], 97, (S "BufferedIOBase"), true, [], [], false, none, false⟩), #[(some (.ref 89)), none, (some (sv "BufferedIOBase" 358)), (some (sv "BufferedIOBase" 366)), (some .none), (some (.bool true))]⟩
noncomputable def o107 : Obj := ⟨.type "super", none, (.fields #[.ref 98, .ref 98, .ref 98]), #[]⟩
noncomputable def o108 : Obj := ⟨.type "builtin_function_or_method", none, (.fields #[bi "object.__init_subclass__", .ref 98]), #[]⟩
noncomputable def o109 : Obj := tu #[.ref 83]
noncomputable def o110 : Obj := ⟨.type "builtin_function_or_method", none, (.fields #[bi "type.__prepare__", .type "type"]), #[]⟩
noncomputable def o111 (P : Params) : Obj := dc #[e1 P "__module__" 383 (sv "io" 388), e1 P "__qualname__" 385 (sv "TextIOBase" 384), e1 P "__firstlineno__" 387 (.int 29 386), e1 P "__static_attributes__" 390 (.ref 108)] 4
noncomputable def o112 : Obj := tu #[]
noncomputable def o113 : Obj := nf
noncomputable def o114 : Obj := co "TextIOBase" 378 "TextIOBase" 379 380 29 0 0 0 0 104 false 273 105 .none .none .none .none 381 29 382
noncomputable def o115 : Obj := ⟨.type "frame", none, .plain, #[(some (.ref 106)), (some (.ref 3)), (some (.ref 103)), none, (some (sv "io" 286)), none, (some (.ref 0))]⟩
noncomputable def o116 : Obj := tu #[]
noncomputable def o117 (P : Params) : Obj := dc #[e1 P "__module__" 383 (sv "io" 388), e1 P "__firstlineno__" 387 (.int 29 386), e1 P "__static_attributes__" 390 (.ref 108), e1 P "__doc__" 391 .none] 2
noncomputable def o118 : Obj := ⟨.type "type", none, (.cls ⟨(S "TextIOBase"), [.ref 83], [.ref 110, .ref 83, .type "object"], 109, (S "TextIOBase"), true, [], [], false, none, false⟩), #[(some (.ref 101)), none, (some (sv "TextIOBase" 376)), (some (sv "TextIOBase" 384)), (some .none), (some (.bool true))]⟩
noncomputable def o119 : Obj := ⟨.type "super", none, (.fields #[.ref 110, .ref 110, .ref 110]), #[]⟩
noncomputable def o120 : Obj := ⟨.type "builtin_function_or_method", none, (.fields #[bi "object.__init_subclass__", .ref 110]), #[]⟩
noncomputable def T3 (P : Params) : BT := (n (o0 P) (n (o1 P) (n (o94 P) (n o7 (n o15 (n o31 (lf o66) (lf o103)) (n o50 (lf o84) (lf o119))) (n o23 (n o42 (lf o76) (lf (o111 P))) (n o58 (lf o92) l))) (n o11 (n o19 (n o38 (lf o72) (lf o107)) (n o54 (lf o96) l)) (n o27 (n o46 (lf o80) (lf o115)) (n o62 (lf (o99 P)) l)))) (n o5 (n o9 (n o17 (n o36 (lf o68) (lf (o105 P))) (n o52 (lf o86) l)) (n o25 (n o44 (lf o78) (lf o113)) (n o60 (lf o97) l))) (n o13 (n (o21 P) (n o40 (lf (o74 P)) (lf o109)) (n o56 (lf o90) l)) (n o29 (n o48 (lf o82) (lf (o117 P))) (n o64 (lf o101) l))))) (n (o33 P) (n o4 (n o8 (n o16 (n o32 (lf o67) (lf o104)) (n o51 (lf o85) (lf o120))) (n o24 (n o43 (lf o77) (lf o112)) (n (o59 P) (lf o93) l))) (n (o12 P) (n o20 (n o39 (lf o73) (lf o108)) (n o55 (lf o89) l)) (n o28 (n o47 (lf o81) (lf o116)) (n o63 (lf o100) l)))) (n o6 (n o10 (n o18 (n o37 (lf o69) (lf o106)) (n o53 (lf (o87 P)) l)) (n o26 (n o45 (lf o79) (lf o114)) (n o61 (lf o98) l))) (n (o14 P) (n (o22 P) (n o41 (lf o75) (lf o110)) (n o57 (lf o91) l)) (n o95 (n o49 (lf o83) (lf o118)) (n (o65 P) (lf o102) l))))))
noncomputable def S3 (w : World) (os : OsState) : SharedT := ⟨T3 w.params, 113, {}, #[], {}, 394, os⟩
noncomputable def ss3 : List Stmt := [st 7, st 8]
theorem pc3 (w : World) (os : OsState) : segRunT treeTable PySem.Challenge.pw_ny0304_04 w 29 (some (.ref 6)) 1 447 (S2 w os) (piecesOf ss3 en (.body (behindTheImports PySem.Challenge.pw_ny0304_04) en) ⟨20, 0, 26, 34⟩ [topFrame fq]) = some (.next, S3 w os, (.body (behindTheImports PySem.Challenge.pw_ny0304_04) en), ⟨29, 0, 30, 21⟩) := by kernel_rfl
noncomputable def o121 (P : Params) : Obj := dc #[e1 P "__name__" 165 (sv "io" 286), e1 P "__doc__" 166 .none, e1 P "__package__" 167 .none, e1 P "__loader__" 168 (bi "__main__.__loader__#opaque"), e1 P "__spec__" 169 .none, e1 P "__annotations__" 170 (.ref 6), e1 P "__builtins__" 171 (.ref 4), e1 P "__file__" 173 (sv "/claim/cut.py" 172), e1 P "__cached__" 174 .none, e1 P "deque" 272 (.type "collections.deque"), e1 P "_wall" 285 (.ref 39), e1 P "_whence" 295 (.ref 46), e1 P "_index" 303 (.ref 53), e1 P "UnsupportedOperation" 325 (.ref 63), e1 P "IOBase" 357 (.ref 83), e1 P "BufferedIOBase" 375 (.ref 98), e1 P "TextIOBase" 393 (.ref 110), e1 P "BytesIO" 655 (.ref 340)] 18
noncomputable def o122 : Obj := ⟨.none, none, (.fields #[.int 2 0, .int 0 0, .ref 38, .int 6 0, .int 0 0, .ref 45, .int 11 0, .int 0 0, .ref 52, .int 18 0, .int 0 0, .ref 59, .int 20 0, .int 0 0, .ref 72, .int 27 0, .int 0 0, .ref 94, .int 29 0, .int 0 0, .ref 106, .int 31 0, .int 0 0, .ref 118]), #[]⟩
noncomputable def o123 : Obj := ⟨.type "type", none, (.cls ⟨(S "BufferedIOBase"), [.ref 83], [.ref 98, .ref 83, .type "object"], 97, (S "BufferedIOBase"), true, [], [.ref 340], false, none, false⟩), #[(some (.ref 89)), none, (some (sv "BufferedIOBase" 358)), (some (sv "BufferedIOBase" 366)), (some .none), (some (.bool true))]⟩
noncomputable def o124 : Obj := tu #[.ref 98]
noncomputable def o125 : Obj := ⟨.type "builtin_function_or_method", none, (.fields #[bi "type.__prepare__", .type "type"]), #[]⟩
noncomputable def o126 (P : Params) : Obj := dc #[e1 P "__module__" 401 (sv "_io" 406), e1 P "__qualname__" 403 (sv "BytesIO" 402), e1 P "__firstlineno__" 405 (.int 31 404), e1 P "__init__" 415 (.ref 127), e1 P "_BytesIO__check" 422 (.ref 134), e1 P "_BytesIO__line" 433 (.ref 141), e1 P "closed" 441 (.ref 149), e1 P "close" 448 (.ref 156), e1 P "__enter__" 455 (.ref 163), e1 P "__exit__" 463 (.ref 170), e1 P "readable" 470 (.ref 177), e1 P "writable" 477 (.ref 184), e1 P "seekable" 484 (.ref 191), e1 P "isatty" 491 (.ref 198), e1 P "flush" 498 (.ref 205), e1 P "fileno" 505 (.ref 212), e1 P "detach" 512 (.ref 219), e1 P "getvalue" 519 (.ref 226), e1 P "getbuffer" 526 (.ref 233), e1 P "tell" 533 (.ref 240), e1 P "seek" 543 (.ref 248), e1 P "truncate" 551 (.ref 256), e1 P "read" 563 (.ref 264), e1 P "read1" 573 (.ref 272), e1 P "readinto" 583 (.ref 279), e1 P "readinto1" 591 (.ref 286), e1 P "readline" 601 (.ref 294), e1 P "readlines" 609 (.ref 302), e1 P "__iter__" 616 (.ref 309), e1 P "__next__" 624 (.ref 316), e1 P "write" 634 (.ref 323), e1 P "writelines" 642 (.ref 330), e1 P "__repr__" 649 (.ref 337), e1 P "__static_attributes__" 652 (.ref 338)] 34
noncomputable def o127 : Obj := tu #[]
noncomputable def o128 : Obj := ⟨.none, none, (.fields #[.int 34 0, .int 4 0, .ref 126, .int 40 0, .int 4 0, .ref 133, .int 44 0, .int 4 0, .ref 140, .int 58 0, .int 4 0, .ref 147, .int 61 0, .int 4 0, .ref 155, .int 64 0, .int 4 0, .ref 162, .int 68 0, .int 4 0, .ref 169, .int 71 0, .int 4 0, .ref 176, .int 75 0, .int 4 0, .ref 183, .int 79 0, .int 4 0, .ref 190, .int 83 0, .int 4 0, .ref 197, .int 87 0, .int 4 0, .ref 204, .int 90 0, .int 4 0, .ref 211, .int 93 0, .int 4 0, .ref 218, .int 96 0, .int 4 0, .ref 225, .int 99 0, .int 4 0, .ref 232, .int 102 0, .int 4 0, .ref 239, .int 106 0, .int 4 0, .ref 247, .int 123 0, .int 4 0, .ref 255, .int 126 0, .int 4 0, .ref 263, .int 140 0, .int 4 0, .ref 271, .int 143 0, .int 4 0, .ref 278, .int 157 0, .int 4 0, .ref 285, .int 160 0, .int 4 0, .ref 293, .int 167 0, .int 4 0, .ref 301, .int 170 0, .int 4 0, .ref 308, .int 173 0, .int 4 0, .ref 315, .int 180 0, .int 4 0, .ref 322, .int 196 0, .int 4 0, .ref 329, .int 199 0, .int 4 0, .ref 336]), #[]⟩
noncomputable def o129 : Obj := co "BytesIO" 396 "BytesIO" 397 398 31 0 0 0 0 116 false 273 117 .none .none .none .none 399 31 400
noncomputable def o130 : Obj := ⟨.type "frame", none, .plain, #[(some (.ref 118)), (some (.ref 3)), (some (.ref 115)), none, (some (sv "io" 286)), none, (some (.ref 0))]⟩
noncomputable def o131 : Obj := tu #[.none]
noncomputable def o132 : Obj := tu #[]
noncomputable def o133 : Obj := nf
noncomputable def o134 : Obj := tu #[sv "self" 411, sv "initial_bytes" 412]
noncomputable def o135 : Obj := tu #[]
noncomputable def o136 : Obj := f0 "__init__" "BytesIO.__init__" (kid (st 9) 1)
noncomputable def o137 : Obj := co "__init__" 408 "BytesIO.__init__" 409 410 34 2 0 0 3 121 true 273 122 .none (.ref 123) (.ref 124) (.ref 125) 413 34 414
noncomputable def o138 : Obj := fo (.type "function") (fn (S "__init__") (S "BytesIO.__init__") (kid (st 9) 1) 3 [] (.ref 120) .none .none (sv "io" 286) none (.ref 126) .none 0)
noncomputable def o139 : Obj := tu #[]
noncomputable def o140 : Obj := nf
noncomputable def o141 : Obj := tu #[sv "self" 419]
noncomputable def o142 : Obj := tu #[]
noncomputable def o143 : Obj := f0 "__check" "BytesIO.__check" (kid (st 9) 2)
noncomputable def o144 : Obj := co "__check" 416 "BytesIO.__check" 417 418 40 1 0 0 3 128 true 273 129 .none (.ref 130) (.ref 131) (.ref 132) 420 40 421
noncomputable def o145 : Obj := fo (.type "function") (fn (S "__check") (S "BytesIO.__check") (kid (st 9) 2) 3 [] .none .none .none (sv "io" 286) none (.ref 133) .none 0)
noncomputable def o146 : Obj := tu #[]
noncomputable def o147 : Obj := nf
noncomputable def o148 : Obj := tu #[sv "self" 426, sv "limit" 427, sv "start" 428, sv "stop" 429, sv "i" 430]
noncomputable def o149 : Obj := tu #[]
noncomputable def o150 : Obj := f0 "__line" "BytesIO.__line" (kid (st 9) 3)
noncomputable def o151 : Obj := co "__line" 423 "BytesIO.__line" 424 425 44 2 0 0 3 135 true 273 136 .none (.ref 137) (.ref 138) (.ref 139) 431 44 432
noncomputable def o152 : Obj := fo (.type "function") (fn (S "__line") (S "BytesIO.__line") (kid (st 9) 3) 3 [] .none .none .none (sv "io" 286) none (.ref 140) .none 0)
noncomputable def o153 : Obj := tu #[]
noncomputable def o154 : Obj := nf
noncomputable def o155 : Obj := tu #[sv "self" 437]
noncomputable def o156 : Obj := tu #[]
noncomputable def o157 : Obj := f0 "closed" "BytesIO.closed" (kid (st 9) 4)
noncomputable def o158 : Obj := co "closed" 434 "BytesIO.closed" 435 436 57 1 0 0 3 142 true 273 143 .none (.ref 144) (.ref 145) (.ref 146) 438 57 439
noncomputable def o159 : Obj := fo (.type "function") (fn (S "closed") (S "BytesIO.closed") (kid (st 9) 4) 3 [] .none .none .none (sv "io" 286) none (.ref 147) .none 0)
noncomputable def o160 : Obj := ⟨.type "property", none, (.fields #[.ref 148, .none, .none, .none, sv "closed" 441, .bool false]), #[]⟩
noncomputable def o161 : Obj := tu #[]
noncomputable def o162 : Obj := nf
noncomputable def o163 : Obj := tu #[sv "self" 445]
noncomputable def o164 : Obj := tu #[]
noncomputable def o165 : Obj := f0 "close" "BytesIO.close" (kid (st 9) 5)
noncomputable def o166 : Obj := co "close" 442 "BytesIO.close" 443 444 61 1 0 0 3 150 true 273 151 .none (.ref 152) (.ref 153) (.ref 154) 446 61 447
noncomputable def o167 : Obj := fo (.type "function") (fn (S "close") (S "BytesIO.close") (kid (st 9) 5) 3 [] .none .none .none (sv "io" 286) none (.ref 155) .none 0)
noncomputable def o168 : Obj := tu #[]
noncomputable def o169 : Obj := nf
noncomputable def o170 : Obj := tu #[sv "self" 452]
noncomputable def o171 : Obj := tu #[]
noncomputable def o172 : Obj := f0 "__enter__" "BytesIO.__enter__" (kid (st 9) 6)
noncomputable def o173 : Obj := co "__enter__" 449 "BytesIO.__enter__" 450 451 64 1 0 0 3 157 true 273 158 .none (.ref 159) (.ref 160) (.ref 161) 453 64 454
noncomputable def o174 : Obj := fo (.type "function") (fn (S "__enter__") (S "BytesIO.__enter__") (kid (st 9) 6) 3 [] .none .none .none (sv "io" 286) none (.ref 162) .none 0)
noncomputable def o175 : Obj := tu #[]
noncomputable def o176 : Obj := nf
noncomputable def o177 : Obj := tu #[sv "self" 459, sv "args" 460]
noncomputable def o178 : Obj := tu #[]
noncomputable def o179 : Obj := f0 "__exit__" "BytesIO.__exit__" (kid (st 9) 7)
noncomputable def o180 : Obj := co "__exit__" 456 "BytesIO.__exit__" 457 458 68 1 0 0 7 164 true 273 165 .none (.ref 166) (.ref 167) (.ref 168) 461 68 462
noncomputable def o181 : Obj := fo (.type "function") (fn (S "__exit__") (S "BytesIO.__exit__") (kid (st 9) 7) 3 [] .none .none .none (sv "io" 286) none (.ref 169) .none 0)
noncomputable def o182 : Obj := tu #[]
noncomputable def o183 : Obj := nf
noncomputable def o184 : Obj := tu #[sv "self" 467]
noncomputable def o185 : Obj := tu #[]
noncomputable def o186 : Obj := f0 "readable" "BytesIO.readable" (kid (st 9) 8)
noncomputable def o187 : Obj := co "readable" 464 "BytesIO.readable" 465 466 71 1 0 0 3 171 true 273 172 .none (.ref 173) (.ref 174) (.ref 175) 468 71 469
noncomputable def o188 : Obj := fo (.type "function") (fn (S "readable") (S "BytesIO.readable") (kid (st 9) 8) 3 [] .none .none .none (sv "io" 286) none (.ref 176) .none 0)
noncomputable def o189 : Obj := tu #[]
noncomputable def o190 : Obj := nf
noncomputable def o191 : Obj := tu #[sv "self" 474]
noncomputable def o192 : Obj := tu #[]
noncomputable def o193 : Obj := f0 "writable" "BytesIO.writable" (kid (st 9) 9)
noncomputable def o194 : Obj := co "writable" 471 "BytesIO.writable" 472 473 75 1 0 0 3 178 true 273 179 .none (.ref 180) (.ref 181) (.ref 182) 475 75 476
noncomputable def o195 : Obj := fo (.type "function") (fn (S "writable") (S "BytesIO.writable") (kid (st 9) 9) 3 [] .none .none .none (sv "io" 286) none (.ref 183) .none 0)
noncomputable def o196 : Obj := tu #[]
noncomputable def o197 : Obj := nf
noncomputable def o198 : Obj := tu #[sv "self" 481]
noncomputable def o199 : Obj := tu #[]
noncomputable def o200 : Obj := f0 "seekable" "BytesIO.seekable" (kid (st 9) 10)
noncomputable def o201 : Obj := co "seekable" 478 "BytesIO.seekable" 479 480 79 1 0 0 3 185 true 273 186 .none (.ref 187) (.ref 188) (.ref 189) 482 79 483
noncomputable def o202 : Obj := fo (.type "function") (fn (S "seekable") (S "BytesIO.seekable") (kid (st 9) 10) 3 [] .none .none .none (sv "io" 286) none (.ref 190) .none 0)
noncomputable def o203 : Obj := tu #[]
noncomputable def o204 : Obj := nf
noncomputable def o205 : Obj := tu #[sv "self" 488]
noncomputable def o206 : Obj := tu #[]
noncomputable def o207 : Obj := f0 "isatty" "BytesIO.isatty" (kid (st 9) 11)
noncomputable def o208 : Obj := co "isatty" 485 "BytesIO.isatty" 486 487 83 1 0 0 3 192 true 273 193 .none (.ref 194) (.ref 195) (.ref 196) 489 83 490
noncomputable def o209 : Obj := fo (.type "function") (fn (S "isatty") (S "BytesIO.isatty") (kid (st 9) 11) 3 [] .none .none .none (sv "io" 286) none (.ref 197) .none 0)
noncomputable def o210 : Obj := tu #[]
noncomputable def o211 : Obj := nf
noncomputable def o212 : Obj := tu #[sv "self" 495]
noncomputable def o213 : Obj := tu #[]
noncomputable def o214 : Obj := f0 "flush" "BytesIO.flush" (kid (st 9) 12)
noncomputable def o215 : Obj := co "flush" 492 "BytesIO.flush" 493 494 87 1 0 0 3 199 true 273 200 .none (.ref 201) (.ref 202) (.ref 203) 496 87 497
noncomputable def o216 : Obj := fo (.type "function") (fn (S "flush") (S "BytesIO.flush") (kid (st 9) 12) 3 [] .none .none .none (sv "io" 286) none (.ref 204) .none 0)
noncomputable def o217 : Obj := tu #[]
noncomputable def o218 : Obj := nf
noncomputable def o219 : Obj := tu #[sv "self" 502]
noncomputable def o220 : Obj := tu #[]
noncomputable def o221 : Obj := f0 "fileno" "BytesIO.fileno" (kid (st 9) 13)
noncomputable def o222 : Obj := co "fileno" 499 "BytesIO.fileno" 500 501 90 1 0 0 3 206 true 273 207 .none (.ref 208) (.ref 209) (.ref 210) 503 90 504
noncomputable def o223 : Obj := fo (.type "function") (fn (S "fileno") (S "BytesIO.fileno") (kid (st 9) 13) 3 [] .none .none .none (sv "io" 286) none (.ref 211) .none 0)
noncomputable def o224 : Obj := tu #[]
noncomputable def o225 : Obj := nf
noncomputable def o226 : Obj := tu #[sv "self" 509]
noncomputable def o227 : Obj := tu #[]
noncomputable def o228 : Obj := f0 "detach" "BytesIO.detach" (kid (st 9) 14)
noncomputable def o229 : Obj := co "detach" 506 "BytesIO.detach" 507 508 93 1 0 0 3 213 true 273 214 .none (.ref 215) (.ref 216) (.ref 217) 510 93 511
noncomputable def o230 : Obj := fo (.type "function") (fn (S "detach") (S "BytesIO.detach") (kid (st 9) 14) 3 [] .none .none .none (sv "io" 286) none (.ref 218) .none 0)
noncomputable def o231 : Obj := tu #[]
noncomputable def o232 : Obj := nf
noncomputable def o233 : Obj := tu #[sv "self" 516]
noncomputable def o234 : Obj := tu #[]
noncomputable def o235 : Obj := f0 "getvalue" "BytesIO.getvalue" (kid (st 9) 15)
noncomputable def o236 : Obj := co "getvalue" 513 "BytesIO.getvalue" 514 515 96 1 0 0 3 220 true 273 221 .none (.ref 222) (.ref 223) (.ref 224) 517 96 518
noncomputable def o237 : Obj := fo (.type "function") (fn (S "getvalue") (S "BytesIO.getvalue") (kid (st 9) 15) 3 [] .none .none .none (sv "io" 286) none (.ref 225) .none 0)
noncomputable def o238 : Obj := tu #[]
noncomputable def o239 : Obj := nf
noncomputable def o240 : Obj := tu #[sv "self" 523]
noncomputable def o241 : Obj := tu #[]
noncomputable def o242 : Obj := f0 "getbuffer" "BytesIO.getbuffer" (kid (st 9) 16)
noncomputable def o243 : Obj := co "getbuffer" 520 "BytesIO.getbuffer" 521 522 99 1 0 0 3 227 true 273 228 .none (.ref 229) (.ref 230) (.ref 231) 524 99 525
noncomputable def o244 : Obj := fo (.type "function") (fn (S "getbuffer") (S "BytesIO.getbuffer") (kid (st 9) 16) 3 [] .none .none .none (sv "io" 286) none (.ref 232) .none 0)
noncomputable def o245 : Obj := tu #[]
noncomputable def o246 : Obj := nf
noncomputable def o247 : Obj := tu #[sv "self" 530]
noncomputable def o248 : Obj := tu #[]
noncomputable def o249 : Obj := f0 "tell" "BytesIO.tell" (kid (st 9) 17)
noncomputable def o250 : Obj := co "tell" 527 "BytesIO.tell" 528 529 102 1 0 0 3 234 true 273 235 .none (.ref 236) (.ref 237) (.ref 238) 531 102 532
noncomputable def o251 : Obj := fo (.type "function") (fn (S "tell") (S "BytesIO.tell") (kid (st 9) 17) 3 [] .none .none .none (sv "io" 286) none (.ref 239) .none 0)
noncomputable def o252 : Obj := tu #[.int 0 534]
noncomputable def o253 : Obj := tu #[]
noncomputable def o254 : Obj := nf
noncomputable def o255 : Obj := tu #[sv "self" 538, sv "pos" 539, sv "whence" 540]
noncomputable def o256 : Obj := tu #[]
noncomputable def o257 : Obj := f0 "seek" "BytesIO.seek" (kid (st 9) 18)
noncomputable def o258 : Obj := co "seek" 535 "BytesIO.seek" 536 537 106 3 3 0 3 242 true 273 243 .none (.ref 244) (.ref 245) (.ref 246) 541 106 542
noncomputable def o259 : Obj := fo (.type "function") (fn (S "seek") (S "BytesIO.seek") (kid (st 9) 18) 3 [] (.ref 241) .none .none (sv "io" 286) none (.ref 247) .none 0)
noncomputable def o260 : Obj := tu #[.none]
noncomputable def o261 : Obj := tu #[]
noncomputable def o262 : Obj := nf
noncomputable def o263 : Obj := tu #[sv "self" 547, sv "size" 548]
noncomputable def o264 : Obj := tu #[]
noncomputable def o265 : Obj := f0 "truncate" "BytesIO.truncate" (kid (st 9) 19)
noncomputable def o266 : Obj := co "truncate" 544 "BytesIO.truncate" 545 546 123 2 2 0 3 250 true 273 251 .none (.ref 252) (.ref 253) (.ref 254) 549 123 550
noncomputable def o267 : Obj := fo (.type "function") (fn (S "truncate") (S "BytesIO.truncate") (kid (st 9) 19) 3 [] (.ref 249) .none .none (sv "io" 286) none (.ref 255) .none 0)
noncomputable def o268 : Obj := tu #[.int (-1) 553]
noncomputable def o269 : Obj := tu #[]
noncomputable def o270 : Obj := nf
noncomputable def o271 : Obj := tu #[sv "self" 557, sv "size" 558, sv "start" 559, sv "stop" 560]
noncomputable def o272 : Obj := tu #[]
noncomputable def o273 : Obj := f0 "read" "BytesIO.read" (kid (st 9) 20)
noncomputable def o274 : Obj := co "read" 554 "BytesIO.read" 555 556 126 2 2 0 3 258 true 273 259 .none (.ref 260) (.ref 261) (.ref 262) 561 126 562
noncomputable def o275 : Obj := fo (.type "function") (fn (S "read") (S "BytesIO.read") (kid (st 9) 20) 3 [] (.ref 257) .none .none (sv "io" 286) none (.ref 263) .none 0)
noncomputable def o276 : Obj := tu #[.int (-1) 565]
noncomputable def o277 : Obj := tu #[]
noncomputable def o278 : Obj := nf
noncomputable def o279 : Obj := tu #[sv "self" 569, sv "size" 570]
noncomputable def o280 : Obj := tu #[]
noncomputable def o281 : Obj := f0 "read1" "BytesIO.read1" (kid (st 9) 21)
noncomputable def o282 : Obj := co "read1" 566 "BytesIO.read1" 567 568 140 2 2 0 3 266 true 273 267 .none (.ref 268) (.ref 269) (.ref 270) 571 140 572
noncomputable def o283 : Obj := fo (.type "function") (fn (S "read1") (S "BytesIO.read1") (kid (st 9) 21) 3 [] (.ref 265) .none .none (sv "io" 286) none (.ref 271) .none 0)
noncomputable def o284 : Obj := tu #[]
noncomputable def o285 : Obj := nf
noncomputable def o286 : Obj := tu #[sv "self" 577, sv "buffer" 578, sv "start" 579, sv "n" 580]
noncomputable def o287 : Obj := tu #[]
noncomputable def o288 : Obj := f0 "readinto" "BytesIO.readinto" (kid (st 9) 22)
noncomputable def o289 : Obj := co "readinto" 574 "BytesIO.readinto" 575 576 143 2 2 0 3 273 true 273 274 .none (.ref 275) (.ref 276) (.ref 277) 581 143 582
noncomputable def o290 : Obj := fo (.type "function") (fn (S "readinto") (S "BytesIO.readinto") (kid (st 9) 22) 3 [] .none .none .none (sv "io" 286) none (.ref 278) .none 0)
noncomputable def o291 : Obj := tu #[]
noncomputable def o292 : Obj := nf
noncomputable def o293 : Obj := tu #[sv "self" 587, sv "buffer" 588]
noncomputable def o294 : Obj := tu #[]
noncomputable def o295 : Obj := f0 "readinto1" "BytesIO.readinto1" (kid (st 9) 23)
noncomputable def o296 : Obj := co "readinto1" 584 "BytesIO.readinto1" 585 586 157 2 2 0 3 280 true 273 281 .none (.ref 282) (.ref 283) (.ref 284) 589 157 590
noncomputable def o297 : Obj := fo (.type "function") (fn (S "readinto1") (S "BytesIO.readinto1") (kid (st 9) 23) 3 [] .none .none .none (sv "io" 286) none (.ref 285) .none 0)
noncomputable def o298 : Obj := tu #[.int (-1) 593]
noncomputable def o299 : Obj := tu #[]
noncomputable def o300 : Obj := nf
noncomputable def o301 : Obj := tu #[sv "self" 597, sv "size" 598]
noncomputable def o302 : Obj := tu #[]
noncomputable def o303 : Obj := f0 "readline" "BytesIO.readline" (kid (st 9) 24)
noncomputable def o304 : Obj := co "readline" 594 "BytesIO.readline" 595 596 160 2 2 0 3 288 true 273 289 .none (.ref 290) (.ref 291) (.ref 292) 599 160 600
noncomputable def o305 : Obj := fo (.type "function") (fn (S "readline") (S "BytesIO.readline") (kid (st 9) 24) 3 [] (.ref 287) .none .none (sv "io" 286) none (.ref 293) .none 0)
noncomputable def o306 : Obj := tu #[.none]
noncomputable def o307 : Obj := tu #[]
noncomputable def o308 : Obj := nf
noncomputable def o309 : Obj := tu #[sv "self" 605, sv "size" 606]
noncomputable def o310 : Obj := tu #[]
noncomputable def o311 : Obj := f0 "readlines" "BytesIO.readlines" (kid (st 9) 25)
noncomputable def o312 : Obj := co "readlines" 602 "BytesIO.readlines" 603 604 167 2 2 0 3 296 true 273 297 .none (.ref 298) (.ref 299) (.ref 300) 607 167 608
noncomputable def o313 : Obj := fo (.type "function") (fn (S "readlines") (S "BytesIO.readlines") (kid (st 9) 25) 3 [] (.ref 295) .none .none (sv "io" 286) none (.ref 301) .none 0)
noncomputable def o314 : Obj := tu #[]
noncomputable def o315 : Obj := nf
noncomputable def o316 : Obj := tu #[sv "self" 613]
noncomputable def o317 : Obj := tu #[]
noncomputable def o318 : Obj := f0 "__iter__" "BytesIO.__iter__" (kid (st 9) 26)
noncomputable def o319 : Obj := co "__iter__" 610 "BytesIO.__iter__" 611 612 170 1 0 0 3 303 true 273 304 .none (.ref 305) (.ref 306) (.ref 307) 614 170 615
noncomputable def o320 : Obj := fo (.type "function") (fn (S "__iter__") (S "BytesIO.__iter__") (kid (st 9) 26) 3 [] .none .none .none (sv "io" 286) none (.ref 308) .none 0)
noncomputable def o321 : Obj := tu #[]
noncomputable def o322 : Obj := nf
noncomputable def o323 : Obj := tu #[sv "self" 620, sv "line" 621]
noncomputable def o324 : Obj := tu #[]
noncomputable def o325 : Obj := f0 "__next__" "BytesIO.__next__" (kid (st 9) 27)
noncomputable def o326 : Obj := co "__next__" 617 "BytesIO.__next__" 618 619 173 1 0 0 3 310 true 273 311 .none (.ref 312) (.ref 313) (.ref 314) 622 173 623
noncomputable def o327 : Obj := fo (.type "function") (fn (S "__next__") (S "BytesIO.__next__") (kid (st 9) 27) 3 [] .none .none .none (sv "io" 286) none (.ref 315) .none 0)
noncomputable def o328 : Obj := tu #[]
noncomputable def o329 : Obj := nf
noncomputable def o330 : Obj := tu #[sv "self" 628, sv "b" 629, sv "n" 630, sv "start" 631]
noncomputable def o331 : Obj := tu #[]
noncomputable def o332 : Obj := f0 "write" "BytesIO.write" (kid (st 9) 28)
noncomputable def o333 : Obj := co "write" 625 "BytesIO.write" 626 627 180 2 2 0 3 317 true 273 318 .none (.ref 319) (.ref 320) (.ref 321) 632 180 633
noncomputable def o334 : Obj := fo (.type "function") (fn (S "write") (S "BytesIO.write") (kid (st 9) 28) 3 [] .none .none .none (sv "io" 286) none (.ref 322) .none 0)
noncomputable def o335 : Obj := tu #[]
noncomputable def o336 : Obj := nf
noncomputable def o337 : Obj := tu #[sv "self" 638, sv "lines" 639]
noncomputable def o338 : Obj := tu #[]
noncomputable def o339 : Obj := f0 "writelines" "BytesIO.writelines" (kid (st 9) 29)
noncomputable def o340 : Obj := co "writelines" 635 "BytesIO.writelines" 636 637 196 2 2 0 3 324 true 273 325 .none (.ref 326) (.ref 327) (.ref 328) 640 196 641
noncomputable def o341 : Obj := fo (.type "function") (fn (S "writelines") (S "BytesIO.writelines") (kid (st 9) 29) 3 [] .none .none .none (sv "io" 286) none (.ref 329) .none 0)
noncomputable def o342 : Obj := tu #[]
noncomputable def o343 : Obj := nf
noncomputable def o344 : Obj := tu #[sv "self" 646]
noncomputable def o345 : Obj := tu #[]
noncomputable def o346 : Obj := f0 "__repr__" "BytesIO.__repr__" (kid (st 9) 30)
noncomputable def o347 : Obj := co "__repr__" 643 "BytesIO.__repr__" 644 645 199 1 0 0 3 331 true 273 332 .none (.ref 333) (.ref 334) (.ref 335) 647 199 648
noncomputable def o348 : Obj := fo (.type "function") (fn (S "__repr__") (S "BytesIO.__repr__") (kid (st 9) 30) 3 [] .none .none .none (sv "io" 286) none (.ref 336) .none 0)
noncomputable def o349 : Obj := tu #[sv "__buf" 650, sv "__pos" 651]
noncomputable def o350 (P : Params) : Obj := dc #[e1 P "__module__" 401 (sv "_io" 406), e1 P "__firstlineno__" 405 (.int 31 404), e1 P "__init__" 415 (.ref 127), e1 P "_BytesIO__check" 422 (.ref 134), e1 P "_BytesIO__line" 433 (.ref 141), e1 P "closed" 441 (.ref 149), e1 P "close" 448 (.ref 156), e1 P "__enter__" 455 (.ref 163), e1 P "__exit__" 463 (.ref 170), e1 P "readable" 470 (.ref 177), e1 P "writable" 477 (.ref 184), e1 P "seekable" 484 (.ref 191), e1 P "isatty" 491 (.ref 198), e1 P "flush" 498 (.ref 205), e1 P "fileno" 505 (.ref 212), e1 P "detach" 512 (.ref 219), e1 P "getvalue" 519 (.ref 226), e1 P "getbuffer" 526 (.ref 233), e1 P "tell" 533 (.ref 240), e1 P "seek" 543 (.ref 248), e1 P "truncate" 551 (.ref 256), e1 P "read" 563 (.ref 264), e1 P "read1" 573 (.ref 272), e1 P "readinto" 583 (.ref 279), e1 P "readinto1" 591 (.ref 286), e1 P "readline" 601 (.ref 294), e1 P "readlines" 609 (.ref 302), e1 P "__iter__" 616 (.ref 309), e1 P "__next__" 624 (.ref 316), e1 P "write" 634 (.ref 323), e1 P "writelines" 642 (.ref 330), e1 P "__repr__" 649 (.ref 337), e1 P "__static_attributes__" 652 (.ref 338), e1 P "__doc__" 653 .none] 2
noncomputable def o351 : Obj := ⟨.type "type", none, (.cls ⟨(S "BytesIO"), [.ref 98], [.ref 340, .ref 98, .ref 83, .type "object"], 339, (S "BytesIO"), true, [], [], false, none, false⟩), #[(some (.ref 113)), none, (some (sv "BytesIO" 394)), (some (sv "BytesIO" 402)), (some .none), (some (.bool true))]⟩
noncomputable def o352 : Obj := ⟨.type "super", none, (.fields #[.ref 340, .ref 340, .ref 340]), #[]⟩
noncomputable def o353 : Obj := ⟨.type "builtin_function_or_method", none, (.fields #[bi "object.__init_subclass__", .ref 340]), #[]⟩
noncomputable def T4 (P : Params) : BT := (n (o0 P) (n (o1 P) (n (o121 P) (n o7 (n o15 (n o31 (n o66 (n o138 (lf o266) l) (n o202 (lf o330) l)) (n o103 (n o170 (lf o298) l) (lf o234))) (n o50 (n o84 (n o154 (lf o282) l) (n o218 (lf o346) l)) (n o119 (n o186 (lf o314) l) (lf o250)))) (n o23 (n o42 (n o76 (n o146 (lf o274) l) (n o210 (lf o338) l)) (n (o111 P) (n o178 (lf o306) l) (lf o242))) (n o58 (n o92 (n o162 (lf o290) l) (lf o226)) (n o130 (n o194 (lf o322) l) (lf o258))))) (n o11 (n o19 (n o38 (n o72 (n o142 (lf o270) l) (n o206 (lf o334) l)) (n o107 (n o174 (lf o302) l) (lf o238))) (n o54 (n o96 (n o158 (lf o286) l) (n o222 (lf (o350 P)) l)) (n (o126 P) (n o190 (lf o318) l) (lf o254)))) (n o27 (n o46 (n o80 (n o150 (lf o278) l) (n o214 (lf o342) l)) (n o115 (n o182 (lf o310) l) (lf o246))) (n o62 (n (o99 P) (n o166 (lf o294) l) (lf o230)) (n o134 (n o198 (lf o326) l) (lf o262)))))) (n o5 (n o9 (n o17 (n o36 (n o68 (n o140 (lf o268) l) (n o204 (lf o332) l)) (n (o105 P) (n o172 (lf o300) l) (lf o236))) (n o52 (n o86 (n o156 (lf o284) l) (n o220 (lf o348) l)) (n o124 (n o188 (lf o316) l) (lf o252)))) (n o25 (n o44 (n o78 (n o148 (lf o276) l) (n o212 (lf o340) l)) (n o113 (n o180 (lf o308) l) (lf o244))) (n o60 (n o97 (n o164 (lf o292) l) (lf o228)) (n o132 (n o196 (lf o324) l) (lf o260))))) (n o13 (n (o21 P) (n o40 (n (o74 P) (n o144 (lf o272) l) (n o208 (lf o336) l)) (n o109 (n o176 (lf o304) l) (lf o240))) (n o56 (n o90 (n o160 (lf o288) l) (n o224 (lf o352) l)) (n o128 (n o192 (lf o320) l) (lf o256)))) (n o29 (n o48 (n o82 (n o152 (lf o280) l) (n o216 (lf o344) l)) (n (o117 P) (n o184 (lf o312) l) (lf o248))) (n o64 (n o101 (n o168 (lf o296) l) (lf o232)) (n o136 (n o200 (lf o328) l) (lf o264))))))) (n (o33 P) (n o4 (n o8 (n o16 (n o32 (n o67 (n o139 (lf o267) l) (n o203 (lf o331) l)) (n o104 (n o171 (lf o299) l) (lf o235))) (n o51 (n o85 (n o155 (lf o283) l) (n o219 (lf o347) l)) (n o120 (n o187 (lf o315) l) (lf o251)))) (n o24 (n o43 (n o77 (n o147 (lf o275) l) (n o211 (lf o339) l)) (n o112 (n o179 (lf o307) l) (lf o243))) (n (o59 P) (n o93 (n o163 (lf o291) l) (lf o227)) (n o131 (n o195 (lf o323) l) (lf o259))))) (n (o12 P) (n o20 (n o39 (n o73 (n o143 (lf o271) l) (n o207 (lf o335) l)) (n o108 (n o175 (lf o303) l) (lf o239))) (n o55 (n o89 (n o159 (lf o287) l) (n o223 (lf o351) l)) (n o127 (n o191 (lf o319) l) (lf o255)))) (n o28 (n o47 (n o81 (n o151 (lf o279) l) (n o215 (lf o343) l)) (n o116 (n o183 (lf o311) l) (lf o247))) (n o63 (n o100 (n o167 (lf o295) l) (lf o231)) (n o135 (n o199 (lf o327) l) (lf o263)))))) (n o6 (n o10 (n o18 (n o37 (n o69 (n o141 (lf o269) l) (n o205 (lf o333) l)) (n o123 (n o173 (lf o301) l) (lf o237))) (n o53 (n (o87 P) (n o157 (lf o285) l) (n o221 (lf o349) l)) (n o125 (n o189 (lf o317) l) (lf o253)))) (n o26 (n o45 (n o79 (n o149 (lf o277) l) (n o213 (lf o341) l)) (n o114 (n o181 (lf o309) l) (lf o245))) (n o61 (n o98 (n o165 (lf o293) l) (lf o229)) (n o133 (n o197 (lf o325) l) (lf o261))))) (n (o14 P) (n (o22 P) (n o41 (n o75 (n o145 (lf o273) l) (n o209 (lf o337) l)) (n o110 (n o177 (lf o305) l) (lf o241))) (n o57 (n o91 (n o161 (lf o289) l) (n o225 (lf o353) l)) (n o129 (n o193 (lf o321) l) (lf o257)))) (n o122 (n o49 (n o83 (n o153 (lf o281) l) (n o217 (lf o345) l)) (n o118 (n o185 (lf o313) l) (lf o249))) (n (o65 P) (n o102 (n o169 (lf o297) l) (lf o233)) (n o137 (n o201 (lf o329) l) (lf o265))))))))
noncomputable def S4 (w : World) (os : OsState) : SharedT := ⟨T4 w.params, 343, {}, #[], {}, 656, os⟩
noncomputable def ss4 : List Stmt := [st 9]
theorem pc4 (w : World) (os : OsState) : segRunT treeTable PySem.Challenge.pw_ny0304_04 w 29 (some (.ref 6)) 1 1278 (S3 w os) (piecesOf ss4 en (.body (behindTheImports PySem.Challenge.pw_ny0304_04) en) ⟨29, 0, 30, 21⟩ [topFrame fq]) = some (.next, S4 w os, (.body (behindTheImports PySem.Challenge.pw_ny0304_04) en), ⟨31, 0, 200, 17⟩) := by kernel_rfl
noncomputable def o354 (P : Params) : Obj := dc #[e1 P "__name__" 165 (sv "io" 286), e1 P "__doc__" 166 .none, e1 P "__package__" 167 .none, e1 P "__loader__" 168 (bi "__main__.__loader__#opaque"), e1 P "__spec__" 169 .none, e1 P "__annotations__" 170 (.ref 6), e1 P "__builtins__" 171 (.ref 4), e1 P "__file__" 173 (sv "/claim/cut.py" 172), e1 P "__cached__" 174 .none, e1 P "deque" 272 (.type "collections.deque"), e1 P "_wall" 285 (.ref 39), e1 P "_whence" 295 (.ref 46), e1 P "_index" 303 (.ref 53), e1 P "UnsupportedOperation" 325 (.ref 63), e1 P "IOBase" 357 (.ref 83), e1 P "BufferedIOBase" 375 (.ref 98), e1 P "TextIOBase" 393 (.ref 110), e1 P "BytesIO" 655 (.ref 340), e1 P "StringIO" 942 (.ref 587)] 19
noncomputable def o355 : Obj := ⟨.none, none, (.fields #[.int 2 0, .int 0 0, .ref 38, .int 6 0, .int 0 0, .ref 45, .int 11 0, .int 0 0, .ref 52, .int 18 0, .int 0 0, .ref 59, .int 20 0, .int 0 0, .ref 72, .int 27 0, .int 0 0, .ref 94, .int 29 0, .int 0 0, .ref 106, .int 31 0, .int 0 0, .ref 118, .int 201 0, .int 0 0, .ref 348]), #[]⟩
noncomputable def o356 : Obj := ⟨.type "type", none, (.cls ⟨(S "TextIOBase"), [.ref 83], [.ref 110, .ref 83, .type "object"], 109, (S "TextIOBase"), true, [], [.ref 587], false, none, false⟩), #[(some (.ref 101)), none, (some (sv "TextIOBase" 376)), (some (sv "TextIOBase" 384)), (some .none), (some (.bool true))]⟩
noncomputable def o357 : Obj := tu #[.ref 110]
noncomputable def o358 : Obj := ⟨.type "builtin_function_or_method", none, (.fields #[bi "type.__prepare__", .type "type"]), #[]⟩
noncomputable def o359 (P : Params) : Obj := dc #[e1 P "__module__" 663 (sv "_io" 668), e1 P "__qualname__" 665 (sv "StringIO" 664), e1 P "__firstlineno__" 667 (.int 201 666), e1 P "__init__" 680 (.ref 357), e1 P "_StringIO__translated" 689 (.ref 364), e1 P "_StringIO__check" 696 (.ref 371), e1 P "_StringIO__check_dot" 703 (.ref 378), e1 P "_StringIO__line" 718 (.ref 385), e1 P "closed" 726 (.ref 393), e1 P "line_buffering" 734 (.ref 401), e1 P "newlines" 742 (.ref 409), e1 P "encoding" 750 (.ref 417), e1 P "errors" 758 (.ref 425), e1 P "close" 765 (.ref 432), e1 P "__enter__" 772 (.ref 439), e1 P "__exit__" 780 (.ref 446), e1 P "readable" 787 (.ref 453), e1 P "writable" 794 (.ref 460), e1 P "seekable" 801 (.ref 467), e1 P "isatty" 808 (.ref 474), e1 P "flush" 815 (.ref 481), e1 P "fileno" 822 (.ref 488), e1 P "detach" 829 (.ref 495), e1 P "getvalue" 836 (.ref 502), e1 P "tell" 843 (.ref 509), e1 P "seek" 853 (.ref 517), e1 P "truncate" 861 (.ref 525), e1 P "read" 873 (.ref 533), e1 P "readline" 883 (.ref 541), e1 P "readlines" 893 (.ref 549), e1 P "__iter__" 900 (.ref 556), e1 P "__next__" 908 (.ref 563), e1 P "write" 920 (.ref 570), e1 P "writelines" 928 (.ref 577), e1 P "__repr__" 935 (.ref 584), e1 P "__static_attributes__" 939 (.ref 585)] 36
noncomputable def o360 : Obj := tu #[]
noncomputable def o361 : Obj := ⟨.none, none, (.fields #[.int 204 0, .int 4 0, .ref 356, .int 217 0, .int 4 0, .ref 363, .int 225 0, .int 4 0, .ref 370, .int 229 0, .int 4 0, .ref 377, .int 233 0, .int 4 0, .ref 384, .int 266 0, .int 4 0, .ref 391, .int 270 0, .int 4 0, .ref 399, .int 274 0, .int 4 0, .ref 407, .int 278 0, .int 4 0, .ref 415, .int 282 0, .int 4 0, .ref 423, .int 285 0, .int 4 0, .ref 431, .int 288 0, .int 4 0, .ref 438, .int 292 0, .int 4 0, .ref 445, .int 295 0, .int 4 0, .ref 452, .int 299 0, .int 4 0, .ref 459, .int 303 0, .int 4 0, .ref 466, .int 307 0, .int 4 0, .ref 473, .int 311 0, .int 4 0, .ref 480, .int 314 0, .int 4 0, .ref 487, .int 317 0, .int 4 0, .ref 494, .int 320 0, .int 4 0, .ref 501, .int 323 0, .int 4 0, .ref 508, .int 327 0, .int 4 0, .ref 516, .int 344 0, .int 4 0, .ref 524, .int 347 0, .int 4 0, .ref 532, .int 361 0, .int 4 0, .ref 540, .int 368 0, .int 4 0, .ref 548, .int 371 0, .int 4 0, .ref 555, .int 375 0, .int 4 0, .ref 562, .int 382 0, .int 4 0, .ref 569, .int 401 0, .int 4 0, .ref 576, .int 404 0, .int 4 0, .ref 583]), #[]⟩
noncomputable def o362 : Obj := co "StringIO" 658 "StringIO" 659 660 201 0 0 0 0 346 false 273 347 .none .none .none .none 661 201 662
noncomputable def o363 : Obj := ⟨.type "frame", none, .plain, #[(some (.ref 348)), (some (.ref 3)), (some (.ref 345)), none, (some (sv "io" 286)), none, (some (.ref 0))]⟩
noncomputable def o364 : Obj := ⟨.type "tuple", none, (.seq #[sv "" 670, .str (PySem.Str.mk #[10]) 671] 0), #[]⟩
noncomputable def o365 : Obj := tu #[]
noncomputable def o366 : Obj := nf
noncomputable def o367 : Obj := tu #[sv "self" 675, sv "initial_value" 676, sv "newline" 677]
noncomputable def o368 : Obj := tu #[]
noncomputable def o369 : Obj := f0 "__init__" "StringIO.__init__" (kid (st 10) 1)
noncomputable def o370 : Obj := co "__init__" 672 "StringIO.__init__" 673 674 204 3 0 0 3 351 true 273 352 .none (.ref 353) (.ref 354) (.ref 355) 678 204 679
noncomputable def o371 : Obj := fo (.type "function") (fn (S "__init__") (S "StringIO.__init__") (kid (st 10) 1) 3 [] (.ref 350) .none .none (sv "io" 286) none (.ref 356) .none 0)
noncomputable def o372 : Obj := tu #[]
noncomputable def o373 : Obj := nf
noncomputable def o374 : Obj := tu #[sv "self" 684, sv "s" 685, sv "newline" 686]
noncomputable def o375 : Obj := tu #[]
noncomputable def o376 : Obj := f0 "__translated" "StringIO.__translated" (kid (st 10) 2)
noncomputable def o377 : Obj := co "__translated" 681 "StringIO.__translated" 682 683 217 2 0 0 3 358 true 273 359 .none (.ref 360) (.ref 361) (.ref 362) 687 217 688
noncomputable def o378 : Obj := fo (.type "function") (fn (S "__translated") (S "StringIO.__translated") (kid (st 10) 2) 3 [] .none .none .none (sv "io" 286) none (.ref 363) .none 0)
noncomputable def o379 : Obj := tu #[]
noncomputable def o380 : Obj := nf
noncomputable def o381 : Obj := tu #[sv "self" 693]
noncomputable def o382 : Obj := tu #[]
noncomputable def o383 : Obj := f0 "__check" "StringIO.__check" (kid (st 10) 3)
noncomputable def o384 : Obj := co "__check" 690 "StringIO.__check" 691 692 225 1 0 0 3 365 true 273 366 .none (.ref 367) (.ref 368) (.ref 369) 694 225 695
noncomputable def o385 : Obj := fo (.type "function") (fn (S "__check") (S "StringIO.__check") (kid (st 10) 3) 3 [] .none .none .none (sv "io" 286) none (.ref 370) .none 0)
noncomputable def o386 : Obj := tu #[]
noncomputable def o387 : Obj := nf
noncomputable def o388 : Obj := tu #[sv "self" 700]
noncomputable def o389 : Obj := tu #[]
noncomputable def o390 : Obj := f0 "__check_dot" "StringIO.__check_dot" (kid (st 10) 4)
noncomputable def o391 : Obj := co "__check_dot" 697 "StringIO.__check_dot" 698 699 229 1 0 0 3 372 true 273 373 .none (.ref 374) (.ref 375) (.ref 376) 701 229 702
noncomputable def o392 : Obj := fo (.type "function") (fn (S "__check_dot") (S "StringIO.__check_dot") (kid (st 10) 4) 3 [] .none .none .none (sv "io" 286) none (.ref 377) .none 0)
noncomputable def o393 : Obj := tu #[]
noncomputable def o394 : Obj := nf
noncomputable def o395 : Obj := tu #[sv "self" 707, sv "limit" 708, sv "start" 709, sv "stop" 710, sv "cut" 711, sv "newline" 712, sv "i" 713, sv "j" 714, sv "end" 715]
noncomputable def o396 : Obj := tu #[]
noncomputable def o397 : Obj := f0 "__line" "StringIO.__line" (kid (st 10) 5)
noncomputable def o398 : Obj := co "__line" 704 "StringIO.__line" 705 706 233 2 0 0 3 379 true 273 380 .none (.ref 381) (.ref 382) (.ref 383) 716 233 717
noncomputable def o399 : Obj := fo (.type "function") (fn (S "__line") (S "StringIO.__line") (kid (st 10) 5) 3 [] .none .none .none (sv "io" 286) none (.ref 384) .none 0)
noncomputable def o400 : Obj := tu #[]
noncomputable def o401 : Obj := nf
noncomputable def o402 : Obj := tu #[sv "self" 722]
noncomputable def o403 : Obj := tu #[]
noncomputable def o404 : Obj := f0 "closed" "StringIO.closed" (kid (st 10) 6)
noncomputable def o405 : Obj := co "closed" 719 "StringIO.closed" 720 721 265 1 0 0 3 386 true 273 387 .none (.ref 388) (.ref 389) (.ref 390) 723 265 724
noncomputable def o406 : Obj := fo (.type "function") (fn (S "closed") (S "StringIO.closed") (kid (st 10) 6) 3 [] .none .none .none (sv "io" 286) none (.ref 391) .none 0)
noncomputable def o407 : Obj := ⟨.type "property", none, (.fields #[.ref 392, .none, .none, .none, sv "closed" 726, .bool false]), #[]⟩
noncomputable def o408 : Obj := tu #[]
noncomputable def o409 : Obj := nf
noncomputable def o410 : Obj := tu #[sv "self" 730]
noncomputable def o411 : Obj := tu #[]
noncomputable def o412 : Obj := f0 "line_buffering" "StringIO.line_buffering" (kid (st 10) 7)
noncomputable def o413 : Obj := co "line_buffering" 727 "StringIO.line_buffering" 728 729 269 1 0 0 3 394 true 273 395 .none (.ref 396) (.ref 397) (.ref 398) 731 269 732
noncomputable def o414 : Obj := fo (.type "function") (fn (S "line_buffering") (S "StringIO.line_buffering") (kid (st 10) 7) 3 [] .none .none .none (sv "io" 286) none (.ref 399) .none 0)
noncomputable def o415 : Obj := ⟨.type "property", none, (.fields #[.ref 400, .none, .none, .none, sv "line_buffering" 734, .bool false]), #[]⟩
noncomputable def o416 : Obj := tu #[]
noncomputable def o417 : Obj := nf
noncomputable def o418 : Obj := tu #[sv "self" 738]
noncomputable def o419 : Obj := tu #[]
noncomputable def o420 : Obj := f0 "newlines" "StringIO.newlines" (kid (st 10) 8)
noncomputable def o421 : Obj := co "newlines" 735 "StringIO.newlines" 736 737 273 1 0 0 3 402 true 273 403 .none (.ref 404) (.ref 405) (.ref 406) 739 273 740
noncomputable def o422 : Obj := fo (.type "function") (fn (S "newlines") (S "StringIO.newlines") (kid (st 10) 8) 3 [] .none .none .none (sv "io" 286) none (.ref 407) .none 0)
noncomputable def o423 : Obj := ⟨.type "property", none, (.fields #[.ref 408, .none, .none, .none, sv "newlines" 742, .bool false]), #[]⟩
noncomputable def o424 : Obj := tu #[]
noncomputable def o425 : Obj := nf
noncomputable def o426 : Obj := tu #[sv "self" 746]
noncomputable def o427 : Obj := tu #[]
noncomputable def o428 : Obj := f0 "encoding" "StringIO.encoding" (kid (st 10) 9)
noncomputable def o429 : Obj := co "encoding" 743 "StringIO.encoding" 744 745 277 1 0 0 3 410 true 273 411 .none (.ref 412) (.ref 413) (.ref 414) 747 277 748
noncomputable def o430 : Obj := fo (.type "function") (fn (S "encoding") (S "StringIO.encoding") (kid (st 10) 9) 3 [] .none .none .none (sv "io" 286) none (.ref 415) .none 0)
noncomputable def o431 : Obj := ⟨.type "property", none, (.fields #[.ref 416, .none, .none, .none, sv "encoding" 750, .bool false]), #[]⟩
noncomputable def o432 : Obj := tu #[]
noncomputable def o433 : Obj := nf
noncomputable def o434 : Obj := tu #[sv "self" 754]
noncomputable def o435 : Obj := tu #[]
noncomputable def o436 : Obj := f0 "errors" "StringIO.errors" (kid (st 10) 10)
noncomputable def o437 : Obj := co "errors" 751 "StringIO.errors" 752 753 281 1 0 0 3 418 true 273 419 .none (.ref 420) (.ref 421) (.ref 422) 755 281 756
noncomputable def o438 : Obj := fo (.type "function") (fn (S "errors") (S "StringIO.errors") (kid (st 10) 10) 3 [] .none .none .none (sv "io" 286) none (.ref 423) .none 0)
noncomputable def o439 : Obj := ⟨.type "property", none, (.fields #[.ref 424, .none, .none, .none, sv "errors" 758, .bool false]), #[]⟩
noncomputable def o440 : Obj := tu #[]
noncomputable def o441 : Obj := nf
noncomputable def o442 : Obj := tu #[sv "self" 762]
noncomputable def o443 : Obj := tu #[]
noncomputable def o444 : Obj := f0 "close" "StringIO.close" (kid (st 10) 11)
noncomputable def o445 : Obj := co "close" 759 "StringIO.close" 760 761 285 1 0 0 3 426 true 273 427 .none (.ref 428) (.ref 429) (.ref 430) 763 285 764
noncomputable def o446 : Obj := fo (.type "function") (fn (S "close") (S "StringIO.close") (kid (st 10) 11) 3 [] .none .none .none (sv "io" 286) none (.ref 431) .none 0)
noncomputable def o447 : Obj := tu #[]
noncomputable def o448 : Obj := nf
noncomputable def o449 : Obj := tu #[sv "self" 769]
noncomputable def o450 : Obj := tu #[]
noncomputable def o451 : Obj := f0 "__enter__" "StringIO.__enter__" (kid (st 10) 12)
noncomputable def o452 : Obj := co "__enter__" 766 "StringIO.__enter__" 767 768 288 1 0 0 3 433 true 273 434 .none (.ref 435) (.ref 436) (.ref 437) 770 288 771
noncomputable def o453 : Obj := fo (.type "function") (fn (S "__enter__") (S "StringIO.__enter__") (kid (st 10) 12) 3 [] .none .none .none (sv "io" 286) none (.ref 438) .none 0)
noncomputable def o454 : Obj := tu #[]
noncomputable def o455 : Obj := nf
noncomputable def o456 : Obj := tu #[sv "self" 776, sv "args" 777]
noncomputable def o457 : Obj := tu #[]
noncomputable def o458 : Obj := f0 "__exit__" "StringIO.__exit__" (kid (st 10) 13)
noncomputable def o459 : Obj := co "__exit__" 773 "StringIO.__exit__" 774 775 292 1 0 0 7 440 true 273 441 .none (.ref 442) (.ref 443) (.ref 444) 778 292 779
noncomputable def o460 : Obj := fo (.type "function") (fn (S "__exit__") (S "StringIO.__exit__") (kid (st 10) 13) 3 [] .none .none .none (sv "io" 286) none (.ref 445) .none 0)
noncomputable def o461 : Obj := tu #[]
noncomputable def o462 : Obj := nf
noncomputable def o463 : Obj := tu #[sv "self" 784]
noncomputable def o464 : Obj := tu #[]
noncomputable def o465 : Obj := f0 "readable" "StringIO.readable" (kid (st 10) 14)
noncomputable def o466 : Obj := co "readable" 781 "StringIO.readable" 782 783 295 1 0 0 3 447 true 273 448 .none (.ref 449) (.ref 450) (.ref 451) 785 295 786
noncomputable def o467 : Obj := fo (.type "function") (fn (S "readable") (S "StringIO.readable") (kid (st 10) 14) 3 [] .none .none .none (sv "io" 286) none (.ref 452) .none 0)
noncomputable def o468 : Obj := tu #[]
noncomputable def o469 : Obj := nf
noncomputable def o470 : Obj := tu #[sv "self" 791]
noncomputable def o471 : Obj := tu #[]
noncomputable def o472 : Obj := f0 "writable" "StringIO.writable" (kid (st 10) 15)
noncomputable def o473 : Obj := co "writable" 788 "StringIO.writable" 789 790 299 1 0 0 3 454 true 273 455 .none (.ref 456) (.ref 457) (.ref 458) 792 299 793
noncomputable def o474 : Obj := fo (.type "function") (fn (S "writable") (S "StringIO.writable") (kid (st 10) 15) 3 [] .none .none .none (sv "io" 286) none (.ref 459) .none 0)
noncomputable def o475 : Obj := tu #[]
noncomputable def o476 : Obj := nf
noncomputable def o477 : Obj := tu #[sv "self" 798]
noncomputable def o478 : Obj := tu #[]
noncomputable def o479 : Obj := f0 "seekable" "StringIO.seekable" (kid (st 10) 16)
noncomputable def o480 : Obj := co "seekable" 795 "StringIO.seekable" 796 797 303 1 0 0 3 461 true 273 462 .none (.ref 463) (.ref 464) (.ref 465) 799 303 800
noncomputable def o481 : Obj := fo (.type "function") (fn (S "seekable") (S "StringIO.seekable") (kid (st 10) 16) 3 [] .none .none .none (sv "io" 286) none (.ref 466) .none 0)
noncomputable def o482 : Obj := tu #[]
noncomputable def o483 : Obj := nf
noncomputable def o484 : Obj := tu #[sv "self" 805]
noncomputable def o485 : Obj := tu #[]
noncomputable def o486 : Obj := f0 "isatty" "StringIO.isatty" (kid (st 10) 17)
noncomputable def o487 : Obj := co "isatty" 802 "StringIO.isatty" 803 804 307 1 0 0 3 468 true 273 469 .none (.ref 470) (.ref 471) (.ref 472) 806 307 807
noncomputable def o488 : Obj := fo (.type "function") (fn (S "isatty") (S "StringIO.isatty") (kid (st 10) 17) 3 [] .none .none .none (sv "io" 286) none (.ref 473) .none 0)
noncomputable def o489 : Obj := tu #[]
noncomputable def o490 : Obj := nf
noncomputable def o491 : Obj := tu #[sv "self" 812]
noncomputable def o492 : Obj := tu #[]
noncomputable def o493 : Obj := f0 "flush" "StringIO.flush" (kid (st 10) 18)
noncomputable def o494 : Obj := co "flush" 809 "StringIO.flush" 810 811 311 1 0 0 3 475 true 273 476 .none (.ref 477) (.ref 478) (.ref 479) 813 311 814
noncomputable def o495 : Obj := fo (.type "function") (fn (S "flush") (S "StringIO.flush") (kid (st 10) 18) 3 [] .none .none .none (sv "io" 286) none (.ref 480) .none 0)
noncomputable def o496 : Obj := tu #[]
noncomputable def o497 : Obj := nf
noncomputable def o498 : Obj := tu #[sv "self" 819]
noncomputable def o499 : Obj := tu #[]
noncomputable def o500 : Obj := f0 "fileno" "StringIO.fileno" (kid (st 10) 19)
noncomputable def o501 : Obj := co "fileno" 816 "StringIO.fileno" 817 818 314 1 0 0 3 482 true 273 483 .none (.ref 484) (.ref 485) (.ref 486) 820 314 821
noncomputable def o502 : Obj := fo (.type "function") (fn (S "fileno") (S "StringIO.fileno") (kid (st 10) 19) 3 [] .none .none .none (sv "io" 286) none (.ref 487) .none 0)
noncomputable def o503 : Obj := tu #[]
noncomputable def o504 : Obj := nf
noncomputable def o505 : Obj := tu #[sv "self" 826]
noncomputable def o506 : Obj := tu #[]
noncomputable def o507 : Obj := f0 "detach" "StringIO.detach" (kid (st 10) 20)
noncomputable def o508 : Obj := co "detach" 823 "StringIO.detach" 824 825 317 1 0 0 3 489 true 273 490 .none (.ref 491) (.ref 492) (.ref 493) 827 317 828
noncomputable def o509 : Obj := fo (.type "function") (fn (S "detach") (S "StringIO.detach") (kid (st 10) 20) 3 [] .none .none .none (sv "io" 286) none (.ref 494) .none 0)
noncomputable def o510 : Obj := tu #[]
noncomputable def o511 : Obj := nf
noncomputable def o512 : Obj := tu #[sv "self" 833]
noncomputable def o513 : Obj := tu #[]
noncomputable def o514 : Obj := f0 "getvalue" "StringIO.getvalue" (kid (st 10) 21)
noncomputable def o515 : Obj := co "getvalue" 830 "StringIO.getvalue" 831 832 320 1 0 0 3 496 true 273 497 .none (.ref 498) (.ref 499) (.ref 500) 834 320 835
noncomputable def o516 : Obj := fo (.type "function") (fn (S "getvalue") (S "StringIO.getvalue") (kid (st 10) 21) 3 [] .none .none .none (sv "io" 286) none (.ref 501) .none 0)
noncomputable def o517 : Obj := tu #[]
noncomputable def o518 : Obj := nf
noncomputable def o519 : Obj := tu #[sv "self" 840]
noncomputable def o520 : Obj := tu #[]
noncomputable def o521 : Obj := f0 "tell" "StringIO.tell" (kid (st 10) 22)
noncomputable def o522 : Obj := co "tell" 837 "StringIO.tell" 838 839 323 1 0 0 3 503 true 273 504 .none (.ref 505) (.ref 506) (.ref 507) 841 323 842
noncomputable def o523 : Obj := fo (.type "function") (fn (S "tell") (S "StringIO.tell") (kid (st 10) 22) 3 [] .none .none .none (sv "io" 286) none (.ref 508) .none 0)
noncomputable def o524 : Obj := tu #[.int 0 844]
noncomputable def o525 : Obj := tu #[]
noncomputable def o526 : Obj := nf
noncomputable def o527 : Obj := tu #[sv "self" 848, sv "pos" 849, sv "whence" 850]
noncomputable def o528 : Obj := tu #[]
noncomputable def o529 : Obj := f0 "seek" "StringIO.seek" (kid (st 10) 23)
noncomputable def o530 : Obj := co "seek" 845 "StringIO.seek" 846 847 327 3 3 0 3 511 true 273 512 .none (.ref 513) (.ref 514) (.ref 515) 851 327 852
noncomputable def o531 : Obj := fo (.type "function") (fn (S "seek") (S "StringIO.seek") (kid (st 10) 23) 3 [] (.ref 510) .none .none (sv "io" 286) none (.ref 516) .none 0)
noncomputable def o532 : Obj := tu #[.none]
noncomputable def o533 : Obj := tu #[]
noncomputable def o534 : Obj := nf
noncomputable def o535 : Obj := tu #[sv "self" 857, sv "pos" 858]
noncomputable def o536 : Obj := tu #[]
noncomputable def o537 : Obj := f0 "truncate" "StringIO.truncate" (kid (st 10) 24)
noncomputable def o538 : Obj := co "truncate" 854 "StringIO.truncate" 855 856 344 2 2 0 3 519 true 273 520 .none (.ref 521) (.ref 522) (.ref 523) 859 344 860
noncomputable def o539 : Obj := fo (.type "function") (fn (S "truncate") (S "StringIO.truncate") (kid (st 10) 24) 3 [] (.ref 518) .none .none (sv "io" 286) none (.ref 524) .none 0)
noncomputable def o540 : Obj := tu #[.int (-1) 863]
noncomputable def o541 : Obj := tu #[]
noncomputable def o542 : Obj := nf
noncomputable def o543 : Obj := tu #[sv "self" 867, sv "size" 868, sv "start" 869, sv "stop" 870]
noncomputable def o544 : Obj := tu #[]
noncomputable def o545 : Obj := f0 "read" "StringIO.read" (kid (st 10) 25)
noncomputable def o546 : Obj := co "read" 864 "StringIO.read" 865 866 347 2 2 0 3 527 true 273 528 .none (.ref 529) (.ref 530) (.ref 531) 871 347 872
noncomputable def o547 : Obj := fo (.type "function") (fn (S "read") (S "StringIO.read") (kid (st 10) 25) 3 [] (.ref 526) .none .none (sv "io" 286) none (.ref 532) .none 0)
noncomputable def o548 : Obj := tu #[.int (-1) 875]
noncomputable def o549 : Obj := tu #[]
noncomputable def o550 : Obj := nf
noncomputable def o551 : Obj := tu #[sv "self" 879, sv "size" 880]
noncomputable def o552 : Obj := tu #[]
noncomputable def o553 : Obj := f0 "readline" "StringIO.readline" (kid (st 10) 26)
noncomputable def o554 : Obj := co "readline" 876 "StringIO.readline" 877 878 361 2 2 0 3 535 true 273 536 .none (.ref 537) (.ref 538) (.ref 539) 881 361 882
noncomputable def o555 : Obj := fo (.type "function") (fn (S "readline") (S "StringIO.readline") (kid (st 10) 26) 3 [] (.ref 534) .none .none (sv "io" 286) none (.ref 540) .none 0)
noncomputable def o556 : Obj := tu #[.int (-1) 885]
noncomputable def o557 : Obj := tu #[]
noncomputable def o558 : Obj := nf
noncomputable def o559 : Obj := tu #[sv "self" 889, sv "hint" 890]
noncomputable def o560 : Obj := tu #[]
noncomputable def o561 : Obj := f0 "readlines" "StringIO.readlines" (kid (st 10) 27)
noncomputable def o562 : Obj := co "readlines" 886 "StringIO.readlines" 887 888 368 2 2 0 3 543 true 273 544 .none (.ref 545) (.ref 546) (.ref 547) 891 368 892
noncomputable def o563 : Obj := fo (.type "function") (fn (S "readlines") (S "StringIO.readlines") (kid (st 10) 27) 3 [] (.ref 542) .none .none (sv "io" 286) none (.ref 548) .none 0)
noncomputable def o564 : Obj := tu #[]
noncomputable def o565 : Obj := nf
noncomputable def o566 : Obj := tu #[sv "self" 897]
noncomputable def o567 : Obj := tu #[]
noncomputable def o568 : Obj := f0 "__iter__" "StringIO.__iter__" (kid (st 10) 28)
noncomputable def o569 : Obj := co "__iter__" 894 "StringIO.__iter__" 895 896 371 1 0 0 3 550 true 273 551 .none (.ref 552) (.ref 553) (.ref 554) 898 371 899
noncomputable def o570 : Obj := fo (.type "function") (fn (S "__iter__") (S "StringIO.__iter__") (kid (st 10) 28) 3 [] .none .none .none (sv "io" 286) none (.ref 555) .none 0)
noncomputable def o571 : Obj := tu #[]
noncomputable def o572 : Obj := nf
noncomputable def o573 : Obj := tu #[sv "self" 904, sv "line" 905]
noncomputable def o574 : Obj := tu #[]
noncomputable def o575 : Obj := f0 "__next__" "StringIO.__next__" (kid (st 10) 29)
noncomputable def o576 : Obj := co "__next__" 901 "StringIO.__next__" 902 903 375 1 0 0 3 557 true 273 558 .none (.ref 559) (.ref 560) (.ref 561) 906 375 907
noncomputable def o577 : Obj := fo (.type "function") (fn (S "__next__") (S "StringIO.__next__") (kid (st 10) 29) 3 [] .none .none .none (sv "io" 286) none (.ref 562) .none 0)
noncomputable def o578 : Obj := tu #[]
noncomputable def o579 : Obj := nf
noncomputable def o580 : Obj := tu #[sv "self" 912, sv "s" 913, sv "n" 914, sv "m" 915, sv "start" 916, sv "buf" 917]
noncomputable def o581 : Obj := tu #[]
noncomputable def o582 : Obj := f0 "write" "StringIO.write" (kid (st 10) 30)
noncomputable def o583 : Obj := co "write" 909 "StringIO.write" 910 911 382 2 2 0 3 564 true 273 565 .none (.ref 566) (.ref 567) (.ref 568) 918 382 919
noncomputable def o584 : Obj := fo (.type "function") (fn (S "write") (S "StringIO.write") (kid (st 10) 30) 3 [] .none .none .none (sv "io" 286) none (.ref 569) .none 0)
noncomputable def o585 : Obj := tu #[]
noncomputable def o586 : Obj := nf
noncomputable def o587 : Obj := tu #[sv "self" 924, sv "lines" 925]
noncomputable def o588 : Obj := tu #[]
noncomputable def o589 : Obj := f0 "writelines" "StringIO.writelines" (kid (st 10) 31)
noncomputable def o590 : Obj := co "writelines" 921 "StringIO.writelines" 922 923 401 2 2 0 3 571 true 273 572 .none (.ref 573) (.ref 574) (.ref 575) 926 401 927
noncomputable def o591 : Obj := fo (.type "function") (fn (S "writelines") (S "StringIO.writelines") (kid (st 10) 31) 3 [] .none .none .none (sv "io" 286) none (.ref 576) .none 0)
noncomputable def o592 : Obj := tu #[]
noncomputable def o593 : Obj := nf
noncomputable def o594 : Obj := tu #[sv "self" 932]
noncomputable def o595 : Obj := tu #[]
noncomputable def o596 : Obj := f0 "__repr__" "StringIO.__repr__" (kid (st 10) 32)
noncomputable def o597 : Obj := co "__repr__" 929 "StringIO.__repr__" 930 931 404 1 0 0 3 578 true 273 579 .none (.ref 580) (.ref 581) (.ref 582) 933 404 934
noncomputable def o598 : Obj := fo (.type "function") (fn (S "__repr__") (S "StringIO.__repr__") (kid (st 10) 32) 3 [] .none .none .none (sv "io" 286) none (.ref 583) .none 0)
noncomputable def o599 : Obj := tu #[sv "__buf" 936, sv "__newline" 937, sv "__pos" 938]
noncomputable def o600 (P : Params) : Obj := dc #[e1 P "__module__" 663 (sv "_io" 668), e1 P "__firstlineno__" 667 (.int 201 666), e1 P "__init__" 680 (.ref 357), e1 P "_StringIO__translated" 689 (.ref 364), e1 P "_StringIO__check" 696 (.ref 371), e1 P "_StringIO__check_dot" 703 (.ref 378), e1 P "_StringIO__line" 718 (.ref 385), e1 P "closed" 726 (.ref 393), e1 P "line_buffering" 734 (.ref 401), e1 P "newlines" 742 (.ref 409), e1 P "encoding" 750 (.ref 417), e1 P "errors" 758 (.ref 425), e1 P "close" 765 (.ref 432), e1 P "__enter__" 772 (.ref 439), e1 P "__exit__" 780 (.ref 446), e1 P "readable" 787 (.ref 453), e1 P "writable" 794 (.ref 460), e1 P "seekable" 801 (.ref 467), e1 P "isatty" 808 (.ref 474), e1 P "flush" 815 (.ref 481), e1 P "fileno" 822 (.ref 488), e1 P "detach" 829 (.ref 495), e1 P "getvalue" 836 (.ref 502), e1 P "tell" 843 (.ref 509), e1 P "seek" 853 (.ref 517), e1 P "truncate" 861 (.ref 525), e1 P "read" 873 (.ref 533), e1 P "readline" 883 (.ref 541), e1 P "readlines" 893 (.ref 549), e1 P "__iter__" 900 (.ref 556), e1 P "__next__" 908 (.ref 563), e1 P "write" 920 (.ref 570), e1 P "writelines" 928 (.ref 577), e1 P "__repr__" 935 (.ref 584), e1 P "__static_attributes__" 939 (.ref 585), e1 P "__doc__" 940 .none] 2
noncomputable def o601 : Obj := ⟨.type "type", none, (.cls ⟨(S "StringIO"), [.ref 110], [.ref 587, .ref 110, .ref 83, .type "object"], 586, (S "StringIO"), true, [], [], false, none, false⟩), #[(some (.ref 343)), none, (some (sv "StringIO" 656)), (some (sv "StringIO" 664)), (some .none), (some (.bool true))]⟩
noncomputable def o602 : Obj := ⟨.type "super", none, (.fields #[.ref 587, .ref 587, .ref 587]), #[]⟩
noncomputable def o603 : Obj := ⟨.type "builtin_function_or_method", none, (.fields #[bi "object.__init_subclass__", .ref 587]), #[]⟩
noncomputable def T5 (P : Params) : BT := (n (o0 P) (n (o1 P) (n (o354 P) (n o7 (n o15 (n o31 (n o66 (n o138 (n o266 (lf o525) l) (lf o397)) (n o202 (n o330 (lf o589) l) (lf o461))) (n o103 (n o170 (n o298 (lf o557) l) (lf o429)) (n o234 (lf o365) (lf o493)))) (n o50 (n o84 (n o154 (n o282 (lf o541) l) (lf o413)) (n o218 (lf o346) (lf o477))) (n o119 (n o186 (n o314 (lf o573) l) (lf o445)) (n o250 (lf o381) (lf o509))))) (n o23 (n o42 (n o76 (n o146 (n o274 (lf o533) l) (lf o405)) (n o210 (n o338 (lf o597) l) (lf o469))) (n (o111 P) (n o178 (n o306 (lf o565) l) (lf o437)) (n o242 (lf o373) (lf o501)))) (n o58 (n o92 (n o162 (n o290 (lf o549) l) (lf o421)) (n o226 (lf o357) (lf o485))) (n o130 (n o194 (n o322 (lf o581) l) (lf o453)) (n o258 (lf o389) (lf o517)))))) (n o11 (n o19 (n o38 (n o72 (n o142 (n o270 (lf o529) l) (lf o401)) (n o206 (n o334 (lf o593) l) (lf o465))) (n o107 (n o174 (n o302 (lf o561) l) (lf o433)) (n o238 (lf o369) (lf o497)))) (n o54 (n o96 (n o158 (n o286 (lf o545) l) (lf o417)) (n o222 (lf (o350 P)) (lf o481))) (n (o126 P) (n o190 (n o318 (lf o577) l) (lf o449)) (n o254 (lf o385) (lf o513))))) (n o27 (n o46 (n o80 (n o150 (n o278 (lf o537) l) (lf o409)) (n o214 (n o342 (lf o601) l) (lf o473))) (n o115 (n o182 (n o310 (lf o569) l) (lf o441)) (n o246 (lf o377) (lf o505)))) (n o62 (n (o99 P) (n o166 (n o294 (lf o553) l) (lf o425)) (n o230 (lf o361) (lf o489))) (n o134 (n o198 (n o326 (lf o585) l) (lf o457)) (n o262 (lf o393) (lf o521))))))) (n o5 (n o9 (n o17 (n o36 (n o68 (n o140 (n o268 (lf o527) l) (lf o399)) (n o204 (n o332 (lf o591) l) (lf o463))) (n (o105 P) (n o172 (n o300 (lf o559) l) (lf o431)) (n o236 (lf o367) (lf o495)))) (n o52 (n o86 (n o156 (n o284 (lf o543) l) (lf o415)) (n o220 (lf o348) (lf o479))) (n o124 (n o188 (n o316 (lf o575) l) (lf o447)) (n o252 (lf o383) (lf o511))))) (n o25 (n o44 (n o78 (n o148 (n o276 (lf o535) l) (lf o407)) (n o212 (n o340 (lf o599) l) (lf o471))) (n o113 (n o180 (n o308 (lf o567) l) (lf o439)) (n o244 (lf o375) (lf o503)))) (n o60 (n o97 (n o164 (n o292 (lf o551) l) (lf o423)) (n o228 (lf (o359 P)) (lf o487))) (n o132 (n o196 (n o324 (lf o583) l) (lf o455)) (n o260 (lf o391) (lf o519)))))) (n o13 (n (o21 P) (n o40 (n (o74 P) (n o144 (n o272 (lf o531) l) (lf o403)) (n o208 (n o336 (lf o595) l) (lf o467))) (n o109 (n o176 (n o304 (lf o563) l) (lf o435)) (n o240 (lf o371) (lf o499)))) (n o56 (n o90 (n o160 (n o288 (lf o547) l) (lf o419)) (n o224 (lf o352) (lf o483))) (n o128 (n o192 (n o320 (lf o579) l) (lf o451)) (n o256 (lf o387) (lf o515))))) (n o29 (n o48 (n o82 (n o152 (n o280 (lf o539) l) (lf o411)) (n o216 (n o344 (lf o603) l) (lf o475))) (n (o117 P) (n o184 (n o312 (lf o571) l) (lf o443)) (n o248 (lf o379) (lf o507)))) (n o64 (n o101 (n o168 (n o296 (lf o555) l) (lf o427)) (n o232 (lf o363) (lf o491))) (n o136 (n o200 (n o328 (lf o587) l) (lf o459)) (n o264 (lf o395) (lf o523)))))))) (n (o33 P) (n o4 (n o8 (n o16 (n o32 (n o67 (n o139 (n o267 (lf o526) l) (lf o398)) (n o203 (n o331 (lf o590) l) (lf o462))) (n o104 (n o171 (n o299 (lf o558) l) (lf o430)) (n o235 (lf o366) (lf o494)))) (n o51 (n o85 (n o155 (n o283 (lf o542) l) (lf o414)) (n o219 (lf o347) (lf o478))) (n o120 (n o187 (n o315 (lf o574) l) (lf o446)) (n o251 (lf o382) (lf o510))))) (n o24 (n o43 (n o77 (n o147 (n o275 (lf o534) l) (lf o406)) (n o211 (n o339 (lf o598) l) (lf o470))) (n o112 (n o179 (n o307 (lf o566) l) (lf o438)) (n o243 (lf o374) (lf o502)))) (n (o59 P) (n o93 (n o163 (n o291 (lf o550) l) (lf o422)) (n o227 (lf o358) (lf o486))) (n o131 (n o195 (n o323 (lf o582) l) (lf o454)) (n o259 (lf o390) (lf o518)))))) (n (o12 P) (n o20 (n o39 (n o73 (n o143 (n o271 (lf o530) l) (lf o402)) (n o207 (n o335 (lf o594) l) (lf o466))) (n o108 (n o175 (n o303 (lf o562) l) (lf o434)) (n o239 (lf o370) (lf o498)))) (n o55 (n o89 (n o159 (n o287 (lf o546) l) (lf o418)) (n o223 (lf o351) (lf o482))) (n o127 (n o191 (n o319 (lf o578) l) (lf o450)) (n o255 (lf o386) (lf o514))))) (n o28 (n o47 (n o81 (n o151 (n o279 (lf o538) l) (lf o410)) (n o215 (n o343 (lf o602) l) (lf o474))) (n o116 (n o183 (n o311 (lf o570) l) (lf o442)) (n o247 (lf o378) (lf o506)))) (n o63 (n o100 (n o167 (n o295 (lf o554) l) (lf o426)) (n o231 (lf o362) (lf o490))) (n o135 (n o199 (n o327 (lf o586) l) (lf o458)) (n o263 (lf o394) (lf o522))))))) (n o6 (n o10 (n o18 (n o37 (n o69 (n o141 (n o269 (lf o528) l) (lf o400)) (n o205 (n o333 (lf o592) l) (lf o464))) (n o123 (n o173 (n o301 (lf o560) l) (lf o432)) (n o237 (lf o368) (lf o496)))) (n o53 (n (o87 P) (n o157 (n o285 (lf o544) l) (lf o416)) (n o221 (lf o349) (lf o480))) (n o125 (n o189 (n o317 (lf o576) l) (lf o448)) (n o253 (lf o384) (lf o512))))) (n o26 (n o45 (n o79 (n o149 (n o277 (lf o536) l) (lf o408)) (n o213 (n o341 (lf (o600 P)) l) (lf o472))) (n o114 (n o181 (n o309 (lf o568) l) (lf o440)) (n o245 (lf o376) (lf o504)))) (n o61 (n o98 (n o165 (n o293 (lf o552) l) (lf o424)) (n o229 (lf o360) (lf o488))) (n o133 (n o197 (n o325 (lf o584) l) (lf o456)) (n o261 (lf o392) (lf o520)))))) (n (o14 P) (n (o22 P) (n o41 (n o75 (n o145 (n o273 (lf o532) l) (lf o404)) (n o209 (n o337 (lf o596) l) (lf o468))) (n o110 (n o177 (n o305 (lf o564) l) (lf o436)) (n o241 (lf o372) (lf o500)))) (n o57 (n o91 (n o161 (n o289 (lf o548) l) (lf o420)) (n o225 (lf o353) (lf o484))) (n o129 (n o193 (n o321 (lf o580) l) (lf o452)) (n o257 (lf o388) (lf o516))))) (n o355 (n o49 (n o83 (n o153 (n o281 (lf o540) l) (lf o412)) (n o217 (lf o345) (lf o476))) (n o356 (n o185 (n o313 (lf o572) l) (lf o444)) (n o249 (lf o380) (lf o508)))) (n (o65 P) (n o102 (n o169 (n o297 (lf o556) l) (lf o428)) (n o233 (lf o364) (lf o492))) (n o137 (n o201 (n o329 (lf o588) l) (lf o460)) (n o265 (lf o396) (lf o524)))))))))
noncomputable def S5 (w : World) (os : OsState) : SharedT := ⟨T5 w.params, 590, {}, #[], {}, 943, os⟩
noncomputable def ss5 : List Stmt := [st 10]
theorem pc5 (w : World) (os : OsState) : segRunT treeTable PySem.Challenge.pw_ny0304_04 w 29 (some (.ref 6)) 1 1578 (S4 w os) (piecesOf ss5 en (.body (behindTheImports PySem.Challenge.pw_ny0304_04) en) ⟨31, 0, 200, 17⟩ [topFrame fq]) = some (.next, S5 w os, (.body (behindTheImports PySem.Challenge.pw_ny0304_04) en), ⟨201, 0, 405, 17⟩) := by kernel_rfl
noncomputable def o604 (P : Params) : Obj := dc #[e1 P "__name__" 165 (sv "cpy313.shlex" 1001), e1 P "__doc__" 166 .none, e1 P "__package__" 167 .none, e1 P "__loader__" 168 (bi "__main__.__loader__#opaque"), e1 P "__spec__" 169 .none, e1 P "__annotations__" 170 (.ref 6), e1 P "__builtins__" 171 (.ref 4), e1 P "__file__" 173 (sv "/claim/cut.py" 172), e1 P "__cached__" 174 .none, e1 P "deque" 272 (.type "collections.deque"), e1 P "_wall" 285 (.ref 39), e1 P "_whence" 295 (.ref 46), e1 P "_index" 303 (.ref 53), e1 P "UnsupportedOperation" 325 (.ref 63), e1 P "IOBase" 357 (.ref 83), e1 P "BufferedIOBase" 375 (.ref 98), e1 P "TextIOBase" 393 (.ref 110), e1 P "BytesIO" 655 (.ref 340), e1 P "StringIO" 942 (.ref 587), e1 P "_kind" 953 (.ref 596), e1 P "_fspath" 962 (.ref 603), e1 P "_check_arg_types" 972 (.ref 610), e1 P "isabs" 979 (.ref 617), e1 P "join" 990 (.ref 624), e1 P "dirname" 1000 (.ref 631)] 25
noncomputable def o605 : Obj := ⟨.none, none, (.fields #[.int 2 0, .int 0 0, .ref 38, .int 6 0, .int 0 0, .ref 45, .int 11 0, .int 0 0, .ref 52, .int 18 0, .int 0 0, .ref 59, .int 20 0, .int 0 0, .ref 72, .int 27 0, .int 0 0, .ref 94, .int 29 0, .int 0 0, .ref 106, .int 31 0, .int 0 0, .ref 118, .int 201 0, .int 0 0, .ref 348, .int 407 0, .int 0 0, .ref 595, .int 428 0, .int 0 0, .ref 602, .int 433 0, .int 0 0, .ref 609, .int 438 0, .int 0 0, .ref 616, .int 441 0, .int 0 0, .ref 623, .int 461 0, .int 0 0, .ref 630]), #[]⟩
noncomputable def o606 : Obj := tu #[]
noncomputable def o607 : Obj := nf
noncomputable def o608 : Obj := tu #[sv "name" 948, sv "x" 949, sv "t" 950]
noncomputable def o609 : Obj := tu #[]
noncomputable def o610 : Obj := f0 "_kind" "_kind" (st 12)
noncomputable def o611 : Obj := co "_kind" 945 "_kind" 946 947 407 2 0 0 3 590 true 273 591 .none (.ref 592) (.ref 593) (.ref 594) 951 407 952
noncomputable def o612 : Obj := fo (.type "function") (fn (S "_kind") (S "_kind") (st 12) 3 [] .none .none .none (sv "os.path" 943) none (.ref 595) .none 0)
noncomputable def o613 : Obj := tu #[]
noncomputable def o614 : Obj := nf
noncomputable def o615 : Obj := tu #[sv "name" 957, sv "x" 958, sv "k" 959]
noncomputable def o616 : Obj := tu #[]
noncomputable def o617 : Obj := f0 "_fspath" "_fspath" (st 13)
noncomputable def o618 : Obj := co "_fspath" 954 "_fspath" 955 956 428 2 0 0 3 597 true 273 598 .none (.ref 599) (.ref 600) (.ref 601) 960 428 961
noncomputable def o619 : Obj := fo (.type "function") (fn (S "_fspath") (S "_fspath") (st 13) 3 [] .none .none .none (sv "os.path" 943) none (.ref 602) .none 0)
noncomputable def o620 : Obj := tu #[]
noncomputable def o621 : Obj := nf
noncomputable def o622 : Obj := tu #[sv "funcname" 966, sv "args" 967, sv "s" 968, sv "k" 969]
noncomputable def o623 : Obj := tu #[]
noncomputable def o624 : Obj := f0 "_check_arg_types" "_check_arg_types" (st 14)
noncomputable def o625 : Obj := co "_check_arg_types" 963 "_check_arg_types" 964 965 433 1 0 0 7 604 true 273 605 .none (.ref 606) (.ref 607) (.ref 608) 970 433 971
noncomputable def o626 : Obj := fo (.type "function") (fn (S "_check_arg_types") (S "_check_arg_types") (st 14) 3 [] .none .none .none (sv "os.path" 943) none (.ref 609) .none 0)
noncomputable def o627 : Obj := tu #[]
noncomputable def o628 : Obj := nf
noncomputable def o629 : Obj := tu #[sv "s" 976]
noncomputable def o630 : Obj := tu #[]
noncomputable def o631 : Obj := f0 "isabs" "isabs" (st 15)
noncomputable def o632 : Obj := co "isabs" 973 "isabs" 974 975 438 1 0 0 3 611 true 273 612 .none (.ref 613) (.ref 614) (.ref 615) 977 438 978
noncomputable def o633 : Obj := fo (.type "function") (fn (S "isabs") (S "isabs") (st 15) 3 [] .none .none .none (sv "os.path" 943) none (.ref 616) .none 0)
noncomputable def o634 : Obj := tu #[]
noncomputable def o635 : Obj := nf
noncomputable def o636 : Obj := tu #[sv "a" 983, sv "p" 984, sv "b" 985, sv "sep" 986, sv "path" 987]
noncomputable def o637 : Obj := tu #[]
noncomputable def o638 : Obj := f0 "join" "join" (st 16)
noncomputable def o639 : Obj := co "join" 980 "join" 981 982 441 1 0 0 7 618 true 273 619 .none (.ref 620) (.ref 621) (.ref 622) 988 441 989
noncomputable def o640 : Obj := fo (.type "function") (fn (S "join") (S "join") (st 16) 3 [] .none .none .none (sv "os.path" 943) none (.ref 623) .none 0)
noncomputable def o641 : Obj := tu #[]
noncomputable def o642 : Obj := nf
noncomputable def o643 : Obj := tu #[sv "p" 994, sv "sep" 995, sv "i" 996, sv "head" 997]
noncomputable def o644 : Obj := tu #[]
noncomputable def o645 : Obj := f0 "dirname" "dirname" (st 17)
noncomputable def o646 : Obj := co "dirname" 991 "dirname" 992 993 461 1 0 0 3 625 true 273 626 .none (.ref 627) (.ref 628) (.ref 629) 998 461 999
noncomputable def o647 : Obj := fo (.type "function") (fn (S "dirname") (S "dirname") (st 17) 3 [] .none .none .none (sv "os.path" 943) none (.ref 630) .none 0)
noncomputable def T6 (P : Params) : BT := (n (o0 P) (n (o1 P) (n (o604 P) (n o7 (n o15 (n o31 (n o66 (n o138 (n o266 (lf o525) l) (lf o397)) (n o202 (n o330 (lf o589) l) (lf o461))) (n o103 (n o170 (n o298 (lf o557) l) (lf o429)) (n o234 (n o365 (lf o623) l) (lf o493)))) (n o50 (n o84 (n o154 (n o282 (lf o541) l) (lf o413)) (n o218 (n o346 (lf o607) l) (lf o477))) (n o119 (n o186 (n o314 (lf o573) l) (lf o445)) (n o250 (n o381 (lf o639) l) (lf o509))))) (n o23 (n o42 (n o76 (n o146 (n o274 (lf o533) l) (lf o405)) (n o210 (n o338 (lf o597) l) (lf o469))) (n (o111 P) (n o178 (n o306 (lf o565) l) (lf o437)) (n o242 (n o373 (lf o631) l) (lf o501)))) (n o58 (n o92 (n o162 (n o290 (lf o549) l) (lf o421)) (n o226 (n o357 (lf o615) l) (lf o485))) (n o130 (n o194 (n o322 (lf o581) l) (lf o453)) (n o258 (n o389 (lf o647) l) (lf o517)))))) (n o11 (n o19 (n o38 (n o72 (n o142 (n o270 (lf o529) l) (lf o401)) (n o206 (n o334 (lf o593) l) (lf o465))) (n o107 (n o174 (n o302 (lf o561) l) (lf o433)) (n o238 (n o369 (lf o627) l) (lf o497)))) (n o54 (n o96 (n o158 (n o286 (lf o545) l) (lf o417)) (n o222 (n (o350 P) (lf o611) l) (lf o481))) (n (o126 P) (n o190 (n o318 (lf o577) l) (lf o449)) (n o254 (n o385 (lf o643) l) (lf o513))))) (n o27 (n o46 (n o80 (n o150 (n o278 (lf o537) l) (lf o409)) (n o214 (n o342 (lf o601) l) (lf o473))) (n o115 (n o182 (n o310 (lf o569) l) (lf o441)) (n o246 (n o377 (lf o635) l) (lf o505)))) (n o62 (n (o99 P) (n o166 (n o294 (lf o553) l) (lf o425)) (n o230 (n o361 (lf o619) l) (lf o489))) (n o134 (n o198 (n o326 (lf o585) l) (lf o457)) (n o262 (lf o393) (lf o521))))))) (n o5 (n o9 (n o17 (n o36 (n o68 (n o140 (n o268 (lf o527) l) (lf o399)) (n o204 (n o332 (lf o591) l) (lf o463))) (n (o105 P) (n o172 (n o300 (lf o559) l) (lf o431)) (n o236 (n o367 (lf o625) l) (lf o495)))) (n o52 (n o86 (n o156 (n o284 (lf o543) l) (lf o415)) (n o220 (n o348 (lf o609) l) (lf o479))) (n o124 (n o188 (n o316 (lf o575) l) (lf o447)) (n o252 (n o383 (lf o641) l) (lf o511))))) (n o25 (n o44 (n o78 (n o148 (n o276 (lf o535) l) (lf o407)) (n o212 (n o340 (lf o599) l) (lf o471))) (n o113 (n o180 (n o308 (lf o567) l) (lf o439)) (n o244 (n o375 (lf o633) l) (lf o503)))) (n o60 (n o97 (n o164 (n o292 (lf o551) l) (lf o423)) (n o228 (n (o359 P) (lf o617) l) (lf o487))) (n o132 (n o196 (n o324 (lf o583) l) (lf o455)) (n o260 (lf o391) (lf o519)))))) (n o13 (n (o21 P) (n o40 (n (o74 P) (n o144 (n o272 (lf o531) l) (lf o403)) (n o208 (n o336 (lf o595) l) (lf o467))) (n o109 (n o176 (n o304 (lf o563) l) (lf o435)) (n o240 (n o371 (lf o629) l) (lf o499)))) (n o56 (n o90 (n o160 (n o288 (lf o547) l) (lf o419)) (n o224 (n o352 (lf o613) l) (lf o483))) (n o128 (n o192 (n o320 (lf o579) l) (lf o451)) (n o256 (n o387 (lf o645) l) (lf o515))))) (n o29 (n o48 (n o82 (n o152 (n o280 (lf o539) l) (lf o411)) (n o216 (n o344 (lf o603) l) (lf o475))) (n (o117 P) (n o184 (n o312 (lf o571) l) (lf o443)) (n o248 (n o379 (lf o637) l) (lf o507)))) (n o64 (n o101 (n o168 (n o296 (lf o555) l) (lf o427)) (n o232 (n o363 (lf o621) l) (lf o491))) (n o136 (n o200 (n o328 (lf o587) l) (lf o459)) (n o264 (lf o395) (lf o523)))))))) (n (o33 P) (n o4 (n o8 (n o16 (n o32 (n o67 (n o139 (n o267 (lf o526) l) (lf o398)) (n o203 (n o331 (lf o590) l) (lf o462))) (n o104 (n o171 (n o299 (lf o558) l) (lf o430)) (n o235 (n o366 (lf o624) l) (lf o494)))) (n o51 (n o85 (n o155 (n o283 (lf o542) l) (lf o414)) (n o219 (n o347 (lf o608) l) (lf o478))) (n o120 (n o187 (n o315 (lf o574) l) (lf o446)) (n o251 (n o382 (lf o640) l) (lf o510))))) (n o24 (n o43 (n o77 (n o147 (n o275 (lf o534) l) (lf o406)) (n o211 (n o339 (lf o598) l) (lf o470))) (n o112 (n o179 (n o307 (lf o566) l) (lf o438)) (n o243 (n o374 (lf o632) l) (lf o502)))) (n (o59 P) (n o93 (n o163 (n o291 (lf o550) l) (lf o422)) (n o227 (n o358 (lf o616) l) (lf o486))) (n o131 (n o195 (n o323 (lf o582) l) (lf o454)) (n o259 (lf o390) (lf o518)))))) (n (o12 P) (n o20 (n o39 (n o73 (n o143 (n o271 (lf o530) l) (lf o402)) (n o207 (n o335 (lf o594) l) (lf o466))) (n o108 (n o175 (n o303 (lf o562) l) (lf o434)) (n o239 (n o370 (lf o628) l) (lf o498)))) (n o55 (n o89 (n o159 (n o287 (lf o546) l) (lf o418)) (n o223 (n o351 (lf o612) l) (lf o482))) (n o127 (n o191 (n o319 (lf o578) l) (lf o450)) (n o255 (n o386 (lf o644) l) (lf o514))))) (n o28 (n o47 (n o81 (n o151 (n o279 (lf o538) l) (lf o410)) (n o215 (n o343 (lf o602) l) (lf o474))) (n o116 (n o183 (n o311 (lf o570) l) (lf o442)) (n o247 (n o378 (lf o636) l) (lf o506)))) (n o63 (n o100 (n o167 (n o295 (lf o554) l) (lf o426)) (n o231 (n o362 (lf o620) l) (lf o490))) (n o135 (n o199 (n o327 (lf o586) l) (lf o458)) (n o263 (lf o394) (lf o522))))))) (n o6 (n o10 (n o18 (n o37 (n o69 (n o141 (n o269 (lf o528) l) (lf o400)) (n o205 (n o333 (lf o592) l) (lf o464))) (n o123 (n o173 (n o301 (lf o560) l) (lf o432)) (n o237 (n o368 (lf o626) l) (lf o496)))) (n o53 (n (o87 P) (n o157 (n o285 (lf o544) l) (lf o416)) (n o221 (n o349 (lf o610) l) (lf o480))) (n o125 (n o189 (n o317 (lf o576) l) (lf o448)) (n o253 (n o384 (lf o642) l) (lf o512))))) (n o26 (n o45 (n o79 (n o149 (n o277 (lf o536) l) (lf o408)) (n o213 (n o341 (lf (o600 P)) l) (lf o472))) (n o114 (n o181 (n o309 (lf o568) l) (lf o440)) (n o245 (n o376 (lf o634) l) (lf o504)))) (n o61 (n o98 (n o165 (n o293 (lf o552) l) (lf o424)) (n o229 (n o360 (lf o618) l) (lf o488))) (n o133 (n o197 (n o325 (lf o584) l) (lf o456)) (n o261 (lf o392) (lf o520)))))) (n (o14 P) (n (o22 P) (n o41 (n o75 (n o145 (n o273 (lf o532) l) (lf o404)) (n o209 (n o337 (lf o596) l) (lf o468))) (n o110 (n o177 (n o305 (lf o564) l) (lf o436)) (n o241 (n o372 (lf o630) l) (lf o500)))) (n o57 (n o91 (n o161 (n o289 (lf o548) l) (lf o420)) (n o225 (n o353 (lf o614) l) (lf o484))) (n o129 (n o193 (n o321 (lf o580) l) (lf o452)) (n o257 (n o388 (lf o646) l) (lf o516))))) (n o605 (n o49 (n o83 (n o153 (n o281 (lf o540) l) (lf o412)) (n o217 (n o345 (lf o606) l) (lf o476))) (n o356 (n o185 (n o313 (lf o572) l) (lf o444)) (n o249 (n o380 (lf o638) l) (lf o508)))) (n (o65 P) (n o102 (n o169 (n o297 (lf o556) l) (lf o428)) (n o233 (n o364 (lf o622) l) (lf o492))) (n o137 (n o201 (n o329 (lf o588) l) (lf o460)) (n o265 (lf o396) (lf o524)))))))))
noncomputable def S6 (w : World) (os : OsState) : SharedT := ⟨T6 w.params, 632, {}, #[], {}, 1003, os⟩
noncomputable def ss6 : List Stmt := [st 11, st 12, st 13, st 14, st 15, st 16, st 17, st 18]
theorem pc6 (w : World) (os : OsState) : segRunT treeTable PySem.Challenge.pw_ny0304_04 w 29 (some (.ref 6)) 1 207 (S5 w os) (piecesOf ss6 en (.body (behindTheImports PySem.Challenge.pw_ny0304_04) en) ⟨201, 0, 405, 17⟩ [topFrame fq]) = some (.next, S6 w os, (.body (behindTheImports PySem.Challenge.pw_ny0304_04) en), ⟨469, 0, 469, 8⟩) := by kernel_rfl
noncomputable def o648 (P : Params) : Obj := dc #[e1 P "__name__" 165 (sv "cpy313.shlex" 1001), e1 P "__doc__" 166 .none, e1 P "__package__" 167 .none, e1 P "__loader__" 168 (bi "__main__.__loader__#opaque"), e1 P "__spec__" 169 .none, e1 P "__annotations__" 170 (.ref 6), e1 P "__builtins__" 171 (.ref 4), e1 P "__file__" 173 (sv "/claim/cut.py" 172), e1 P "__cached__" 174 .none, e1 P "deque" 272 (.type "collections.deque"), e1 P "_wall" 285 (.ref 39), e1 P "_whence" 295 (.ref 46), e1 P "_index" 303 (.ref 53), e1 P "UnsupportedOperation" 325 (.ref 63), e1 P "IOBase" 357 (.ref 83), e1 P "BufferedIOBase" 375 (.ref 98), e1 P "TextIOBase" 393 (.ref 110), e1 P "BytesIO" 655 (.ref 340), e1 P "StringIO" 942 (.ref 587), e1 P "_kind" 953 (.ref 596), e1 P "_fspath" 962 (.ref 603), e1 P "_check_arg_types" 972 (.ref 610), e1 P "isabs" 979 (.ref 617), e1 P "join" 990 (.ref 624), e1 P "dirname" 1000 (.ref 631), e1 P "shlex" 1141 (.ref 722)] 26
noncomputable def o649 : Obj := ⟨.none, none, (.fields #[.int 2 0, .int 0 0, .ref 38, .int 6 0, .int 0 0, .ref 45, .int 11 0, .int 0 0, .ref 52, .int 18 0, .int 0 0, .ref 59, .int 20 0, .int 0 0, .ref 72, .int 27 0, .int 0 0, .ref 94, .int 29 0, .int 0 0, .ref 106, .int 31 0, .int 0 0, .ref 118, .int 201 0, .int 0 0, .ref 348, .int 407 0, .int 0 0, .ref 595, .int 428 0, .int 0 0, .ref 602, .int 433 0, .int 0 0, .ref 609, .int 438 0, .int 0 0, .ref 616, .int 441 0, .int 0 0, .ref 623, .int 461 0, .int 0 0, .ref 630, .int 470 0, .int 0 0, .ref 637]), #[]⟩
noncomputable def o650 : Obj := tu #[]
noncomputable def o651 : Obj := ⟨.type "builtin_function_or_method", none, (.fields #[bi "type.__prepare__", .type "type"]), #[]⟩
noncomputable def o652 (P : Params) : Obj := dc #[e1 P "__module__" 1010 (sv "cpy313.shlex" 1001), e1 P "__qualname__" 1012 (sv "shlex" 1011), e1 P "__firstlineno__" 1014 (.int 470 1013), e1 P "__init__" 1026 (.ref 646), e1 P "punctuation_chars" 1034 (.ref 654), e1 P "push_token" 1042 (.ref 661), e1 P "push_source" 1051 (.ref 669), e1 P "pop_source" 1058 (.ref 676), e1 P "get_token" 1070 (.ref 683), e1 P "read_token" 1081 (.ref 690), e1 P "sourcehook" 1089 (.ref 697), e1 P "error_leader" 1098 (.ref 705), e1 P "__iter__" 1105 (.ref 712), e1 P "__next__" 1113 (.ref 719), e1 P "__static_attributes__" 1134 (.ref 720)] 15
noncomputable def o653 : Obj := tu #[]
noncomputable def o654 : Obj := ⟨.none, none, (.fields #[.int 472 0, .int 4 0, .ref 645, .int 514 0, .int 4 0, .ref 652, .int 517 0, .int 4 0, .ref 660, .int 520 0, .int 4 0, .ref 668, .int 533 0, .int 4 0, .ref 675, .int 540 0, .int 4 0, .ref 682, .int 567 0, .int 4 0, .ref 689, .int 704 0, .int 4 0, .ref 696, .int 711 0, .int 4 0, .ref 704, .int 714 0, .int 4 0, .ref 711, .int 717 0, .int 4 0, .ref 718]), #[]⟩
noncomputable def o655 : Obj := co "shlex" 1005 "shlex" 1006 1007 470 0 0 0 0 635 false 273 636 .none .none .none .none 1008 470 1009
noncomputable def o656 : Obj := ⟨.type "frame", none, .plain, #[(some (.ref 637)), (some (.ref 3)), (some (.ref 634)), none, (some (sv "cpy313.shlex" 1001)), none, (some (.ref 0))]⟩
noncomputable def o657 : Obj := tu #[.none, .none, .bool false, .bool false]
noncomputable def o658 : Obj := tu #[]
noncomputable def o659 : Obj := nf
noncomputable def o660 : Obj := tu #[sv "self" 1018, sv "instream" 1019, sv "infile" 1020, sv "posix" 1021, sv "punctuation_chars" 1022, sv "t" 1023]
noncomputable def o661 : Obj := tu #[]
noncomputable def o662 : Obj := f0 "__init__" "shlex.__init__" (kid (st 19) 0)
noncomputable def o663 : Obj := co "__init__" 1015 "shlex.__init__" 1016 1017 472 5 0 0 3 640 true 273 641 .none (.ref 642) (.ref 643) (.ref 644) 1024 472 1025
noncomputable def o664 : Obj := fo (.type "function") (fn (S "__init__") (S "shlex.__init__") (kid (st 19) 0) 3 [] (.ref 639) .none .none (sv "cpy313.shlex" 1001) none (.ref 645) .none 0)
noncomputable def o665 : Obj := tu #[]
noncomputable def o666 : Obj := nf
noncomputable def o667 : Obj := tu #[sv "self" 1030]
noncomputable def o668 : Obj := tu #[]
noncomputable def o669 : Obj := f0 "punctuation_chars" "shlex.punctuation_chars" (kid (st 19) 1)
noncomputable def o670 : Obj := co "punctuation_chars" 1027 "shlex.punctuation_chars" 1028 1029 513 1 0 0 3 647 true 273 648 .none (.ref 649) (.ref 650) (.ref 651) 1031 513 1032
noncomputable def o671 : Obj := fo (.type "function") (fn (S "punctuation_chars") (S "shlex.punctuation_chars") (kid (st 19) 1) 3 [] .none .none .none (sv "cpy313.shlex" 1001) none (.ref 652) .none 0)
noncomputable def o672 : Obj := ⟨.type "property", none, (.fields #[.ref 653, .none, .none, .none, sv "punctuation_chars" 1034, .bool false]), #[]⟩
noncomputable def o673 : Obj := tu #[]
noncomputable def o674 : Obj := nf
noncomputable def o675 : Obj := tu #[sv "self" 1038, sv "tok" 1039]
noncomputable def o676 : Obj := tu #[]
noncomputable def o677 : Obj := f0 "push_token" "shlex.push_token" (kid (st 19) 2)
noncomputable def o678 : Obj := co "push_token" 1035 "shlex.push_token" 1036 1037 517 2 0 0 3 655 true 273 656 .none (.ref 657) (.ref 658) (.ref 659) 1040 517 1041
noncomputable def o679 : Obj := fo (.type "function") (fn (S "push_token") (S "shlex.push_token") (kid (st 19) 2) 3 [] .none .none .none (sv "cpy313.shlex" 1001) none (.ref 660) .none 0)
noncomputable def o680 : Obj := tu #[.none]
noncomputable def o681 : Obj := tu #[]
noncomputable def o682 : Obj := nf
noncomputable def o683 : Obj := tu #[sv "self" 1046, sv "newstream" 1047, sv "newfile" 1048]
noncomputable def o684 : Obj := tu #[]
noncomputable def o685 : Obj := f0 "push_source" "shlex.push_source" (kid (st 19) 3)
noncomputable def o686 : Obj := co "push_source" 1043 "shlex.push_source" 1044 1045 520 3 0 0 3 663 true 273 664 .none (.ref 665) (.ref 666) (.ref 667) 1049 520 1050
noncomputable def o687 : Obj := fo (.type "function") (fn (S "push_source") (S "shlex.push_source") (kid (st 19) 3) 3 [] (.ref 662) .none .none (sv "cpy313.shlex" 1001) none (.ref 668) .none 0)
noncomputable def o688 : Obj := tu #[]
noncomputable def o689 : Obj := nf
noncomputable def o690 : Obj := tu #[sv "self" 1055]
noncomputable def o691 : Obj := tu #[]
noncomputable def o692 : Obj := f0 "pop_source" "shlex.pop_source" (kid (st 19) 4)
noncomputable def o693 : Obj := co "pop_source" 1052 "shlex.pop_source" 1053 1054 533 1 0 0 3 670 true 273 671 .none (.ref 672) (.ref 673) (.ref 674) 1056 533 1057
noncomputable def o694 : Obj := fo (.type "function") (fn (S "pop_source") (S "shlex.pop_source") (kid (st 19) 4) 3 [] .none .none .none (sv "cpy313.shlex" 1001) none (.ref 675) .none 0)
noncomputable def o695 : Obj := tu #[]
noncomputable def o696 : Obj := nf
noncomputable def o697 : Obj := tu #[sv "self" 1062, sv "tok" 1063, sv "raw" 1064, sv "spec" 1065, sv "newfile" 1066, sv "newstream" 1067]
noncomputable def o698 : Obj := tu #[]
noncomputable def o699 : Obj := f0 "get_token" "shlex.get_token" (kid (st 19) 5)
noncomputable def o700 : Obj := co "get_token" 1059 "shlex.get_token" 1060 1061 540 1 0 0 3 677 true 273 678 .none (.ref 679) (.ref 680) (.ref 681) 1068 540 1069
noncomputable def o701 : Obj := fo (.type "function") (fn (S "get_token") (S "shlex.get_token") (kid (st 19) 5) 3 [] .none .none .none (sv "cpy313.shlex" 1001) none (.ref 682) .none 0)
noncomputable def o702 : Obj := tu #[]
noncomputable def o703 : Obj := nf
noncomputable def o704 : Obj := tu #[sv "self" 1074, sv "quoted" 1075, sv "escapedstate" 1076, sv "nextchar" 1077, sv "result" 1078]
noncomputable def o705 : Obj := tu #[]
noncomputable def o706 : Obj := f0 "read_token" "shlex.read_token" (kid (st 19) 6)
noncomputable def o707 : Obj := co "read_token" 1071 "shlex.read_token" 1072 1073 567 1 0 0 3 684 true 273 685 .none (.ref 686) (.ref 687) (.ref 688) 1079 567 1080
noncomputable def o708 : Obj := fo (.type "function") (fn (S "read_token") (S "shlex.read_token") (kid (st 19) 6) 3 [] .none .none .none (sv "cpy313.shlex" 1001) none (.ref 689) .none 0)
noncomputable def o709 : Obj := tu #[]
noncomputable def o710 : Obj := nf
noncomputable def o711 : Obj := tu #[sv "self" 1085, sv "newfile" 1086]
noncomputable def o712 : Obj := tu #[]
noncomputable def o713 : Obj := f0 "sourcehook" "shlex.sourcehook" (kid (st 19) 7)
noncomputable def o714 : Obj := co "sourcehook" 1082 "shlex.sourcehook" 1083 1084 704 2 0 0 3 691 true 273 692 .none (.ref 693) (.ref 694) (.ref 695) 1087 704 1088
noncomputable def o715 : Obj := fo (.type "function") (fn (S "sourcehook") (S "shlex.sourcehook") (kid (st 19) 7) 3 [] .none .none .none (sv "cpy313.shlex" 1001) none (.ref 696) .none 0)
noncomputable def o716 : Obj := tu #[.none, .none]
noncomputable def o717 : Obj := tu #[]
noncomputable def o718 : Obj := nf
noncomputable def o719 : Obj := tu #[sv "self" 1093, sv "infile" 1094, sv "lineno" 1095]
noncomputable def o720 : Obj := tu #[]
noncomputable def o721 : Obj := f0 "error_leader" "shlex.error_leader" (kid (st 19) 8)
noncomputable def o722 : Obj := co "error_leader" 1090 "shlex.error_leader" 1091 1092 711 3 0 0 3 699 true 273 700 .none (.ref 701) (.ref 702) (.ref 703) 1096 711 1097
noncomputable def o723 : Obj := fo (.type "function") (fn (S "error_leader") (S "shlex.error_leader") (kid (st 19) 8) 3 [] (.ref 698) .none .none (sv "cpy313.shlex" 1001) none (.ref 704) .none 0)
noncomputable def o724 : Obj := tu #[]
noncomputable def o725 : Obj := nf
noncomputable def o726 : Obj := tu #[sv "self" 1102]
noncomputable def o727 : Obj := tu #[]
noncomputable def o728 : Obj := f0 "__iter__" "shlex.__iter__" (kid (st 19) 9)
noncomputable def o729 : Obj := co "__iter__" 1099 "shlex.__iter__" 1100 1101 714 1 0 0 3 706 true 273 707 .none (.ref 708) (.ref 709) (.ref 710) 1103 714 1104
noncomputable def o730 : Obj := fo (.type "function") (fn (S "__iter__") (S "shlex.__iter__") (kid (st 19) 9) 3 [] .none .none .none (sv "cpy313.shlex" 1001) none (.ref 711) .none 0)
noncomputable def o731 : Obj := tu #[]
noncomputable def o732 : Obj := nf
noncomputable def o733 : Obj := tu #[sv "self" 1109, sv "token" 1110]
noncomputable def o734 : Obj := tu #[]
noncomputable def o735 : Obj := f0 "__next__" "shlex.__next__" (kid (st 19) 10)
noncomputable def o736 : Obj := co "__next__" 1106 "shlex.__next__" 1107 1108 717 1 0 0 3 713 true 273 714 .none (.ref 715) (.ref 716) (.ref 717) 1111 717 1112
noncomputable def o737 : Obj := fo (.type "function") (fn (S "__next__") (S "shlex.__next__") (kid (st 19) 10) 3 [] .none .none .none (sv "cpy313.shlex" 1001) none (.ref 718) .none 0)
noncomputable def o738 : Obj := tu #[sv "_punctuation_chars" 1114, sv "_pushback_chars" 1115, sv "commenters" 1116, sv "debug" 1117, sv "eof" 1118, sv "escape" 1119, sv "escapedquotes" 1120, sv "filestack" 1121, sv "infile" 1122, sv "instream" 1123, sv "lineno" 1124, sv "posix" 1125, sv "pushback" 1126, sv "quotes" 1127, sv "source" 1128, sv "state" 1129, sv "token" 1130, sv "whitespace" 1131, sv "whitespace_split" 1132, sv "wordchars" 1133]
noncomputable def o739 (P : Params) : Obj := dc #[e1 P "__module__" 1010 (sv "cpy313.shlex" 1001), e1 P "__firstlineno__" 1014 (.int 470 1013), e1 P "__init__" 1026 (.ref 646), e1 P "punctuation_chars" 1034 (.ref 654), e1 P "push_token" 1042 (.ref 661), e1 P "push_source" 1051 (.ref 669), e1 P "pop_source" 1058 (.ref 676), e1 P "get_token" 1070 (.ref 683), e1 P "read_token" 1081 (.ref 690), e1 P "sourcehook" 1089 (.ref 697), e1 P "error_leader" 1098 (.ref 705), e1 P "__iter__" 1105 (.ref 712), e1 P "__next__" 1113 (.ref 719), e1 P "__static_attributes__" 1134 (.ref 720), e1 P "__dict__" 1136 (.ref 723), e1 P "__weakref__" 1138 (.ref 724), e1 P "__doc__" 1139 .none] 4
noncomputable def o740 : Obj := ⟨.type "type", none, (.cls ⟨(S "shlex"), [.type "object"], [.ref 722, .type "object"], 721, (S "shlex"), true, [], [], false, none, false⟩), #[none, none, (some (sv "shlex" 1003)), (some (sv "shlex" 1011)), (some (bi "object.__new__")), (some (.bool true))]⟩
noncomputable def o741 : Obj := ⟨.type "getset_descriptor", none, (.fields #[sv "__dict__" 1135, .ref 722, bi "function.__dict__", bi "function.__dict__#set"]), #[]⟩
noncomputable def o742 : Obj := ⟨.type "getset_descriptor", none, (.fields #[sv "__weakref__" 1137, .ref 722, bi "ExceptionGroup.__weakref__", .none]), #[]⟩
noncomputable def o743 : Obj := ⟨.type "super", none, (.fields #[.ref 722, .ref 722, .ref 722]), #[]⟩
noncomputable def o744 : Obj := ⟨.type "builtin_function_or_method", none, (.fields #[bi "object.__init_subclass__", .ref 722]), #[]⟩
noncomputable def T7 (P : Params) : BT := (n (o0 P) (n (o1 P) (n (o648 P) (n o7 (n o15 (n o31 (n o66 (n o138 (n o266 (lf o525) l) (n o397 (lf o657) l)) (n o202 (n o330 (lf o589) l) (n o461 (lf o721) l))) (n o103 (n o170 (n o298 (lf o557) l) (n o429 (lf o689) l)) (n o234 (n o365 (lf o623) l) (lf o493)))) (n o50 (n o84 (n o154 (n o282 (lf o541) l) (n o413 (lf o673) l)) (n o218 (n o346 (lf o607) l) (n o477 (lf o737) l))) (n o119 (n o186 (n o314 (lf o573) l) (n o445 (lf o705) l)) (n o250 (n o381 (lf o639) l) (lf o509))))) (n o23 (n o42 (n o76 (n o146 (n o274 (lf o533) l) (n o405 (lf o665) l)) (n o210 (n o338 (lf o597) l) (n o469 (lf o729) l))) (n (o111 P) (n o178 (n o306 (lf o565) l) (n o437 (lf o697) l)) (n o242 (n o373 (lf o631) l) (lf o501)))) (n o58 (n o92 (n o162 (n o290 (lf o549) l) (n o421 (lf o681) l)) (n o226 (n o357 (lf o615) l) (lf o485))) (n o130 (n o194 (n o322 (lf o581) l) (n o453 (lf o713) l)) (n o258 (n o389 (lf o647) l) (lf o517)))))) (n o11 (n o19 (n o38 (n o72 (n o142 (n o270 (lf o529) l) (n o401 (lf o661) l)) (n o206 (n o334 (lf o593) l) (n o465 (lf o725) l))) (n o107 (n o174 (n o302 (lf o561) l) (n o433 (lf o693) l)) (n o238 (n o369 (lf o627) l) (lf o497)))) (n o54 (n o96 (n o158 (n o286 (lf o545) l) (n o417 (lf o677) l)) (n o222 (n (o350 P) (lf o611) l) (n o481 (lf o741) l))) (n (o126 P) (n o190 (n o318 (lf o577) l) (n o449 (lf o709) l)) (n o254 (n o385 (lf o643) l) (lf o513))))) (n o27 (n o46 (n o80 (n o150 (n o278 (lf o537) l) (n o409 (lf o669) l)) (n o214 (n o342 (lf o601) l) (n o473 (lf o733) l))) (n o115 (n o182 (n o310 (lf o569) l) (n o441 (lf o701) l)) (n o246 (n o377 (lf o635) l) (lf o505)))) (n o62 (n (o99 P) (n o166 (n o294 (lf o553) l) (n o425 (lf o685) l)) (n o230 (n o361 (lf o619) l) (lf o489))) (n o134 (n o198 (n o326 (lf o585) l) (n o457 (lf o717) l)) (n o262 (n o393 (lf o653) l) (lf o521))))))) (n o5 (n o9 (n o17 (n o36 (n o68 (n o140 (n o268 (lf o527) l) (n o399 (lf o659) l)) (n o204 (n o332 (lf o591) l) (n o463 (lf o723) l))) (n (o105 P) (n o172 (n o300 (lf o559) l) (n o431 (lf o691) l)) (n o236 (n o367 (lf o625) l) (lf o495)))) (n o52 (n o86 (n o156 (n o284 (lf o543) l) (n o415 (lf o675) l)) (n o220 (n o348 (lf o609) l) (n o479 (lf (o739 P)) l))) (n o124 (n o188 (n o316 (lf o575) l) (n o447 (lf o707) l)) (n o252 (n o383 (lf o641) l) (lf o511))))) (n o25 (n o44 (n o78 (n o148 (n o276 (lf o535) l) (n o407 (lf o667) l)) (n o212 (n o340 (lf o599) l) (n o471 (lf o731) l))) (n o113 (n o180 (n o308 (lf o567) l) (n o439 (lf o699) l)) (n o244 (n o375 (lf o633) l) (lf o503)))) (n o60 (n o97 (n o164 (n o292 (lf o551) l) (n o423 (lf o683) l)) (n o228 (n (o359 P) (lf o617) l) (lf o487))) (n o132 (n o196 (n o324 (lf o583) l) (n o455 (lf o715) l)) (n o260 (n o391 (lf o651) l) (lf o519)))))) (n o13 (n (o21 P) (n o40 (n (o74 P) (n o144 (n o272 (lf o531) l) (n o403 (lf o663) l)) (n o208 (n o336 (lf o595) l) (n o467 (lf o727) l))) (n o109 (n o176 (n o304 (lf o563) l) (n o435 (lf o695) l)) (n o240 (n o371 (lf o629) l) (lf o499)))) (n o56 (n o90 (n o160 (n o288 (lf o547) l) (n o419 (lf o679) l)) (n o224 (n o352 (lf o613) l) (n o483 (lf o743) l))) (n o128 (n o192 (n o320 (lf o579) l) (n o451 (lf o711) l)) (n o256 (n o387 (lf o645) l) (lf o515))))) (n o29 (n o48 (n o82 (n o152 (n o280 (lf o539) l) (n o411 (lf o671) l)) (n o216 (n o344 (lf o603) l) (n o475 (lf o735) l))) (n (o117 P) (n o184 (n o312 (lf o571) l) (n o443 (lf o703) l)) (n o248 (n o379 (lf o637) l) (lf o507)))) (n o64 (n o101 (n o168 (n o296 (lf o555) l) (n o427 (lf o687) l)) (n o232 (n o363 (lf o621) l) (lf o491))) (n o136 (n o200 (n o328 (lf o587) l) (n o459 (lf o719) l)) (n o264 (n o395 (lf o655) l) (lf o523)))))))) (n (o33 P) (n o4 (n o8 (n o16 (n o32 (n o67 (n o139 (n o267 (lf o526) l) (n o398 (lf o658) l)) (n o203 (n o331 (lf o590) l) (n o462 (lf o722) l))) (n o104 (n o171 (n o299 (lf o558) l) (n o430 (lf o690) l)) (n o235 (n o366 (lf o624) l) (lf o494)))) (n o51 (n o85 (n o155 (n o283 (lf o542) l) (n o414 (lf o674) l)) (n o219 (n o347 (lf o608) l) (n o478 (lf o738) l))) (n o120 (n o187 (n o315 (lf o574) l) (n o446 (lf o706) l)) (n o251 (n o382 (lf o640) l) (lf o510))))) (n o24 (n o43 (n o77 (n o147 (n o275 (lf o534) l) (n o406 (lf o666) l)) (n o211 (n o339 (lf o598) l) (n o470 (lf o730) l))) (n o112 (n o179 (n o307 (lf o566) l) (n o438 (lf o698) l)) (n o243 (n o374 (lf o632) l) (lf o502)))) (n (o59 P) (n o93 (n o163 (n o291 (lf o550) l) (n o422 (lf o682) l)) (n o227 (n o358 (lf o616) l) (lf o486))) (n o131 (n o195 (n o323 (lf o582) l) (n o454 (lf o714) l)) (n o259 (n o390 (lf o650) l) (lf o518)))))) (n (o12 P) (n o20 (n o39 (n o73 (n o143 (n o271 (lf o530) l) (n o402 (lf o662) l)) (n o207 (n o335 (lf o594) l) (n o466 (lf o726) l))) (n o108 (n o175 (n o303 (lf o562) l) (n o434 (lf o694) l)) (n o239 (n o370 (lf o628) l) (lf o498)))) (n o55 (n o89 (n o159 (n o287 (lf o546) l) (n o418 (lf o678) l)) (n o223 (n o351 (lf o612) l) (n o482 (lf o742) l))) (n o127 (n o191 (n o319 (lf o578) l) (n o450 (lf o710) l)) (n o255 (n o386 (lf o644) l) (lf o514))))) (n o28 (n o47 (n o81 (n o151 (n o279 (lf o538) l) (n o410 (lf o670) l)) (n o215 (n o343 (lf o602) l) (n o474 (lf o734) l))) (n o116 (n o183 (n o311 (lf o570) l) (n o442 (lf o702) l)) (n o247 (n o378 (lf o636) l) (lf o506)))) (n o63 (n o100 (n o167 (n o295 (lf o554) l) (n o426 (lf o686) l)) (n o231 (n o362 (lf o620) l) (lf o490))) (n o135 (n o199 (n o327 (lf o586) l) (n o458 (lf o718) l)) (n o263 (n o394 (lf o654) l) (lf o522))))))) (n o6 (n o10 (n o18 (n o37 (n o69 (n o141 (n o269 (lf o528) l) (n o400 (lf o660) l)) (n o205 (n o333 (lf o592) l) (n o464 (lf o724) l))) (n o123 (n o173 (n o301 (lf o560) l) (n o432 (lf o692) l)) (n o237 (n o368 (lf o626) l) (lf o496)))) (n o53 (n (o87 P) (n o157 (n o285 (lf o544) l) (n o416 (lf o676) l)) (n o221 (n o349 (lf o610) l) (n o480 (lf o740) l))) (n o125 (n o189 (n o317 (lf o576) l) (n o448 (lf o708) l)) (n o253 (n o384 (lf o642) l) (lf o512))))) (n o26 (n o45 (n o79 (n o149 (n o277 (lf o536) l) (n o408 (lf o668) l)) (n o213 (n o341 (lf (o600 P)) l) (n o472 (lf o732) l))) (n o114 (n o181 (n o309 (lf o568) l) (n o440 (lf o700) l)) (n o245 (n o376 (lf o634) l) (lf o504)))) (n o61 (n o98 (n o165 (n o293 (lf o552) l) (n o424 (lf o684) l)) (n o229 (n o360 (lf o618) l) (lf o488))) (n o133 (n o197 (n o325 (lf o584) l) (n o456 (lf o716) l)) (n o261 (n o392 (lf (o652 P)) l) (lf o520)))))) (n (o14 P) (n (o22 P) (n o41 (n o75 (n o145 (n o273 (lf o532) l) (n o404 (lf o664) l)) (n o209 (n o337 (lf o596) l) (n o468 (lf o728) l))) (n o110 (n o177 (n o305 (lf o564) l) (n o436 (lf o696) l)) (n o241 (n o372 (lf o630) l) (lf o500)))) (n o57 (n o91 (n o161 (n o289 (lf o548) l) (n o420 (lf o680) l)) (n o225 (n o353 (lf o614) l) (n o484 (lf o744) l))) (n o129 (n o193 (n o321 (lf o580) l) (n o452 (lf o712) l)) (n o257 (n o388 (lf o646) l) (lf o516))))) (n o649 (n o49 (n o83 (n o153 (n o281 (lf o540) l) (n o412 (lf o672) l)) (n o217 (n o345 (lf o606) l) (n o476 (lf o736) l))) (n o356 (n o185 (n o313 (lf o572) l) (n o444 (lf o704) l)) (n o249 (n o380 (lf o638) l) (lf o508)))) (n (o65 P) (n o102 (n o169 (n o297 (lf o556) l) (n o428 (lf o688) l)) (n o233 (n o364 (lf o622) l) (lf o492))) (n o137 (n o201 (n o329 (lf o588) l) (n o460 (lf o720) l)) (n o265 (n o396 (lf o656) l) (lf o524)))))))))
noncomputable def S7 (w : World) (os : OsState) : SharedT := ⟨T7 w.params, 727, {}, #[], {}, 1142, os⟩
noncomputable def ss7 : List Stmt := [st 19]
theorem pc7 (w : World) (os : OsState) : segRunT treeTable PySem.Challenge.pw_ny0304_04 w 29 (some (.ref 6)) 1 633 (S6 w os) (piecesOf ss7 en (.body (behindTheImports PySem.Challenge.pw_ny0304_04) en) ⟨469, 0, 469, 8⟩ [topFrame fq]) = some (.next, S7 w os, (.body (behindTheImports PySem.Challenge.pw_ny0304_04) en), ⟨470, 0, 721, 20⟩) := by kernel_rfl
noncomputable def o745 (P : Params) : Obj := ⟨.none, none, (.dict #[e1 P "\x69mport.loaded._collections" 185 (.bool true), e1 P "class._frozen_importlib.BuiltinImporter" 187 (.ref 15), e1 P "watched.\x69mport" 208 (.ref 19), e1 P "class._frozen_importlib.ModuleSpec" 218 (.ref 23), e1 P "sys.modules.booked-epoch" 247 (.int 3 0), e1 P "sys.modules.landed._collections" 248 (.bool true), e1 P "\x69mport.later-laid._collections" 263 (.bool true), e1 P "watched.library" 265 (.ref 28), e1 P "watched.library-objects" 0 (.str (PySem.Str.mk #[13]) 0), e1 P "watched.library-deep._collections" 266 (.str (PySem.Str.mk #[4, 0, 0, 12, 4, 0, 0, 12, 4, 0, 0, 3, 4, 0, 0, 12, 8, 4, 100, 105, 99, 116, 2]) 0), e1 P "type.__subclasses__.OSError.0" 322 (.int 63 0), e1 P "type.__subclasses__.OSError.n" 323 (.int 1 0), e1 P "type.__subclasses__.Exception.0" 1170 (.int 744 0), e1 P "type.__subclasses__.Exception.n" 1171 (.int 1 0)] 14), #[]⟩
noncomputable def o746 (P : Params) : Obj := dc #[e1 P "__name__" 165 (sv "cpy313.ftplib" 1152), e1 P "__doc__" 166 .none, e1 P "__package__" 167 .none, e1 P "__loader__" 168 (bi "__main__.__loader__#opaque"), e1 P "__spec__" 169 .none, e1 P "__annotations__" 170 (.ref 6), e1 P "__builtins__" 171 (.ref 4), e1 P "__file__" 173 (sv "/claim/cut.py" 172), e1 P "__cached__" 174 .none, e1 P "deque" 272 (.type "collections.deque"), e1 P "_wall" 285 (.ref 39), e1 P "_whence" 295 (.ref 46), e1 P "_index" 303 (.ref 53), e1 P "UnsupportedOperation" 325 (.ref 63), e1 P "IOBase" 357 (.ref 83), e1 P "BufferedIOBase" 375 (.ref 98), e1 P "TextIOBase" 393 (.ref 110), e1 P "BytesIO" 655 (.ref 340), e1 P "StringIO" 942 (.ref 587), e1 P "_kind" 953 (.ref 596), e1 P "_fspath" 962 (.ref 603), e1 P "_check_arg_types" 972 (.ref 610), e1 P "isabs" 979 (.ref 617), e1 P "join" 990 (.ref 624), e1 P "dirname" 1000 (.ref 631), e1 P "shlex" 1141 (.ref 722), e1 P "split" 1151 (.ref 734), e1 P "Error" 1173 (.ref 744)] 28
noncomputable def o747 : Obj := ⟨.none, none, (.fields #[.int 2 0, .int 0 0, .ref 38, .int 6 0, .int 0 0, .ref 45, .int 11 0, .int 0 0, .ref 52, .int 18 0, .int 0 0, .ref 59, .int 20 0, .int 0 0, .ref 72, .int 27 0, .int 0 0, .ref 94, .int 29 0, .int 0 0, .ref 106, .int 31 0, .int 0 0, .ref 118, .int 201 0, .int 0 0, .ref 348, .int 407 0, .int 0 0, .ref 595, .int 428 0, .int 0 0, .ref 602, .int 433 0, .int 0 0, .ref 609, .int 438 0, .int 0 0, .ref 616, .int 441 0, .int 0 0, .ref 623, .int 461 0, .int 0 0, .ref 630, .int 470 0, .int 0 0, .ref 637, .int 722 0, .int 0 0, .ref 733, .int 731 0, .int 0 0, .ref 740]), #[]⟩
noncomputable def o748 : Obj := tu #[.bool false, .bool true]
noncomputable def o749 : Obj := tu #[]
noncomputable def o750 : Obj := nf
noncomputable def o751 : Obj := tu #[sv "s" 1145, sv "comments" 1146, sv "posix" 1147, sv "lex" 1148]
noncomputable def o752 : Obj := tu #[]
noncomputable def o753 : Obj := f0 "split" "split" (st 20)
noncomputable def o754 : Obj := co "split" 1142 "split" 1143 1144 722 3 0 0 3 728 true 273 729 .none (.ref 730) (.ref 731) (.ref 732) 1149 722 1150
noncomputable def o755 : Obj := fo (.type "function") (fn (S "split") (S "split") (st 20) 3 [] (.ref 727) .none .none (sv "cpy313.shlex" 1001) none (.ref 733) .none 0)
noncomputable def o756 : Obj := tu #[.type "Exception"]
noncomputable def o757 : Obj := ⟨.type "builtin_function_or_method", none, (.fields #[bi "type.__prepare__", .type "type"]), #[]⟩
noncomputable def o758 (P : Params) : Obj := dc #[e1 P "__module__" 1161 (sv "cpy313.ftplib" 1152), e1 P "__qualname__" 1163 (sv "Error" 1162), e1 P "__firstlineno__" 1165 (.int 731 1164), e1 P "__static_attributes__" 1166 (.ref 742)] 4
noncomputable def o759 : Obj := tu #[]
noncomputable def o760 : Obj := nf
noncomputable def o761 : Obj := co "Error" 1156 "Error" 1157 1158 731 0 0 0 0 738 false 273 739 .none .none .none .none 1159 731 1160
noncomputable def o762 : Obj := ⟨.type "frame", none, .plain, #[(some (.ref 740)), (some (.ref 3)), (some (.ref 737)), none, (some (sv "cpy313.ftplib" 1152)), none, (some (.ref 0))]⟩
noncomputable def o763 : Obj := tu #[]
noncomputable def o764 (P : Params) : Obj := dc #[e1 P "__module__" 1161 (sv "cpy313.ftplib" 1152), e1 P "__firstlineno__" 1165 (.int 731 1164), e1 P "__static_attributes__" 1166 (.ref 742), e1 P "__weakref__" 1168 (.ref 745), e1 P "__doc__" 1169 .none] 3
noncomputable def o765 : Obj := ⟨.type "type", none, (.cls ⟨(S "Error"), [.type "Exception"], [.ref 744, .type "Exception", .type "BaseException", .type "object"], 743, (S "Error"), true, [], [], false, none, false⟩), #[(some (.ref 735)), none, (some (sv "Error" 1154)), (some (sv "Error" 1162)), (some (bi "Exception.__new__")), (some (.bool true))]⟩
noncomputable def o766 : Obj := ⟨.type "getset_descriptor", none, (.fields #[sv "__weakref__" 1167, .ref 744, bi "ExceptionGroup.__weakref__", .none]), #[]⟩
noncomputable def o767 : Obj := ⟨.type "super", none, (.fields #[.ref 744, .ref 744, .ref 744]), #[]⟩
noncomputable def o768 : Obj := ⟨.type "builtin_function_or_method", none, (.fields #[bi "object.__init_subclass__", .ref 744]), #[]⟩
noncomputable def T8 (P : Params) : BT := (n (o0 P) (n (o1 P) (n (o746 P) (n o7 (n o15 (n o31 (n o66 (n o138 (n o266 (lf o525) l) (n o397 (lf o657) l)) (n o202 (n o330 (lf o589) l) (n o461 (lf o721) l))) (n o103 (n o170 (n o298 (lf o557) l) (n o429 (lf o689) l)) (n o234 (n o365 (lf o623) l) (n o493 (lf o756) l)))) (n o50 (n o84 (n o154 (n o282 (lf o541) l) (n o413 (lf o673) l)) (n o218 (n o346 (lf o607) l) (n o477 (lf o737) l))) (n o119 (n o186 (n o314 (lf o573) l) (n o445 (lf o705) l)) (n o250 (n o381 (lf o639) l) (lf o509))))) (n o23 (n o42 (n o76 (n o146 (n o274 (lf o533) l) (n o405 (lf o665) l)) (n o210 (n o338 (lf o597) l) (n o469 (lf o729) l))) (n (o111 P) (n o178 (n o306 (lf o565) l) (n o437 (lf o697) l)) (n o242 (n o373 (lf o631) l) (n o501 (lf (o764 P)) l)))) (n o58 (n o92 (n o162 (n o290 (lf o549) l) (n o421 (lf o681) l)) (n o226 (n o357 (lf o615) l) (n o485 (lf o748) l))) (n o130 (n o194 (n o322 (lf o581) l) (n o453 (lf o713) l)) (n o258 (n o389 (lf o647) l) (lf o517)))))) (n o11 (n o19 (n o38 (n o72 (n o142 (n o270 (lf o529) l) (n o401 (lf o661) l)) (n o206 (n o334 (lf o593) l) (n o465 (lf o725) l))) (n o107 (n o174 (n o302 (lf o561) l) (n o433 (lf o693) l)) (n o238 (n o369 (lf o627) l) (n o497 (lf o760) l)))) (n o54 (n o96 (n o158 (n o286 (lf o545) l) (n o417 (lf o677) l)) (n o222 (n (o350 P) (lf o611) l) (n o481 (lf o741) l))) (n (o126 P) (n o190 (n o318 (lf o577) l) (n o449 (lf o709) l)) (n o254 (n o385 (lf o643) l) (lf o513))))) (n o27 (n o46 (n o80 (n o150 (n o278 (lf o537) l) (n o409 (lf o669) l)) (n o214 (n o342 (lf o601) l) (n o473 (lf o733) l))) (n o115 (n o182 (n o310 (lf o569) l) (n o441 (lf o701) l)) (n o246 (n o377 (lf o635) l) (n o505 (lf o768) l)))) (n o62 (n (o99 P) (n o166 (n o294 (lf o553) l) (n o425 (lf o685) l)) (n o230 (n o361 (lf o619) l) (n o489 (lf o752) l))) (n o134 (n o198 (n o326 (lf o585) l) (n o457 (lf o717) l)) (n o262 (n o393 (lf o653) l) (lf o521))))))) (n o5 (n o9 (n o17 (n o36 (n o68 (n o140 (n o268 (lf o527) l) (n o399 (lf o659) l)) (n o204 (n o332 (lf o591) l) (n o463 (lf o723) l))) (n (o105 P) (n o172 (n o300 (lf o559) l) (n o431 (lf o691) l)) (n o236 (n o367 (lf o625) l) (n o495 (lf (o758 P)) l)))) (n o52 (n o86 (n o156 (n o284 (lf o543) l) (n o415 (lf o675) l)) (n o220 (n o348 (lf o609) l) (n o479 (lf (o739 P)) l))) (n o124 (n o188 (n o316 (lf o575) l) (n o447 (lf o707) l)) (n o252 (n o383 (lf o641) l) (lf o511))))) (n o25 (n o44 (n o78 (n o148 (n o276 (lf o535) l) (n o407 (lf o667) l)) (n o212 (n o340 (lf o599) l) (n o471 (lf o731) l))) (n o113 (n o180 (n o308 (lf o567) l) (n o439 (lf o699) l)) (n o244 (n o375 (lf o633) l) (n o503 (lf o766) l)))) (n o60 (n o97 (n o164 (n o292 (lf o551) l) (n o423 (lf o683) l)) (n o228 (n (o359 P) (lf o617) l) (n o487 (lf o750) l))) (n o132 (n o196 (n o324 (lf o583) l) (n o455 (lf o715) l)) (n o260 (n o391 (lf o651) l) (lf o519)))))) (n o13 (n (o21 P) (n o40 (n (o74 P) (n o144 (n o272 (lf o531) l) (n o403 (lf o663) l)) (n o208 (n o336 (lf o595) l) (n o467 (lf o727) l))) (n o109 (n o176 (n o304 (lf o563) l) (n o435 (lf o695) l)) (n o240 (n o371 (lf o629) l) (n o499 (lf o762) l)))) (n o56 (n o90 (n o160 (n o288 (lf o547) l) (n o419 (lf o679) l)) (n o224 (n o352 (lf o613) l) (n o483 (lf o743) l))) (n o128 (n o192 (n o320 (lf o579) l) (n o451 (lf o711) l)) (n o256 (n o387 (lf o645) l) (lf o515))))) (n o29 (n o48 (n o82 (n o152 (n o280 (lf o539) l) (n o411 (lf o671) l)) (n o216 (n o344 (lf o603) l) (n o475 (lf o735) l))) (n (o117 P) (n o184 (n o312 (lf o571) l) (n o443 (lf o703) l)) (n o248 (n o379 (lf o637) l) (lf o507)))) (n o64 (n o101 (n o168 (n o296 (lf o555) l) (n o427 (lf o687) l)) (n o232 (n o363 (lf o621) l) (n o491 (lf o754) l))) (n o136 (n o200 (n o328 (lf o587) l) (n o459 (lf o719) l)) (n o264 (n o395 (lf o655) l) (lf o523)))))))) (n (o745 P) (n o4 (n o8 (n o16 (n o32 (n o67 (n o139 (n o267 (lf o526) l) (n o398 (lf o658) l)) (n o203 (n o331 (lf o590) l) (n o462 (lf o722) l))) (n o104 (n o171 (n o299 (lf o558) l) (n o430 (lf o690) l)) (n o235 (n o366 (lf o624) l) (n o494 (lf o757) l)))) (n o51 (n o85 (n o155 (n o283 (lf o542) l) (n o414 (lf o674) l)) (n o219 (n o347 (lf o608) l) (n o478 (lf o738) l))) (n o120 (n o187 (n o315 (lf o574) l) (n o446 (lf o706) l)) (n o251 (n o382 (lf o640) l) (lf o510))))) (n o24 (n o43 (n o77 (n o147 (n o275 (lf o534) l) (n o406 (lf o666) l)) (n o211 (n o339 (lf o598) l) (n o470 (lf o730) l))) (n o112 (n o179 (n o307 (lf o566) l) (n o438 (lf o698) l)) (n o243 (n o374 (lf o632) l) (n o502 (lf o765) l)))) (n (o59 P) (n o93 (n o163 (n o291 (lf o550) l) (n o422 (lf o682) l)) (n o227 (n o358 (lf o616) l) (n o486 (lf o749) l))) (n o131 (n o195 (n o323 (lf o582) l) (n o454 (lf o714) l)) (n o259 (n o390 (lf o650) l) (lf o518)))))) (n (o12 P) (n o20 (n o39 (n o73 (n o143 (n o271 (lf o530) l) (n o402 (lf o662) l)) (n o207 (n o335 (lf o594) l) (n o466 (lf o726) l))) (n o108 (n o175 (n o303 (lf o562) l) (n o434 (lf o694) l)) (n o239 (n o370 (lf o628) l) (n o498 (lf o761) l)))) (n o55 (n o89 (n o159 (n o287 (lf o546) l) (n o418 (lf o678) l)) (n o223 (n o351 (lf o612) l) (n o482 (lf o742) l))) (n o127 (n o191 (n o319 (lf o578) l) (n o450 (lf o710) l)) (n o255 (n o386 (lf o644) l) (lf o514))))) (n o28 (n o47 (n o81 (n o151 (n o279 (lf o538) l) (n o410 (lf o670) l)) (n o215 (n o343 (lf o602) l) (n o474 (lf o734) l))) (n o116 (n o183 (n o311 (lf o570) l) (n o442 (lf o702) l)) (n o247 (n o378 (lf o636) l) (lf o506)))) (n o63 (n o100 (n o167 (n o295 (lf o554) l) (n o426 (lf o686) l)) (n o231 (n o362 (lf o620) l) (n o490 (lf o753) l))) (n o135 (n o199 (n o327 (lf o586) l) (n o458 (lf o718) l)) (n o263 (n o394 (lf o654) l) (lf o522))))))) (n o6 (n o10 (n o18 (n o37 (n o69 (n o141 (n o269 (lf o528) l) (n o400 (lf o660) l)) (n o205 (n o333 (lf o592) l) (n o464 (lf o724) l))) (n o123 (n o173 (n o301 (lf o560) l) (n o432 (lf o692) l)) (n o237 (n o368 (lf o626) l) (n o496 (lf o759) l)))) (n o53 (n (o87 P) (n o157 (n o285 (lf o544) l) (n o416 (lf o676) l)) (n o221 (n o349 (lf o610) l) (n o480 (lf o740) l))) (n o125 (n o189 (n o317 (lf o576) l) (n o448 (lf o708) l)) (n o253 (n o384 (lf o642) l) (lf o512))))) (n o26 (n o45 (n o79 (n o149 (n o277 (lf o536) l) (n o408 (lf o668) l)) (n o213 (n o341 (lf (o600 P)) l) (n o472 (lf o732) l))) (n o114 (n o181 (n o309 (lf o568) l) (n o440 (lf o700) l)) (n o245 (n o376 (lf o634) l) (n o504 (lf o767) l)))) (n o61 (n o98 (n o165 (n o293 (lf o552) l) (n o424 (lf o684) l)) (n o229 (n o360 (lf o618) l) (n o488 (lf o751) l))) (n o133 (n o197 (n o325 (lf o584) l) (n o456 (lf o716) l)) (n o261 (n o392 (lf (o652 P)) l) (lf o520)))))) (n (o14 P) (n (o22 P) (n o41 (n o75 (n o145 (n o273 (lf o532) l) (n o404 (lf o664) l)) (n o209 (n o337 (lf o596) l) (n o468 (lf o728) l))) (n o110 (n o177 (n o305 (lf o564) l) (n o436 (lf o696) l)) (n o241 (n o372 (lf o630) l) (n o500 (lf o763) l)))) (n o57 (n o91 (n o161 (n o289 (lf o548) l) (n o420 (lf o680) l)) (n o225 (n o353 (lf o614) l) (n o484 (lf o744) l))) (n o129 (n o193 (n o321 (lf o580) l) (n o452 (lf o712) l)) (n o257 (n o388 (lf o646) l) (lf o516))))) (n o747 (n o49 (n o83 (n o153 (n o281 (lf o540) l) (n o412 (lf o672) l)) (n o217 (n o345 (lf o606) l) (n o476 (lf o736) l))) (n o356 (n o185 (n o313 (lf o572) l) (n o444 (lf o704) l)) (n o249 (n o380 (lf o638) l) (lf o508)))) (n (o65 P) (n o102 (n o169 (n o297 (lf o556) l) (n o428 (lf o688) l)) (n o233 (n o364 (lf o622) l) (n o492 (lf o755) l))) (n o137 (n o201 (n o329 (lf o588) l) (n o460 (lf o720) l)) (n o265 (n o396 (lf o656) l) (lf o524)))))))))
noncomputable def S8 (w : World) (os : OsState) : SharedT := ⟨T8 w.params, 748, {}, #[], {}, 1174, os⟩
noncomputable def ss8 : List Stmt := [st 20, st 21, st 22]
theorem pc8 (w : World) (os : OsState) : segRunT treeTable PySem.Challenge.pw_ny0304_04 w 29 (some (.ref 6)) 1 239 (S7 w os) (piecesOf ss8 en (.body (behindTheImports PySem.Challenge.pw_ny0304_04) en) ⟨470, 0, 721, 20⟩ [topFrame fq]) = some (.next, S8 w os, (.body (behindTheImports PySem.Challenge.pw_ny0304_04) en), ⟨731, 0, 732, 8⟩) := by kernel_rfl
noncomputable def o769 (P : Params) : Obj := dc #[e1 P "__name__" 165 (sv "law_ny0304_04" 1201), e1 P "__doc__" 166 .none, e1 P "__package__" 167 .none, e1 P "__loader__" 168 (bi "__main__.__loader__#opaque"), e1 P "__spec__" 169 .none, e1 P "__annotations__" 170 (.ref 6), e1 P "__builtins__" 171 (.ref 4), e1 P "__file__" 173 (sv "/claim/cut.py" 172), e1 P "__cached__" 174 .none, e1 P "deque" 272 (.type "collections.deque"), e1 P "_wall" 285 (.ref 39), e1 P "_whence" 295 (.ref 46), e1 P "_index" 303 (.ref 53), e1 P "UnsupportedOperation" 325 (.ref 63), e1 P "IOBase" 357 (.ref 83), e1 P "BufferedIOBase" 375 (.ref 98), e1 P "TextIOBase" 393 (.ref 110), e1 P "BytesIO" 655 (.ref 340), e1 P "StringIO" 942 (.ref 587), e1 P "_kind" 953 (.ref 596), e1 P "_fspath" 962 (.ref 603), e1 P "_check_arg_types" 972 (.ref 610), e1 P "isabs" 979 (.ref 617), e1 P "join" 990 (.ref 624), e1 P "dirname" 1000 (.ref 631), e1 P "shlex" 1141 (.ref 722), e1 P "split" 1151 (.ref 734), e1 P "Error" 1173 (.ref 744), e1 P "error_reply" 1189 (.ref 757), e1 P "parse257" 1200 (.ref 766), e1 P "_law_walks" 1208 (.ref 771), e1 P "_law_ends" 1214 (.ref 776), e1 P "_law_due" 1225 (.ref 783), e1 P "law" 1231 (.ref 788)] 34
noncomputable def o770 : Obj := ⟨.none, none, (.fields #[.int 2 0, .int 0 0, .ref 38, .int 6 0, .int 0 0, .ref 45, .int 11 0, .int 0 0, .ref 52, .int 18 0, .int 0 0, .ref 59, .int 20 0, .int 0 0, .ref 72, .int 27 0, .int 0 0, .ref 94, .int 29 0, .int 0 0, .ref 106, .int 31 0, .int 0 0, .ref 118, .int 201 0, .int 0 0, .ref 348, .int 407 0, .int 0 0, .ref 595, .int 428 0, .int 0 0, .ref 602, .int 433 0, .int 0 0, .ref 609, .int 438 0, .int 0 0, .ref 616, .int 441 0, .int 0 0, .ref 623, .int 461 0, .int 0 0, .ref 630, .int 470 0, .int 0 0, .ref 637, .int 722 0, .int 0 0, .ref 733, .int 731 0, .int 0 0, .ref 740, .int 733 0, .int 0 0, .ref 753, .int 735 0, .int 0 0, .ref 765, .int 753 0, .int 0 0, .ref 770, .int 768 0, .int 0 0, .ref 775, .int 780 0, .int 0 0, .ref 782, .int 789 0, .int 0 0, .ref 787]), #[]⟩
noncomputable def o771 : Obj := ⟨.type "type", none, (.cls ⟨(S "Error"), [.type "Exception"], [.ref 744, .type "Exception", .type "BaseException", .type "object"], 743, (S "Error"), true, [], [.ref 757], false, none, false⟩), #[(some (.ref 735)), none, (some (sv "Error" 1154)), (some (sv "Error" 1162)), (some (bi "Exception.__new__")), (some (.bool true))]⟩
noncomputable def o772 : Obj := tu #[.ref 744]
noncomputable def o773 : Obj := ⟨.type "builtin_function_or_method", none, (.fields #[bi "type.__prepare__", .type "type"]), #[]⟩
noncomputable def o774 (P : Params) : Obj := dc #[e1 P "__module__" 1181 (sv "cpy313.ftplib" 1152), e1 P "__qualname__" 1183 (sv "error_reply" 1182), e1 P "__firstlineno__" 1185 (.int 733 1184), e1 P "__static_attributes__" 1186 (.ref 755)] 4
noncomputable def o775 : Obj := tu #[]
noncomputable def o776 : Obj := nf
noncomputable def o777 : Obj := co "error_reply" 1176 "error_reply" 1177 1178 733 0 0 0 0 751 false 273 752 .none .none .none .none 1179 733 1180
noncomputable def o778 : Obj := ⟨.type "frame", none, .plain, #[(some (.ref 753)), (some (.ref 3)), (some (.ref 750)), none, (some (sv "cpy313.ftplib" 1152)), none, (some (.ref 0))]⟩
noncomputable def o779 : Obj := tu #[]
noncomputable def o780 (P : Params) : Obj := dc #[e1 P "__module__" 1181 (sv "cpy313.ftplib" 1152), e1 P "__firstlineno__" 1185 (.int 733 1184), e1 P "__static_attributes__" 1186 (.ref 755), e1 P "__doc__" 1187 .none] 2
noncomputable def o781 : Obj := ⟨.type "type", none, (.cls ⟨(S "error_reply"), [.ref 744], [.ref 757, .ref 744, .type "Exception", .type "BaseException", .type "object"], 756, (S "error_reply"), true, [], [], false, none, false⟩), #[(some (.ref 748)), none, (some (sv "error_reply" 1174)), (some (sv "error_reply" 1182)), (some (bi "Exception.__new__")), (some (.bool true))]⟩
noncomputable def o782 : Obj := ⟨.type "super", none, (.fields #[.ref 757, .ref 757, .ref 757]), #[]⟩
noncomputable def o783 : Obj := ⟨.type "builtin_function_or_method", none, (.fields #[bi "object.__init_subclass__", .ref 757]), #[]⟩
noncomputable def o784 : Obj := tu #[]
noncomputable def o785 : Obj := nf
noncomputable def o786 : Obj := tu #[sv "resp" 1193, sv "dirname" 1194, sv "i" 1195, sv "n" 1196, sv "c" 1197]
noncomputable def o787 : Obj := tu #[]
noncomputable def o788 : Obj := f0 "parse257" "parse257" (st 24)
noncomputable def o789 : Obj := co "parse257" 1190 "parse257" 1191 1192 735 1 0 0 3 760 true 273 761 .none (.ref 762) (.ref 763) (.ref 764) 1198 735 1199
noncomputable def o790 : Obj := fo (.type "function") (fn (S "parse257") (S "parse257") (st 24) 3 [] .none .none .none (sv "cpy313.ftplib" 1152) none (.ref 765) .none 0)
noncomputable def o791 : Obj := tu #[]
noncomputable def o792 : Obj := nf
noncomputable def o793 : Obj := f0 "_law_walks" "_law_walks" (st 26)
noncomputable def o794 : Obj := co "_law_walks" 1203 "_law_walks" 1204 1205 753 1 0 0 3 767 true 273 768 .none .none .none (.ref 769) 1206 753 1207
noncomputable def o795 : Obj := fo (.type "function") (fn (S "_law_walks") (S "_law_walks") (st 26) 3 [] .none .none .none (sv "law_ny0304_04" 1201) none (.ref 770) .none 0)
noncomputable def o796 : Obj := tu #[]
noncomputable def o797 : Obj := nf
noncomputable def o798 : Obj := f0 "_law_ends" "_law_ends" (st 27)
noncomputable def o799 : Obj := co "_law_ends" 1209 "_law_ends" 1210 1211 768 2 0 0 3 772 true 273 773 .none .none .none (.ref 774) 1212 768 1213
noncomputable def o800 : Obj := fo (.type "function") (fn (S "_law_ends") (S "_law_ends") (st 27) 3 [] .none .none .none (sv "law_ny0304_04" 1201) none (.ref 775) .none 0)
noncomputable def o801 : Obj := tu #[]
noncomputable def o802 : Obj := nf
noncomputable def o803 : Obj := tu #[sv "walk" 1218, sv "signs" 1219, sv "names" 1220, sv "island" 1221, sv "told" 1222]
noncomputable def o804 : Obj := tu #[]
noncomputable def o805 : Obj := f0 "_law_due" "_law_due" (st 28)
noncomputable def o806 : Obj := co "_law_due" 1215 "_law_due" 1216 1217 780 2 0 0 3 777 true 273 778 .none (.ref 779) (.ref 780) (.ref 781) 1223 780 1224
noncomputable def o807 : Obj := fo (.type "function") (fn (S "_law_due") (S "_law_due") (st 28) 3 [] .none .none .none (sv "law_ny0304_04" 1201) none (.ref 782) .none 0)
noncomputable def o808 : Obj := tu #[]
noncomputable def o809 : Obj := nf
noncomputable def o810 : Obj := f0 "law" "law" (st 29)
noncomputable def o811 : Obj := co "law" 1226 "law" 1227 1228 789 1 0 0 3 784 true 273 785 .none .none .none (.ref 786) 1229 789 1230
noncomputable def o812 : Obj := fo (.type "function") (fn (S "law") (S "law") (st 29) 3 [] .none .none .none (sv "law_ny0304_04" 1201) none (.ref 787) .none 0)
noncomputable def T9 (P : Params) : BT := (n (o0 P) (n (o1 P) (n (o769 P) (n o7 (n o15 (n o31 (n o66 (n o138 (n o266 (lf o525) (lf o791)) (n o397 (lf o657) l)) (n o202 (n o330 (lf o589) l) (n o461 (lf o721) l))) (n o103 (n o170 (n o298 (lf o557) l) (n o429 (lf o689) l)) (n o234 (n o365 (lf o623) l) (n o493 (lf o756) l)))) (n o50 (n o84 (n o154 (n o282 (lf o541) (lf o807)) (n o413 (lf o673) l)) (n o218 (n o346 (lf o607) l) (n o477 (lf o737) l))) (n o119 (n o186 (n o314 (lf o573) l) (n o445 (lf o705) l)) (n o250 (n o381 (lf o639) l) (n o509 (lf o775) l))))) (n o23 (n o42 (n o76 (n o146 (n o274 (lf o533) (lf o799)) (n o405 (lf o665) l)) (n o210 (n o338 (lf o597) l) (n o469 (lf o729) l))) (n (o111 P) (n o178 (n o306 (lf o565) l) (n o437 (lf o697) l)) (n o242 (n o373 (lf o631) l) (n o501 (lf (o764 P)) l)))) (n o58 (n o92 (n o162 (n o290 (lf o549) l) (n o421 (lf o681) l)) (n o226 (n o357 (lf o615) l) (n o485 (lf o748) l))) (n o130 (n o194 (n o322 (lf o581) l) (n o453 (lf o713) l)) (n o258 (n o389 (lf o647) l) (n o517 (lf o783) l)))))) (n o11 (n o19 (n o38 (n o72 (n o142 (n o270 (lf o529) (lf o795)) (n o401 (lf o661) l)) (n o206 (n o334 (lf o593) l) (n o465 (lf o725) l))) (n o107 (n o174 (n o302 (lf o561) l) (n o433 (lf o693) l)) (n o238 (n o369 (lf o627) l) (n o497 (lf o760) l)))) (n o54 (n o96 (n o158 (n o286 (lf o545) (lf o811)) (n o417 (lf o677) l)) (n o222 (n (o350 P) (lf o611) l) (n o481 (lf o741) l))) (n (o126 P) (n o190 (n o318 (lf o577) l) (n o449 (lf o709) l)) (n o254 (n o385 (lf o643) l) (n o513 (lf o779) l))))) (n o27 (n o46 (n o80 (n o150 (n o278 (lf o537) (lf o803)) (n o409 (lf o669) l)) (n o214 (n o342 (lf o601) l) (n o473 (lf o733) l))) (n o115 (n o182 (n o310 (lf o569) l) (n o441 (lf o701) l)) (n o246 (n o377 (lf o635) l) (n o505 (lf o768) l)))) (n o62 (n (o99 P) (n o166 (n o294 (lf o553) l) (n o425 (lf o685) l)) (n o230 (n o361 (lf o619) l) (n o489 (lf o752) l))) (n o134 (n o198 (n o326 (lf o585) l) (n o457 (lf o717) l)) (n o262 (n o393 (lf o653) l) (n o521 (lf o787) l))))))) (n o5 (n o9 (n o17 (n o36 (n o68 (n o140 (n o268 (lf o527) (lf o793)) (n o399 (lf o659) l)) (n o204 (n o332 (lf o591) l) (n o463 (lf o723) l))) (n (o105 P) (n o172 (n o300 (lf o559) l) (n o431 (lf o691) l)) (n o236 (n o367 (lf o625) l) (n o495 (lf (o758 P)) l)))) (n o52 (n o86 (n o156 (n o284 (lf o543) (lf o809)) (n o415 (lf o675) l)) (n o220 (n o348 (lf o609) l) (n o479 (lf (o739 P)) l))) (n o124 (n o188 (n o316 (lf o575) l) (n o447 (lf o707) l)) (n o252 (n o383 (lf o641) l) (n o511 (lf o777) l))))) (n o25 (n o44 (n o78 (n o148 (n o276 (lf o535) (lf o801)) (n o407 (lf o667) l)) (n o212 (n o340 (lf o599) l) (n o471 (lf o731) l))) (n o113 (n o180 (n o308 (lf o567) l) (n o439 (lf o699) l)) (n o244 (n o375 (lf o633) l) (n o503 (lf o766) l)))) (n o60 (n o97 (n o164 (n o292 (lf o551) l) (n o423 (lf o683) l)) (n o228 (n (o359 P) (lf o617) l) (n o487 (lf o750) l))) (n o132 (n o196 (n o324 (lf o583) l) (n o455 (lf o715) l)) (n o260 (n o391 (lf o651) l) (n o519 (lf o785) l)))))) (n o13 (n (o21 P) (n o40 (n (o74 P) (n o144 (n o272 (lf o531) (lf o797)) (n o403 (lf o663) l)) (n o208 (n o336 (lf o595) l) (n o467 (lf o727) l))) (n o109 (n o176 (n o304 (lf o563) l) (n o435 (lf o695) l)) (n o240 (n o371 (lf o629) l) (n o499 (lf o762) l)))) (n o56 (n o90 (n o160 (n o288 (lf o547) l) (n o419 (lf o679) l)) (n o224 (n o352 (lf o613) l) (n o483 (lf o743) l))) (n o128 (n o192 (n o320 (lf o579) l) (n o451 (lf o711) l)) (n o256 (n o387 (lf o645) l) (n o515 (lf o781) l))))) (n o29 (n o48 (n o82 (n o152 (n o280 (lf o539) (lf o805)) (n o411 (lf o671) l)) (n o216 (n o344 (lf o603) l) (n o475 (lf o735) l))) (n (o117 P) (n o184 (n o312 (lf o571) l) (n o443 (lf o703) l)) (n o248 (n o379 (lf o637) l) (n o507 (lf o773) l)))) (n o64 (n o101 (n o168 (n o296 (lf o555) l) (n o427 (lf o687) l)) (n o232 (n o363 (lf o621) l) (n o491 (lf o754) l))) (n o136 (n o200 (n o328 (lf o587) l) (n o459 (lf o719) l)) (n o264 (n o395 (lf o655) l) (n o523 (lf o789) l)))))))) (n (o745 P) (n o4 (n o8 (n o16 (n o32 (n o67 (n o139 (n o267 (lf o526) (lf o792)) (n o398 (lf o658) l)) (n o203 (n o331 (lf o590) l) (n o462 (lf o722) l))) (n o104 (n o171 (n o299 (lf o558) l) (n o430 (lf o690) l)) (n o235 (n o366 (lf o624) l) (n o494 (lf o757) l)))) (n o51 (n o85 (n o155 (n o283 (lf o542) (lf o808)) (n o414 (lf o674) l)) (n o219 (n o347 (lf o608) l) (n o478 (lf o738) l))) (n o120 (n o187 (n o315 (lf o574) l) (n o446 (lf o706) l)) (n o251 (n o382 (lf o640) l) (n o510 (lf o776) l))))) (n o24 (n o43 (n o77 (n o147 (n o275 (lf o534) (lf o800)) (n o406 (lf o666) l)) (n o211 (n o339 (lf o598) l) (n o470 (lf o730) l))) (n o112 (n o179 (n o307 (lf o566) l) (n o438 (lf o698) l)) (n o243 (n o374 (lf o632) l) (n o502 (lf o771) l)))) (n (o59 P) (n o93 (n o163 (n o291 (lf o550) l) (n o422 (lf o682) l)) (n o227 (n o358 (lf o616) l) (n o486 (lf o749) l))) (n o131 (n o195 (n o323 (lf o582) l) (n o454 (lf o714) l)) (n o259 (n o390 (lf o650) l) (n o518 (lf o784) l)))))) (n (o12 P) (n o20 (n o39 (n o73 (n o143 (n o271 (lf o530) (lf o796)) (n o402 (lf o662) l)) (n o207 (n o335 (lf o594) l) (n o466 (lf o726) l))) (n o108 (n o175 (n o303 (lf o562) l) (n o434 (lf o694) l)) (n o239 (n o370 (lf o628) l) (n o498 (lf o761) l)))) (n o55 (n o89 (n o159 (n o287 (lf o546) (lf o812)) (n o418 (lf o678) l)) (n o223 (n o351 (lf o612) l) (n o482 (lf o742) l))) (n o127 (n o191 (n o319 (lf o578) l) (n o450 (lf o710) l)) (n o255 (n o386 (lf o644) l) (n o514 (lf (o780 P)) l))))) (n o28 (n o47 (n o81 (n o151 (n o279 (lf o538) (lf o804)) (n o410 (lf o670) l)) (n o215 (n o343 (lf o602) l) (n o474 (lf o734) l))) (n o116 (n o183 (n o311 (lf o570) l) (n o442 (lf o702) l)) (n o247 (n o378 (lf o636) l) (n o506 (lf o772) l)))) (n o63 (n o100 (n o167 (n o295 (lf o554) l) (n o426 (lf o686) l)) (n o231 (n o362 (lf o620) l) (n o490 (lf o753) l))) (n o135 (n o199 (n o327 (lf o586) l) (n o458 (lf o718) l)) (n o263 (n o394 (lf o654) l) (n o522 (lf o788) l))))))) (n o6 (n o10 (n o18 (n o37 (n o69 (n o141 (n o269 (lf o528) (lf o794)) (n o400 (lf o660) l)) (n o205 (n o333 (lf o592) l) (n o464 (lf o724) l))) (n o123 (n o173 (n o301 (lf o560) l) (n o432 (lf o692) l)) (n o237 (n o368 (lf o626) l) (n o496 (lf o759) l)))) (n o53 (n (o87 P) (n o157 (n o285 (lf o544) (lf o810)) (n o416 (lf o676) l)) (n o221 (n o349 (lf o610) l) (n o480 (lf o740) l))) (n o125 (n o189 (n o317 (lf o576) l) (n o448 (lf o708) l)) (n o253 (n o384 (lf o642) l) (n o512 (lf o778) l))))) (n o26 (n o45 (n o79 (n o149 (n o277 (lf o536) (lf o802)) (n o408 (lf o668) l)) (n o213 (n o341 (lf (o600 P)) l) (n o472 (lf o732) l))) (n o114 (n o181 (n o309 (lf o568) l) (n o440 (lf o700) l)) (n o245 (n o376 (lf o634) l) (n o504 (lf o767) l)))) (n o61 (n o98 (n o165 (n o293 (lf o552) l) (n o424 (lf o684) l)) (n o229 (n o360 (lf o618) l) (n o488 (lf o751) l))) (n o133 (n o197 (n o325 (lf o584) l) (n o456 (lf o716) l)) (n o261 (n o392 (lf (o652 P)) l) (n o520 (lf o786) l)))))) (n (o14 P) (n (o22 P) (n o41 (n o75 (n o145 (n o273 (lf o532) (lf o798)) (n o404 (lf o664) l)) (n o209 (n o337 (lf o596) l) (n o468 (lf o728) l))) (n o110 (n o177 (n o305 (lf o564) l) (n o436 (lf o696) l)) (n o241 (n o372 (lf o630) l) (n o500 (lf o763) l)))) (n o57 (n o91 (n o161 (n o289 (lf o548) l) (n o420 (lf o680) l)) (n o225 (n o353 (lf o614) l) (n o484 (lf o744) l))) (n o129 (n o193 (n o321 (lf o580) l) (n o452 (lf o712) l)) (n o257 (n o388 (lf o646) l) (n o516 (lf o782) l))))) (n o770 (n o49 (n o83 (n o153 (n o281 (lf o540) (lf o806)) (n o412 (lf o672) l)) (n o217 (n o345 (lf o606) l) (n o476 (lf o736) l))) (n o356 (n o185 (n o313 (lf o572) l) (n o444 (lf o704) l)) (n o249 (n o380 (lf o638) l) (n o508 (lf (o774 P)) l)))) (n (o65 P) (n o102 (n o169 (n o297 (lf o556) l) (n o428 (lf o688) l)) (n o233 (n o364 (lf o622) l) (n o492 (lf o755) l))) (n o137 (n o201 (n o329 (lf o588) l) (n o460 (lf o720) l)) (n o265 (n o396 (lf o656) l) (n o524 (lf o790) l)))))))))
noncomputable def S9 (w : World) (os : OsState) : SharedT := ⟨T9 w.params, 789, {}, #[], {}, 1232, os⟩
noncomputable def ss9 : List Stmt := [st 23, st 24, st 25, st 26, st 27, st 28, st 29]
theorem pc9 (w : World) (os : OsState) : segRunT treeTable PySem.Challenge.pw_ny0304_04 w 29 (some (.ref 6)) 1 367 (S8 w os) (piecesOf ss9 en (.body (behindTheImports PySem.Challenge.pw_ny0304_04) en) ⟨731, 0, 732, 8⟩ [topFrame fq]) = some (.next, S9 w os, (.body (behindTheImports PySem.Challenge.pw_ny0304_04) en), ⟨789, 0, 807, 75⟩) := by kernel_rfl
noncomputable def H1 (P : Params) : Heap := ⟨⟨[o0 P, o1 P, o745 P, o769 P, o4, o5, o6, o7, o8, o9, o10, o11, o12 P, o13, o14 P, o15, o16, o17, o18, o19, o20, o21 P, o22 P, o23, o24, o25, o26, o27, o28, o29, o770, o31, o32, o36, o37, o38, o39, o40, o41, o42, o43, o44, o45, o46, o47, o48, o49, o50, o51, o52, o53, o54, o55, o56, o57, o58, o59 P, o60, o61, o62, o63, o64, o65 P, o66, o67, o68, o69, o72, o73, o74 P, o75, o76, o77, o78, o79, o80, o81, o82, o83, o84, o85, o86, o87 P, o96, o89, o90, o91, o92, o93, o97, o98, o99 P, o100, o101, o102, o103, o104, o105 P, o123, o107, o108, o109, o110, o111 P, o112, o113, o114, o115, o116, o117 P, o356, o119, o120, o124, o125, o126 P, o127, o128, o129, o130, o131, o132, o133, o134, o135, o136, o137, o138, o139, o140, o141, o142, o143, o144, o145, o146, o147, o148, o149, o150, o151, o152, o153, o154, o155, o156, o157, o158, o159, o160, o161, o162, o163, o164, o165, o166, o167, o168, o169, o170, o171, o172, o173, o174, o175, o176, o177, o178, o179, o180, o181, o182, o183, o184, o185, o186, o187, o188, o189, o190, o191, o192, o193, o194, o195, o196, o197, o198, o199, o200, o201, o202, o203, o204, o205, o206, o207, o208, o209, o210, o211, o212, o213, o214, o215, o216, o217, o218, o219, o220, o221, o222, o223, o224, o225, o226, o227, o228, o229, o230, o231, o232, o233, o234, o235, o236, o237, o238, o239, o240, o241, o242, o243, o244, o245, o246, o247, o248, o249, o250, o251, o252, o253, o254, o255, o256, o257, o258, o259, o260, o261, o262, o263, o264, o265, o266, o267, o268, o269, o270, o271, o272, o273, o274, o275, o276, o277, o278, o279, o280, o281, o282, o283, o284, o285, o286, o287, o288, o289, o290, o291, o292, o293, o294, o295, o296, o297, o298, o299, o300, o301, o302, o303, o304, o305, o306, o307, o308, o309, o310, o311, o312, o313, o314, o315, o316, o317, o318, o319, o320, o321, o322, o323, o324, o325, o326, o327, o328, o329, o330, o331, o332, o333, o334, o335, o336, o337, o338, o339, o340, o341, o342, o343, o344, o345, o346, o347, o348, o349, o350 P, o351, o352, o353, o357, o358, o359 P, o360, o361, o362, o363, o364, o365, o366, o367, o368, o369, o370, o371, o372, o373, o374, o375, o376, o377, o378, o379, o380, o381, o382, o383, o384, o385, o386, o387, o388, o389, o390, o391, o392, o393, o394, o395, o396, o397, o398, o399, o400, o401, o402, o403, o404, o405, o406, o407, o408, o409, o410, o411, o412, o413, o414, o415, o416, o417, o418, o419, o420, o421, o422, o423, o424, o425, o426, o427, o428, o429, o430, o431, o432, o433, o434, o435, o436, o437, o438, o439, o440, o441, o442, o443, o444, o445, o446, o447, o448, o449, o450, o451, o452, o453, o454, o455, o456, o457, o458, o459, o460, o461, o462, o463, o464, o465, o466, o467, o468, o469, o470, o471, o472, o473, o474, o475, o476, o477, o478, o479, o480, o481, o482, o483, o484, o485, o486, o487, o488, o489, o490, o491, o492, o493, o494, o495, o496, o497, o498, o499, o500, o501, o502, o503, o504, o505, o506, o507, o508, o509, o510, o511, o512, o513, o514, o515, o516, o517, o518, o519, o520, o521, o522, o523, o524, o525, o526, o527, o528, o529, o530, o531, o532, o533, o534, o535, o536, o537, o538, o539, o540, o541, o542, o543, o544, o545, o546, o547, o548, o549, o550, o551, o552, o553, o554, o555, o556, o557, o558, o559, o560, o561, o562, o563, o564, o565, o566, o567, o568, o569, o570, o571, o572, o573, o574, o575, o576, o577, o578, o579, o580, o581, o582, o583, o584, o585, o586, o587, o588, o589, o590, o591, o592, o593, o594, o595, o596, o597, o598, o599, o600 P, o601, o602, o603, o606, o607, o608, o609, o610, o611, o612, o613, o614, o615, o616, o617, o618, o619, o620, o621, o622, o623, o624, o625, o626, o627, o628, o629, o630, o631, o632, o633, o634, o635, o636, o637, o638, o639, o640, o641, o642, o643, o644, o645, o646, o647, o650, o651, o652 P, o653, o654, o655, o656, o657, o658, o659, o660, o661, o662, o663, o664, o665, o666, o667, o668, o669, o670, o671, o672, o673, o674, o675, o676, o677, o678, o679, o680, o681, o682, o683, o684, o685, o686, o687, o688, o689, o690, o691, o692, o693, o694, o695, o696, o697, o698, o699, o700, o701, o702, o703, o704, o705, o706, o707, o708, o709, o710, o711, o712, o713, o714, o715, o716, o717, o718, o719, o720, o721, o722, o723, o724, o725, o726, o727, o728, o729, o730, o731, o732, o733, o734, o735, o736, o737, o738, o739 P, o740, o741, o742, o743, o744, o748, o749, o750, o751, o752, o753, o754, o755, o756, o757, o758 P, o759, o760, o761, o762, o763, o764 P, o771, o766, o767, o768, o772, o773, o774 P, o775, o776, o777, o778, o779, o780 P, o781, o782, o783, o784, o785, o786, o787, o788, o789, o790, o791, o792, o793, o794, o795, o796, o797, o798, o799, o800, o801, o802, o803, o804, o805, o806, o807, o808, o809, o810, o811, o812]⟩, {}⟩
theorem fin (w : World) (os : OsState) : topRun treeTable PySem.Challenge.pw_ny0304_04 w 29 (some (.ref 6)) 2 (S9 w os).abs ⟨doneF .next, (.body (behindTheImports PySem.Challenge.pw_ny0304_04) en), ⟨789, 0, 807, 75⟩, [topFrame fq]⟩ = some ⟨H1 w.params, #[], {}, 1232, os⟩ := by kernel_rfl
theorem body_is : behindTheImports PySem.Challenge.pw_ny0304_04 = (ss1 ++ (ss2 ++ (ss3 ++ (ss4 ++ (ss5 ++ (ss6 ++ (ss7 ++ (ss8 ++ (ss9 ++ []))))))))) := by kernel_rfl
theorem tail (w : World) (os : OsState) : topRun treeTable PySem.Challenge.pw_ny0304_04 w 29 (some (.ref 6)) (307 + (240 + (447 + (1278 + (1578 + (207 + (633 + (239 + (367 + 2))))))))) (S0 w os).abs (restOf (ss1 ++ (ss2 ++ (ss3 ++ (ss4 ++ (ss5 ++ (ss6 ++ (ss7 ++ (ss8 ++ (ss9 ++ []))))))))) en (.body (behindTheImports PySem.Challenge.pw_ny0304_04) en) ⟨0, 0, 0, 0⟩ [topFrame fq]) = some ⟨H1 w.params, #[], {}, 1232, os⟩ := (piece_app (env := en) (rest := (ss2 ++ (ss3 ++ (ss4 ++ (ss5 ++ (ss6 ++ (ss7 ++ (ss8 ++ (ss9 ++ []))))))))) (segRun_of (pc1 w os)) (piece_app (env := en) (rest := (ss3 ++ (ss4 ++ (ss5 ++ (ss6 ++ (ss7 ++ (ss8 ++ (ss9 ++ [])))))))) (segRun_of (pc2 w os)) (piece_app (env := en) (rest := (ss4 ++ (ss5 ++ (ss6 ++ (ss7 ++ (ss8 ++ (ss9 ++ []))))))) (segRun_of (pc3 w os)) (piece_app (env := en) (rest := (ss5 ++ (ss6 ++ (ss7 ++ (ss8 ++ (ss9 ++ [])))))) (segRun_of (pc4 w os)) (piece_app (env := en) (rest := (ss6 ++ (ss7 ++ (ss8 ++ (ss9 ++ []))))) (segRun_of (pc5 w os)) (piece_app (env := en) (rest := (ss7 ++ (ss8 ++ (ss9 ++ [])))) (segRun_of (pc6 w os)) (piece_app (env := en) (rest := (ss8 ++ (ss9 ++ []))) (segRun_of (pc7 w os)) (piece_app (env := en) (rest := (ss9 ++ [])) (segRun_of (pc8 w os)) (piece_app (env := en) (rest := []) (segRun_of (pc9 w os)) (piece_nil (fin w os)))))))))))
theorem run (w : World) (os : OsState) : topRun treeTable PySem.Challenge.pw_ny0304_04 w 29 (some (.ref 6)) (12 + (1 + (307 + (240 + (447 + (1278 + (1578 + (207 + (633 + (239 + (367 + 2))))))))))) ⟨H0 w.params, #[], {}, 273, os⟩ (topStub PySem.Challenge.pw_ny0304_04) = some ⟨H1 w.params, #[], {}, 1232, os⟩ :=
  go_top (pre w os) (piece_block (blk w os) (by have h := tail w os; rw [← body_is] at h; exact h))
noncomputable def lo : List Str := [(S "UnsupportedOperation"), (S "IOBase"), (S "BufferedIOBase"), (S "TextIOBase"), (S "BytesIO"), (S "StringIO"), (S "shlex"), (S "split")]
noncomputable def vw : Program := view PySem.Challenge.pw_ny0304_04 [0, 1, 3, 4, 5, 6, 7, 8, 9, 10, 12, 13, 14, 15, 16, 17, 19, 22, 23, 24, 26, 27, 28, 29]
/-- the heap holds all that the top has made -/
noncomputable def BaseOk (P : Params) (h : Heap) : Prop := ∀ i o, Nat.blt i 789 = true → (T9 P).get i = some o → h.get? i = some o
noncomputable def obs (s : Shared) : List (Option Obj) := (List.range 789).map s.heap.get?
noncomputable def vals (w : World) : List (Option Obj) := (List.range 789).map (T9 w.params).get
theorem base_of (w : World) (s : Shared) (e : obs s = vals w) : BaseOk w.params s.heap := fun i o hi h => by
  have hi : i < 789 := Nat.le_of_ble_eq_true hi
  have := congrArg (fun l => l[i]?) e
  simp only [obs, vals, List.getElem?_map, List.getElem?_range hi, Option.map_some, Option.some.injEq] at this
  rw [this, h]
theorem base_keeps (w : World) (h h' : Heap) (x : BaseOk w.params h) (k : ∀ b o, h.get? b = some o → h'.get? b = some o) : BaseOk w.params h' := fun i o hi e => k i o (x i o hi e)
theorem opened (w : World) : (fencedOpening treeTable PySem.Challenge.pw_ny0304_04 w 10700).map (fun s => (s.heap, s.gens, s.drawn, s.toks)) = some (H0 w.params, #[], {}, 273) := by kernel_rfl
theorem sized (w : World) : ((H0 w.params).isNs mainGlobals && (#[] : Array GenState).size == 0, (H0 w.params).objs.size, (H0 w.params).nsMap mainGlobals "__annotations__") = (true, 29, (some (.ref 6))) := by kernel_rfl
noncomputable def Xt (s : Shared) : Bool := xlAt vw [] s && recOk (RowW.records (PySem.Challenge.rw_ny0304_04.row.toRowW)) s
noncomputable abbrev SF (w : World) (os : OsState) : Shared := ⟨H1 w.params, #[], {}, 1232, os⟩
theorem look1 (w : World) (os : OsState) : (staticsOk (importedModules PySem.Challenge.pw_ny0304_04.main.body) (H0 w.params) (H1 w.params) && namesBound PySem.Challenge.pw_ny0304_04 (H1 w.params) && gensDone (SF w os) && laidKept (H0 w.params) (H1 w.params)) = true := by kernel_rfl
theorem look2 (w : World) (os : OsState) : openSeen vw lo (importedModules PySem.Challenge.pw_ny0304_04.main.body) Xt true (SF w os) = openGood vw lo := by kernel_rfl
theorem look3 (w : World) (os : OsState) : obs (SF w os) = vals w := by kernel_rfl
theorem left : LeftO PySem.Challenge.pw_ny0304_04 vw lo Xt obs vals 10700 :=
  LeftO.of_pieces opened sized run (by decide +kernel) fun w => funext fun os => looks_pair (look1 w os) (looks_pair (look2 w os) (look3 w os))
theorem said : PySem.Challenge.rw_ny0304_04.wellSaid = true := by kernel_rfl
noncomputable def lawD : DefRec := ⟨S "law", fA (st 29), fB (st 29), fS (st 29), ⟨789, 0, 807, 75⟩⟩
theorem head (call : WalkO vw lo (XL vw []) (fun w h => BaseOk w.params h) PySem.Challenge.rw_ny0304_04.row.toRowW lawD [] fun f vs => PySem.call f vs) : PySem.Challenge.rw_ny0304_04.Holds := by
  refine holds_law said fun k1 => ?_
  refine holds_open (q := vw) (loose := lo) (Xt := Xt) (XP := XL vw []) (Yf := obs) (Ya := vals) (YP := fun w h => BaseOk w.params h) (N := 10700) left base_of base_keeps (fun s e => xl_of s (Bool.and_eq_true_iff.mp e).1) XL.keeps ?d1 ?d2 ?d3 (fun s e => recFacts_of (Bool.and_eq_true_iff.mp e).2) ?d4 k1 ?d5 ?d6 ?hw call
  case d1 => kernel_rfl
  case d2 => kernel_rfl
  case d3 => kernel_rfl
  case d4 => rfl
  case d5 => decide +kernel
  case d6 => exact ⟨rfl, rfl, rfl, rfl, rfl, by decide +kernel⟩
  case hw => w_witness2
noncomputable def MainLaw : Prop := ∀ (w : World) (s : Shared) (a : Addr) (vs : List Value) (ns : List Int), BaseOk w.params s.heap → s.gens = #[] → s.heap.IsList a vs.toArray → IntsAre vs ns → ns.length ≤ 63 →
      ∀ f, (∃ mg, s.heap.Ns mainGlobals mg ∧ mg (S "law") = some (.ref f)) →
      wpAny (model PySem.Challenge.pw_ny0304_04 w) callerA (call (.ref f) [.ref a]) (fun v s' => v = .bool true ∧ Keeps s s') (fun _ _ => False) s
theorem walk_of (main : MainLaw) : WalkO vw lo (XL vw []) (fun w h => BaseOk w.params h) PySem.Challenge.rw_ny0304_04.row.toRowW lawD [] fun f vs => PySem.call f vs := by
  intro w s₀ s₁ mg mb G Y fa o pm cd doc dV kV ho hd hcd hD hmg hg args vals as hpre hlay hrd hwl hlo
  have hT := G.T.g
  wrow_args hpre hlay hrd hwl hlo
  refine wpAny_mono (main w s₁ _ _ _ Y hg (by assumption) (by assumption) (by omega) fa ⟨mg, hT, hmg⟩) (fun v s' h => ?_) (fun _ _ f => f.elim)
  obtain ⟨rfl, h', tk, rfl, hk⟩ := h
  exact GoodW.toG ⟨.inl ⟨_, .bool true, [], rfl, fun _ => rfl, by exact ReadsW.bool _, by kernel_rfl, fun _ => ⟨.nil, fun _ h => nomatch h⟩⟩, hk, rfl, hg⟩
theorem law_holds (main : MainLaw) : PySem.Challenge.rw_ny0304_04.Holds := head (walk_of main)
end
end Mine
namespace Mine
open PySem PySem.W PyProof.Rows PySem.SeqAt
def idT (s : String) : Lean.Name := (s.splitOn ".").foldl Lean.Name.str .anonymous
def atT : Lean.Syntax := .atom .none ""
def ndT (k : Lean.Name) (l : List Lean.Syntax) : Lean.Syntax := .node .none k l.toArray
/-- one word in reverse Polish: a an atom, `"` a text, `.` a name, `#` a number, `!` a rule, `$` the argument, `Q/k` a row of k tactics, else KIND/k -/
def rpT (a : Lean.Syntax) (st : List Lean.Syntax) (w : String) : List Lean.Syntax :=
  let r := (w.drop 1).toString
  let c := w.front
  if c = 'a' then atT :: st else if c = '+' then .atom .none "+" :: st else if c = '"' then Lean.Syntax.mkStrLit r :: st else if c = '.' then (Lean.mkIdent (idT r)).raw :: st
  else if c = '$' then a :: st else if c = '!' then ndT `PyProof.Rows.tacticTm_at_ [atT, Lean.Syntax.mkStrLit r] :: st
  else if c = '#' then Lean.Syntax.mkNumLit r :: st else if c = '_' then ndT `Lean.Parser.Term.hole [atT] :: st
  else if c = '?' then ndT `Lean.Parser.Term.syntheticHole [atT, atT] :: st
  else
    let w := r.splitOn "/"
    let m := (w.getLastD "").toNat!
    let l := (st.take m).reverse
    let k := idT (w.headD "")
    (if c = 'Q' then ndT `Lean.Parser.Tactic.tacticSeq [ndT `Lean.Parser.Tactic.tacticSeq1Indented [ndT `null (l.intersperse atT)]]
    else ndT (if c = 'T' then `Lean.Parser.Tactic ++ k else if c = 't' then `Lean.Parser.Term ++ k else k) l) :: st.drop m
def tplT (c : Char) : String :=
  if c = 'g' then "a a .ev_global $ a a Tassumption/1 Q/1 tbyTactic/2 nnull/1 tapp/2 ? ? nnull/3 tapp/2 Trefine/2 Q/1 TwithReducible/2 !kind a TtacticRfl/1" else if c = 'r' then "a a $ Texact/2 Q/1 TwithReducible/2" else if c = 'p' then "a a $ Tapply/2 Q/1 TwithReducible/2" else if c = 'e' then "a $ Texact/2" else if c = 'd' then "a $ Tapply/2" else if c = 'N' then "a $ a .rfl a tnamedArgument/5" else if c = '=' then "a a Tassumption/1 Q/1 tbyTactic/2" else if c = 'R' then "a TtacticRfl/1" else if c = 'K' then "a ntacticKernel_rfl/1" else ""
def tokT (st : List Lean.Syntax) (w : String) : List Lean.Syntax :=
  let t := tplT w.front
  if t = "" then rpT .missing st w else (t.splitOn " ").foldl (rpT (Lean.mkIdent (idT (w.drop 1).toString))) [] ++ st
/-- the first of these rows of tactics that closes the goal -/
def altS (s : String) : Lean.MacroM Lean.Syntax :=
  pure (ndT `Lean.Parser.Tactic.first [atT, ndT `null ((s.splitOn " | ").map fun a =>
    let st := (a.splitOn " ").foldl tokT []
    ndT `group [atT, (rpT .missing st ("Q/" ++ toString st.length)).headD .missing])])
theorem ns_of {h : Heap} {a : Addr} {o : Obj} {es : Array DictEntry} {ep : Nat} (e : h.get? a = some o) (hd : o.data = .dict es ep) (hk : (es.toList.all fun x => match x.key with | .str _ _ => true | _ => false) = true) : h.Ns a (nsFind es) := by
  refine ⟨o, es, ep, e, hd, fun x hx => ?_, fun _ => rfl⟩
  have := List.all_eq_true.mp hk x (Array.mem_toList_iff.mpr hx)
  revert this
  cases x.key <;> simp
noncomputable def objAt (P : Params) (i : Nat) : Obj := ((T9 P).get i).getD default
noncomputable def esOf : Obj → Array DictEntry | ⟨_, _, .dict es _, _⟩ => es | _ => #[]
noncomputable def epOf : Obj → Nat | ⟨_, _, .dict _ n, _⟩ => n | _ => 0
noncomputable def fdOf : Obj → FuncData | ⟨_, _, .func f, _⟩ => f | _ => default
noncomputable def fdAt (P : Params) (i : Nat) : FuncData := fdOf (objAt P i)
noncomputable def keysOk (o : Obj) : Bool := (esOf o).toList.all fun x => match x.key with | .str _ _ => true | _ => false
theorem at_ {P : Params} {h : Heap} (B : BaseOk P h) (i : Nat) (hi : Nat.blt i 789 = true) (e : (T9 P).get i = some (objAt P i)) : h.get? i = some (objAt P i) := B i _ hi e
theorem ns_at {P : Params} {h : Heap} (B : BaseOk P h) (i : Nat) (hi : Nat.blt i 789 = true) (e : (T9 P).get i = some (objAt P i)) (hd : (objAt P i).data = .dict (esOf (objAt P i)) (epOf (objAt P i))) (hk : keysOk (objAt P i) = true) : h.Ns i (nsFind (esOf (objAt P i))) :=
  ns_of (at_ B i hi e) hd hk
theorem ns_main {P : Params} {h : Heap} (B : BaseOk P h) : h.Ns mainGlobals (nsFind (esOf (objAt P 3))) := ns_at B 3 rfl (by kernel_rfl) (by kernel_rfl) (by kernel_rfl)
theorem ns_blt {P : Params} {h : Heap} (B : BaseOk P h) : h.Ns builtinsNs (nsFind (esOf (objAt P 0))) := ns_at B 0 rfl (by kernel_rfl) (by kernel_rfl) (by kernel_rfl)
theorem ns_sta {P : Params} {h : Heap} (B : BaseOk P h) : h.Ns cStatics (nsFind (esOf (objAt P 2))) := ns_at B 2 rfl (by kernel_rfl) (by kernel_rfl) (by kernel_rfl)
noncomputable def G (w : World) : Gx where
  prog := PySem.Challenge.pw_ny0304_04
  w := w
  n₀ := 789
  ok := BaseOk w.params
  mono := fun h h' k B i o hi e => k i o (Nat.le_of_ble_eq_true hi) (B i o hi e)
  low := fun h B => Heap.lt_size (at_ B 788 rfl (by kernel_rfl))
  nolim := fun h B => ⟨_, ns_sta B, by kernel_rfl⟩
theorem gv_glob {C : Cx} {w : World} (hC : C.G = G w) {x : Str} {v : Value} (h : nsFind (esOf (objAt w.params 3)) x = some v) : GV C x v := fun hp hok => by
  have hok : (C.G).ok hp := hok
  rw [hC] at hok
  exact .inl ⟨_, ns_main hok, h⟩
theorem gv_blt {C : Cx} {w : World} (hC : C.G = G w) {x : Str} {v : Value} (h0 : nsFind (esOf (objAt w.params 3)) x = none) (h : nsFind (esOf (objAt w.params 0)) x = some v) : GV C x v := fun hp hok => by
  have hok : (C.G).ok hp := hok
  rw [hC] at hok
  exact .inr ⟨_, _, ns_main hok, h0, ns_blt hok, h⟩
theorem code_at {P : Params} {h : Heap} (B : BaseOk P h) {c : Addr} {q : Str} {t : Tok} {vs : Array Value} (hi : Nat.blt c 789 = true) (e : (T9 P).get c = some (objAt P c)) (hd : (objAt P c).data = .fields vs) (hv : vs[1]? = some (.str q t)) : h.CodeRec (.ref c) q :=
  ⟨c, _, vs, t, rfl, at_ B c hi e, hd, hv⟩
noncomputable def vsOf : Obj → Array Value | ⟨_, _, .fields vs, _⟩ => vs | _ => #[]
noncomputable def tokOf : Option Value → Tok | some (.str _ t) => t | _ => 0
theorem def_ofL (w : World) (fa c : Addr) (names : List Str) (s : Stmt) (hi : Nat.blt fa 789 = true) (e : (T9 w.params).get fa = some (objAt w.params fa)) (hd : (objAt w.params fa).data = .func (fdAt w.params fa))
    (hci : Nat.blt c 789 = true) (hce : (T9 w.params).get c = some (objAt w.params c)) (hcd : (objAt w.params c).data = .fields (vsOf (objAt w.params c))) (hcv : (vsOf (objAt w.params c))[1]? = some (.str (fdAt w.params fa).qualname (tokOf (vsOf (objAt w.params c))[1]?)))
    (hc : (fdAt w.params fa).code = .ref c) (hb : (fdAt w.params fa).body = .stmts (fB s)) (hcl : (fdAt w.params fa).closure = []) (co : (fdAt w.params fa).scope.isCoroutine = false) (gen : (fdAt w.params fa).scope.isGenerator = false)
    (kind : (fdAt w.params fa).scope.kind = .function) (g1 : (fdAt w.params fa).globals = mainGlobals) (g2 : (fdAt w.params fa).builtins = builtinsNs) (nd : names.Nodup)
    (binds : ∀ (M : Model) (h : Heap), (G w).ok h → ∀ vals : List Value, vals.length = names.length → Looks M h (bindArgs (fdAt w.params fa) ⟨vals, []⟩) (names.zip vals))
    (kinds : ∀ x ∈ names, (fdAt w.params fa).scope.names.lookup x = some .local ∨ (fdAt w.params fa).scope.names.lookup x = some .cell) : IsDef (G w) fa (fdAt w.params fa) (fB s) names where
  at_ := fun h B => ⟨_, at_ B fa hi e, hd⟩
  code := fun h B => by rw [hc]; exact code_at B hci hce hcd hcv
  body := hb
  clo := hcl
  co := co
  gen := gen
  kind := kind
  glob := ⟨g1, g2⟩
  nodup := nd
  binds := binds
  kinds := kinds
theorem def_of (w : World) (fa c : Addr) (names : List Str) (s : Stmt) (hi : Nat.blt fa 789 = true) (e : (T9 w.params).get fa = some (objAt w.params fa)) (hd : (objAt w.params fa).data = .func (fdAt w.params fa))
    (hci : Nat.blt c 789 = true) (hce : (T9 w.params).get c = some (objAt w.params c)) (hcd : (objAt w.params c).data = .fields (vsOf (objAt w.params c))) (hcv : (vsOf (objAt w.params c))[1]? = some (.str (fdAt w.params fa).qualname (tokOf (vsOf (objAt w.params c))[1]?)))
    (hc : (fdAt w.params fa).code = .ref c) (hb : (fdAt w.params fa).body = .stmts (fB s)) (hcl : (fdAt w.params fa).closure = []) (co : (fdAt w.params fa).scope.isCoroutine = false) (gen : (fdAt w.params fa).scope.isGenerator = false)
    (kind : (fdAt w.params fa).scope.kind = .function) (g1 : (fdAt w.params fa).globals = mainGlobals) (g2 : (fdAt w.params fa).builtins = builtinsNs) (nd : names.Nodup)
    (binds : ∀ vals : List Value, vals.length = names.length → bindArgs (fdAt w.params fa) ⟨vals, []⟩ = pure (names.zip vals))
    (kinds : ∀ x ∈ names, (fdAt w.params fa).scope.names.lookup x = some .local ∨ (fdAt w.params fa).scope.names.lookup x = some .cell) : IsDef (G w) fa (fdAt w.params fa) (fB s) names where
  at_ := fun h B => ⟨_, at_ B fa hi e, hd⟩
  code := fun h B => by rw [hc]; exact code_at B hci hce hcd hcv
  body := hb
  clo := hcl
  co := co
  gen := gen
  kind := kind
  glob := ⟨g1, g2⟩
  nodup := nd
  binds := fun _ _ _ vals hv => .of_pure (binds vals hv)
  kinds := kinds
theorem def_parse (w : World) : IsDef (G w) 766 (fdAt w.params 766) (fB (st 24)) [S "resp"] := by
  refine def_of w 766 765 [S "resp"] (st 24) rfl ?_ ?_ rfl ?_ ?_ ?_ ?_ ?_ ?_ ?_ ?_ ?_ ?_ ?_ (by decide) ?bb ?kk
  case bb =>
    intro vs hv
    obtain ⟨a, rfl⟩ := len1 hv
    kernel_rfl
  case kk => intro x hx; simp only [List.mem_singleton] at hx; subst hx; exact .inl (by kernel_rfl)
  all_goals kernel_rfl
theorem gv_len {C : Cx} {w : World} (hC : C.G = G w) : GV C (S "len") (.builtin "len") := gv_blt hC (by kernel_rfl) (by kernel_rfl)
local macro_rules | `(tactic| tm_at "hm") => altS "a a a _ .h nnull/2 Tintro/2 a nnull/0 .h TelimTarget/2 nnull/1 nnull/0 nnull/0 Tcases/4 a R Ttactic_<;>_/3 Q/2 a Tparen/3 Q/1 Tfocus/2"
local macro_rules | `(tactic| tm_at "tr") => altS "a a a etr_bool Q/1 ngroup/2 a etr_none Q/1 ngroup/2 a etr_int Q/1 ngroup/2 a etr_deq Q/1 ngroup/2 nnull/4 Tfirst/2 Q/1 TwithReducible/2"
local macro_rules | `(tactic| tm_at "evs") => altS "rEvs.nil | dEvs.cons !ev a _ _ .h nnull/3 Tintro/2 a nnull/0 .h TelimTarget/2 nnull/1 nnull/0 nnull/0 Tcases/4 !evs"
local macro_rules | `(tactic| tm_at "tfn") => altS "a a a efn_type_int Q/1 ngroup/2 a efn_type_str Q/1 ngroup/2 a efn_int_int Q/1 ngroup/2 nnull/3 Tfirst/2 Q/1 TwithReducible/2"
local macro_rules | `(tactic| tm_at "side") => altS "a Tassumption/1 | R | a nnull/0 ToptConfig/1 Tlia/2 | a nnull/0 ToptConfig/1 nnull/0 a nnull/1 a nnull/0 nnull/0 .List.length_append TsimpLemma/3 a nnull/0 nnull/0 .List.length_cons TsimpLemma/3 a nnull/0 nnull/0 .List.length_nil TsimpLemma/3 a nnull/0 nnull/0 .List.length_take TsimpLemma/3 a nnull/0 nnull/0 .List.length_drop TsimpLemma/3 a nnull/0 nnull/0 .List.length_replicate TsimpLemma/3 nnull/11 a nnull/3 a a TlocationWildcard/1 Tlocation/2 nnull/1 Tsimp/6 a nnull/0 ToptConfig/1 Tlia/2 | a nnull/0 ToptConfig/1 nnull/0 nnull/0 nnull/0 nnull/0 Tsimp/6 a a nnull/0 ToptConfig/1 Tlia/2 Ttactic_<;>_/3"
local macro_rules | `(tactic| tm_at "sg") => altS "rsget_here | dsget_there K !sg"
local macro_rules | `(tactic| tm_at "sp") => altS "rsput_here | rsput_nil | dsput_there K !sp"
local macro_rules | `(tactic| tm_at "fg") => altS "rfget_here | dfget_there K !fg"
local macro_rules | `(tactic| tm_at "fn0") => altS "rfget_not | dfget_next K !fn0"
local macro_rules | `(tactic| tm_at "fp") => altS "rfput_here | rfput_nil | dfput_there K !fp"
local macro_rules | `(tactic| tm_at "lk") => altS "rlk_here | dlk_there K !lk"
local macro_rules | `(tactic| tm_at "kind") => altS "a .kind_lk = nnull/1 tapp/2 Tapply/2 !lk"
local macro_rules | `(tactic| tm_at "str") => altS "a a a ec_nil Q/1 ngroup/2 a ec_q Q/1 ngroup/2 a ec_b Q/1 ngroup/2 a ec_n257 Q/1 ngroup/2 a ec_bq Q/1 ngroup/2 a ec_lf Q/1 ngroup/2 a ec_a Q/1 ngroup/2 a ec_c Q/1 ngroup/2 a ec_cr Q/1 ngroup/2 a ec_crlf Q/1 ngroup/2 a ec_hash Q/1 ngroup/2 nnull/11 Tfirst/2 Q/1 TwithReducible/2"
local macro_rules | `(tactic| tm_at "stores") => altS "a .Or.inl ? nnull/1 tapp/2 Trefine/2 !kind"
local macro_rules | `(tactic| tm_at "name") => altS "pev_name_local !sg !kind R"
local macro_rules | `(tactic| tm_at "glob") => altS "ggv_len"
local macro_rules | `(tactic| tm_at "bin") => altS "radd_int_ | rsub_int_ | a a .cat_tx ? nnull/1 tapp/2 Trefine/2 Q/1 TwithReducible/2 !side"
local macro_rules | `(tactic| tm_at "inp") => altS "rinp_add_int | rinp_sub_int | a a .icat_tx ? nnull/1 tapp/2 Trefine/2 Q/1 TwithReducible/2 !side"
local macro_rules | `(tactic| tm_at "cmp") => altS "req_int_ | rne_int_ | rlt_int_ | rgt_int_ | rge_int_ | req_tx | rne_tx | rin_tx | rnotin_tx | ris_int_none | ris_str_none | ris_none_none | risnot_none_none | risnot_str_none | risnot_ref_none | risnot_type_self | req_str_none_ | req_none_none_ | eeq_tx | ene_tx | ein_tx | enotin_tx | eeq_int_ | elt_int_ | egt_int_ | ege_int_"
local macro_rules | `(tactic| tm_at "item") => altS "a a .item_tx ? ? ? nnull/3 tapp/2 Trefine/2 Q/1 TwithReducible/2 a !side Ttactic_<;>_/3"
local macro_rules | `(tactic| tm_at "slice") => altS "a a .slice_tx ? ? nnull/2 tapp/2 Trefine/2 Q/1 TwithReducible/2 a !side Ttactic_<;>_/3 | a a .slice_tx_to ? ? nnull/2 tapp/2 Trefine/2 Q/1 TwithReducible/2 a !side Ttactic_<;>_/3 | a a .slice_tx_from ? ? nnull/2 tapp/2 Trefine/2 Q/1 TwithReducible/2 a !side Ttactic_<;>_/3"
local macro_rules | `(tactic| tm_at "fn") => altS "a a .len_tx ? nnull/1 tapp/2 Trefine/2 Q/1 TwithReducible/2 !side"
local macro_rules | `(tactic| tm_at "part") => altS "rEvP.none | dEvP.some !evt"
local macro_rules | `(tactic| tm_at "args") => altS "rEvTs.nil | dEvTs.cons !evt a _ _ .h nnull/3 Tintro/2 a nnull/0 .h TelimTarget/2 nnull/1 nnull/0 nnull/0 Tcases/4 !args"
local macro_rules | `(tactic| tm_at "evt") => altS "dEv.t !ev"
local macro_rules | `(tactic| tm_at "ev") => altS "!name | rev_int | !str | rev_none | rev_bool | !attr | pev_binop !evt !evt !bin | a a .ev_cmp Nhm nnull/1 tapp/2 Tapply/2 Q/1 TwithReducible/2 !evt !evt !cmp | pev_slice !evt !part !part !slice | pev_sub !evt !evt !item | pev_neg !ev | pev_call_b !glob !args !fn | pev_call_t !typ !args !tfn | pev_tuple !evs a .Nat.le_of_ble_eq_true .rfl nnull/1 tapp/2 Texact/2 | !typ"
local macro_rules | `(tactic| tm_at "evb") => altS "a a .evB_cmp Nhm nnull/1 tapp/2 Tapply/2 Q/1 TwithReducible/2 !evt !evt !cmp | pevB_not !evb | pevB_or !evb a _ nnull/1 Tintro/2 !evb | pevB_and !evb a _ nnull/1 Tintro/2 !evb | revB_or_nil | revB_and_nil | a .evB_plain a .he a a _ nnull/1 nnull/0 a .rfl tbasicFun/4 tfun/2 a tnamedArgument/5 nnull/1 tapp/2 Tapply/2 !evt a a !tr Q/1 ngroup/2 a a a a .tr_tx ? nnull/1 tapp/2 Trefine/2 Q/1 TwithReducible/2 !side Q/2 a Tparen/3 Q/1 ngroup/2 nnull/2 Tfirst/2"
local macro_rules | `(tactic| tm_at "set") => altS "a .ss_assign Nhs nnull/1 tapp/2 Tapply/2 !ev !stores !sp"
noncomputable def p257 : List Nat → List Nat
  | [] => []
  | c :: r => if c = 34 then (match r with | [] => [] | d :: r' => if d = 34 then 34 :: p257 r' else []) else c :: p257 r
variable {C : Cx} {w : World}
inductive pJ (w t : List Nat) (n : Nat) (σ : St) : Prop
  | mk (k : Nat) (acc : List Nat) (tail : St) (hk : k ≤ w.length) (hn : n = w.length - k) (hp : acc ++ p257 (w.drop k) = t) (ha : acc.length ≤ k)
    (es : σ = (S "resp", .fz (tx w)) :: (S "dirname", .fz (tx acc)) :: (S "i", .fz (.int k)) :: (S "n", .fz (.int w.length)) :: tail) (htl : tail = [] ∨ ∃ m, tail = [(S "c", .fz m)])
theorem p257_other {c : Nat} (r : List Nat) (h : c ≠ 34) : p257 (c :: r) = c :: p257 r := by rw [p257.eq_def]; simp [h]
theorem p257_two (r : List Nat) : p257 (34 :: 34 :: r) = 34 :: p257 r := by rw [p257.eq_def]; simp
theorem p257_one {d : Nat} (r : List Nat) (h : d ≠ 34) : p257 (34 :: d :: r) = [] := by rw [p257.eq_def]; simp [h]
theorem p257_end : p257 [34] = [] := by rw [p257.eq_def]; simp
theorem p257_nil : p257 [] = [] := by rw [p257.eq_def]
theorem drop_at {w : List Nat} {k : Nat} (h : k < w.length) : ∃ c, w[k]? = some c ∧ w.drop k = c :: w.drop (k + 1) :=
  ⟨w[k], List.getElem?_eq_getElem h, List.drop_eq_getElem_cons h⟩
theorem parse_body (hC : C.G = G w) {env : Env} (hs : env.scope = fS (st 24)) (t : List Nat) (ht : t.length ≤ 1000000) :
    wpSs C env (fB (st 24)) [(S "resp", .fz (tx ([50, 53, 55, 32, 34] ++ t)))] fun fm _ => match fm with | .ret m => m = tx (p257 t) | .next => tx (p257 t) = .none | _ => False := by
  have hn : env.scope.names = (fS (st 24)).names := by rw [hs]
  conv at hn => rhs; whnf
  refine wpSs_cons (wpS_if (b := false) ?_ (fun h => nomatch h) fun _ => wpSs_nil ?_)
  · tm_at "evb"
  refine wpSs_cons (wpS_if (b := false) ?_ (fun h => nomatch h) fun _ => wpSs_nil ?_)
  · tm_at "evb"
  tm_at "set"
  tm_at "set"
  tm_at "set"
  obtain ⟨wd, hw⟩ : ∃ wd, wd = [50, 53, 55, 32, 34] ++ t := ⟨_, rfl⟩
  have hwl : wd.length = 5 + t.length := by rw [hw]; simp; lia
  have hret : ∀ τ, sget τ (S "dirname") = some (.fz (tx (p257 t))) → wpSs C env ((fB (st 24)).drop 6) τ fun fm _ => match fm with | .ret m => m = tx (p257 t) | .next => tx (p257 t) = .none | _ => False := fun τ hτ =>
    wpSs_cons (wpS_return (ev_name_local hτ (by tm_at "kind") rfl) rfl)
  refine wpSs_cons (wpS_while (pJ wd (p257 t)) ?_ (wd.length - 5) ?_)
  · rintro n σ ⟨k, acc, tail, hk, hn, hp, ha, rfl, htl⟩
    refine ⟨decide ((k : Int) < wd.length), ?_, fun hb => ?_, fun hb => wpSs_nil ?_⟩
    · tm_at "evb"
    · refine wpSs_gen fun Q₀ hQ => ?_
      have hk' : k < wd.length := by simpa using hb
      obtain ⟨c, hc, hd⟩ := drop_at hk'
      have hki : (k : Int).toNat = k := by lia
      refine wpSs_cons (wpS_assign (ev_sub (a := tx wd) (i := .int k) (by tm_at "evt") (by tm_at "evt") (item_tx (by lia) (by lia) (by rw [hki]; exact hc))) ?_ rfl ?_); tm_at "stores"
      have hσ : sput ((S "resp", .fz (tx wd)) :: (S "dirname", .fz (tx acc)) :: (S "i", .fz (.int k)) :: (S "n", .fz (.int wd.length)) :: tail) (S "c") (.fz (tx [c])) = [(S "resp", .fz (tx wd)), (S "dirname", .fz (tx acc)), (S "i", .fz (.int k)), (S "n", .fz (.int wd.length)), (S "c", .fz (tx [c]))] := by
        rcases htl with rfl | ⟨m, rfl⟩ <;> rfl
      show wpSs _ _ _ (sput _ (S "c") _) _
      rw [hσ]
      tm_at "set"
      have hk1 : ((k : Int) + 1) = ((k + 1 : Nat) : Int) := by lia
      have hj : ∀ (k' : Nat) (acc' : List Nat), k < k' → k' ≤ wd.length → acc'.length ≤ k' → acc' ++ p257 (wd.drop k') = p257 t → ∃ m, m < n ∧ pJ wd (p257 t) m [(S "resp", .fz (tx wd)), (S "dirname", .fz (tx acc')), (S "i", .fz (.int k')), (S "n", .fz (.int wd.length)), (S "c", .fz (tx [c]))] :=
        fun k' acc' h1 h2 h3 h4 => ⟨wd.length - k', by lia, k', acc', [(S "c", .fz (tx [c]))], h2, rfl, h4, h3, rfl, .inr ⟨_, rfl⟩⟩
      rw [hd] at hp
      by_cases hq : c = 34
      · subst hq
        refine wpSs_cons (wpS_if (b := true) ?_ (fun _ => ?_) fun h => nomatch h)
        · tm_at "evb"
        by_cases hk2 : k + 1 < wd.length
        · obtain ⟨d, hd1, hd2⟩ := drop_at hk2
          rw [hd2] at hp
          by_cases hq2 : d = 34
          · subst hq2
            rw [p257_two] at hp
            refine wpSs_cons (wpS_if (b := false) ?_ (fun h => nomatch h) fun _ => wpSs_nil ?_)
            · refine evB_or (b := false) (c := false) ?_ fun _ => evB_or (b := false) (c := false) ?_ fun _ => evB_or_nil
              · apply evB_cmp (hm := rfl) (ho := ?_)
                tm_at "evt"; tm_at "evt"
                have := ge_int_ (C := C) (a := (k : Int) + 1) (b := wd.length)
                rwa [decide_eq_false (by lia)] at this
              · apply evB_cmp (hm := rfl)
                · exact Ev.t (ev_sub (a := tx wd) (i := .int ((k : Int) + 1)) (by tm_at "evt") (by tm_at "evt") (item_tx (by lia) (by lia) (by rw [hk1]; exact hd1)))
                · tm_at "evt"
                · exact ne_tx
            tm_at "set"
            refine wpSs_nil ?_
            tm_at "set"
            refine wpSs_nil ?_
            have := hj (k + 2) (acc ++ [34]) (by lia) (by lia) (by simp; lia) (by rw [List.append_assoc]; exact hp)
            rw [show ((k + 2 : Nat) : Int) = (k : Int) + 1 + 1 by lia] at this
            exact hQ _ _ this
          · rw [p257_one _ hq2, List.append_nil] at hp
            refine wpSs_cons (wpS_if (b := true) ?_ (fun _ => ?_) fun h => nomatch h)
            · refine evB_or (b := false) (c := true) ?_ fun _ => evB_or (b := true) (c := false) ?_ fun h => nomatch h
              · apply evB_cmp (hm := rfl) (ho := ?_)
                tm_at "evt"; tm_at "evt"
                have := ge_int_ (C := C) (a := (k : Int) + 1) (b := wd.length)
                rwa [decide_eq_false (by lia)] at this
              · apply evB_cmp (hm := rfl) (ho := ?_)
                · exact Ev.t (ev_sub (a := tx wd) (i := .int ((k : Int) + 1)) (by tm_at "evt") (by tm_at "evt") (item_tx (by lia) (by lia) (by rw [hk1]; exact hd1)))
                · tm_at "evt"
                · have := ne_tx (C := C) (a := [d]) (b := [34])
                  rwa [show ([d] != [34]) = true by simp [hq2]] at this
            exact wpSs_cons (wpS_break (hQ _ _ (show wpSs _ _ _ _ _ from hret _ (by rw [← hp]; rfl))))
        · have : wd.drop (k + 1) = [] := List.drop_eq_nil_of_le (by lia)
          rw [this, p257_end, List.append_nil] at hp
          refine wpSs_cons (wpS_if (b := true) ?_ (fun _ => ?_) fun h => nomatch h)
          · refine evB_or (b := true) (c := false) ?_ fun h => nomatch h
            apply evB_cmp (hm := rfl) (ho := ?_)
            tm_at "evt"; tm_at "evt"
            have := ge_int_ (C := C) (a := (k : Int) + 1) (b := wd.length)
            rwa [decide_eq_true (by lia)] at this
          exact wpSs_cons (wpS_break (hQ _ _ (show wpSs _ _ _ _ _ from hret _ (by rw [← hp]; rfl))))
      · rw [p257_other _ hq] at hp
        refine wpSs_cons (wpS_if (b := false) ?_ (fun h => nomatch h) fun _ => wpSs_nil ?_)
        · apply evB_cmp (hm := rfl) (ho := ?_)
          tm_at "evt"; tm_at "evt"
          have := eq_tx (C := C) (a := [c]) (b := [34])
          rwa [show ([c] == [34]) = false by simp [hq]] at this
        tm_at "set"
        refine wpSs_nil ?_
        have := hj (k + 1) (acc ++ [c]) (by lia) (by lia) (by simp; lia) (by rw [List.append_assoc]; exact hp)
        rw [show ((k + 1 : Nat) : Int) = (k : Int) + 1 by lia] at this
        exact hQ _ _ this
    · have hk' : wd.drop k = [] := List.drop_eq_nil_of_le (by simp at hb; lia)
      rw [hk', p257_nil, List.append_nil] at hp
      exact hret _ (by rw [← hp]; rfl)
  · exact ⟨5, [], [], by lia, rfl, by rw [hw]; simp, by simp, by rw [hw]; rfl, .inl rfl⟩
theorem spec_parse (w : World) (t : List Nat) (ht : t.length ≤ 1000000) {k : Nat} (hk : k + 1 ≤ 100) : Spec (G w) false k (.ref 766) [tx ([50, 53, 55, 32, 34] ++ t)] (tx (p257 t)) :=
  spec_of (def_parse w) hk rfl fun C hC _ _ L => parse_body hC (by kernel_rfl) t ht
noncomputable def kAdr : List Addr := [722, 721, 646, 653, 654, 683, 690, 712, 719, 587, 586, 110, 109, 83, 82, 84, 80, 357, 364, 371, 533, 2, 639, 350, 526, 727, 734, 53]
noncomputable def Kf (P : Params) : Frag := kAdr.map fun a => (a, objAt P a)
theorem k_in {P : Params} {h : Heap} (B : BaseOk P h) : (Kf P).In h := by
  have hall : (kAdr.all fun a => Nat.blt a 789 && ((T9 P).get a).isSome) = true := by kernel_rfl
  intro a o e
  have key : ∀ l : List Addr, (l.map fun a => (a, objAt P a)).lookup a = some o → a ∈ l ∧ o = objAt P a := by
    intro l
    induction l with
    | nil => intro e; cases e
    | cons b r ih =>
      intro e
      simp only [List.map_cons, List.lookup] at e
      split at e
      · rename_i q; cases e; rw [beq_iff_eq.mp q]; exact ⟨List.mem_cons_self, rfl⟩
      · exact ⟨List.mem_cons_of_mem _ (ih e).1, (ih e).2⟩
  obtain ⟨hm, rfl⟩ := key kAdr e
  have := List.all_eq_true.mp hall a hm
  obtain ⟨h1, h2⟩ := Bool.and_eq_true_iff.mp this
  refine B a _ h1 ?_
  unfold objAt
  cases q : (T9 P).get a with
  | none => rw [q] at h2; cases h2
  | some o => rfl
theorem kok {C : Cx} {w : World} (hC : C.G = G w) : KOk C (Kf w.params) := fun h hok => by
  have hok : C.G.ok h := hok
  rw [hC] at hok
  exact k_in hok
theorem cls_shlex (P : Params) : ClsOk (Kf P) 722 := ⟨by kernel_rfl, by kernel_rfl, by kernel_rfl, by kernel_rfl, by kernel_rfl⟩
theorem cls_sio (P : Params) : ClsOk (Kf P) 587 := ⟨by kernel_rfl, by kernel_rfl, by kernel_rfl, by kernel_rfl, by kernel_rfl⟩
theorem prop_shlex (P : Params) (od : Obj) : findObj (Kf P) 722 (some od) (S "punctuation_chars") = some (.bind (.builtin "property.__get__") (.ref 654)) := by kernel_rfl
theorem propr_shlex (P : Params) : recIn (Kf P) 654 "property" = some [.ref 653, .none, .none, .none, .str (S "punctuation_chars") 1034, .bool false] := by kernel_rfl
theorem mk_shlex (P : Params) : makesIn (Kf P) 722 = true := by kernel_rfl
theorem gv_type {C : Cx} {w : World} (hC : C.G = G w) : GV C (S "type") (.type "type") := gv_blt hC (by kernel_rfl) (by kernel_rfl)
theorem gv_int {C : Cx} {w : World} (hC : C.G = G w) : GV C (S "int") (.type "int") := gv_blt hC (by kernel_rfl) (by kernel_rfl)
theorem gv_index {C : Cx} {w : World} (hC : C.G = G w) : GV C (S "_index") (.ref 53) := gv_glob hC (by kernel_rfl)
local macro_rules | `(tactic| tm_at "typ") => altS "ggv_type | ggv_int"
local macro_rules | `(tactic| tm_at "attr") => altS "a a .Ev _ _ _ .Expr.Attribute _ _ _ nnull/3 tapp/2 _ nnull/5 tapp/2 Tshow/2 Q/1 TwithReducible/2 a a a a .ev_attr a .x a .S \"@lex nnull/1 tapp/2 a tnamedArgument/5 .kok = nnull/1 tapp/2 .cls_shlex _ nnull/1 tapp/2 nnull/3 tapp/2 Tapply/2 !ev !sg !fg K !hm R Q/7 a Tparen/3 Q/1 ngroup/2 a a a .ev_attr a .x a .S \"@in nnull/1 tapp/2 a tnamedArgument/5 .kok = nnull/1 tapp/2 .cls_sio _ nnull/1 tapp/2 nnull/3 tapp/2 Tapply/2 !ev !sg !fg K !hm R Q/7 a Tparen/3 Q/1 ngroup/2 nnull/2 Tfirst/2"
local macro_rules | `(tactic| tm_at "self") => altS "a .ss_setattr a .x a .S \"@lex nnull/1 tapp/2 a tnamedArgument/5 Nhs = .kok = nnull/1 tapp/2 .cls_shlex _ nnull/1 tapp/2 nnull/5 tapp/2 Tapply/2 !ev !ev !sg K R R !fp !sp | a .ss_setattr a .x a .S \"@in nnull/1 tapp/2 a tnamedArgument/5 Nhs = .kok = nnull/1 tapp/2 .cls_sio _ nnull/1 tapp/2 nnull/5 tapp/2 Tapply/2 !ev !ev !sg K R R !fp !sp"
local macro_rules | `(tactic| tm_at "aug") => altS "a .ss_augattr a .x a .S \"@lex nnull/1 tapp/2 a tnamedArgument/5 = .kok = nnull/1 tapp/2 .cls_shlex _ nnull/1 tapp/2 nnull/4 tapp/2 Tapply/2 !ev !ev !sg !fg K R R !hm R !inp !fp !sp | a .ss_augattr a .x a .S \"@in nnull/1 tapp/2 a tnamedArgument/5 = .kok = nnull/1 tapp/2 .cls_sio _ nnull/1 tapp/2 nnull/4 tapp/2 Tapply/2 !ev !ev !sg !fg K R R !hm R !inp !fp !sp"
theorem def_index (w : World) : IsDef (G w) 53 (fdAt w.params 53) (fB (st 4)) [S "n", S "what"] := by
  refine def_of w 53 52 [S "n", S "what"] (st 4) rfl ?_ ?_ rfl ?_ ?_ ?_ ?_ ?_ ?_ ?_ ?_ ?_ ?_ ?_ (by decide +kernel) ?bb ?kk
  case bb =>
    intro vs hv
    obtain ⟨a, b, rfl⟩ := len2 hv
    kernel_rfl
  case kk =>
    intro x hx
    simp only [List.mem_cons, List.not_mem_nil, or_false] at hx
    rcases hx with rfl | rfl <;> exact .inl (by kernel_rfl)
  all_goals kernel_rfl
theorem index_body (hC : C.G = G w) {env : Env} (hs : env.scope = fS (st 4)) (n : Int) (hn1 : -1099511627776 ≤ n) (hn2 : n ≤ 1099511627776) (m : MV) :
    wpSs C env (fB (st 4)) [(S "n", .fz (.int n)), (S "what", .fz m)] fun fm _ => match fm with | .ret r => r = .int n | .next => MV.int n = .none | _ => False := by
  have hnm : env.scope.names = (fS (st 4)).names := by rw [hs]
  conv at hnm => rhs; whnf
  apply ss_if_no
  · refine evB_and (b := false) (c := false) ?_ fun h => nomatch h
    apply evB_cmp (hm := rfl)
    · tm_at "evt"
    · apply Ev.t; tm_at "typ"
    · tm_at "cmp"
  tm_at "set"
  apply ss_if_no
  · refine evB_or (b := false) (c := false) ?_ fun _ => evB_or (b := false) (c := false) ?_ fun _ => evB_or_nil
    · apply evB_cmp (hm := rfl)
      · tm_at "evt"
      · tm_at "evt"
      · have := gt_int_ (C := C) (a := n) (b := 1099511627776)
        rwa [decide_eq_false (by omega)] at this
    · apply evB_cmp (hm := rfl)
      · tm_at "evt"
      · tm_at "evt"
      · have := lt_int_ (C := C) (a := n) (b := -1099511627776)
        rwa [decide_eq_false (by omega)] at this
  refine ss_ret (m := .int n) ?_ rfl
  tm_at "ev"
theorem spec_index (w : World) (n : Int) (hn1 : -1099511627776 ≤ n) (hn2 : n ≤ 1099511627776) (m : MV) {k : Nat} (hk : k + 1 ≤ 100) : Spec (G w) false k (.ref 53) [.int n, m] (.int n) :=
  spec_of (def_index w) hk rfl fun C hC _ _ L => index_body hC (by kernel_rfl) n hn1 hn2 m
theorem def_check (w : World) : IsDef (G w) 371 (fdAt w.params 371) (fB (kid (st 10) 3)) [S "self"] := by
  refine def_of w 371 370 [S "self"] (kid (st 10) 3) rfl ?_ ?_ rfl ?_ ?_ ?_ ?_ ?_ ?_ ?_ ?_ ?_ ?_ ?_ (by decide +kernel) ?bb ?kk
  case bb =>
    intro vs hv
    obtain ⟨a0, rfl⟩ := len1 hv
    kernel_rfl
  case kk =>
    intro x hx
    simp only [List.mem_cons, List.not_mem_nil, or_false] at hx
    rcases hx with rfl <;> exact .inl (by kernel_rfl)
  all_goals kernel_rfl
theorem def_read (w : World) : IsDef (G w) 533 (fdAt w.params 533) (fB (kid (st 10) 25)) [S "self", S "size"] := by
  refine def_ofL w 533 532 [S "self", S "size"] (kid (st 10) 25) rfl ?_ ?_ rfl ?_ ?_ ?_ ?_ ?_ ?_ ?_ ?_ ?_ ?_ ?_ (by decide +kernel) ?bb ?kk
  case bb =>
    intro M h B vs hv
    obtain ⟨a0, a1, rfl⟩ := len2 hv
    exact Looks.of_peek (k_in B) (by kernel_rfl)
  case kk =>
    intro x hx
    simp only [List.mem_cons, List.not_mem_nil, or_false] at hx
    rcases hx with rfl | rfl <;> exact .inl (by kernel_rfl)
  all_goals kernel_rfl
noncomputable abbrev inB (b e : Addr) (buf : List Nat) (pos : Int) : Bd := .inst b 587 e [(S "_StringIO__newline", tx [10]), (S "_StringIO__buf", tx buf), (S "_StringIO__pos", .int pos)]
theorem check_body (hC : C.G = G w) {env : Env} (hs : env.scope = fS (kid (st 10) 3)) (b e : Addr) (buf : List Nat) (pos : Int) :
    wpSs C env (fB (kid (st 10) 3)) [(S "self", .fz (.obj (.ref b))), (S "@in", inB b e buf pos)] fun fm _ => match fm with | .ret r => r = MV.none | .next => MV.none = .none | _ => False := by
  have hnm : env.scope.names = (fS (kid (st 10) 3)).names := by rw [hs]
  conv at hnm => rhs; whnf
  apply ss_if_no
  · tm_at "evb"
  exact wpSs_nil rfl
theorem spec_check (w : World) (b e : Addr) (buf : List Nat) (pos : Int) {k : Nat} (hk : k + 1 ≤ 100) : SpecR (G w) false k (.ref 371) [.obj (.ref b)] [(S "@in", inB b e buf pos)] .none :=
  specR_of (def_check w) hk rfl rfl (by intro p hp; rw [List.mem_singleton.mp hp]; kernel_rfl) fun C hC _ _ L _ => check_body hC (by kernel_rfl) b e buf pos
theorem fn_at (hC : C.G = G w) {f : Addr} (hi : Nat.blt f 789 = true) (e : (T9 w.params).get f = some (objAt w.params f)) (hd : (objAt w.params f).data = .func (fdAt w.params f)) : ∀ h, C.ok h → ∃ o fd, h.get? f = some o ∧ o.data = .func fd := fun h hok => by
  have hok : C.G.ok h := hok
  rw [hC] at hok
  exact ⟨_, _, at_ hok f hi e, hd⟩
theorem read_body (hC : C.G = G w) (hro : C.ro = false) (hl : C.lvl ≤ 90) {env : Env} (hs : env.scope = fS (kid (st 10) 25)) (hi : interactive env = false) (b e : Addr) (hnd : [b, e].Nodup) (buf : List Nat) (pos : Nat) (hb : buf.length ≤ 10000000) (r : List Nat) (pos' : Nat) (hr : (pos < buf.length → r = (buf.drop pos).take 1 ∧ pos' = pos + 1) ∧ (buf.length ≤ pos → r = [] ∧ pos' = pos)) :
    wpSs C env (fB (kid (st 10) 25)) [(S "self", .fz (.obj (.ref b))), (S "size", .fz (.int 1)), (S "@in", inB b e buf pos)] fun fm σ' => (match fm with | .ret m => m = tx r | .next => tx r = .none | _ => False) ∧ ∀ p ∈ [(S "@in", inB b e buf pos')], sget σ' p.1 = some p.2 := by
  have hnm : env.scope.names = (fS (kid (st 10) 25)).names := by rw [hs]
  conv at hnm => rhs; whnf
  have hb' : buf.length ≤ 16777216 := by omega
  apply ss_if_no
  · tm_at "evb"
  apply ss_assign (hs := rfl)
  · apply ev_call_f (k := 95) (full := false) (hs := by rw [hC]; exact spec_index w 1 (by omega) (by omega) (.str (S "StringIO.read of a size that is no exact int")) (by omega)) (hk := by omega) (hfull := fun h => nomatch h) (hfn := fn_at hC rfl (by kernel_rfl) (by kernel_rfl))
    · exact ev_global (gv_index hC) (by tm_at "kind") rfl
    · exact .cons (by tm_at "ev") (by intro _ _ h; cases h) (.cons ev_str (by intro _ _ h; cases h) .nil)
  · tm_at "stores"
  · tm_at "sp"
  apply ss_expr (hi := hi) (hs := rfl)
  · apply ev_imeth (x := S "@in") (k := 95) (full := false) (γ := [(S "@in", inB b e buf pos)]) (hK := kok hC) (hC := cls_sio _) (hs := by rw [hC]; exact spec_check w b e buf pos (by omega)) (hk := by omega) (hfull := fun h => nomatch h) (hfn := fn_at hC rfl (by kernel_rfl) (by kernel_rfl)) (hbase := rfl) (hline := rfl) (hfew := by decide) (ha := .nil)
    · tm_at "ev"
    · tm_at "sg"
    · tm_at "fn0"
    · kernel_rfl
    · kernel_rfl
    · intro p hp; rw [List.mem_singleton.mp hp]; tm_at "sg"
    · exact hnd
  tm_at "set"
  tm_at "set"
  by_cases hp : pos < buf.length
  · obtain ⟨rfl, rfl⟩ := hr.1 hp
    apply ss_if_no
    · apply evB_cmp (hm := rfl)
      · tm_at "evt"
      · tm_at "evt"
      · have := ge_int_ (C := C) (a := (pos : Int)) (b := buf.length)
        rwa [decide_eq_false (by omega)] at this
    have hσ : ∀ m, sput [(S "self", .fz (.obj (.ref b))), (S "size", .fz (.int 1)), (S "@in", inB b e buf pos), (S "start", .fz (.int pos)), (S "stop", .fz (.int buf.length))] (S "stop") (.fz m) = [(S "self", .fz (.obj (.ref b))), (S "size", .fz (.int 1)), (S "@in", inB b e buf pos), (S "start", .fz (.int pos)), (S "stop", .fz m)] := fun m => by tm_at "sp"
    have rest : ∀ stop : Int, stop = pos + 1 → wpSs C env ((fB (kid (st 10) 25)).drop 7) [(S "self", .fz (.obj (.ref b))), (S "size", .fz (.int 1)), (S "@in", inB b e buf pos), (S "start", .fz (.int pos)), (S "stop", .fz (.int stop))] fun fm σ' => (match fm with | .ret m => m = tx ((buf.drop pos).take 1) | .next => tx ((buf.drop pos).take 1) = .none | _ => False) ∧ ∀ p ∈ [(S "@in", inB b e buf ((pos + 1 : Nat)))], sget σ' p.1 = some p.2 := by
      rintro stop rfl
      tm_at "self"
      refine ss_ret (m := tx ((buf.drop pos).take 1)) ?_ ⟨rfl, ?_⟩
      · have := slice_tx (C := C) (l := buf) (i := pos) (j := (pos : Int) + 1) (by omega) hb'
        rw [show ((pos : Int) + 1 - pos).toNat = 1 by omega, show (pos : Int).toNat = pos by omega] at this
        apply ev_slice (ho := this)
        · tm_at "evt"
        · tm_at "part"
        · tm_at "part"
      · intro p hp
        rw [List.mem_singleton.mp hp, show ((pos + 1 : Nat) : Int) = pos + 1 by omega]
        tm_at "sg"
    apply ss_if (b := decide ((pos : Int) + 1 < buf.length))
    · rw [show decide ((pos : Int) + 1 < buf.length) = (true && (decide ((pos : Int) + 1 < buf.length) && true)) by simp]
      refine evB_and (b := true) ?_ fun _ => evB_and ?_ fun _ => evB_and_nil
      · apply evB_cmp (hm := rfl)
        · tm_at "evt"
        · tm_at "evt"
        · exact ge_int_
      · tm_at "evb"
    · intro _
      tm_at "set"
      exact wpSs_nil (rest _ rfl)
    · intro hn
      exact wpSs_nil (rest _ (by simp at hn; omega))
  · obtain ⟨h1, h2⟩ := hr.2 (by omega)
    have h2' := h2.symm
    subst h1
    subst h2'
    apply ss_if (b := true)
    · apply evB_cmp (hm := rfl)
      · tm_at "evt"
      · tm_at "evt"
      · have := ge_int_ (C := C) (a := (pos : Int)) (b := buf.length)
        rwa [decide_eq_true (by omega)] at this
    · intro _
      refine ss_ret (m := tx []) ?_ ⟨rfl, ?_⟩
      · tm_at "ev"
      · intro p hp
        rw [List.mem_singleton.mp hp]
        tm_at "sg"
    · intro h; cases h
theorem spec_read (w : World) (b e : Addr) (buf : List Nat) (pos : Nat) (hb : buf.length ≤ 10000000) (r : List Nat) (pos' : Nat) (hr : (pos < buf.length → r = (buf.drop pos).take 1 ∧ pos' = pos + 1) ∧ (buf.length ≤ pos → r = [] ∧ pos' = pos)) :
    SpecO (G w) false 89 (.ref 533) [.obj (.ref b), .int 1] [(S "@in", inB b e buf pos)] (tx r) [(S "@in", inB b e buf pos')] :=
  (codeO_of (γ := [(S "@in", inB b e buf pos)]) (γ' := [(S "@in", inB b e buf pos')]) (def_read w) (by omega) rfl rfl (by intro p hp; rw [List.mem_singleton.mp hp]; kernel_rfl) (fun C hC hl _ L _ hro hnd => read_body hC hro hl (by kernel_rfl) (by kernel_rfl) b e hnd buf pos hb r pos' hr) (by intro p hp; rw [List.mem_singleton.mp hp]; kernel_rfl)).spec (def_read w) rfl
theorem in_tup2 {C : Cx} {l a b : List Nat} : Cmp C .In (tx l) (.tuple [tx a, tx b]) ([a, b].any (· == l)) := in_tup_tx (ls := [a, b])
noncomputable def WC : List Nat := (S "abcdfeghijklmnopqrstuvwxyzABCDEFGHIJKLMNOPQRSTUVWXYZ0123456789_ßàáâãäåæçèéêëìíîïðñòóôõöøùúûüýþÿÀÁÂÃÄÅÆÇÈÉÊËÌÍÎÏÐÑÒÓÔÕÖØÙÚÛÜÝÞ").cps.toList
noncomputable def WS : List Nat := [32, 9, 13, 10]
noncomputable abbrev lexB (a d b : Addr) (st : MV) (ln : Int) (tok : List Nat) : Bd := .inst a 722 d [(S "instream", .obj (.ref b)), (S "infile", .none), (S "posix", .bool true), (S "eof", .none), (S "commenters", tx []), (S "wordchars", tx WC), (S "whitespace", tx WS), (S "whitespace_split", .bool true), (S "quotes", tx [39, 34]), (S "escape", tx [92]), (S "escapedquotes", tx [34]), (S "state", st), (S "pushback", .deq), (S "lineno", .int ln), (S "debug", .int 0), (S "token", tx tok), (S "filestack", .deq), (S "source", .none), (S "_punctuation_chars", tx [])]
local macro_rules | `(tactic| tm_at "cmp") => altS "rin_tup2"
local macro_rules | `(tactic| tm_at "prop") => altS "a .ev_prop a .x a .S \"@lex nnull/1 tapp/2 a tnamedArgument/5 a .k a #90 a tnamedArgument/5 a .full a .false a tnamedArgument/5 .kok = nnull/1 tapp/2 .cls_shlex _ nnull/1 tapp/2 a .hf a .prop_shlex _ nnull/1 tapp/2 a tnamedArgument/5 a .hp a .propr_shlex _ nnull/1 tapp/2 a tnamedArgument/5 a .hfull a a .h nnull/1 nnull/0 a a .h nnull/1 tnomatch/2 tbasicFun/4 tfun/2 a tnamedArgument/5 a .hh a a a _ .h nnull/2 Tintro/2 a nnull/0 .h TelimTarget/2 nnull/1 nnull/0 nnull/0 Tcases/4 Q/2 tbyTactic/2 a tnamedArgument/5 Nhbase a .nm a .S \"self nnull/1 tapp/2 a tnamedArgument/5 a .fd a .fdAt _ #653 nnull/2 tapp/2 a tnamedArgument/5 nnull/12 tapp/2 Tapply/2"
theorem def_punct (w : World) : IsDef (G w) 653 (fdAt w.params 653) (fB (kid (st 19) 1)) [S "self"] := by
  refine def_of w 653 652 [S "self"] (kid (st 19) 1) rfl ?_ ?_ rfl ?_ ?_ ?_ ?_ ?_ ?_ ?_ ?_ ?_ ?_ ?_ (by decide +kernel) ?bb ?kk
  case bb =>
    intro vs hv
    obtain ⟨a0, rfl⟩ := len1 hv
    kernel_rfl
  case kk =>
    intro x hx
    simp only [List.mem_cons, List.not_mem_nil, or_false] at hx
    rcases hx with rfl <;> exact .inl (by kernel_rfl)
  all_goals kernel_rfl
theorem punct_body (hC : C.G = G w) {env : Env} (hs : env.scope = fS (kid (st 19) 1)) (a d b : Addr) (z : MV) (ln : Int) (tok : List Nat) :
    wpSs C env (fB (kid (st 19) 1)) [(S "self", .fz (.obj (.ref a))), (S "@lex", lexB a d b z ln tok)] fun fm _ => match fm with | .ret r => r = tx [] | .next => tx [] = .none | _ => False := by
  have hnm : env.scope.names = (fS (kid (st 19) 1)).names := by rw [hs]
  conv at hnm => rhs; whnf
  refine ss_ret (m := tx []) ?_ rfl
  tm_at "ev"
theorem code_punct (w : World) (a d b : Addr) (z : MV) (ln : Int) (tok : List Nat) : CodeG (G w) false 90 653 (fdAt w.params 653) [S "self"] [.obj (.ref a)] [(S "@lex", lexB a d b z ln tok)] [] (tx []) [] :=
  codeG_of (γ := [(S "@lex", lexB a d b z ln tok)]) (γ' := []) [] true (.inl rfl) (def_punct w) (by lia) rfl rfl (by intro p hp; rw [List.mem_singleton.mp hp]; kernel_rfl) (fun C hC hl _ L _ _ hnd => by
    intro X s R
    refine wpAny_mono (punct_body hC (by kernel_rfl) a d b z ln tok X s R) (fun fl s' p => ?_) fun _ _ x => x
    obtain ⟨h', tk, e, fm, σ', fr, R', q⟩ := p
    exact ⟨h', tk, e, fm, σ', fr, R', q, fun _ h => nomatch h⟩) (by intro p hp; cases hp)
theorem ev_punct (hC : C.G = G w) (hl : C.lvl ≤ 80) {env : Env} {σ : St} {a d b : Addr} {z : MV} {ln : Int} {tok : List Nat} (hnd : [a, d].Nodup) {o : Expr} {p : Pos} (ho : Ev C env σ o (.obj (.ref a))) (hx : sget σ (S "@lex") = some (lexB a d b z ln tok)) (hbase : attributeBase o (S "punctuation_chars") env (eval o env) = eval o env) : Ev C env σ (.Attribute o (S "punctuation_chars") p) (tx []) :=
  ev_prop (x := S "@lex") (k := 90) (full := false) (γ := [(S "@lex", lexB a d b z ln tok)]) (fd := fdAt w.params 653) (nm := S "self") (kok hC) (cls_shlex _) ho hx (prop_shlex _) (propr_shlex _) (fun v => by kernel_rfl) (by rw [hC]; exact code_punct w a d b z ln tok) (by lia) (by lia) (fun h => nomatch h) (by intro p hp; rw [List.mem_singleton.mp hp]; exact hx) hnd rfl (by intro _ h; cases h) hbase
local macro_rules | `(tactic| tm_at "attr") => altS "a a .Ev _ _ _ .Expr.Attribute _ _ _ nnull/3 tapp/2 _ nnull/5 tapp/2 Tshow/2 Q/1 TwithReducible/2 a a .ev_punct = = = Nhbase nnull/4 tapp/2 Tapply/2 Q/1 TwithReducible/2 !ev !sg"
inductive Stp (c : Nat) : Nat → Nat → Bool → List Nat → FM → Nat → Nat → Bool → List Nat → Prop
  | b_brk {esc q tok} : c ∈ WS → (tok ≠ [] ∨ q = true) → Stp c 32 esc q tok .brk 32 esc q tok
  | b_ws {esc} : c ∈ WS → Stp c 32 esc false [] .cont 32 esc false []
  | b_esc {esc q tok} : c = 92 → Stp c 32 esc q tok .next 92 97 q tok
  | b_quo {esc q tok} : c = 34 ∨ c = 39 → Stp c 32 esc q tok .next c esc q tok
  | b_chr {esc q tok} : c ∉ WS → c ≠ 92 → c ≠ 34 → c ≠ 39 → Stp c 32 esc q tok .next 97 esc q [c]
  | q_close {st esc q tok} : st = 34 ∨ st = 39 → c = st → Stp c st esc q tok .next 97 esc true tok
  | q_esc {esc q tok} : c = 92 → Stp c 34 esc q tok .next 92 34 true tok
  | q_chr {st esc q tok} : st = 34 ∨ st = 39 → c ≠ st → ¬ (c = 92 ∧ st = 34) → Stp c st esc q tok .next st esc true (tok ++ [c])
  | e_both {esc q tok} : esc = 34 ∨ esc = 39 → c ≠ 92 → c ≠ esc → Stp c 92 esc q tok .next esc esc q (tok ++ [92] ++ [c])
  | e_one {esc q tok} : ¬ ((esc = 34 ∨ esc = 39) ∧ c ≠ 92 ∧ c ≠ esc) → Stp c 92 esc q tok .next esc esc q (tok ++ [c])
  | a_brk {esc q tok} : c ∈ WS → (tok ≠ [] ∨ q = true) → Stp c 97 esc q tok .brk 32 esc q tok
  | a_ws {esc} : c ∈ WS → Stp c 97 esc false [] .cont 32 esc false []
  | a_esc {esc q tok} : c = 92 → Stp c 97 esc q tok .next 92 97 q tok
  | a_quo {esc q tok} : c = 34 ∨ c = 39 → Stp c 97 esc q tok .next c esc q tok
  | a_chr {esc q tok} : c ∉ WS → c ≠ 92 → c ≠ 34 → c ≠ 39 → Stp c 97 esc q tok .next 97 esc q (tok ++ [c])
noncomputable def wB : Stmt → List Stmt
  | .While _ b _ _ => b
  | _ => []
noncomputable def rtB : List Stmt := wB ((fB (kid (st 19) 6)).getD 2 (.Pass ⟨0, 0, 0, 0⟩))
noncomputable abbrev rtS (a d b : Addr) (ib : Bd) (z : MV) (ln : Int) (tok : List Nat) (q : Bool) (esc : List Nat) (c : List Nat) : St := [(S "self", .fz (.obj (.ref a))), (S "@lex", lexB a d b z ln tok), (S "@in", ib), (S "quoted", .fz (.bool q)), (S "escapedstate", .fz (tx esc)), (S "nextchar", .fz (tx c))]
theorem not_wc : (34 ∉ WC ∧ 39 ∉ WC) := by decide +kernel
theorem step_b (hC : C.G = G w) (hro : C.ro = false) (hl : C.lvl ≤ 80) {env : Env} (hs : env.scope = fS (kid (st 19) 6)) {a d b : Addr} (hnd : [a, d].Nodup) (ib : Bd) (ln : Int) (tok : List Nat) (ht : tok.length ≤ 10000000) (q : Bool) (esc c : Nat) (Q : FM → St → Prop)
    (hQ : ∀ fl st' esc' q' tok', Stp c 32 esc q tok fl st' esc' q' tok' → Q fl (rtS a d b ib (tx [st']) ln tok' q' [esc'] [c])) : wpSs C env (rtB.drop 3) (rtS a d b ib (tx [32]) ln tok q [esc] [c]) Q := by
  have hnm : env.scope.names = (fS (kid (st 19) 6)).names := by rw [hs]
  conv at hnm => rhs; whnf
  have ht' : tok.length ≤ 16777216 := by lia
  apply ss_if1
  · tm_at "evb"
  · intro h; cases h
  intro _
  apply ss_if1
  · tm_at "evb"
  rotate_left
  · intro h; exact absurd h (by decide)
  intro _
  apply ss_if1
  · tm_at "evb"
  · intro h; cases h
  intro _
  apply ss_if1
  · tm_at "evb"
  · intro hw
    have hw := of_decide_eq_true hw
    apply ss_no
    · tm_at "evb"
    · rfl
    apply ss_if1
    · tm_at "evb"
    · intro hb
      refine wpSs_cons (wpS_break ?_)
      refine hQ _ _ _ _ _ (.b_brk hw ?_)
      cases tok <;> cases q <;> simp_all
    · intro hb
      refine wpSs_cons (wpS_continue ?_)
      have : tok = [] ∧ q = false := by cases tok <;> cases q <;> simp_all
      obtain ⟨rfl, rfl⟩ := this
      exact hQ _ _ _ _ _ (.b_ws hw)
  intro hw
  have hw := of_decide_eq_false hw
  apply ss_if1
  · tm_at "evb"
  · intro h; cases h
  intro _
  apply ss_if1
  · tm_at "evb"
  · intro h
    have h : c = 92 := by simpa using h
    tm_at "set"
    tm_at "self"
    refine wpSs_nil (hQ _ _ _ _ _ ?_)
    subst h
    exact .b_esc rfl
  intro h1
  have h1 : c ≠ 92 := by simpa using h1
  have chr : c ≠ 34 → c ≠ 39 → Q .next (rtS a d b ib (tx [97]) ln [c] q [esc] [c]) := fun h2 h3 => hQ _ _ _ _ _ (.b_chr hw h1 h2 h3)
  apply ss_if1
  · tm_at "evb"
  · intro h
    have h := of_decide_eq_true h
    tm_at "self"
    tm_at "self"
    exact wpSs_nil (chr (fun q => not_wc.1 (q ▸ h)) (fun q => not_wc.2 (q ▸ h)))
  intro h2
  apply ss_if1
  · tm_at "evb"
  · intro h; cases h
  intro _
  apply ss_if1
  · tm_at "evb"
  · intro h
    have h : c = 39 ∨ c = 34 := by simpa using h
    apply ss_no
    · tm_at "evb"
    · rfl
    tm_at "self"
    exact wpSs_nil (hQ _ _ _ _ _ (.b_quo h.symm))
  intro h3
  have h3 : c ≠ 39 ∧ c ≠ 34 := by simpa using h3
  apply ss_if1
  · tm_at "evb"
  · intro _
    tm_at "self"
    tm_at "self"
    exact wpSs_nil (chr h3.2 h3.1)
  · intro h; cases h
theorem step_q (hC : C.G = G w) (hro : C.ro = false) (hl : C.lvl ≤ 80) {env : Env} (hs : env.scope = fS (kid (st 19) 6)) {a d b : Addr} (hnd : [a, d].Nodup) (ib : Bd) (ln : Int) (tok : List Nat) (ht : tok.length ≤ 10000000) (q : Bool) (st' esc c : Nat) (hst : st' = 34 ∨ st' = 39) (Q : FM → St → Prop)
    (hQ : ∀ fl st₁ esc' q' tok', Stp c st' esc q tok fl st₁ esc' q' tok' → Q fl (rtS a d b ib (tx [st₁]) ln tok' q' [esc'] [c])) : wpSs C env (rtB.drop 3) (rtS a d b ib (tx [st']) ln tok q [esc] [c]) Q := by
  have hnm : env.scope.names = (fS (kid (st 19) 6)).names := by rw [hs]
  conv at hnm => rhs; whnf
  have ht' : tok.length ≤ 16777216 := by lia
  apply ss_if1
  · tm_at "evb"
  · intro h; first | cases h | exact absurd h (by decide)
  intro _
  apply ss_if1
  · tm_at "evb"
  · intro h; exfalso; simp at h; lia
  intro _
  apply ss_if1
  · tm_at "evb"
  rotate_left
  · intro h; exfalso; simp at h; lia
  intro _
  tm_at "set"
  apply ss_no
  · tm_at "evb"
  · rfl
  apply ss_if1
  · tm_at "evb"
  · intro h
    have h : c = st' := by simpa using h
    apply ss_if1
    · tm_at "evb"
    · intro h; cases h
    intro _
    tm_at "self"
    exact wpSs_nil (hQ _ _ _ _ _ (.q_close hst h))
  intro h
  have h : c ≠ st' := by simpa using h
  apply ss_if1
  · tm_at "evb"
  · intro h2
    have h2 : c = 92 ∧ st' = 34 := by simpa using h2
    obtain ⟨rfl, rfl⟩ := h2
    tm_at "set"
    tm_at "self"
    exact wpSs_nil (hQ _ _ _ _ _ (.q_esc rfl))
  intro h2
  tm_at "aug"
  exact wpSs_nil (hQ _ _ _ _ _ (.q_chr hst h (fun z => by simp [z.1, z.2] at h2)))
theorem step_e (hC : C.G = G w) (hro : C.ro = false) (hl : C.lvl ≤ 80) {env : Env} (hs : env.scope = fS (kid (st 19) 6)) {a d b : Addr} (hnd : [a, d].Nodup) (ib : Bd) (ln : Int) (tok : List Nat) (ht : tok.length ≤ 10000000) (q : Bool) (esc c : Nat) (Q : FM → St → Prop)
    (hQ : ∀ fl st₁ esc' q' tok', Stp c 92 esc q tok fl st₁ esc' q' tok' → Q fl (rtS a d b ib (tx [st₁]) ln tok' q' [esc'] [c])) : wpSs C env (rtB.drop 3) (rtS a d b ib (tx [92]) ln tok q [esc] [c]) Q := by
  have hnm : env.scope.names = (fS (kid (st 19) 6)).names := by rw [hs]
  conv at hnm => rhs; whnf
  have ht' : tok.length ≤ 16777216 := by lia
  apply ss_if1
  · tm_at "evb"
  · intro h; first | cases h | exact absurd h (by decide)
  intro _
  apply ss_if1
  · tm_at "evb"
  · intro h; first | cases h | exact absurd h (by decide)
  intro _
  apply ss_if1
  · tm_at "evb"
  · intro h; first | cases h | exact absurd h (by decide)
  intro _
  apply ss_if1
  · tm_at "evb"
  rotate_left
  · intro h; exact absurd h (by decide)
  intro _
  apply ss_no
  · tm_at "evb"
  · rfl
  apply ss_if
  · tm_at "evb"
  · intro h
    have h : (esc = 39 ∨ esc = 34) ∧ c ≠ 92 ∧ c ≠ esc := by simpa using h
    tm_at "aug"
    refine wpSs_nil ?_
    tm_at "aug"
    tm_at "self"
    exact wpSs_nil (hQ _ _ _ _ _ (.e_both h.1.symm h.2.1 h.2.2))
  · intro h
    have h : ¬ ((esc = 34 ∨ esc = 39) ∧ c ≠ 92 ∧ c ≠ esc) := fun z => by
      obtain ⟨z1, z2, z3⟩ := z
      rcases z1 with rfl | rfl <;> simp [z2, z3] at h
    refine wpSs_nil ?_
    tm_at "aug"
    tm_at "self"
    exact wpSs_nil (hQ _ _ _ _ _ (.e_one h))
theorem step_a (hC : C.G = G w) (hro : C.ro = false) (hl : C.lvl ≤ 80) {env : Env} (hs : env.scope = fS (kid (st 19) 6)) {a d b : Addr} (hnd : [a, d].Nodup) (ib : Bd) (ln : Int) (tok : List Nat) (ht : tok.length ≤ 10000000) (q : Bool) (esc c : Nat) (Q : FM → St → Prop)
    (hQ : ∀ fl st₁ esc' q' tok', Stp c 97 esc q tok fl st₁ esc' q' tok' → Q fl (rtS a d b ib (tx [st₁]) ln tok' q' [esc'] [c])) : wpSs C env (rtB.drop 3) (rtS a d b ib (tx [97]) ln tok q [esc] [c]) Q := by
  have hnm : env.scope.names = (fS (kid (st 19) 6)).names := by rw [hs]
  conv at hnm => rhs; whnf
  have ht' : tok.length ≤ 16777216 := by lia
  apply ss_if1
  · tm_at "evb"
  · intro h; first | cases h | exact absurd h (by decide)
  intro _
  apply ss_if1
  · tm_at "evb"
  · intro h; first | cases h | exact absurd h (by decide)
  intro _
  apply ss_if1
  · tm_at "evb"
  · intro h; first | cases h | exact absurd h (by decide)
  intro _
  apply ss_if1
  · tm_at "evb"
  · intro h; first | cases h | exact absurd h (by decide)
  intro _
  apply ss_if1
  · tm_at "evb"
  rotate_left
  · intro h; exact absurd h (by decide)
  intro _
  apply ss_if1
  · tm_at "evb"
  · intro h; cases h
  intro _
  apply ss_if1
  · tm_at "evb"
  · intro hw
    have hw := of_decide_eq_true hw
    apply ss_no
    · tm_at "evb"
    · rfl
    tm_at "self"
    apply ss_if1
    · tm_at "evb"
    · intro hb
      refine wpSs_cons (wpS_break ?_)
      refine hQ _ _ _ _ _ (.a_brk hw ?_)
      cases tok <;> cases q <;> simp_all
    · intro hb
      refine wpSs_cons (wpS_continue ?_)
      have : tok = [] ∧ q = false := by cases tok <;> cases q <;> simp_all
      obtain ⟨rfl, rfl⟩ := this
      exact hQ _ _ _ _ _ (.a_ws hw)
  intro hw
  have hw := of_decide_eq_false hw
  apply ss_if1
  · tm_at "evb"
  · intro h; first | cases h | exact absurd h (by decide)
  intro _
  apply ss_if1
  · tm_at "evb"
  · intro h; first | cases h | exact absurd h (by decide)
  intro _
  apply ss_if1
  · tm_at "evb"
  · intro h
    have h : c = 39 ∨ c = 34 := by simpa using h
    tm_at "self"
    exact wpSs_nil (hQ _ _ _ _ _ (.a_quo h.symm))
  intro h3
  have h3 : c ≠ 39 ∧ c ≠ 34 := by simpa using h3
  apply ss_if1
  · tm_at "evb"
  · intro h
    have h : c = 92 := by simpa using h
    tm_at "set"
    tm_at "self"
    refine wpSs_nil (hQ _ _ _ _ _ ?_)
    subst h
    exact .a_esc rfl
  intro h1
  have h1 : c ≠ 92 := by simpa using h1
  apply ss_if1
  · tm_at "evb"
  · intro _
    tm_at "aug"
    exact wpSs_nil (hQ _ _ _ _ _ (.a_chr hw h1 h3.2 h3.1))
  · intro h; exfalso; simp at h
theorem eof_n (hC : C.G = G w) (hro : C.ro = false) (hl : C.lvl ≤ 80) {env : Env} (hs : env.scope = fS (kid (st 19) 6)) {a d b : Addr} (hnd : [a, d].Nodup) (ib : Bd) (ln : Int) (tok : List Nat) (ht : tok.length ≤ 10000000) (q : Bool) (esc : Nat) (Q : FM → St → Prop) (hQ : Q .brk (rtS a d b ib .none ln [] q [esc] [])) : wpSs C env (rtB.drop 3) (rtS a d b ib .none ln tok q [esc] []) Q := by
  have hnm : env.scope.names = (fS (kid (st 19) 6)).names := by rw [hs]
  conv at hnm => rhs; whnf
  have ht' : tok.length ≤ 16777216 := by lia
  apply ss_if1
  · tm_at "evb"
  rotate_left
  · intro h; cases h
  intro _
  tm_at "self"
  exact wpSs_cons (wpS_break hQ)
theorem eof_b (hC : C.G = G w) (hro : C.ro = false) (hl : C.lvl ≤ 80) {env : Env} (hs : env.scope = fS (kid (st 19) 6)) {a d b : Addr} (hnd : [a, d].Nodup) (ib : Bd) (ln : Int) (tok : List Nat) (ht : tok.length ≤ 10000000) (q : Bool) (esc : Nat) (Q : FM → St → Prop) (hQ : Q .brk (rtS a d b ib .none ln tok q [esc] [])) : wpSs C env (rtB.drop 3) (rtS a d b ib (tx [32]) ln tok q [esc] []) Q := by
  have hnm : env.scope.names = (fS (kid (st 19) 6)).names := by rw [hs]
  conv at hnm => rhs; whnf
  have ht' : tok.length ≤ 16777216 := by lia
  apply ss_if1
  · tm_at "evb"
  · intro h; first | cases h | exact absurd h (by decide)
  intro _
  apply ss_if1
  · tm_at "evb"
  rotate_left
  · intro h; exact absurd h (by decide)
  intro _
  apply ss_if1
  · tm_at "evb"
  rotate_left
  · intro h; cases h
  intro _
  tm_at "self"
  exact wpSs_cons (wpS_break hQ)
theorem eof_a (hC : C.G = G w) (hro : C.ro = false) (hl : C.lvl ≤ 80) {env : Env} (hs : env.scope = fS (kid (st 19) 6)) {a d b : Addr} (hnd : [a, d].Nodup) (ib : Bd) (ln : Int) (tok : List Nat) (ht : tok.length ≤ 10000000) (q : Bool) (esc : Nat) (Q : FM → St → Prop) (hQ : Q .brk (rtS a d b ib .none ln tok q [esc] [])) : wpSs C env (rtB.drop 3) (rtS a d b ib (tx [97]) ln tok q [esc] []) Q := by
  have hnm : env.scope.names = (fS (kid (st 19) 6)).names := by rw [hs]
  conv at hnm => rhs; whnf
  have ht' : tok.length ≤ 16777216 := by lia
  apply ss_if1
  · tm_at "evb"
  · intro h; first | cases h | exact absurd h (by decide)
  intro _
  apply ss_if1
  · tm_at "evb"
  · intro h; first | cases h | exact absurd h (by decide)
  intro _
  apply ss_if1
  · tm_at "evb"
  · intro h; first | cases h | exact absurd h (by decide)
  intro _
  apply ss_if1
  · tm_at "evb"
  · intro h; first | cases h | exact absurd h (by decide)
  intro _
  apply ss_if1
  · tm_at "evb"
  rotate_left
  · intro h; exact absurd h (by decide)
  intro _
  apply ss_if1
  · tm_at "evb"
  rotate_left
  · intro h; cases h
  intro _
  tm_at "self"
  exact wpSs_cons (wpS_break hQ)
theorem def_readtok (w : World) : IsDef (G w) 690 (fdAt w.params 690) (fB (kid (st 19) 6)) [S "self"] := by
  refine def_of w 690 689 [S "self"] (kid (st 19) 6) rfl ?_ ?_ rfl ?_ ?_ ?_ ?_ ?_ ?_ ?_ ?_ ?_ ?_ ?_ (by decide +kernel) ?bb ?kk
  case bb =>
    intro vs hv
    obtain ⟨a0, rfl⟩ := len1 hv
    kernel_rfl
  case kk =>
    intro x hx
    simp only [List.mem_cons, List.not_mem_nil, or_false] at hx
    rcases hx with rfl <;> exact .inl (by kernel_rfl)
  all_goals kernel_rfl
/-- one sign read: does the word end, and what then -/
noncomputable def stp (c st esc : Nat) (q : Bool) (tok : List Nat) : Bool × Nat × Nat × Bool × List Nat :=
  if st = 32 then
    if c ∈ WS then (if tok ≠ [] ∨ q = true then (true, 32, esc, q, tok) else (false, 32, esc, q, tok))
    else if c = 92 then (false, 92, 97, q, tok) else if c = 34 ∨ c = 39 then (false, c, esc, q, tok) else (false, 97, esc, q, [c])
  else if st = 34 ∨ st = 39 then
    if c = st then (false, 97, esc, true, tok) else if c = 92 ∧ st = 34 then (false, 92, 34, true, tok) else (false, st, esc, true, tok ++ [c])
  else if st = 92 then
    if (esc = 34 ∨ esc = 39) ∧ c ≠ 92 ∧ c ≠ esc then (false, esc, esc, q, tok ++ [92] ++ [c]) else (false, esc, esc, q, tok ++ [c])
  else
    if c ∈ WS then (if tok ≠ [] ∨ q = true then (true, 32, esc, q, tok) else (false, 32, esc, q, tok))
    else if c = 34 ∨ c = 39 then (false, c, esc, q, tok) else if c = 92 then (false, 92, 97, q, tok) else (false, 97, esc, q, tok ++ [c])
noncomputable def isB : FM → Bool
  | .brk => true
  | _ => false
theorem stp_of {c st esc q tok fl st' esc' q' tok'} (h : Stp c st esc q tok fl st' esc' q' tok') : stp c st esc q tok = (isB fl, st', esc', q', tok') ∧ (fl = .brk ∨ fl = .next ∨ fl = .cont) := by
  induction h with
  | b_brk hw h => exact ⟨by unfold stp; rw [if_pos rfl, if_pos hw, if_pos h]; rfl, .inl rfl⟩
  | b_ws hw => exact ⟨by unfold stp; rw [if_pos rfl, if_pos hw, if_neg (by decide)]; rfl, .inr (.inr rfl)⟩
  | b_esc h => subst h; exact ⟨by unfold stp; rw [if_pos rfl, if_neg (by decide), if_pos rfl]; rfl, .inr (.inl rfl)⟩
  | b_quo h => exact ⟨by unfold stp; rcases h with rfl | rfl <;> rw [if_pos rfl, if_neg (by decide), if_neg (by decide), if_pos (by decide)] <;> rfl, .inr (.inl rfl)⟩
  | b_chr hw h1 h2 h3 => exact ⟨by unfold stp; rw [if_pos rfl, if_neg hw, if_neg h1, if_neg fun q => q.elim h2 h3]; rfl, .inr (.inl rfl)⟩
  | q_close hs h => subst h; exact ⟨by unfold stp; rcases hs with rfl | rfl <;> rw [if_neg (by decide), if_pos (by decide), if_pos rfl] <;> rfl, .inr (.inl rfl)⟩
  | q_esc h => subst h; exact ⟨by unfold stp; rw [if_neg (by decide), if_pos (by decide), if_neg (by decide), if_pos (by decide)]; rfl, .inr (.inl rfl)⟩
  | q_chr hs h1 h2 => exact ⟨by unfold stp; rcases hs with rfl | rfl <;> rw [if_neg (by decide), if_pos (by decide), if_neg h1, if_neg h2] <;> rfl, .inr (.inl rfl)⟩
  | e_both h1 h2 h3 => exact ⟨by unfold stp; rw [if_neg (by decide), if_neg (by decide), if_pos rfl, if_pos ⟨h1, h2, h3⟩]; rfl, .inr (.inl rfl)⟩
  | e_one h => exact ⟨by unfold stp; rw [if_neg (by decide), if_neg (by decide), if_pos rfl, if_neg h]; rfl, .inr (.inl rfl)⟩
  | a_brk hw h => exact ⟨by unfold stp; rw [if_neg (by decide), if_neg (by decide), if_neg (by decide), if_pos hw, if_pos h]; rfl, .inl rfl⟩
  | a_ws hw => exact ⟨by unfold stp; rw [if_neg (by decide), if_neg (by decide), if_neg (by decide), if_pos hw, if_neg (by decide)]; rfl, .inr (.inr rfl)⟩
  | a_esc h => subst h; exact ⟨by unfold stp; rw [if_neg (by decide), if_neg (by decide), if_neg (by decide), if_neg (by decide), if_neg (by decide), if_pos rfl]; rfl, .inr (.inl rfl)⟩
  | a_quo h => exact ⟨by unfold stp; rcases h with rfl | rfl <;> rw [if_neg (by decide), if_neg (by decide), if_neg (by decide), if_neg (by decide), if_pos (by decide)] <;> rfl, .inr (.inl rfl)⟩
  | a_chr hw h1 h2 h3 => exact ⟨by unfold stp; rw [if_neg (by decide), if_neg (by decide), if_neg (by decide), if_neg hw, if_neg fun q => q.elim h2 h3, if_neg h1]; rfl, .inr (.inl rfl)⟩
structure Tk where
  q : Bool
  tok : List Nat
  st : Option Nat
  rest : List Nat
  ln : Int
noncomputable def rt : List Nat → Option Nat → Nat → Bool → List Nat → Int → Option Tk
  | [], none, _, q, _, ln => some ⟨q, [], none, [], ln⟩
  | [], some st, _, q, tok, ln => if st = 32 ∨ st = 97 then some ⟨q, tok, none, [], ln⟩ else none
  | _ :: _, none, _, _, _, _ => none
  | c :: r, some st, esc, q, tok, ln =>
    match stp c st esc q tok with
    | (true, st', _, q', tok') => some ⟨q', tok', some st', r, if c = 10 then ln + 1 else ln⟩
    | (false, st', esc', q', tok') => rt r (some st') esc' q' tok' (if c = 10 then ln + 1 else ln)
noncomputable def okS (st : Option Nat) (esc : Nat) : Prop := match st with
  | none => True
  | some s => s = 32 ∨ s = 34 ∨ s = 39 ∨ s = 97 ∨ (s = 92 ∧ (esc = 34 ∨ esc = 97))
theorem okS_step {c st esc q tok fl st' esc' q' tok'} (h : Stp c st esc q tok fl st' esc' q' tok') (ho : okS (some st) esc) : okS (some st') esc' := by
  induction h with
  | b_brk | b_ws | a_brk | a_ws => exact .inl rfl
  | b_esc | a_esc => exact .inr (.inr (.inr (.inr ⟨rfl, .inr rfl⟩)))
  | b_quo h | a_quo h => exact h.elim (fun e => .inr (.inl e)) fun e => .inr (.inr (.inl e))
  | b_chr | q_close | a_chr => exact .inr (.inr (.inr (.inl rfl)))
  | q_esc => exact .inr (.inr (.inr (.inr ⟨rfl, .inl rfl⟩)))
  | q_chr h | e_both h => exact h.elim (fun e => .inr (.inl e)) fun e => .inr (.inr (.inl e))
  | e_one =>
    rcases ho with h | h | h | h | ⟨_, h⟩
    · exact absurd h (by decide)
    · exact absurd h (by decide)
    · exact absurd h (by decide)
    · exact absurd h (by decide)
    · exact h.elim (fun e => .inr (.inl e)) fun e => .inr (.inr (.inr (.inl e)))
theorem len_step {c st esc q tok fl st' esc' q' tok'} (h : Stp c st esc q tok fl st' esc' q' tok') : tok'.length ≤ tok.length + 2 := by
  induction h <;> first
    | exact Nat.le_add_right _ _
    | (rw [List.length_append, List.length_append]; exact Nat.le_refl _)
    | (rw [List.length_append]; exact Nat.add_le_add_left (Nat.le_succ 1) _)
    | exact Nat.le_trans (by decide : 1 ≤ 2) (Nat.le_add_left _ _)
noncomputable def stM : Option Nat → MV
  | none => .none
  | some s => tx [s]
noncomputable abbrev rtT (a d b : Addr) (ib : Bd) (z : MV) (ln : Int) (tok : List Nat) (q : Bool) (esc : List Nat) (tail : St) : St := (S "self", .fz (.obj (.ref a))) :: (S "@lex", lexB a d b z ln tok) :: (S "@in", ib) :: (S "quoted", .fz (.bool q)) :: (S "escapedstate", .fz (tx esc)) :: tail
noncomputable def resM (k : Tk) : MV := if k.q = false ∧ k.tok = [] then .none else tx k.tok
theorem fin_body (hC : C.G = G w) (hro : C.ro = false) {env : Env} (hs : env.scope = fS (kid (st 19) 6)) {a d b : Addr} (ib : Bd) (k : Tk) (hk : k.tok.length ≤ 16777216) (esc : List Nat) (m : MV) :
    wpSs C env ((fB (kid (st 19) 6)).drop 3) (rtT a d b ib (stM k.st) k.ln k.tok k.q esc [(S "nextchar", .fz m)]) fun fm σ' => (match fm with | .ret r => r = resM k | .next => resM k = .none | _ => False) ∧ ∀ p ∈ [(S "@lex", lexB a d b (stM k.st) k.ln []), (S "@in", ib)], sget σ' p.1 = some p.2 := by
  have hnm : env.scope.names = (fS (kid (st 19) 6)).names := by rw [hs]
  conv at hnm => rhs; whnf
  tm_at "set"
  tm_at "self"
  have gg : ∀ r : MV, ∀ p ∈ [(S "@lex", lexB a d b (stM k.st) k.ln []), (S "@in", ib)], sget ((S "self", .fz (.obj (.ref a))) :: (S "@lex", lexB a d b (stM k.st) k.ln []) :: (S "@in", ib) :: (S "quoted", .fz (.bool k.q)) :: (S "escapedstate", .fz (tx esc)) :: [(S "nextchar", .fz m), (S "result", .fz r)]) p.1 = some p.2 := by
    intro r p hp
    simp only [List.mem_cons, List.not_mem_nil, or_false] at hp
    rcases hp with rfl | rfl <;> tm_at "sg"
  apply ss_if
  · tm_at "evb"
  · intro h
    have h : k.q = false ∧ k.tok = [] := by simpa using h
    tm_at "set"
    refine wpSs_nil ?_
    apply ss_no
    · tm_at "evb"
    · rfl
    refine ss_ret (m := .none) ?_ ⟨by simp [resM, h], gg _⟩
    tm_at "ev"
  · intro h
    have h : ¬ (k.q = false ∧ k.tok = []) := fun z => by simp [z.1, z.2] at h
    refine wpSs_nil ?_
    apply ss_no
    · tm_at "evb"
    · rfl
    refine ss_ret (m := tx k.tok) ?_ ⟨by simp only [resM, if_neg h], gg _⟩
    tm_at "ev"
local macro_rules | `(tactic| tm_at "attr") => altS "a a .Ev _ _ _ .Expr.Attribute _ _ _ nnull/3 tapp/2 _ nnull/5 tapp/2 Tshow/2 Q/1 TwithReducible/2 a a .ev_punct = = Nhbase nnull/3 tapp/2 Tapply/2 Q/1 TwithReducible/2 a nnull/0 TrotateLeft/2 !ev !sg a Tassumption/1"
/-- the loop's invariant: what is left to read ends in k -/
inductive rtJ (a d b e : Addr) (buf : List Nat) (k : Tk) (n : Nat) (σ : St) : Prop
  | mk (l : List Nat) (z : Option Nat) (esc : Nat) (q : Bool) (tok : List Nat) (ln : Int) (pos : Nat) (tail : St) (hn : n = l.length) (hp : pos ≤ buf.length) (hd : buf.drop pos = l) (ht : tok.length ≤ 2 * pos) (ho : okS z esc) (hr : rt l z esc q tok ln = some k)
    (es : σ = rtT a d b (inB b e buf pos) (stM z) ln tok q [esc] tail) (htl : tail = [] ∨ ∃ m, tail = [(S "nextchar", .fz m)])
theorem turn_ (hC : C.G = G w) (hro : C.ro = false) (hl : C.lvl ≤ 80) {env : Env} (hs : env.scope = fS (kid (st 19) 6)) {a d b e : Addr} (hnd : [a, d, b, e].Nodup) (buf : List Nat) (hb : buf.length ≤ 1000000) (l : List Nat) (z : Option Nat) (esc : Nat) (q : Bool) (tok : List Nat) (ln : Int) (pos pos' : Nat) (tail : St)
    (htl : tail = [] ∨ ∃ m, tail = [(S "nextchar", .fz m)]) (r : List Nat) (hr : (pos < buf.length → r = (buf.drop pos).take 1 ∧ pos' = pos + 1) ∧ (buf.length ≤ pos → r = [] ∧ pos' = pos)) (ln' : Int) (hln : ln' = if r = [10] then ln + 1 else ln) (Q : FM → St → Prop)
    (h : wpSs C env (rtB.drop 3) (rtS a d b (inB b e buf pos') (stM z) ln' tok q [esc] r) Q) : wpSs C env rtB (rtT a d b (inB b e buf pos) (stM z) ln tok q [esc] tail) Q := by
  have hnm : env.scope.names = (fS (kid (st 19) 6)).names := by rw [hs]
  conv at hnm => rhs; whnf
  have hnd1 : [a, d].Nodup := by simp_all
  have hnd2 : [b, e].Nodup := by simp_all
  apply ss_if (b := false)
  · refine evB_and (b := false) (c := false) ?_ fun h => nomatch h
    apply evB_plain (he := fun _ => rfl) (b := false) (m := tx [])
    · exact Ev.t (ev_punct hC hl hnd1 (by tm_at "ev") (by tm_at "sg") rfl)
    · exact tr_tx (l := []) (by simp)
  · intro h; cases h
  intro _
  have hσ : ∀ m, sput (rtT a d b (inB b e buf pos') (stM z) ln tok q [esc] tail) (S "nextchar") (.fz m) = rtT a d b (inB b e buf pos') (stM z) ln tok q [esc] [(S "nextchar", .fz m)] := by
    intro m
    rcases htl with rfl | ⟨m', rfl⟩ <;> tm_at "sp"
  apply ss_ometh (x := S "@in") (k := 89) (full := false) (γ := [(S "@in", inB b e buf pos)]) (γ' := [(S "@in", inB b e buf pos')]) (r := tx r) hro (kok hC) (cls_sio _) (hs := by rw [hC]; exact spec_read w b e buf pos (by lia) r pos' hr) (hk := by lia) (hfull := fun h => nomatch h) (hnd := hnd2) (hsm := .cons .nil) (hkn := by simp) (hfn := fn_at hC rfl (by kernel_rfl) (by kernel_rfl)) (hbase := rfl) (hline := rfl) (hfew := by decide) (hp' := hσ _)
  · tm_at "ev"
  · tm_at "sg"
  · tm_at "fn0"
  · kernel_rfl
  · kernel_rfl
  · tm_at "evs"
  · intro p hp; rw [List.mem_singleton.mp hp]; tm_at "sg"
  · tm_at "stores"
  · show sput _ _ _ = _
    tm_at "sp"
  refine wpSs_nil ?_
  apply ss_if
  · tm_at "evb"
  · intro h1
    have h1 : r = [10] := by simpa using h1
    tm_at "aug"
    refine wpSs_nil ?_
    apply ss_no
    · tm_at "evb"
    · rfl
    rw [hln, if_pos h1] at h
    exact h
  · intro h1
    have h1 : ¬ r = [10] := by simpa using h1
    refine wpSs_nil ?_
    apply ss_no
    · tm_at "evb"
    · rfl
    rw [hln, if_neg h1] at h
    exact h
theorem rt_cons {c st esc q tok fl st' esc' q' tok'} {r : List Nat} {ln : Int} (h : Stp c st esc q tok fl st' esc' q' tok') : rt (c :: r) (some st) esc q tok ln = if isB fl = true then some ⟨q', tok', some st', r, if c = 10 then ln + 1 else ln⟩ else rt r (some st') esc' q' tok' (if c = 10 then ln + 1 else ln) := by
  rw [rt, (stp_of h).1]
  cases isB fl <;> rfl
theorem rt_body (hC : C.G = G w) (hro : C.ro = false) (hl : C.lvl ≤ 80) {env : Env} (hs : env.scope = fS (kid (st 19) 6)) {a d b e : Addr} (hnd : [a, d, b, e].Nodup) (buf : List Nat) (hb : buf.length ≤ 1000000) (z : Option Nat) (hz : z = none ∨ z = some 32) (ln : Int) (pos : Nat) (hpos : pos ≤ buf.length) (k : Tk) (hk : rt (buf.drop pos) z 32 false [] ln = some k) :
    wpSs C env (fB (kid (st 19) 6)) [(S "self", .fz (.obj (.ref a))), (S "@lex", lexB a d b (stM z) ln []), (S "@in", inB b e buf pos)] fun fm σ' => (match fm with | .ret r => r = resM k | .next => resM k = .none | _ => False) ∧ ∀ p ∈ [(S "@lex", lexB a d b (stM k.st) k.ln []), (S "@in", inB b e buf ((buf.length - k.rest.length : Nat) : Int))], sget σ' p.1 = some p.2 := by
  have hnm : env.scope.names = (fS (kid (st 19) 6)).names := by rw [hs]
  conv at hnm => rhs; whnf
  have hnd1 : [a, d].Nodup := by simp_all
  tm_at "set"
  tm_at "set"
  refine wpSs_cons (wpS_while (rtJ a d b e buf k) ?_ (buf.drop pos).length ?_)
  rotate_left
  · exact ⟨_, z, 32, false, [], ln, pos, [], rfl, hpos, rfl, by simp, by rcases hz with rfl | rfl <;> simp [okS], hk, rfl, .inl rfl⟩
  rintro n σ ⟨l, z, esc, q, tok, ln, pos, tail, hn, hp, hd, htk, hok, hrt, rfl, htl⟩
  refine ⟨true, evB_plain (m := .bool true) (Ev.t ev_bool) tr_bool (fun _ => rfl), fun _ => wpSs_gen fun Q₀ hQ => ?_, fun h => nomatch h⟩
  have hlen : l.length = buf.length - pos := by rw [← hd, List.length_drop]
  cases l with
  | nil =>
    have hpe : pos = buf.length := by simp at hlen; lia
    refine turn_ hC hro hl hs hnd buf hb [] z esc q tok ln pos pos tail htl [] ⟨fun h => by lia, fun _ => ⟨rfl, rfl⟩⟩ ln (by simp) _ ?_
    have fin : ∀ k' : Tk, k' = k → k'.rest = [] → k'.tok.length ≤ 16777216 → ∀ (es m), wpSs C env ((fB (kid (st 19) 6)).drop 3) (rtT a d b (inB b e buf pos) (stM k'.st) k'.ln k'.tok k'.q es [(S "nextchar", .fz m)]) fun fm σ' => (match fm with | .ret r => r = resM k | .next => resM k = .none | _ => False) ∧ ∀ p ∈ [(S "@lex", lexB a d b (stM k.st) k.ln []), (S "@in", inB b e buf ((buf.length - k.rest.length : Nat) : Int))], sget σ' p.1 = some p.2 := by
      rintro k' rfl hr hl es m
      rw [hr, List.length_nil, Nat.sub_zero, ← hpe]
      exact fin_body hC hro hs _ k' hl es m
    cases z with
    | none =>
      rw [rt] at hrt
      exact eof_n hC hro hl hs hnd1 _ ln tok (by lia) q esc _ (hQ _ _ (fin _ (Option.some.inj hrt) rfl (by simp) _ _))
    | some s =>
      rw [rt] at hrt
      split at hrt
      · rename_i hs2
        have := fin _ (Option.some.inj hrt) rfl (by show tok.length ≤ _; lia)
        rcases hs2 with rfl | rfl
        · exact eof_b hC hro hl hs hnd1 _ ln tok (by lia) q esc _ (hQ _ _ (this _ _))
        · exact eof_a hC hro hl hs hnd1 _ ln tok (by lia) q esc _ (hQ _ _ (this _ _))
      · cases hrt
  | cons c r =>
    have hlt : pos < buf.length := by simp at hlen; lia
    have hd' : buf.drop (pos + 1) = r := by rw [← List.drop_drop, hd]; rfl
    cases z with
    | none => rw [rt] at hrt; cases hrt
    | some s =>
      refine turn_ hC hro hl hs hnd buf hb [] (some s) esc q tok ln pos (pos + 1) tail htl [c] ⟨fun _ => ⟨by rw [hd]; rfl, rfl⟩, fun h => by lia⟩ (if c = 10 then ln + 1 else ln) (by by_cases h : c = 10 <;> simp [h]) _ ?_
      have key : ∀ fl st' esc' q' tok', Stp c s esc q tok fl st' esc' q' tok' → Q₀ fl (rtS a d b (inB b e buf ((pos + 1 : Nat) : Int)) (tx [st']) (if c = 10 then ln + 1 else ln) tok' q' [esc'] [c]) := by
        intro fl st' esc' q' tok' hS
        have hrt' := hrt
        rw [rt_cons hS] at hrt'
        have hlt' := len_step hS
        have go : isB fl = false → ∃ m, m < n ∧ rtJ a d b e buf k m (rtS a d b (inB b e buf ((pos + 1 : Nat) : Int)) (tx [st']) (if c = 10 then ln + 1 else ln) tok' q' [esc'] [c]) := fun hf => by
          rw [hf, if_neg (by decide)] at hrt'
          exact ⟨r.length, by rw [hn]; simp, r, some st', esc', q', tok', _, pos + 1, _, rfl, by lia, hd', by lia, okS_step hS hok, hrt', rfl, .inr ⟨_, rfl⟩⟩
        refine hQ _ _ ?_
        rcases (stp_of hS).2 with rfl | rfl | rfl
        · rw [if_pos (show isB .brk = true from rfl)] at hrt'
          have hk := Option.some.inj hrt'
          have hrl : k.rest.length = buf.length - pos - 1 := by rw [← hk]; simp at hlen; show r.length = _; lia
          show wpSs C env ((fB (kid (st 19) 6)).drop 3) _ _
          rw [hrl, show buf.length - (buf.length - pos - 1) = pos + 1 by lia, ← hk]
          exact fin_body hC hro hs _ ⟨q', tok', some st', r, _⟩ (by show tok'.length ≤ _; lia) _ _
        · exact go rfl
        · exact go rfl
      rcases hok with rfl | rfl | rfl | rfl | ⟨rfl, hesc⟩
      · exact step_b hC hro hl hs hnd1 _ _ tok (by lia) q esc c _ key
      · exact step_q hC hro hl hs hnd1 _ _ tok (by lia) q 34 esc c (.inl rfl) _ key
      · exact step_q hC hro hl hs hnd1 _ _ tok (by lia) q 39 esc c (.inr rfl) _ key
      · exact step_a hC hro hl hs hnd1 _ _ tok (by lia) q esc c _ key
      · exact step_e hC hro hl hs hnd1 _ _ tok (by lia) q esc c _ key
theorem spec_rt (w : World) {a d b e : Addr} (buf : List Nat) (hb : buf.length ≤ 1000000) (z : Option Nat) (hz : z = none ∨ z = some 32) (ln : Int) (pos : Nat) (hpos : pos ≤ buf.length) (k : Tk) (hk : rt (buf.drop pos) z 32 false [] ln = some k) :
    SpecO (G w) false 79 (.ref 690) [.obj (.ref a)] [(S "@lex", lexB a d b (stM z) ln []), (S "@in", inB b e buf pos)] (resM k) [(S "@lex", lexB a d b (stM k.st) k.ln []), (S "@in", inB b e buf ((buf.length - k.rest.length : Nat) : Int))] :=
  (codeO_of (γ := [(S "@lex", lexB a d b (stM z) ln []), (S "@in", inB b e buf pos)]) (γ' := [(S "@lex", lexB a d b (stM k.st) k.ln []), (S "@in", inB b e buf ((buf.length - k.rest.length : Nat) : Int))]) (def_readtok w) (by lia) rfl rfl (by intro p hp; simp only [List.mem_cons, List.not_mem_nil, or_false] at hp; rcases hp with rfl | rfl <;> kernel_rfl) (fun C hC hl _ L _ hro hnd => rt_body hC hro hl (by kernel_rfl) hnd buf hb z hz ln pos hpos k hk) (by intro p hp; simp only [List.mem_cons, List.not_mem_nil, or_false] at hp; rcases hp with rfl | rfl <;> kernel_rfl)).spec (def_readtok w) rfl
theorem def_gettok (w : World) : IsDef (G w) 683 (fdAt w.params 683) (fB (kid (st 19) 5)) [S "self"] := by
  refine def_of w 683 682 [S "self"] (kid (st 19) 5) rfl ?_ ?_ rfl ?_ ?_ ?_ ?_ ?_ ?_ ?_ ?_ ?_ ?_ ?_ (by decide +kernel) ?bb ?kk
  case bb =>
    intro vs hv
    obtain ⟨a0, rfl⟩ := len1 hv
    kernel_rfl
  case kk =>
    intro x hx
    simp only [List.mem_cons, List.not_mem_nil, or_false] at hx
    rcases hx with rfl <;> exact .inl (by kernel_rfl)
  all_goals kernel_rfl
theorem def_iter (w : World) : IsDef (G w) 712 (fdAt w.params 712) (fB (kid (st 19) 9)) [S "self"] := by
  refine def_of w 712 711 [S "self"] (kid (st 19) 9) rfl ?_ ?_ rfl ?_ ?_ ?_ ?_ ?_ ?_ ?_ ?_ ?_ ?_ ?_ (by decide +kernel) ?bb ?kk
  case bb =>
    intro vs hv
    obtain ⟨a0, rfl⟩ := len1 hv
    kernel_rfl
  case kk =>
    intro x hx
    simp only [List.mem_cons, List.not_mem_nil, or_false] at hx
    rcases hx with rfl <;> exact .inl (by kernel_rfl)
  all_goals kernel_rfl
theorem def_next (w : World) : IsDef (G w) 719 (fdAt w.params 719) (fB (kid (st 19) 10)) [S "self"] := by
  refine def_of w 719 718 [S "self"] (kid (st 19) 10) rfl ?_ ?_ rfl ?_ ?_ ?_ ?_ ?_ ?_ ?_ ?_ ?_ ?_ ?_ (by decide +kernel) ?bb ?kk
  case bb =>
    intro vs hv
    obtain ⟨a0, rfl⟩ := len1 hv
    kernel_rfl
  case kk =>
    intro x hx
    simp only [List.mem_cons, List.not_mem_nil, or_false] at hx
    rcases hx with rfl <;> exact .inl (by kernel_rfl)
  all_goals kernel_rfl
noncomputable abbrev gaM (a d b e : Addr) (buf : List Nat) (z : Option Nat) (ln : Int) (pos : Nat) : St := [(S "@lex", lexB a d b (stM z) ln []), (S "@in", inB b e buf pos)]
theorem gt_body (hC : C.G = G w) (hro : C.ro = false) (hl : C.lvl ≤ 79) {env : Env} (hs : env.scope = fS (kid (st 19) 5)) {a d b e : Addr} (hnd : [a, d, b, e].Nodup) (buf : List Nat) (hb : buf.length ≤ 1000000) (z : Option Nat) (hz : z = none ∨ z = some 32) (ln : Int) (pos : Nat) (hpos : pos ≤ buf.length) (k : Tk) (hk : rt (buf.drop pos) z 32 false [] ln = some k) :
    wpSs C env (fB (kid (st 19) 5)) ([(S "self", .fz (.obj (.ref a)))] ++ gaM a d b e buf z ln pos) fun fm σ' => (match fm with | .ret r => r = resM k | .next => resM k = .none | _ => False) ∧ ∀ p ∈ gaM a d b e buf k.st k.ln (buf.length - k.rest.length), sget σ' p.1 = some p.2 := by
  have hnm : env.scope.names = (fS (kid (st 19) 5)).names := by rw [hs]
  conv at hnm => rhs; whnf
  have gg : ∀ r : MV, ∀ p ∈ gaM a d b e buf k.st k.ln (buf.length - k.rest.length), sget [(S "self", .fz (.obj (.ref a))), (S "@lex", lexB a d b (stM k.st) k.ln []), (S "@in", inB b e buf ((buf.length - k.rest.length : Nat) : Int)), (S "raw", .fz r)] p.1 = some p.2 := by
    intro r p hp
    simp only [List.mem_cons, List.not_mem_nil, or_false] at hp
    rcases hp with rfl | rfl <;> tm_at "sg"
  show wpSs C env _ [(S "self", .fz (.obj (.ref a))), (S "@lex", lexB a d b (stM z) ln []), (S "@in", inB b e buf pos)] _
  apply ss_no
  · tm_at "evb"
  · rfl
  have hp0 : sputs [(S "self", .fz (.obj (.ref a))), (S "@lex", lexB a d b (stM z) ln []), (S "@in", inB b e buf pos)] (gaM a d b e buf k.st k.ln (buf.length - k.rest.length)) = [(S "self", .fz (.obj (.ref a))), (S "@lex", lexB a d b (stM k.st) k.ln []), (S "@in", inB b e buf ((buf.length - k.rest.length : Nat) : Int))] := by
    have e1 : sput [(S "self", .fz (.obj (.ref a))), (S "@lex", lexB a d b (stM z) ln []), (S "@in", inB b e buf pos)] (S "@lex") (lexB a d b (stM k.st) k.ln []) = [(S "self", .fz (.obj (.ref a))), (S "@lex", lexB a d b (stM k.st) k.ln []), (S "@in", inB b e buf pos)] := by tm_at "sp"
    show sput (sput _ _ _) _ _ = _
    refine (congrArg (fun s => sput s (S "@in") (inB b e buf ((buf.length - k.rest.length : Nat) : Int))) e1).trans ?_
    tm_at "sp"
  apply ss_ometh (x := S "@lex") (hp := hp0) (k := 79) (full := false) (γ := gaM a d b e buf z ln pos) (γ' := gaM a d b e buf k.st k.ln (buf.length - k.rest.length)) (r := resM k) hro (kok hC) (cls_shlex _) (hs := by rw [hC]; exact spec_rt w buf hb z hz ln pos hpos k hk) (hk := by omega) (hfull := fun h => nomatch h) (hnd := hnd) (hsm := .cons (.cons .nil)) (hkn := by simp; decide +kernel) (hfn := fn_at hC rfl (by kernel_rfl) (by kernel_rfl)) (hbase := rfl) (hline := rfl) (hfew := by decide) (ha := .nil)
  · tm_at "ev"
  · tm_at "sg"
  · tm_at "fn0"
  · kernel_rfl
  · kernel_rfl
  · intro p hp
    simp only [List.mem_cons, List.not_mem_nil, or_false] at hp
    rcases hp with rfl | rfl <;> tm_at "sg"
  · tm_at "stores"
  · tm_at "sp"
  apply ss_no
  · tm_at "evb"
  · rfl
  by_cases hr : k.q = false ∧ k.tok = []
  · rw [show resM k = .none by simp [resM, hr]]
    refine wpSs_cons (wpS_while (fun n σ => σ = [(S "self", .fz (.obj (.ref a))), (S "@lex", lexB a d b (stM k.st) k.ln []), (S "@in", inB b e buf ((buf.length - k.rest.length : Nat) : Int)), (S "raw", .fz .none)]) ?_ 0 rfl)
    rintro n σ rfl
    refine ⟨true, ?_, fun _ => ?_, fun h => nomatch h⟩
    · tm_at "evb"
    apply ss_if1
    · tm_at "evb"
    · intro _
      refine ss_ret (m := .none) ?_ ⟨rfl, gg _⟩
      tm_at "ev"
    · intro h; cases h
  · have hres : resM k = tx k.tok := by simp only [resM, if_neg hr]
    rw [hres]
    refine wpSs_cons (wpS_while (fun n σ => σ = [(S "self", .fz (.obj (.ref a))), (S "@lex", lexB a d b (stM k.st) k.ln []), (S "@in", inB b e buf ((buf.length - k.rest.length : Nat) : Int)), (S "raw", .fz (tx k.tok))]) ?_ 0 rfl)
    rintro n σ rfl
    refine ⟨false, ?_, (fun h => nomatch h), fun _ => wpSs_nil ?_⟩
    · tm_at "evb"
    apply ss_no
    · tm_at "evb"
    · rfl
    refine ss_ret (m := tx k.tok) ?_ ⟨rfl, gg _⟩
    tm_at "ev"
theorem spec_gt (w : World) {a d b e : Addr} (buf : List Nat) (hb : buf.length ≤ 1000000) (z : Option Nat) (hz : z = none ∨ z = some 32) (ln : Int) (pos : Nat) (hpos : pos ≤ buf.length) (k : Tk) (hk : rt (buf.drop pos) z 32 false [] ln = some k) :
    SpecO (G w) false 78 (.ref 683) [.obj (.ref a)] (gaM a d b e buf z ln pos) (resM k) (gaM a d b e buf k.st k.ln (buf.length - k.rest.length)) :=
  (codeO_of (γ := gaM a d b e buf z ln pos) (γ' := gaM a d b e buf k.st k.ln (buf.length - k.rest.length)) (def_gettok w) (by omega) rfl rfl (by intro p hp; simp only [List.mem_cons, List.not_mem_nil, or_false] at hp; rcases hp with rfl | rfl <;> kernel_rfl) (fun C hC hl _ L _ hro hnd => gt_body hC hro hl (by kernel_rfl) hnd buf hb z hz ln pos hpos k hk) (by intro p hp; simp only [List.mem_cons, List.not_mem_nil, or_false] at hp; rcases hp with rfl | rfl <;> kernel_rfl)).spec (def_gettok w) rfl
theorem gv_stop {C : Cx} {w : World} (hC : C.G = G w) : GV C (S "StopIteration") (.type "StopIteration") := gv_blt hC (by kernel_rfl) (by kernel_rfl)
theorem ga_mem {P : Str × Bd → Prop} {a d b e : Addr} {buf : List Nat} {z : Option Nat} {ln : Int} {pos : Nat} (h1 : P (S "@lex", lexB a d b (stM z) ln [])) (h2 : P (S "@in", inB b e buf pos)) : ∀ p ∈ gaM a d b e buf z ln pos, P p := by
  intro p hp
  simp only [List.mem_cons, List.not_mem_nil, or_false] at hp
  rcases hp with rfl | rfl
  · exact h1
  · exact h2
/-- the first statement of next -/
theorem next_first (hC : C.G = G w) (hro : C.ro = false) (hl : C.lvl ≤ 78) {env : Env} (hs : env.scope = fS (kid (st 19) 10)) {a d b e : Addr} (hnd : [a, d, b, e].Nodup) (buf : List Nat) (hb : buf.length ≤ 1000000) (z : Option Nat) (hz : z = none ∨ z = some 32) (ln : Int) (pos : Nat) (hpos : pos ≤ buf.length) (k : Tk) (hk : rt (buf.drop pos) z 32 false [] ln = some k) (Q : FM → St → Prop)
    (h : Q .next ([(S "self", .fz (.obj (.ref a))), (S "@lex", lexB a d b (stM k.st) k.ln []), (S "@in", inB b e buf ((buf.length - k.rest.length : Nat) : Int)), (S "token", .fz (resM k))])) :
    wpS C env ((fB (kid (st 19) 10)).head!) [(S "self", .fz (.obj (.ref a))), (S "@lex", lexB a d b (stM z) ln []), (S "@in", inB b e buf pos)] Q := by
  have hnm : env.scope.names = (fS (kid (st 19) 10)).names := by rw [hs]
  conv at hnm => rhs; whnf
  have hp0 : sputs [(S "self", .fz (.obj (.ref a))), (S "@lex", lexB a d b (stM z) ln []), (S "@in", inB b e buf pos)] (gaM a d b e buf k.st k.ln (buf.length - k.rest.length)) = [(S "self", .fz (.obj (.ref a))), (S "@lex", lexB a d b (stM k.st) k.ln []), (S "@in", inB b e buf ((buf.length - k.rest.length : Nat) : Int))] := by
    have e1 : sput [(S "self", .fz (.obj (.ref a))), (S "@lex", lexB a d b (stM z) ln []), (S "@in", inB b e buf pos)] (S "@lex") (lexB a d b (stM k.st) k.ln []) = [(S "self", .fz (.obj (.ref a))), (S "@lex", lexB a d b (stM k.st) k.ln []), (S "@in", inB b e buf pos)] := by tm_at "sp"
    show sput (sput _ _ _) _ _ = _
    refine (congrArg (fun s => sput s (S "@in") (inB b e buf ((buf.length - k.rest.length : Nat) : Int))) e1).trans ?_
    tm_at "sp"
  have hp1 : sput [(S "self", .fz (.obj (.ref a))), (S "@lex", lexB a d b (stM k.st) k.ln []), (S "@in", inB b e buf ((buf.length - k.rest.length : Nat) : Int))] (S "token") (.fz (resM k)) = [(S "self", .fz (.obj (.ref a))), (S "@lex", lexB a d b (stM k.st) k.ln []), (S "@in", inB b e buf ((buf.length - k.rest.length : Nat) : Int)), (S "token", .fz (resM k))] := by tm_at "sp"
  apply wpS_assign_ometh (x := S "@lex") (k := 78) (full := false) (γ := gaM a d b e buf z ln pos) (γ' := gaM a d b e buf k.st k.ln (buf.length - k.rest.length)) (r := resM k) hro (kok hC) (cls_shlex _) (hs := by rw [hC]; exact spec_gt w buf hb z hz ln pos hpos k hk) (hk := by omega) (hfull := fun h => nomatch h) (hnd := hnd) (hsm := .cons (.cons .nil)) (hkn := by simp; decide +kernel) (hfn := fn_at hC rfl (by kernel_rfl) (by kernel_rfl)) (hbase := rfl) (hline := rfl) (hfew := by decide) (ha := .nil)
  · tm_at "ev"
  · tm_at "sg"
  · tm_at "fn0"
  · kernel_rfl
  · kernel_rfl
  · exact ga_mem (by tm_at "sg") (by tm_at "sg")
  · tm_at "stores"
  · rw [hp0, show Str.ofString "token" = S "token" from rfl, hp1]; exact h
theorem next_body (hC : C.G = G w) (hro : C.ro = false) (hl : C.lvl ≤ 78) {env : Env} (hs : env.scope = fS (kid (st 19) 10)) {a d b e : Addr} (hnd : [a, d, b, e].Nodup) (buf : List Nat) (hb : buf.length ≤ 1000000) (z : Option Nat) (hz : z = none ∨ z = some 32) (ln : Int) (pos : Nat) (hpos : pos ≤ buf.length) (k : Tk) (hk : rt (buf.drop pos) z 32 false [] ln = some k) (hr : ¬ (k.q = false ∧ k.tok = [])) :
    wpSs C env (fB (kid (st 19) 10)) ([(S "self", .fz (.obj (.ref a)))] ++ gaM a d b e buf z ln pos) fun fm σ' => (match fm with | .ret r => r = tx k.tok | .next => tx k.tok = .none | _ => False) ∧ ∀ p ∈ gaM a d b e buf k.st k.ln (buf.length - k.rest.length), sget σ' p.1 = some p.2 := by
  have hnm : env.scope.names = (fS (kid (st 19) 10)).names := by rw [hs]
  conv at hnm => rhs; whnf
  have hres : resM k = tx k.tok := by simp only [resM, if_neg hr]
  refine wpSs_cons (next_first hC hro hl hs hnd buf hb z hz ln pos hpos k hk _ ?_)
  rw [hres]
  apply ss_no
  · tm_at "evb"
  · rfl
  refine ss_ret (m := tx k.tok) ?_ ⟨rfl, ga_mem (by tm_at "sg") (by tm_at "sg")⟩
  tm_at "ev"
theorem stop_body (hC : C.G = G w) (hro : C.ro = false) (hl : C.lvl ≤ 78) {env : Env} (hs : env.scope = fS (kid (st 19) 10)) {a d b e : Addr} (hnd : [a, d, b, e].Nodup) (buf : List Nat) (hb : buf.length ≤ 1000000) (z : Option Nat) (hz : z = none ∨ z = some 32) (ln : Int) (pos : Nat) (hpos : pos ≤ buf.length) (k : Tk) (hk : rt (buf.drop pos) z 32 false [] ln = some k) (hr : k.q = false ∧ k.tok = []) (hmB : C.mB = [a, d, b, e]) :
    wpX C env (fB (kid (st 19) 10)) ([(S "self", .fz (.obj (.ref a)))] ++ gaM a d b e buf z ln pos) "StopIteration" (gaM a d b e buf k.st k.ln (buf.length - k.rest.length)) := by
  have hnm : env.scope.names = (fS (kid (st 19) 10)).names := by rw [hs]
  conv at hnm => rhs; whnf
  have hres : resM k = .none := by simp [resM, hr]
  refine wpX_step (next_first hC hro hl hs hnd buf hb z hz ln pos hpos k hk _ ?_)
  rw [hres]
  refine wpX_if ?_ (wpX_stop (gv_stop hC) (by tm_at "kind") rfl (ga_mem (by tm_at "sg") (by tm_at "sg")) ?_)
  · tm_at "evb"
  · intro x hx
    rw [hmB] at hx
    simp only [List.mem_cons, List.not_mem_nil, or_false] at hx
    rcases hx with h | h | h | h
    · exact ⟨S "@lex", a, _, d, _, by tm_at "sg", .inl h⟩
    · exact ⟨S "@lex", a, _, d, _, by tm_at "sg", .inr h⟩
    · exact ⟨S "@in", b, _, e, _, by tm_at "sg", .inl h⟩
    · exact ⟨S "@in", b, _, e, _, by tm_at "sg", .inr h⟩
theorem spec_next (w : World) {a d b e : Addr} (buf : List Nat) (hb : buf.length ≤ 1000000) (z : Option Nat) (hz : z = none ∨ z = some 32) (ln : Int) (pos : Nat) (hpos : pos ≤ buf.length) (k : Tk) (hk : rt (buf.drop pos) z 32 false [] ln = some k) (hr : ¬ (k.q = false ∧ k.tok = [])) :
    SpecO (G w) false 77 (.ref 719) [.obj (.ref a)] (gaM a d b e buf z ln pos) (tx k.tok) (gaM a d b e buf k.st k.ln (buf.length - k.rest.length)) :=
  (codeO_of (γ := gaM a d b e buf z ln pos) (γ' := gaM a d b e buf k.st k.ln (buf.length - k.rest.length)) (def_next w) (by omega) rfl rfl (ga_mem (by kernel_rfl) (by kernel_rfl)) (fun C hC hl _ L _ hro hnd => next_body hC hro hl (by kernel_rfl) hnd buf hb z hz ln pos hpos k hk hr) (ga_mem (by kernel_rfl) (by kernel_rfl))).spec (def_next w) rfl
theorem spec_stop (w : World) {a d b e : Addr} (buf : List Nat) (hb : buf.length ≤ 1000000) (z : Option Nat) (hz : z = none ∨ z = some 32) (ln : Int) (pos : Nat) (hpos : pos ≤ buf.length) (k : Tk) (hk : rt (buf.drop pos) z 32 false [] ln = some k) (hr : k.q = false ∧ k.tok = []) :
    SpecX (G w) 77 (.ref 719) [.obj (.ref a)] (gaM a d b e buf z ln pos) "StopIteration" (gaM a d b e buf k.st k.ln (buf.length - k.rest.length)) :=
  specX_of (γ := gaM a d b e buf z ln pos) (γ' := gaM a d b e buf k.st k.ln (buf.length - k.rest.length)) (def_next w) (by omega) rfl rfl (ga_mem (by kernel_rfl) (by kernel_rfl)) rfl (fun C hC hl _ L hmB hro hnd => stop_body hC hro hl (by kernel_rfl) hnd buf hb z hz ln pos hpos k hk hr hmB) (ga_mem (by kernel_rfl) (by kernel_rfl))
theorem iter_body (hC : C.G = G w) {env : Env} (hs : env.scope = fS (kid (st 19) 9)) (a : Addr) :
    wpSs C env (fB (kid (st 19) 9)) [(S "self", .fz (.obj (.ref a)))] fun fm _ => match fm with | .ret r => r = .obj (.ref a) | .next => MV.obj (.ref a) = .none | _ => False := by
  have hnm : env.scope.names = (fS (kid (st 19) 9)).names := by rw [hs]
  conv at hnm => rhs; whnf
  refine ss_ret (m := .obj (.ref a)) ?_ rfl
  tm_at "ev"
theorem spec_iter (w : World) (a : Addr) {k : Nat} (hk : k + 1 ≤ 100) : Spec (G w) false k (.ref 712) [.obj (.ref a)] (.obj (.ref a)) :=
  spec_of (def_iter w) hk rfl fun C hC _ _ L => iter_body hC (by kernel_rfl) a
/-- the words that are read from a place on -/
inductive Lx (buf : List Nat) : Option Nat → Int → Nat → List (List Nat) → Prop
  | done {z ln pos k} : rt (buf.drop pos) z 32 false [] ln = some k → (k.q = false ∧ k.tok = []) → Lx buf z ln pos []
  | word {z ln pos k ws} : rt (buf.drop pos) z 32 false [] ln = some k → ¬ (k.q = false ∧ k.tok = []) → Lx buf k.st k.ln (buf.length - k.rest.length) ws → Lx buf z ln pos (k.tok :: ws)
theorem brk_st (c st esc : Nat) (q : Bool) (tok : List Nat) : (stp c st esc q tok).1 = true → (stp c st esc q tok).2.1 = 32 := by
  unfold stp
  repeat' split
  all_goals first | (intro _; rfl) | (intro h; cases h)
theorem rt_st : ∀ {l : List Nat} {z : Option Nat} {esc : Nat} {q : Bool} {tok : List Nat} {ln : Int} {k : Tk}, rt l z esc q tok ln = some k → k.st = none ∨ k.st = some 32
  | [], none, _, _, _, _, k, h => by rw [rt] at h; cases h; exact .inl rfl
  | [], some s, _, _, _, _, k, h => by
    rw [rt] at h
    split at h
    · cases h; exact .inl rfl
    · cases h
  | c :: r, none, _, _, _, _, k, h => by rw [rt] at h; cases h
  | c :: r, some s, esc, q, tok, ln, k, h => by
    rw [rt] at h
    split at h
    · rename_i st' e' q' tok' hs
      cases h
      refine .inr ?_
      show some st' = _
      have e := brk_st c s esc q tok
      rw [hs] at e
      exact congrArg some (e rfl)
    · exact rt_st h
theorem k_next (P : Params) : findIn (Kf P) (.ref 722) (S "__next__") = some (some (.ref 719)) ∧ typeIn (Kf P) (.ref 719) = some (.type "function") := ⟨by kernel_rfl, by kernel_rfl⟩
theorem k_iter (P : Params) : findIn (Kf P) (.ref 722) (S "__iter__") = some (some (.ref 712)) ∧ typeIn (Kf P) (.ref 712) = some (.type "function") := ⟨by kernel_rfl, by kernel_rfl⟩
theorem next_word (hC : C.G = G w) (hl : C.lvl ≤ 77) {s : Shared} {a d b e : Addr} {buf : List Nat} (hb : buf.length ≤ 1000000) {z : Option Nat} (hz : z = none ∨ z = some 32) {ln : Int} {pos : Nat} (hpos : pos ≤ buf.length) {k : Tk} (hk : rt (buf.drop pos) z 32 false [] ln = some k) (hr : ¬ (k.q = false ∧ k.tok = []))
    (hok : C.ok s.heap) (hfr : FramesIn C.n₀ s.heap C.fs) (hg : GOk C s.heap (gaM a d b e buf z ln pos)) :
    wpAny C.M C.A (pyNext (.ref a)) (fun r s' => KMs C.S [a, d, b, e] s s' ∧ GIn s'.heap (gaM a d b e buf k.st k.ln (buf.length - k.rest.length)) ∧ ∃ t, r = some (.str (mk k.tok) t)) F s := by
  have X := kok hC _ hok
  obtain ⟨sl, od, mA, I, _⟩ := (hg.gin (S "@lex") a 722 d _ List.mem_cons_self).look
  unfold pyNext
  refine wpAny_bind (wpAny_attempt (special_fn (name := "__next__") (args := []) X I (k_next _).1 (k_next _).2 (wpAny_mono (spec_next w buf hb z hz ln pos hpos k hk hr C hC hl (fun h => nomatch h) s [] [.ref a] hok hfr (fun _ h => nomatch h) ⟨_, [], rfl, rfl, rfl⟩ hg) (fun v s' hq => ?_) (fun _ _ h => h.elim))))
  obtain ⟨h1, h2, t, rfl⟩ := hq
  exact wpAny_pure ⟨h1, h2, t, rfl⟩
theorem next_stop (hC : C.G = G w) (hl : C.lvl ≤ 77) (hfull : C.Full) {s : Shared} {a d b e : Addr} {buf : List Nat} (hb : buf.length ≤ 1000000) {z : Option Nat} (hz : z = none ∨ z = some 32) {ln : Int} {pos : Nat} (hpos : pos ≤ buf.length) {k : Tk} (hk : rt (buf.drop pos) z 32 false [] ln = some k) (hr : k.q = false ∧ k.tok = [])
    (hok : C.ok s.heap) (hfr : FramesIn C.n₀ s.heap C.fs) (hg : GOk C s.heap (gaM a d b e buf z ln pos)) :
    wpAny C.M C.A (pyNext (.ref a)) (fun r s' => KMs C.S [a, d, b, e] s s' ∧ r = none) F s := by
  have X := kok hC _ hok
  obtain ⟨sl, od, mA, I, _⟩ := (hg.gin (S "@lex") a 722 d _ List.mem_cons_self).look
  unfold pyNext
  refine wpAny_bind (wpAny_attempt (special_fn (name := "__next__") (args := []) X I (k_next _).1 (k_next _).2 (wpAny_mono (spec_stop w buf hb z hz ln pos hpos k hk hr C hC hl hfull s [] [.ref a] hok hfr (fun _ h => nomatch h) ⟨_, [], rfl, rfl, rfl⟩ hg) (fun v s' hq => hq.elim) (fun v s' hq => ?_))))
  obtain ⟨h1, h2, e', o, rfl, he, hc⟩ := hq
  have hT : s'.TypeIs (.ref e') "StopIteration" := (show ∃ o, s'.heap.get? e' = some o ∧ o.cls = .type "StopIteration" from ⟨o, he, hc⟩)
  refine wpAny_bind (wpAny_isInstance hT owsi_facts.sub ?_)
  exact wpAny_pure ⟨h1, rfl⟩
inductive TxV : List (List Nat) → List Value → Prop
  | nil : TxV [] []
  | cons {l v ws vs} : (∃ t, v = Value.str (mk l) t) → TxV ws vs → TxV (l :: ws) (v :: vs)
theorem TxV.vins {h : Heap} {O : List Addr} : ∀ {ws : List (List Nat)} {vs : List Value}, TxV ws vs → VIns h O (ws.map tx) vs
  | _, _, .nil => rfl
  | _, _, .cons h r => ⟨_, _, rfl, h, TxV.vins r⟩
theorem GIn.seqs {S B : List Addr} {h h' : Heap} (hB : ∀ b ∈ B, ∃ o xs n, h.get? b = some o ∧ o.data = .seq xs n) (km : KM S B h h') {γ : St} (g : GIn h γ) : GIn h' γ := fun x a Ca d fs hm => by
  obtain ⟨⟨sl, ea⟩, hne, mA, ⟨od, es, ep, ed, dd, rr⟩, hF⟩ := g x a Ca d fs hm
  have ha : a ∉ B := fun q => by obtain ⟨o, xs, n, e1, d1⟩ := hB a q; rw [ea] at e1; cases e1; cases d1
  have hd' : d ∉ B := fun q => by obtain ⟨o, xs, n, e1, d1⟩ := hB d q; rw [ed] at e1; cases e1; rw [dd] at d1; cases d1
  obtain ⟨_, oa, ea', x1, x2, x3⟩ := km a _ ea ha
  obtain ⟨_, od', ed', y1, _⟩ := km d _ ed hd'
  refine ⟨⟨oa.slots, ?_⟩, hne, mA, ⟨od', es, ep, ed', y1.trans dd, rr⟩, hF.to fun p dq => ?_⟩
  · obtain ⟨c1, c2, c3, c4⟩ := oa
    cases x1; cases x2; cases x3
    exact ea'
  · obtain ⟨o, n, t, e1, c1, d1⟩ := dq
    have hp : p ∉ B := fun q => by obtain ⟨o', xs, n', e2, d2⟩ := hB p q; rw [e1] at e2; cases e2; rw [d1] at d2; cases d2
    obtain ⟨_, o', e', z1, z2, _⟩ := km p o e1 hp
    exact ⟨o', n, t, e', z2.trans c1, z1.trans d1⟩
theorem FramesIn.km {n₀ : Nat} {h h' : Heap} {fs : List Env} {S B : List Addr} (x : FramesIn n₀ h fs) (hB : ∀ e ∈ fs, ∀ L, e.frame = some L → L ∉ B) (k : KM S B h h') : FramesIn n₀ h' fs := fun e he => by
  obtain ⟨a, L, o, hf, hn, ho, es, ep, hd⟩ := x e he
  obtain ⟨_, o', e', d1, _⟩ := k L o ho (hB e he L hf)
  exact ⟨a, L, o', hf, hn, e', es, ep, d1.trans hd⟩
theorem KM.mono {S B B' : List Addr} {h h' : Heap} (x : KM S B h h') (hb : ∀ b ∈ B, b ∈ B') : KM S B' h h' := fun b o e hB => x b o e fun q => hB (hb b q)
theorem KM.upd {S : List Addr} {h : Heap} {L : Addr} (f : Obj → Obj) : KM S [L] h (h.update L f) := fun b o e hB => by
  have : L ≠ b := fun q => hB (by simp [q])
  exact ⟨fun _ => (Heap.get?_update_other _ _ this).trans e, o, (Heap.get?_update_other _ _ this).trans e, rfl, rfl, rfl⟩
theorem gin_off {h : Heap} {γ : St} (hg : GIn h γ) {L : Addr} {o : Obj} {xs : Array Value} {n : Nat} (e : h.get? L = some o) (hd : o.data = .seq xs n) : L ∉ instA γ := fun q => by
  obtain ⟨y, a', Cl, d', fs, hm, w⟩ := instA_of q
  obtain ⟨⟨sl, ea⟩, _, mA, ⟨od, es, ep, ed, dd, _⟩, _⟩ := hg y a' Cl d' fs hm
  rcases w with rfl | rfl
  · rw [ea] at e; cases e; cases hd
  · rw [ed] at e; cases e; rw [dd] at hd; cases hd
theorem S_off {C : Cx} {h : Heap} (hfr : FramesIn C.n₀ h C.fs) {L : Addr} {o : Obj} {xs : Array Value} {n : Nat} (e : h.get? L = some o) (hd : o.data = .seq xs n) : L ∉ C.S := fun q => by
  obtain ⟨ev, hm, hf⟩ := C.hS L q
  obtain ⟨_, L', o', hf', _, ho', es, ep, hd'⟩ := hfr ev hm
  rw [hf] at hf'; cases hf'; rw [e] at ho'; cases ho'; rw [hd] at hd'; cases hd'
theorem low_S (C : Cx) {h : Heap} (hfr : FramesIn C.n₀ h C.fs) {b : Addr} (hb : b < C.n₀) : b ∉ C.S := fun hs => by
  obtain ⟨ev, hm, hf⟩ := C.hS b hs
  obtain ⟨_, L, o', hf', hn, _⟩ := hfr ev hm
  rw [hf] at hf'; cases hf'
  exact absurd hb (Nat.not_lt.mpr hn)
theorem ext_loop (hC : C.G = G w) (hl : C.lvl ≤ 76) (hfull : C.Full) {a d b e : Addr} (hnd : [a, d, b, e].Nodup) {buf : List Nat} (hb : buf.length ≤ 1000000) {L : Addr} (hLn : C.n₀ ≤ L) {R : Result → Shared → Prop} : ∀ {z ln pos ws}, Lx buf z ln pos ws → (z = none ∨ z = some 32) → pos ≤ buf.length → ∀ (s : Shared) (acc : Array Value) (c : Nat),
    acc.size + ws.length ≤ 10000000 → C.ok s.heap → FramesIn C.n₀ s.heap C.fs → GOk C s.heap (gaM a d b e buf z ln pos) → s.heap.get? L = some { cls := .type "list", dict := none, data := .seq acc c, slots := #[] } →
    (∀ s' vs c', KMs C.S [L, a, d, b, e] s s' → TxV ws vs → s'.heap.get? L = some { cls := .type "list", dict := none, data := .seq (acc ++ vs.toArray) c', slots := #[] } → R (.ok (.ret .none)) s') →
    codeAny C.M C.A (.builtin "list.extend.loop" ⟨[.ref L, .ref a, .none], []⟩) R s := by
  intro z ln pos ws hL
  have hl1 : C.lvl + 1 ≤ 100 := by lia
  induction hL with
  | @done z ln pos k hk hr =>
    intro hz hpos s acc c hsz hok hfr hg hS hR
    refine codeAny_builtin PySem.F.entry_extend_loop ?_
    rw [Around.under_plainId PySem.F.plain_extend_loop _]
    show wpAny _ C.A.in1 (pyNext (.ref a) >>= _) _ _ s
    refine wpAny_bind (wpAny_mono (next_stop (C := C.up hl1) hC (by show C.lvl + 1 ≤ 77; lia) hfull hb hz hpos hk hr hok hfr ⟨hg.gin, hg.apart, hg.nodup⟩) (fun r s' h => ?_) fun _ _ h => h.elim)
    obtain ⟨⟨h', tk, rfl, km⟩, rfl⟩ := h
    refine wpAny_pure (hR _ [] c ⟨h', tk, rfl, km.mono (fun b hb => List.mem_cons_of_mem _ hb)⟩ .nil ?_)
    have hnB : L ∉ [a, d, b, e] := gin_off hg.gin hS rfl
    have hnS : L ∉ C.S := S_off hfr hS rfl
    have := (km L _ hS hnB).1 hnS
    simpa using this
  | @word z ln pos k ws hk hr hL ih =>
    intro hz hpos s acc c hsz hok hfr hg hS hR
    refine codeAny_builtin PySem.F.entry_extend_loop ?_
    rw [Around.under_plainId PySem.F.plain_extend_loop _]
    show wpAny _ C.A.in1 (pyNext (.ref a) >>= _) _ _ s
    refine wpAny_bind (wpAny_mono (next_word (C := C.up hl1) hC (by show C.lvl + 1 ≤ 77; lia) hb hz hpos hk hr hok hfr ⟨hg.gin, hg.apart, hg.nodup⟩) (fun r s' h => ?_) fun _ _ h => h.elim)
    obtain ⟨⟨h', tk, rfl, km⟩, g', t, rfl⟩ := h
    have hnB : L ∉ [a, d, b, e] := gin_off hg.gin hS rfl
    have hnS : L ∉ C.S := S_off hfr hS rfl
    have hS' : h'.get? L = some { cls := .type "list", dict := none, data := .seq acc c, slots := #[] } := (km L _ hS hnB).1 hnS
    have hfr' : FramesIn C.n₀ h' C.fs := hfr.km (fun ev hev L' hf q => (hg.apart L' q).2 ev hev hf) km
    have hok' : C.ok h' := C.mono _ _ (fun b o hb eb => (km b o eb fun q => absurd hb (Nat.not_lt.mpr (hg.apart b q).1)).1 (low_S C hfr hb)) hok
    show wpAny _ C.A.in1 (updateSeq L (·.push (.str (mk k.tok) t)) >>= _) _ _ _
    refine wpAny_bind (wpAny_updateSeq hS' rfl (wpAny_pure ⟨plainId_quiet PySem.F.plain_extend_loop _, ?_⟩) ?_ ?_)
    · have ku : KM C.S [L] h' (h'.update L (Obj.mapSeq (·.push (.str (mk k.tok) t)))) := KM.upd _
      have hLseq : ∀ b ∈ [L], ∃ o xs n, h'.get? b = some o ∧ o.data = .seq xs n := fun b hb => by
        rw [List.mem_singleton.mp hb]; exact ⟨_, _, _, hS', rfl⟩
      have hLfr : ∀ ev ∈ C.fs, ∀ L', ev.frame = some L' → L' ∉ [L] := fun ev hev L' hf q => by
        rw [List.mem_singleton.mp q] at hf
        exact hnS (hfull ev hev L hf)
      refine ih (rt_st hk) (Nat.sub_le _ _) _ (acc.push (.str (mk k.tok) t)) _ (by simp at hsz ⊢; lia) (C.mono _ _ (fun b o hb eb => (ku b o eb (by simp; rintro rfl; exact absurd hb (Nat.not_lt.mpr hLn))).1 (low_S C hfr' hb)) hok') (hfr'.km hLfr ku) ⟨g'.seqs hLseq ku, hg.apart, hg.nodup⟩ (Heap.get?_update_self _ hS' rfl) fun s'' vs c' km'' htx hS'' => ?_
      obtain ⟨h'', tk'', rfl, km''⟩ := km''
      refine hR _ (.str (mk k.tok) t :: vs) c' ⟨h'', tk'', rfl, (km.mono (fun b hb => List.mem_cons_of_mem _ hb)).trans ((ku.mono (fun b hb => by rw [List.mem_singleton.mp hb]; exact List.mem_cons_self)).trans km'')⟩ (.cons ⟨t, rfl⟩ htx) ?_
      rw [hS'']
      simp
    · simp at hsz; rw [sizeLine_eq]; lia
    · show (acc.push _).size ≤ sizeLine + 1
      simp at hsz; rw [Array.size_push, sizeLine_eq]; lia
theorem k_nolen (P : Params) : findIn (Kf P) (.ref 722) (S "__len__") = some none ∧ findIn (Kf P) (.ref 722) (S "__length_hint__") = some none := ⟨by kernel_rfl, by kernel_rfl⟩
/-- iter of an object whose own method gives itself back -/
theorem iter_ {K : Frag} {a Cl f g : Addr} {ox : Obj} {od : Option Obj} {s : Shared} {Q : Value → Shared → Prop} (X : K.In s.heap) (I : InstAt s.heap a ox Cl od) (hs : findIn K (.ref Cl) "__iter__" = some (some (.ref f))) (hf : typeIn K (.ref f) = some (.type "function")) (hn : findIn K (.ref Cl) "__next__" = some (some (.ref g)))
    (hI : ∀ s', KSs [] s s' → K.In s'.heap ∧ InstAt s'.heap a ox Cl od)
    (h : wpAny C.M C.A (call (.ref f) [.ref a]) (fun v s' => v = .ref a ∧ KSs [] s s' ∧ Q (.ref a) s') F s) : wpAny C.M C.A (pyIter (.ref a)) Q F s := by
  have fin : wpAny C.M C.A (call (.ref f) [.ref a] >>= fun v => pure (some v)) (fun r s' => r = some (.ref a) ∧ KSs [] s s' ∧ Q (.ref a) s') F s :=
    wpAny_bind (wpAny_mono h (fun v s' q => wpAny_pure ⟨by rw [q.1], q.2⟩) fun _ _ z => z)
  have one : ∀ refuse : Sem Value, wpAny C.M C.A (callSpecialIfBoundUnlessNone? (.ref a) "__iter__" refuse) (fun r s' => r = some (.ref a) ∧ KSs [] s s' ∧ Q (.ref a) s') F s := by
    intro refuse
    simp only [callSpecialIfBoundUnlessNone?, bindSpecialIfBound?]
    refine wpAny_holding (wpAny_bind (wpAny_bind (wpAny_bind (I.type.here ((looks_findIn X hs).here ?_)))))
    refine wpAny_bind (wpAny_askSetting (wpAny_ite ?_))
    have fin2 : wpAny C.M C.A (if (Value.ref f == Value.none) = true then (refuse >>= fun v => pure (some v)) else (call (.ref f) [.ref a] >>= fun v => pure (some v))) (fun r s' => r = some (.ref a) ∧ KSs [] s s' ∧ Q (.ref a) s') F s := by
      rw [if_neg (show ¬ ((Value.ref f == Value.none) = true) from Bool.false_ne_true)]
      exact fin
    split
    · exact wpAny_bind ((bind_fn X _ hf).here (wpAny_pure (by exact fin2)))
    · exact wpAny_tryCatch (wpAny_bind ((bind_fn X _ hf).here (wpAny_pure (by exact fin2))))
  unfold pyIter
  refine wpAny_bind (wpAny_bind (I.type.here ((looks_findIn X hs).here ?_)))
  show wpAny C.M C.A (callSpecialIfBoundUnlessNone? (.ref a) "__iter__" _ >>= _) Q F s
  refine wpAny_bind (wpAny_mono (one _) (fun r s' hr => ?_) fun _ _ z => z)
  obtain ⟨rfl, k, q⟩ := hr
  obtain ⟨X', I'⟩ := hI s' k
  exact wpAny_bind (wpAny_bind (I'.type.here ((looks_findIn X' hn).here (wpAny_pure q))))
theorem GOk.keep {h h' : Heap} {γ : St} (k : ∀ b o, h.get? b = some o → h'.get? b = some o) (g : GOk C h γ) : GOk C h' γ := ⟨fun x a Ca d fs hm => (g.gin x a Ca d fs hm).ks (S := []) (.of_keep k), g.apart, g.nodup⟩
theorem list_lex (hC : C.G = G w) (hl : C.lvl ≤ 74) (hfull : C.Full) {a d b e : Addr} {buf : List Nat} (hb : buf.length ≤ 1000000) {z ln pos ws} (hL : Lx buf z ln pos ws) (hz : z = none ∨ z = some 32) (hpos : pos ≤ buf.length) (hws : ws.length ≤ 1000000)
    {s : Shared} (hok : C.ok s.heap) (hfr : FramesIn C.n₀ s.heap C.fs) (hg : GOk C s.heap (gaM a d b e buf z ln pos)) :
    wpAny C.M C.A (call (.type "list") [.ref a]) (fun v s' => KMs C.S [a, d, b, e] s s' ∧ ∃ L vs c, v = .ref L ∧ s.heap.get? L = none ∧ s'.heap.get? L = some { cls := .type "list", dict := none, data := .seq vs c, slots := #[] } ∧ TxV ws vs.toList) F s := by
  have hl1 : C.lvl + 1 ≤ 100 := by lia
  have hl2 : (C.up hl1).lvl + 1 ≤ 100 := by show C.lvl + 1 + 1 ≤ 100; lia
  refine callType_codes (Q₁ := fun obj s₁ => obj = .ref s.heap.objs.size ∧ s₁ = { s with heap := s.heap.push { cls := .type "list", data := .seq #[] } }) PySem.F.called_list (PySem.F.typeCall_list_1 _) PySem.F.entry_list_init
    (code_list_new _ ⟨rfl, rfl⟩) fun obj s₁ h₁ => ?_
  obtain ⟨rfl, rfl⟩ := h₁
  have hS : (s.heap.push { cls := .type "list", data := .seq #[] }).get? s.heap.objs.size = some { cls := .type "list", data := .seq #[] } := Heap.get?_push_size _ rfl
  refine ⟨⟨_, hS, rfl⟩, PySem.F.args_list_init_2 _ _, ?_⟩
  generalize hLe : s.heap.objs.size = L at hS ⊢
  have hLnone : s.heap.get? L = none := by rw [← hLe]; exact Heap.get?_none_of_le (Nat.le_refl _)
  have hLn : C.n₀ ≤ L := by rw [← hLe]; exact C.G.low _ hok
  have hk0 : ∀ b o, s.heap.get? b = some o → (s.heap.push { cls := .type "list", data := .seq #[] }).get? b = some o := fun b o eb => Heap.get?_push_of_some _ eb
  show wpAny _ C.A.in1.in1 (do let old ← Builtin.List.listItems (.ref L); Builtin.List.listUpdate (.ref L) (fun _ => #[]); letGo old.toList.reverse; Builtin.List.listExtendWith (.ref L) (.ref a) .none) _ _ _
  refine wpAny_bind ?_
  unfold Builtin.List.listItems
  refine wpAny_bind (wpAny_seqItems hS rfl (wpAny_pure ?_))
  show wpAny _ C.A.in1.in1 (updateSeq L (fun _ => #[]) >>= fun _ => letGo (#[] : Array Value).toList.reverse >>= fun _ => Builtin.List.listExtendWith (.ref L) (.ref a) .none) _ _ _
  refine wpAny_bind (wpAny_updateSeq hS rfl ?_)
  have hS₂ := Heap.get?_update_self (Obj.mapSeq (fun _ => (#[] : Array Value))) hS rfl
  have oth : ∀ b o, s.heap.get? b = some o → ((s.heap.push { cls := .type "list", data := .seq #[] }).update L (Obj.mapSeq (fun _ => (#[] : Array Value)))).get? b = some o := fun b o eb =>
    (Heap.get?_update_other _ _ (fun q => by subst q; rw [hLnone] at eb; cases eb)).trans (hk0 b o eb)
  generalize hH : ((s.heap.push { cls := .type "list", data := .seq #[] }).update L (Obj.mapSeq (fun _ => (#[] : Array Value)))) = H at hS₂ oth ⊢
  refine wpAny_bind (wpAny_letGo ?_)
  unfold Builtin.List.listExtendWith
  have hok2 : C.ok H := C.mono _ _ (fun b o _ eb => oth b o eb) hok
  have hfr2 : FramesIn C.n₀ H C.fs := hfr.ks (S := []) (.of_keep oth)
  have hg2 : GOk C H (gaM a d b e buf z ln pos) := hg.keep oth
  have X := kok hC _ hok2
  obtain ⟨sl, od, mA, I, _⟩ := (hg2.gin (S "@lex") a 722 d _ List.mem_cons_self).look
  have hLa : L ≠ a := fun q => by
    obtain ⟨⟨sl', ea⟩, _⟩ := hg.gin (S "@lex") a 722 d _ List.mem_cons_self
    rw [q] at hLnone; rw [hLnone] at ea; cases ea
  refine wpAny_bind (I.type.here ?_)
  have h1 : Builtin.List.listSameRef (.ref L) (.ref a) = false := by simp [Builtin.List.listSameRef, hLa]
  have h2 : (Value.ref 722 == Value.type "list") = false := by decide
  have h3 : (Value.ref 722 == Value.type "tuple") = false := by decide
  simp only [h1, h2, h3, Bool.or_false, Bool.false_eq_true, if_false]
  refine wpAny_bind (iter_ (C := (C.up hl1).up hl2) X I (k_iter _).1 (k_iter _).2 (k_next _).1 (fun s' k => ⟨X.keeps k.ks.keep, ⟨k.ks.keep _ _ I.at_, I.cls, I.no, k.ks.keep _ _ I.dict⟩⟩) ?_)
  refine wpAny_mono (spec_iter w a (k := 90) (by lia) ((C.up hl1).up hl2).str hC (by show C.lvl + 1 + 1 ≤ 90; lia) (fun h => nomatch h) _ [] [.ref a] hok2 hfr2 (fun _ h => nomatch h) ⟨_, [], rfl, rfl, rfl⟩) (fun v s' hv => ⟨hv.2, hv.1, ?_⟩) fun _ _ h => h
  obtain ⟨⟨H3, tk3, rfl, k3⟩, _⟩ := hv
  have k3 := KS.keep k3
  have hS₃ := k3 _ _ hS₂
  have hok3 : C.ok H3 := C.mono _ _ (fun b o _ eb => k3 b o eb) hok2
  have hfr3 : FramesIn C.n₀ H3 C.fs := hfr2.ks (S := []) (.of_keep k3)
  have hg3 : GOk C H3 (gaM a d b e buf z ln pos) := hg2.keep k3
  have X3 := kok hC _ hok3
  obtain ⟨sl3, od3, mA3, I3, _⟩ := (hg3.gin (S "@lex") a 722 d _ List.mem_cons_self).look
  refine wpAny_bind (wpAny_holding ?_)
  unfold Builtin.List.listLengthHint
  refine wpAny_bind (wpAny_bind (I3.type.here ((looks_findIn X3 (k_nolen _).1).here ?_)))
  show wpAny _ C.A.in1.in1 (specialOf (Value.ref a) (Str.ofString "__length_hint__") >>= _) _ _ _
  refine wpAny_bind (wpAny_bind (I3.type.here ((looks_findIn X3 (k_nolen _).2).here ?_)))
  refine wpAny_pure ?_
  show wpAny _ C.A.in1.in1 (rule "list.extend.makes-room" >>= fun _ => Builtin.List.listTouch (.ref L) >>= fun _ =>
    again (.builtin "list.extend.loop" ⟨[.ref L, .ref a, .none], []⟩)) _ _ _
  refine wpAny_bind (wpAny_rule ?_)
  refine wpAny_bind ?_
  show wpAny _ C.A.in1.in1 (updateSeq L (·.push .none) >>= fun _ => updateSeq L (·.pop)) _ _ _
  refine wpAny_bind (wpAny_updateSeq hS₃ rfl ?_)
  have hS₄ := Heap.get?_update_self (Obj.mapSeq (·.push Value.none)) hS₃ rfl
  refine wpAny_updateSeq (hz := by seq_fits) hS₄ rfl ?_
  have hS₅ := Heap.get?_update_self (Obj.mapSeq (·.pop)) hS₄ rfl
  have oth4 : ∀ b o, s.heap.get? b = some o → ((H3.update L (Obj.mapSeq (·.push Value.none))).update L (Obj.mapSeq (·.pop))).get? b = some o := fun b o eb => by
    have hbL : L ≠ b := fun q => by subst q; rw [hLnone] at eb; cases eb
    exact (Heap.get?_update_other _ _ hbL).trans ((Heap.get?_update_other _ _ hbL).trans (k3 b o (oth b o eb)))
  generalize hH5 : ((H3.update L (Obj.mapSeq (·.push Value.none))).update L (Obj.mapSeq (·.pop))) = H5 at hS₅ oth4 ⊢
  refine wpAny_pure ⟨plainId_quiet PySem.F.plain_extend_loop _, ?_⟩
  refine ext_loop (C := C.up hl1) hC (by show C.lvl + 1 ≤ 76; lia) hfull hg.nodup hb hLn hL hz hpos _ #[] _ (by simp; lia) (C.mono _ _ (fun b o _ eb => oth4 b o eb) hok) (hfr.ks (S := []) (.of_keep oth4)) ⟨(hg.keep oth4).gin, hg.apart, hg.nodup⟩ hS₅ fun s' vs c' km htx hS' => ?_
  obtain ⟨h', tk', rfl, km⟩ := km
  refine ⟨rfl, ⟨h', tk', rfl, fun b o eb hB => ?_⟩, L, _, c', rfl, hLnone, hS', by simpa using htx⟩
  have hbL : b ≠ L := fun q => by subst q; rw [hLnone] at eb; cases eb
  exact km b o (oth4 b o eb) (by simp only [List.mem_cons, not_or] at hB ⊢; exact ⟨hbL, hB⟩)
theorem gv_str {C : Cx} {w : World} (hC : C.G = G w) : GV C (S "str") (.type "str") := gv_blt hC (by kernel_rfl) (by kernel_rfl)
local macro_rules | `(tactic| tm_at "typ") => altS "ggv_str"
theorem def_transl (w : World) : IsDef (G w) 364 (fdAt w.params 364) (fB (kid (st 10) 2)) [S "self", S "s"] := by
  refine def_of w 364 363 [S "self", S "s"] (kid (st 10) 2) rfl ?_ ?_ rfl ?_ ?_ ?_ ?_ ?_ ?_ ?_ ?_ ?_ ?_ ?_ (by decide +kernel) ?bb ?kk
  case bb =>
    intro vs hv
    obtain ⟨a0, a1, rfl⟩ := len2 hv
    kernel_rfl
  case kk =>
    intro x hx
    simp only [List.mem_cons, List.not_mem_nil, or_false] at hx
    rcases hx with rfl | rfl <;> exact .inl (by kernel_rfl)
  all_goals kernel_rfl
theorem def_sinit (w : World) : IsDef (G w) 357 (fdAt w.params 357) (fB (kid (st 10) 1)) [S "self", S "initial_value", S "newline"] := by
  refine def_ofL w 357 356 [S "self", S "initial_value", S "newline"] (kid (st 10) 1) rfl ?_ ?_ rfl ?_ ?_ ?_ ?_ ?_ ?_ ?_ ?_ ?_ ?_ ?_ (by decide +kernel) ?bb ?kk
  case bb =>
    intro M h B vs hv
    obtain ⟨a0, a1, a2, rfl⟩ := len3 hv
    exact Looks.of_peek (k_in B) (by kernel_rfl)
  case kk =>
    intro x hx
    simp only [List.mem_cons, List.not_mem_nil, or_false] at hx
    rcases hx with rfl | rfl | rfl <;> exact .inl (by kernel_rfl)
  all_goals kernel_rfl
theorem transl_body (hC : C.G = G w) {env : Env} (hs : env.scope = fS (kid (st 10) 2)) (b e : Addr) (fs : List (Str × MV)) (l : List Nat) :
    wpSs C env (fB (kid (st 10) 2)) [(S "self", .fz (.obj (.ref b))), (S "s", .fz (tx l)), (S "@in", .inst b 587 e ((S "_StringIO__newline", tx [10]) :: fs))] fun fm _ => match fm with | .ret r => r = tx l | .next => tx l = .none | _ => False := by
  have hnm : env.scope.names = (fS (kid (st 10) 2)).names := by rw [hs]
  conv at hnm => rhs; whnf
  tm_at "set"
  apply ss_no
  · tm_at "evb"
  · rfl
  apply ss_no
  · tm_at "evb"
  · rfl
  refine ss_ret (m := tx l) ?_ rfl
  tm_at "ev"
theorem spec_transl (w : World) (b e : Addr) (fs : List (Str × MV)) (l : List Nat) {k : Nat} (hk : k + 1 ≤ 100) : SpecR (G w) false k (.ref 364) [.obj (.ref b), tx l] [(S "@in", .inst b 587 e ((S "_StringIO__newline", tx [10]) :: fs))] (tx l) :=
  specR_of (def_transl w) hk rfl rfl (by intro p hp; rw [List.mem_singleton.mp hp]; kernel_rfl) fun C hC _ _ L _ => transl_body hC (by kernel_rfl) b e fs l
theorem sinit_body (hC : C.G = G w) (hro : C.ro = false) (hl : C.lvl ≤ 90) {env : Env} (hs : env.scope = fS (kid (st 10) 1)) (b e : Addr) (hnd : [b, e].Nodup) (l : List Nat) :
    wpSs C env (fB (kid (st 10) 1)) [(S "self", .fz (.obj (.ref b))), (S "initial_value", .fz (tx l)), (S "newline", .fz (tx [10])), (S "@in", .inst b 587 e [])] fun fm σ' => (match fm with | .ret m => m = MV.none | .next => MV.none = .none | _ => False) ∧ ∀ p ∈ [(S "@in", inB b e l 0)], sget σ' p.1 = some p.2 := by
  have hnm : env.scope.names = (fS (kid (st 10) 1)).names := by rw [hs]
  conv at hnm => rhs; whnf
  apply ss_no
  · tm_at "evb"
  · rfl
  apply ss_no
  · tm_at "evb"
  · rfl
  apply ss_no
  · tm_at "evb"
  · rfl
  tm_at "self"
  tm_at "self"
  tm_at "self"
  apply ss_if1
  · tm_at "evb"
  rotate_left
  · intro h; cases h
  intro _
  apply ss_setattr (x := S "@in") (hs := rfl) hro (kok hC) (cls_sio _)
  · apply ev_imeth (x := S "@in") (k := 95) (full := false) (γ := [(S "@in", .inst b 587 e [(S "_StringIO__newline", tx [10]), (S "_StringIO__buf", tx []), (S "_StringIO__pos", .int 0)])]) (hK := kok hC) (hC := cls_sio _) (hs := by rw [hC]; exact spec_transl w b e _ l (by omega)) (hk := by omega) (hfull := fun h => nomatch h) (hfn := fn_at hC rfl (by kernel_rfl) (by kernel_rfl)) (hbase := rfl) (hline := rfl) (hfew := by decide)
    · tm_at "ev"
    · tm_at "sg"
    · tm_at "fn0"
    · kernel_rfl
    · kernel_rfl
    · tm_at "evs"
    · intro p hp; rw [List.mem_singleton.mp hp]; tm_at "sg"
    · exact hnd
  · tm_at "ev"
  · tm_at "sg"
  · kernel_rfl
  · rfl
  · rfl
  · tm_at "fp"
  · tm_at "sp"
  refine wpSs_nil ⟨rfl, ?_⟩
  intro p hp; rw [List.mem_singleton.mp hp]; tm_at "sg"
theorem code_sinit (w : World) (b e : Addr) (l : List Nat) : CodeO (G w) false 89 357 (fdAt w.params 357) [S "self", S "initial_value", S "newline"] [.obj (.ref b), tx l, tx [10]] [(S "@in", .inst b 587 e [])] .none [(S "@in", inB b e l 0)] :=
  codeO_of (γ := [(S "@in", .inst b 587 e [])]) (γ' := [(S "@in", inB b e l 0)]) (def_sinit w) (by omega) rfl rfl (by intro p hp; rw [List.mem_singleton.mp hp]; kernel_rfl) (fun C hC hl _ L _ hro hnd => sinit_body hC hro hl (by kernel_rfl) b e hnd l) (by intro p hp; rw [List.mem_singleton.mp hp]; kernel_rfl)
theorem gv_bytesio {C : Cx} {w : World} (hC : C.G = G w) : GV C (S "BytesIO") (.ref 340) := gv_glob hC (by kernel_rfl)
theorem gv_sio {C : Cx} {w : World} (hC : C.G = G w) : GV C (S "StringIO") (.ref 587) := gv_glob hC (by kernel_rfl)
theorem gv_object {C : Cx} {w : World} (hC : C.G = G w) : GV C (S "object") (.type "object") := gv_blt hC (by kernel_rfl) (by kernel_rfl)
theorem isnot_ref_self {C : Cx} {a : Addr} : Cmp C .IsNot (.obj (.ref a)) (.obj (.ref a)) false := fun s O va vb _ ha hb => by
  cases ha; cases hb
  exact wpAny_isNot_ref_self ⟨.refl s, rfl⟩
theorem evB_isnot_refs {C : Cx} {env : Env} {σ : St} {l r : Expr} {p : Pos} {a b : Addr} (hl : Ev C env σ l (.obj (.ref a))) (hr : Ev C env σ r (.obj (.ref b))) (hab : a ≠ b) (hx : ∀ h, C.ok h → ∃ ox oy, h.get? a = some ox ∧ h.get? b = some oy ∧ ox.cls ≠ .type "tuple") (hm : behindInMarks .IsNot r = false) : EvB C env σ (.Compare l [.IsNot] [r] p) true := fun s R => by
  refine wpAny_isTrue_Compare1 (wpAny_mono (hl s R) (fun va s₁ h₁ => ?_) fun _ _ h => h) hm
  obtain ⟨k₁, rfl⟩ := h₁
  have R₁ := R.ks k₁.ks
  refine wpAny_mono (hr s₁ R₁) (fun vb s₂ h₂ => ?_) fun _ _ h => h
  obtain ⟨k₂, rfl⟩ := h₂
  have R₂ := R₁.ks k₂.ks
  obtain ⟨ox, oy, e1, e2, e3⟩ := hx _ R₂.base
  exact wpAny_isNot_ref_other hab e1 e2 e3 (wpAny_truthy_bool ⟨k₁.trans k₂, rfl⟩)
local macro_rules | `(tactic| tm_at "cmp") => altS "risnot_ref_self"
local macro_rules | `(tactic| tm_at "typ") => altS "ggv_bytesio | ggv_sio | ggv_object"
theorem def_new (w : World) : IsDef0 (G w) 80 (fdAt w.params 80) (fB (kid (st 6) 1)) [S "cls", S "args", S "kwargs"] where
  at_ := fun h B => ⟨_, at_ B 80 rfl (by kernel_rfl), by kernel_rfl⟩
  code := fun h B => by
    have hc : (fdAt w.params 80).code = .ref 79 := by kernel_rfl
    rw [hc]
    exact code_at B (t := tokOf (vsOf (objAt w.params 79))[1]?) (vs := vsOf (objAt w.params 79)) rfl (by kernel_rfl) (by kernel_rfl) (by kernel_rfl)
  body := by kernel_rfl
  clo := by kernel_rfl
  co := by kernel_rfl
  gen := by kernel_rfl
  kind := by kernel_rfl
  glob := ⟨by kernel_rfl, by kernel_rfl⟩
  nodup := by decide +kernel
  kinds := by
    intro x hx
    simp only [List.mem_cons, List.not_mem_nil, or_false] at hx
    rcases hx with rfl | rfl | rfl <;> exact .inl (by kernel_rfl)
theorem new_ok {P : Params} {h : Heap} (B : BaseOk P h) {M : Model} (hM : M.prog = PySem.Challenge.pw_ny0304_04) (hP : M.w.params = P) : NewOk M h 587 := by
  refine ⟨⟨_, _, _, _, at_ B 587 rfl (by kernel_rfl), by kernel_rfl, by kernel_rfl, by kernel_rfl⟩, ⟨.type "object", Looks.of_peek (k_in B) ?_, Looks.of_peek (k_in B) ?_⟩, Looks.of_peek (k_in B) ?_, Looks.of_peek (k_in B) ?_⟩ <;> rw [hM, hP] <;> kernel_rfl
theorem new_body (hC : C.G = G w) {env : Env} (hs : env.scope = fS (kid (st 6) 1)) (m1 m2 : MV) :
    wpSs C env (fB (kid (st 6) 1)) [(S "cls", .fz (.obj (.ref 587))), (S "args", .fz m1), (S "kwargs", .fz m2)] fun fm σ' => match fm with | .ret m => ∃ a d, m = .obj (.ref a) ∧ sget σ' (S "@new") = some (.inst a 587 d []) | _ => False := by
  have hnm : env.scope.names = (fS (kid (st 6) 1)).names := by rw [hs]
  conv at hnm => rhs; whnf
  apply ss_no (b := (true && (false && true)))
  · apply evB_and
    · refine evB_isnot_refs (a := 587) (b := 340) ?_ ?_ (by decide) ?_ rfl
      · tm_at "ev"
      · tm_at "typ"
      · intro h hok
        have hok : C.G.ok h := hok
        rw [hC] at hok
        exact ⟨_, _, at_ hok 587 rfl (by kernel_rfl), at_ hok 340 rfl (by kernel_rfl), by rw [show (objAt w.params 587).cls = Value.type "type" by kernel_rfl]; intro q; injection q with q; exact absurd q (by decide)⟩
    intro _
    apply evB_and
    · tm_at "evb"
    · intro h; cases h
  · rfl
  refine ss_ret_new (K := Kf w.params) (Cl := 587) (nm := S "@new") (kok hC) ?_ ?_ ?_ ?_ ?_ ?_ ?_
  · tm_at "typ"
  · tm_at "ev"
  · intro h hok
    have hok : C.G.ok h := hok
    rw [hC] at hok
    exact new_ok hok (by show C.G.prog = _; rw [hC]; rfl) (by show C.G.w.params = _; rw [hC]; rfl)
  · rfl
  · show env.scope.names.lookup _ = none
    rw [hnm]; kernel_rfl
  · rfl
  · intro a d
    refine ⟨a, d, rfl, ?_⟩
    simp only [List.cons_append, List.nil_append]
    tm_at "sg"
theorem code_new (w : World) (m1 m2 : MV) : CodeQ (G w) false 90 80 (fdAt w.params 80) [S "cls", S "args", S "kwargs"] [.obj (.ref 587), m1, m2] [] (fun m σ' => ∃ a d, m = .obj (.ref a) ∧ sget σ' (S "@new") = some (.inst a 587 d [])) :=
  codeQ_of (def_new w) (by omega) rfl rfl (fun _ h => nomatch h) fun C hC _ _ L _ _ _ => by
    intro X s R
    refine wpAny_mono (new_body hC (by kernel_rfl) m1 m2 X s R) (fun fl s' p => ?_) fun _ _ x => x
    obtain ⟨h', tk, e, fm, σ', fr, R', q⟩ := p
    refine ⟨h', tk, e, fm, σ', fr, R', ?_⟩
    cases fm <;> first | exact q | exact q.elim
theorem KMs.fresh {S B : List Addr} {s s' s'' : Shared} (x : KMs S [] s s') (y : KMs S B s' s'') (hB : ∀ b ∈ B, s.heap.get? b = none) : KSs S s s'' := by
  obtain ⟨h1, t1, rfl, k1⟩ := x
  obtain ⟨h2, t2, rfl, k2⟩ := y
  refine ⟨h2, t2, rfl, fun b o e => ?_⟩
  have hb : b ∉ B := fun q => by rw [hB b q] at e; cases e
  obtain ⟨a1, o1, a2, a3, a4, a5⟩ := k1 b o e (by simp)
  obtain ⟨b1, o2, b2, b3, b4, b5⟩ := k2 b o1 a2 hb
  exact ⟨fun q => (k2 b o (a1 q) hb).1 q, o2, b2, b3.trans a3, b4.trans a4, b5.trans a5⟩
theorem bind_new (P : Params) (a v : Value) : bindArgs (fdAt P 80) ⟨[a, v], []⟩ = (newTuple [v] >>= fun t => alloc { cls := .type "dict", data := .dict #[] } >>= fun d => pure [(S "cls", a), (S "args", t), (S "kwargs", .ref d)]) := by kernel_rfl
theorem mk2_ok {P : Params} {h : Heap} (B : BaseOk P h) {M : Model} (hM : M.prog = PySem.Challenge.pw_ny0304_04) (hP : M.w.params = P) : Makes2 M h 587 := by
  refine ⟨⟨_, _, _, _, at_ B 587 rfl (by kernel_rfl), by kernel_rfl⟩, Looks.of_peek (k_in B) ?_, Looks.of_peek (k_in B) ?_, Looks.of_peek (k_in B) ?_, Looks.of_peek (k_in B) ?_⟩ <;> rw [hM, hP] <;> kernel_rfl
theorem bind_sinit {P : Params} {h : Heap} (B : BaseOk P h) {M : Model} (hM : M.prog = PySem.Challenge.pw_ny0304_04) (hP : M.w.params = P) (a v : Value) : ∃ t, Looks M h (bindArgs (fdAt P 357) ⟨[a, v], []⟩) [(S "self", a), (S "initial_value", v), (S "newline", .str (S "\n") t)] := by
  refine ⟨tokOf ((match (objAt P 350).data with | .seq xs _ => xs | _ => #[])[1]?), Looks.of_peek (k_in B) ?_⟩
  rw [hM, hP]; kernel_rfl
theorem make_sio (w : World) (l : List Nat) : Make (G w) false 85 (.ref 587) [tx l] [] (fun v γ => ∃ b e, v = .ref b ∧ γ = [(S "@in", inB b e l 0)]) := fun C hC hlv _ s O vals hok hfr hO hv => by
  obtain ⟨v, r, rfl, ⟨tv, rfl⟩, hr⟩ := hv
  rw [show r = [] from hr]
  have hprog : C.M.prog = PySem.Challenge.pw_ny0304_04 := by show C.G.prog = _; rw [hC]; rfl
  have hP : C.M.w.params = w.params := by show C.G.w.params = _; rw [hC]; rfl
  have ok' : ∀ {h}, C.ok h → BaseOk w.params h := fun {h} hh => by have hh : C.G.ok h := hh; rw [hC] at hh; exact hh
  have hl1 : C.lvl + 1 ≤ 100 := by omega
  obtain ⟨hp, g, d, tk, os⟩ := s
  refine wpAny_call (make_core2 (K := Kf w.params) (fI := 357) (p := 84) (nf := 80) (mc := .type "type") (sr := (recIn (Kf w.params) 84 "staticmethod").getD [] |>.tail) (k_in (ok' hok)) (mk2_ok (ok' hok) hprog hP) (by kernel_rfl) (by kernel_rfl) (by kernel_rfl) (by kernel_rfl) (by kernel_rfl) (by kernel_rfl) ?_)
  let C1 := C.tc hl1 587 [.str (mk l) tv] []
  have hb1 : Binds C1 ⟨hp, g, d, tk + 1, os⟩ O (fdAt w.params 80) ⟨[.ref 587, .str (mk l) tv], []⟩ [S "cls", S "args", S "kwargs"] [.obj (.ref 587), .tuple [tx l], .obj (.ref (hp.objs.size + 1))] := fun A => by
    rw [bind_new]
    refine wpAny_bind (wpAny_newObj_type ?_ (by show 1 ≤ sizeLine; rw [sizeLine_eq]; omega))
    refine wpAny_bind (wpAny_alloc (wpAny_pure ⟨[.ref 587, .ref hp.objs.size, .ref (hp.push { cls := .type "tuple", data := .seq [Value.str (mk l) tv].toArray }).objs.size], rfl, rfl, ⟨_, _, rfl, .of_keep fun b o e => Heap.get?_push_of_some _ (Heap.get?_push_of_some _ e)⟩, ?_⟩))
    have hO' : ∀ x ∈ O, ∃ o, hp.get? x = some o := fun x hx => let ⟨vs, n, e⟩ := hO x hx; ⟨_, e⟩
    have t1 := newT (s := ⟨hp, g, d, tk + 1, os⟩) (O := O) (ms := [tx l]) (vs := [.str (mk l) tv]) hO' ⟨_, [], rfl, ⟨tv, rfl⟩, rfl⟩
    refine ⟨_, _, rfl, rfl, _, _, rfl, t1.ks (S := []) (.of_keep fun b o e => Heap.get?_push_of_some _ e), _, [], rfl, ?_, rfl⟩
    show Value.ref _ = Value.ref _
    rw [Heap.size_push]
  refine codeAny_mono (code_new w (.tuple [tx l]) (.obj (.ref (hp.objs.size + 1))) C1 hC (by show C.lvl + 1 ≤ 90; omega) (fun h => nomatch h) ⟨hp, g, d, tk + 1, os⟩ O _ hb1 hok hfr hO ⟨(by intro _ _ _ _ _ h; cases h), (by intro _ h; cases h), List.nodup_nil⟩) fun res s' p => ?_
  rcases res with e | (_ | _ | _ | v) <;> first | exact p.elim | skip
  obtain ⟨m, σ', km, hvm, ⟨a, dd, rfl, hsg⟩, hin, hfr2, hnd⟩ := p
  cases hvm
  obtain ⟨ha, hdA⟩ := instA_mem hsg
  have I := hin _ _ _ _ _ hsg
  obtain ⟨h', t', rfl, km1⟩ := km
  have ks1 : KS C.S hp h' := KM.ks km1
  have hok1 : C.ok h' := C.mono _ _ (fun b o hb e => (ks1 b o e).1 fun hs => by
    obtain ⟨ev, hm, hf⟩ := C.hS b hs
    obtain ⟨_, L, o', hf', hn, _⟩ := hfr ev hm
    rw [hf] at hf'; cases hf'
    exact absurd hb (Nat.not_lt.mpr hn)) hok
  have hfr1 : FramesIn C.n₀ h' C.fs := hfr.ks ks1
  have fr0 : ∀ b ∈ [a, dd], C.n₀ ≤ b ∧ hp.get? b = none ∧ ∀ e ∈ C.fs, e.frame ≠ some b := fun b hb => by
    have hb' : b ∈ instA σ' := by
      simp only [List.mem_cons, List.not_mem_nil, or_false] at hb
      rcases hb with rfl | rfl
      · exact ha
      · exact hdA
    obtain ⟨q1, q2, q3⟩ := hfr2 b hb'
    exact ⟨q1, q2.resolve_left (by simp [instA]), q3⟩
  obtain ⟨⟨sl, ea⟩, hne, rest⟩ := id I
  have hnd2 : [a, dd].Nodup := by simp [Ne.symm hne]
  have hO1 : ∀ x ∈ O, ∃ vs : Array Value, h'.PlainList x vs := fun x hx => by
    obtain ⟨vs, n, e⟩ := hO x hx
    refine ⟨vs, n, (ks1 x _ e).1 fun hs => ?_⟩
    obtain ⟨ev, hm, hf⟩ := C.hS x hs
    obtain ⟨_, L, o', hf', hn, ho', es, ep, hd'⟩ := hfr ev hm
    rw [hf] at hf'; cases hf'
    rw [e] at ho'; cases ho'; cases hd'
  refine ⟨a, _, h', t', rfl, rfl, ea, rfl, k_in (ok' hok1), mk2_ok (ok' hok1) hprog hP, ?_⟩
  obtain ⟨tn, hbl⟩ := bind_sinit (ok' hok1) hprog hP (.ref a) (.str (mk l) tv)
  have hb2 : Binds C1 ⟨h', g, d, t', os⟩ O (fdAt w.params 357) ⟨[.ref a, .str (mk l) tv], []⟩ [S "self", S "initial_value", S "newline"] [.obj (.ref a), tx l, tx [10]] := Binds.of (vals := [.ref a, .str (mk l) tv, .str (S "\n") tn]) hbl rfl ⟨_, _, rfl, rfl, _, _, rfl, ⟨tv, rfl⟩, _, [], rfl, ⟨tn, by congr 1⟩, rfl⟩
  refine codeAny_mono (code_sinit w a dd l C1 hC (by show C.lvl + 1 ≤ 89; omega) (fun h => nomatch h) ⟨h', g, d, t', os⟩ O _ hb2 hok1 hfr1 hO1 ⟨?_, ?_, hnd2⟩) fun res s2 p2 => ?_
  · intro x a' Ca d' fs hm
    simp only [List.mem_singleton, Prod.mk.injEq, Bd.inst.injEq] at hm
    obtain ⟨_, rfl, rfl, rfl, rfl⟩ := hm
    exact I
  · intro b hb
    obtain ⟨q1, q2, q3⟩ := fr0 b hb
    exact ⟨q1, q3⟩
  · rcases res with e | (_ | _ | _ | v) <;> first | exact p2.elim | skip
    obtain ⟨km2, g2, hv2⟩ := p2
    cases hv2
    refine ⟨rfl, ?_⟩
    have kk : KSs C.S ⟨hp, g, d, tk, os⟩ s2 := KMs.fresh (s' := ⟨h', g, d, t', os⟩) ⟨h', t', rfl, km1⟩ km2 fun b hb => (fr0 b hb).2.1
    exact ⟨kk, _, ⟨a, dd, rfl, rfl⟩, rfl, g2, fun b hb => ⟨(fr0 b hb).1, (fr0 b hb).2.1⟩, hnd2⟩
noncomputable def WC1 : List Nat := (S "abcdfeghijklmnopqrstuvwxyzABCDEFGHIJKLMNOPQRSTUVWXYZ0123456789_").cps.toList
noncomputable def WC2 : List Nat := (S "ßàáâãäåæçèéêëìíîïðñòóôõöøùúûüýþÿÀÁÂÃÄÅÆÇÈÉÊËÌÍÎÏÐÑÒÓÔÕÖØÙÚÛÜÝÞ").cps.toList
theorem icat_wc {C : Cx} : Inp C .Add (tx WC1) (tx WC2) (tx WC) := by
  have h := icat_tx (C := C) (a := WC1) (b := WC2) (by decide +kernel)
  rwa [show WC1 ++ WC2 = WC by decide +kernel] at h
theorem c_wc1 {C : Cx} {env : Env} {σ : St} {k : Nat} {p : Pos} : Ev C env σ (.Constant (.str (Str.ofString "abcdfeghijklmnopqrstuvwxyzABCDEFGHIJKLMNOPQRSTUVWXYZ0123456789_")) k p) (tx WC1) := ev_tx (by decide +kernel)
theorem c_wc2 {C : Cx} {env : Env} {σ : St} {k : Nat} {p : Pos} : Ev C env σ (.Constant (.str (Str.ofString "ßàáâãäåæçèéêëìíîïðñòóôõöøùúûüýþÿÀÁÂÃÄÅÆÇÈÉÊËÌÍÎÏÐÑÒÓÔÕÖØÙÚÛÜÝÞ")) k p) (tx WC2) := ev_tx (by decide +kernel)
theorem c_ws {C : Cx} {env : Env} {σ : St} {k : Nat} {p : Pos} : Ev C env σ (.Constant (.str (Str.ofString " \t\r\n")) k p) (tx WS) := ev_tx (by decide +kernel)
theorem c_qs {C : Cx} {env : Env} {σ : St} {k : Nat} {p : Pos} : Ev C env σ (.Constant (.str (Str.ofString "\'\"")) k p) (tx [39, 34]) := ev_tx (by decide +kernel)
theorem c_esc {C : Cx} {env : Env} {σ : St} {k : Nat} {p : Pos} : Ev C env σ (.Constant (.str (Str.ofString "\\")) k p) (tx [92]) := ev_tx (by decide +kernel)
theorem gv_isinstance {C : Cx} {w : World} (hC : C.G = G w) : GV C (S "isinstance") (.builtin "isinstance") := gv_blt hC (by kernel_rfl) (by kernel_rfl)
theorem gv_deque {C : Cx} {w : World} (hC : C.G = G w) : GV C (S "deque") (.type "collections.deque") := gv_glob hC (by kernel_rfl)
theorem fn_isi_str {C : Cx} {x : Str} : Fn C (.builtin "isinstance") [.str x, .obj (.type "str")] (.bool true) := fun s O vals _ ha => by
  obtain ⟨v, r, rfl, ⟨t, rfl⟩, v2, r2, rfl, rfl, rfl⟩ := ha
  exact PySem.IsiPair.str_str ⟨.refl s, rfl⟩
local macro_rules | `(tactic| tm_at "str") => altS "a a a ec_wc1 Q/1 ngroup/2 a ec_wc2 Q/1 ngroup/2 a ec_ws Q/1 ngroup/2 a ec_qs Q/1 ngroup/2 a ec_esc Q/1 ngroup/2 nnull/5 Tfirst/2 Q/1 TwithReducible/2"
local macro_rules | `(tactic| tm_at "glob") => altS "ggv_isinstance"
local macro_rules | `(tactic| tm_at "typ") => altS "ggv_deque"
local macro_rules | `(tactic| tm_at "inp") => altS "eicat_wc"
local macro_rules | `(tactic| tm_at "tfn") => altS "efn_deque"
local macro_rules | `(tactic| tm_at "fn") => altS "efn_isi_str"
theorem ss_make {C : Cx} {env : Env} {σ : St} {y fx : Str} {py p pos pas : Pos} {es : List Expr} {ms : List MV} {Cl : Addr} {full : Bool} {k : Nat} {Q0 : Value → St → Prop} {Q : FM → St → Prop} {rest : List Stmt} (hx : Ev C env σ (.Name fx p) (.obj (.ref Cl))) (ha : Evs C env σ es ms) (hm : Make C.G full k (.ref Cl) ms [] Q0) (hk : C.lvl ≤ k) (hfull : full = true → C.Full)
    (hc : ∀ h, C.ok h → ClsCall C.M h Cl) (hσ : keysNd σ = true) (hy : Stores env y) (hn : ∀ v γ, Q0 v γ → ∀ p ∈ γ, env.kindOf p.1 = none) (hq : ∀ v γ, Q0 v γ → ∃ σ', sput (σ ++ γ) y (.fz (.obj v)) = σ' ∧ wpSs C env rest σ' Q) :
    wpSs C env (.Assign [.Name y py] (.Call (.Name fx p) es [] pos) pas :: rest) σ Q := wpSs_cons (wpS_make hx ha hm hk hfull hc hσ hy hn fun v γ q => by obtain ⟨σ', e, h⟩ := hq v γ q; rw [e]; exact h)
theorem ss_makeK {C : Cx} {env : Env} {σ : St} {y fx kn : Str} {py p pos pas kp : Pos} {ke : Expr} {kv : Bool} {es : List Expr} {ms : List MV} {Cl : Addr} {full : Bool} {k : Nat} {Q0 : Value → St → Prop} {Q : FM → St → Prop} {rest : List Stmt} (hx : Ev C env σ (.Name fx p) (.obj (.ref Cl))) (ha : Evs C env σ es ms) (hne : es ≠ []) (hke : Ev C env σ ke (.bool kv)) (hm : Make C.G full k (.ref Cl) ms [(kn, .bool kv)] Q0) (hk : C.lvl ≤ k) (hfull : full = true → C.Full)
    (hc : ∀ h, C.ok h → ClsCall C.M h Cl) (hσ : keysNd σ = true) (hy : Stores env y) (hn : ∀ v γ, Q0 v γ → ∀ p ∈ γ, env.kindOf p.1 = none) (hq : ∀ v γ, Q0 v γ → ∃ σ', sput (σ ++ γ) y (.fz (.obj v)) = σ' ∧ wpSs C env rest σ' Q) :
    wpSs C env (.Assign [.Name y py] (.Call (.Name fx p) es [⟨some kn, ke, kp⟩] pos) pas :: rest) σ Q := wpSs_cons (wpS_makeK hx ha hne hke hm hk hfull hc hσ hy hn fun v γ q => by obtain ⟨σ', e, h⟩ := hq v γ q; rw [e]; exact h)
theorem cls_ok587 {P : Params} {h : Heap} (B : BaseOk P h) {M : Model} (hM : M.prog = PySem.Challenge.pw_ny0304_04) (hP : M.w.params = P) : ClsCall M h 587 := by
  refine ⟨⟨_, _, _, _, at_ B 587 rfl (by kernel_rfl)⟩, Looks.of_peek (k_in B) ?_⟩; rw [hM, hP]; kernel_rfl
theorem cls_ok722 {P : Params} {h : Heap} (B : BaseOk P h) {M : Model} (hM : M.prog = PySem.Challenge.pw_ny0304_04) (hP : M.w.params = P) : ClsCall M h 722 := by
  refine ⟨⟨_, _, _, _, at_ B 722 rfl (by kernel_rfl)⟩, Looks.of_peek (k_in B) ?_⟩; rw [hM, hP]; kernel_rfl
theorem def_linit (w : World) : IsDef (G w) 646 (fdAt w.params 646) (fB (kid (st 19) 0)) [S "self", S "instream", S "infile", S "posix", S "punctuation_chars"] := by
  refine def_ofL w 646 645 [S "self", S "instream", S "infile", S "posix", S "punctuation_chars"] (kid (st 19) 0) rfl ?_ ?_ rfl ?_ ?_ ?_ ?_ ?_ ?_ ?_ ?_ ?_ ?_ ?_ (by decide +kernel) ?bb ?kk
  case bb =>
    intro M h B vs hv
    obtain ⟨a0, a1, a2, a3, a4, rfl⟩ := len5 hv
    exact Looks.of_peek (k_in B) (by kernel_rfl)
  case kk =>
    intro x hx
    simp only [List.mem_cons, List.not_mem_nil, or_false] at hx
    rcases hx with rfl | rfl | rfl | rfl | rfl <;> exact .inl (by kernel_rfl)
  all_goals kernel_rfl
noncomputable abbrev lex0 (a d b : Addr) : Bd := .inst a 722 d [(S "instream", .obj (.ref b)), (S "infile", .none), (S "posix", .bool true), (S "eof", .none), (S "commenters", tx [35]), (S "wordchars", tx WC), (S "whitespace", tx WS), (S "whitespace_split", .bool false), (S "quotes", tx [39, 34]), (S "escape", tx [92]), (S "escapedquotes", tx [34]), (S "state", tx [32]), (S "pushback", .deq), (S "lineno", .int 1), (S "debug", .int 0), (S "token", tx []), (S "filestack", .deq), (S "source", .none), (S "_punctuation_chars", tx [])]
theorem linit_body (hC : C.G = G w) (hro : C.ro = false) (hl : C.lvl ≤ 85) {env : Env} (hs : env.scope = fS (kid (st 19) 0)) (a d : Addr) (l : List Nat) :
    wpSs C env (fB (kid (st 19) 0)) [(S "self", .fz (.obj (.ref a))), (S "instream", .fz (tx l)), (S "infile", .fz .none), (S "posix", .fz (.bool true)), (S "punctuation_chars", .fz (.bool false)), (S "@lex", .inst a 722 d [])] fun fm σ' => match fm with | .ret m => False | .next => ∃ b e, sget σ' (S "@lex") = some (lex0 a d b) ∧ sget σ' (S "@in") = some (inB b e l 0) | _ => False := by
  have hnm : env.scope.names = (fS (kid (st 19) 0)).names := by rw [hs]
  conv at hnm => rhs; whnf
  have ok' : ∀ {h}, C.ok h → BaseOk w.params h := fun {h} hh => by have hh : C.G.ok h := hh; rw [hC] at hh; exact hh
  have hprog : C.M.prog = PySem.Challenge.pw_ny0304_04 := by show C.G.prog = _; rw [hC]; rfl
  have hP : C.M.w.params = w.params := by show C.G.w.params = _; rw [hC]; rfl
  apply ss_if
  · tm_at "evb"
  rotate_left
  · intro h; cases h
  intro _
  refine ss_make (Cl := 587) (k := 85) (full := false) (Q0 := fun v γ => ∃ b e, v = .ref b ∧ γ = [(S "@in", inB b e l 0)]) ?_ (.cons (m := tx l) ?_ (by intro _ _ h; cases h) .nil) (by rw [hC]; exact make_sio w l) hl (fun h => nomatch h) (fun h hok => cls_ok587 (ok' hok) hprog hP) rfl ?_ ?_ ?_
  · tm_at "typ"
  · tm_at "ev"
  · tm_at "stores"
  · rintro v γ ⟨b, e, rfl, rfl⟩ p hp
    rw [List.mem_singleton.mp hp]
    show env.scope.names.lookup _ = none
    rw [hnm]; kernel_rfl
  rintro v γ ⟨b, e, rfl, rfl⟩
  simp only [List.cons_append, List.nil_append]
  refine ⟨_, by tm_at "sp", wpSs_nil ?_⟩
  apply ss_if
  · tm_at "evb"
  rotate_left
  · intro h; cases h
  intro _
  tm_at "self"
  tm_at "self"
  apply wpSs_nil
  tm_at "self"
  apply ss_if
  · tm_at "evb"
  rotate_left
  · intro h; cases h
  intro _
  tm_at "self"
  apply wpSs_nil
  tm_at "self"
  tm_at "self"
  apply ss_if
  · tm_at "evb"
  rotate_left
  · intro h; cases h
  intro _
  tm_at "aug"
  apply wpSs_nil
  tm_at "self"
  tm_at "self"
  tm_at "self"
  tm_at "self"
  tm_at "self"
  tm_at "self"
  tm_at "self"
  tm_at "self"
  tm_at "self"
  tm_at "self"
  tm_at "self"
  tm_at "self"
  apply ss_if
  · tm_at "evb"
  rotate_left
  · intro h; cases h
  intro _
  tm_at "set"
  apply wpSs_nil
  tm_at "self"
  apply ss_no
  · tm_at "evb"
  · rfl
  refine wpSs_nil ⟨b, e, ?_, ?_⟩
  · tm_at "sg"
  · tm_at "sg"
theorem code_linit (w : World) (a d : Addr) (l : List Nat) : CodeQ (G w) false 84 646 (fdAt w.params 646) [S "self", S "instream", S "infile", S "posix", S "punctuation_chars"] [.obj (.ref a), tx l, .none, .bool true, .bool false] [(S "@lex", .inst a 722 d [])] (fun m σ' => m = .none ∧ ∃ b e, sget σ' (S "@lex") = some (lex0 a d b) ∧ sget σ' (S "@in") = some (inB b e l 0)) :=
  codeQ_of (def_linit w).toIsDef0 (by lia) rfl rfl (by intro p hp; rw [List.mem_singleton.mp hp]; kernel_rfl) fun C hC hl _ L _ hro _ => by
    intro X s R
    refine wpAny_mono (linit_body hC hro hl (by kernel_rfl) a d l X s R) (fun fl s' p => ?_) fun _ _ x => x
    obtain ⟨h', tk, e, fm, σ', fr, R', q⟩ := p
    refine ⟨h', tk, e, fm, σ', fr, R', ?_⟩
    cases fm <;> first | exact ⟨rfl, q⟩ | exact q.elim
theorem gv_shlex {C : Cx} {w : World} (hC : C.G = G w) : GV C (S "shlex") (.ref 722) := gv_glob hC (by kernel_rfl)
theorem gv_list {C : Cx} {w : World} (hC : C.G = G w) : GV C (S "list") (.type "list") := gv_blt hC (by kernel_rfl) (by kernel_rfl)
local macro_rules | `(tactic| tm_at "typ") => altS "ggv_shlex | ggv_list"
theorem bind_linit {P : Params} {h : Heap} (B : BaseOk P h) {M : Model} (hM : M.prog = PySem.Challenge.pw_ny0304_04) (hP : M.w.params = P) (a v : Value) : Looks M h (bindArgs (fdAt P 646) ⟨[a, v], [(S "posix", .bool true)]⟩) [(S "self", a), (S "instream", v), (S "infile", .none), (S "posix", .bool true), (S "punctuation_chars", .bool false)] := by
  refine Looks.of_peek (k_in B) ?_
  rw [hM, hP]; kernel_rfl
theorem bind_split {P : Params} {h : Heap} (B : BaseOk P h) {M : Model} (hM : M.prog = PySem.Challenge.pw_ny0304_04) (hP : M.w.params = P) (v : Value) : Looks M h (bindArgs (fdAt P 734) ⟨[v], []⟩) [(S "s", v), (S "comments", .bool false), (S "posix", .bool true)] := by
  refine Looks.of_peek (k_in B) ?_
  rw [hM, hP]; kernel_rfl
theorem make_lex (w : World) (l : List Nat) : Make (G w) false 83 (.ref 722) [tx l] [(S "posix", .bool true)] (fun v γ => ∃ a d b e, v = .ref a ∧ γ = [(S "@lex", lex0 a d b), (S "@in", inB b e l 0)] ∧ [a, d, b, e].Nodup) := fun C hC hlv _ s O vals hok hfr hO hv => by
  obtain ⟨v, r, rfl, ⟨tv, rfl⟩, hr⟩ := hv
  rw [show r = [] from hr]
  have hprog : C.M.prog = PySem.Challenge.pw_ny0304_04 := by show C.G.prog = _; rw [hC]; rfl
  have hP : C.M.w.params = w.params := by show C.G.w.params = _; rw [hC]; rfl
  have ok' : ∀ {h}, C.ok h → BaseOk w.params h := fun {h} hh => by have hh : C.G.ok h := hh; rw [hC] at hh; exact hh
  have hl1 : C.lvl + 1 ≤ 100 := by lia
  obtain ⟨hp, g, dr, tk, os⟩ := s
  have X := k_in (ok' hok)
  refine wpAny_call (make_core (init := .ref 646) (makes_of X (mk_shlex _)) (looks_findIn X (by kernel_rfl)) (fun self => bind_fn X self (by kernel_rfl)) (.inl rfl) ?_)
  let C1 := C.tc hl1 722 [.str (mk l) tv] [(S "posix", .bool true)]
  generalize hd : hp.objs.size = d
  have hkp : ∀ b o, hp.get? b = some o → ((hp.push emptyDict).push (instObj 722 d)).get? b = some o := fun b o e => Heap.get?_push_of_some _ (Heap.get?_push_of_some _ e)
  have low : C.n₀ ≤ d := by rw [← hd]; exact C.G.low _ hok
  have fd : hp.get? d = none := by rw [← hd]; exact Heap.get?_none_of_le (Nat.le_refl _)
  have fa : hp.get? (d + 1) = none := by rw [← hd]; exact Heap.get?_none_of_le (Nat.le_succ _)
  have I0 : InstIs ((hp.push emptyDict).push (instObj 722 d)) (d + 1) 722 d [] := by
    subst hd
    refine ⟨⟨#[], ?_⟩, Nat.ne_of_lt (Nat.lt_succ_self _), fun _ => none, ?_, fun x => rfl⟩
    · have : ((hp.push emptyDict).push (instObj 722 hp.objs.size)).get? (hp.objs.size + 1) = some (instObj 722 hp.objs.size) := by heap_get
      exact this
    · refine Heap.Ns1.of_empty ⟨emptyDict, #[], 0, ?_, rfl, (fun x hx => by simp at hx), fun _ => rfl⟩
      show ((hp.push emptyDict).push (instObj 722 hp.objs.size)).get? hp.objs.size = some emptyDict
      heap_get
  generalize ((hp.push emptyDict).push (instObj 722 d)) = h1 at hkp I0 ⊢
  have hok1 : C.ok h1 := C.mono _ _ (fun b o _ e => hkp b o e) hok
  have hfr1 : FramesIn C.n₀ h1 C.fs := hfr.ks (S := []) (.of_keep hkp)
  have hO1 : ∀ x ∈ O, ∃ vs : Array Value, h1.PlainList x vs := fun x hx => let ⟨vs, n, e⟩ := hO x hx; ⟨vs, n, hkp _ _ e⟩
  have notfr : ∀ b, hp.get? b = none → ∀ e ∈ C.fs, e.frame ≠ some b := fun b hb e he q => by
    obtain ⟨_, L, o, hL, _, ho, _⟩ := hfr e he
    rw [q] at hL; cases hL
    rw [hb] at ho; cases ho
  have hb1 : Binds C1 ⟨h1, g, dr, tk, os⟩ O (fdAt w.params 646) ⟨[.ref (d + 1), .str (mk l) tv], [(S "posix", .bool true)]⟩ [S "self", S "instream", S "infile", S "posix", S "punctuation_chars"] [.obj (.ref (d + 1)), tx l, .none, .bool true, .bool false] :=
    Binds.of (vals := [.ref (d + 1), .str (mk l) tv, .none, .bool true, .bool false]) (bind_linit (ok' hok1) hprog hP _ _) rfl ⟨_, _, rfl, rfl, _, _, rfl, ⟨tv, rfl⟩, _, _, rfl, rfl, _, _, rfl, rfl, _, _, rfl, rfl, rfl⟩
  refine codeAny_mono (code_linit w (d + 1) d l C1 hC (by show C.lvl + 1 ≤ 84; lia) (fun h => nomatch h) ⟨h1, g, dr, tk, os⟩ O _ hb1 hok1 hfr1 hO1 ⟨?_, ?_, ?_⟩) fun res s2 p2 => ?_
  · intro x a' Ca d' fs hm
    simp only [List.mem_singleton, Prod.mk.injEq, Bd.inst.injEq] at hm
    obtain ⟨_, rfl, rfl, rfl, rfl⟩ := hm
    exact I0
  · intro b hb
    simp only [instA, List.mem_cons, List.not_mem_nil, or_false] at hb
    rcases hb with rfl | rfl
    · exact ⟨Nat.le_succ_of_le low, notfr _ fa⟩
    · exact ⟨low, notfr _ fd⟩
  · simp [instA]
  rcases res with e | (_ | _ | _ | v) <;> first | exact p2.elim | skip
  obtain ⟨m, σ', km, hvm, ⟨rfl, b, e, hs1, hs2⟩, hin, hfr2, hnd⟩ := p2
  cases hvm
  refine ⟨rfl, ?_⟩
  obtain ⟨a1, a2⟩ := instA_mem hs1
  obtain ⟨b1, b2⟩ := instA_mem hs2
  obtain ⟨n1, n2, n3, n4⟩ := inst_apart (x := S "@lex") (y := S "@in") (by decide) hnd hs1 hs2
  have I1 := hin _ _ _ _ _ hs1
  have I2 := hin _ _ _ _ _ hs2
  have nb : e ≠ b := I2.ne
  have na : d ≠ d + 1 := I1.ne
  have nd4 : [d + 1, d, b, e].Nodup := by
    simp only [List.nodup_cons, List.mem_cons, List.not_mem_nil, or_false, not_or, not_false_eq_true, List.nodup_nil, and_true]
    exact ⟨⟨Ne.symm na, n1, n2⟩, ⟨n3, n4⟩, Ne.symm nb⟩
  have fr : ∀ x ∈ [d + 1, d, b, e], C.n₀ ≤ x ∧ hp.get? x = none := fun x hx => by
    have hx' : x ∈ instA σ' := by
      simp only [List.mem_cons, List.not_mem_nil, or_false] at hx
      rcases hx with rfl | rfl | rfl | rfl
      · exact a1
      · exact a2
      · exact b1
      · exact b2
    obtain ⟨q1, q2, q3⟩ := hfr2 x hx'
    refine ⟨q1, ?_⟩
    rcases q2 with q2 | q2
    · simp only [instA, List.mem_cons, List.not_mem_nil, or_false] at q2
      rcases q2 with rfl | rfl
      · exact fa
      · exact fd
    · cases z : hp.get? x with
      | none => rfl
      | some o => rw [hkp x o z] at q2; cases q2
  refine ⟨?_, _, ⟨d + 1, d, b, e, rfl, rfl, nd4⟩, rfl, ?_, fr, nd4⟩
  · exact KMs.fresh (s' := ⟨h1, g, dr, tk, os⟩) ⟨h1, tk, rfl, (KS.of_keep hkp).km⟩ km fun x hx => by
      simp only [instA, List.mem_cons, List.not_mem_nil, or_false] at hx
      rcases hx with rfl | rfl
      · exact fa
      · exact fd
  · intro x a' Ca d' fs hm
    simp only [List.mem_cons, List.not_mem_nil, or_false, Prod.mk.injEq, Bd.inst.injEq] at hm
    rcases hm with ⟨_, rfl, rfl, rfl, rfl⟩ | ⟨_, rfl, rfl, rfl, rfl⟩
    · exact I1
    · exact I2
theorem def_split (w : World) : IsDef (G w) 734 (fdAt w.params 734) (fB (st 20)) [S "s", S "comments", S "posix"] := by
  refine def_ofL w 734 733 [S "s", S "comments", S "posix"] (st 20) rfl ?_ ?_ rfl ?_ ?_ ?_ ?_ ?_ ?_ ?_ ?_ ?_ ?_ ?_ (by decide +kernel) ?bb ?kk
  case bb =>
    intro M h B vs hv
    obtain ⟨a0, a1, a2, rfl⟩ := len3 hv
    exact Looks.of_peek (k_in B) (by kernel_rfl)
  case kk =>
    intro x hx
    simp only [List.mem_cons, List.not_mem_nil, or_false] at hx
    rcases hx with rfl | rfl | rfl <;> exact .inl (by kernel_rfl)
  all_goals kernel_rfl
theorem ss_ret_list {C : Cx} (hC : C.G = G w) (hro : C.ro = false) (hl : C.lvl ≤ 72) (hfull : C.Full) {env : Env} {σ : St} {a d b e : Addr} {l : List Nat} (hlen : l.length ≤ 1000000) {ws : List (List Nat)} (hL : Lx l (some 32) 1 0 ws) (hws : ws.length ≤ 1000000) (hnd : [a, d, b, e].Nodup) {lst lx : Str} {p1 p2 pos rp : Pos} {rest : List Stmt}
    (hx : Ev C env σ (.Name lst p1) (.obj (.type "list"))) (ha : Ev C env σ (.Name lx p2) (.obj (.ref a))) (hc : ∀ p ∈ gaM a d b e l (some 32) 1 0, sget σ p.1 = some p.2) (hσ : keysNd σ = true) (hin : instA σ = [a, d, b, e]) :
    wpSs C env (.Return (some (.Call (.Name lst p1) [.Name lx p2] [] pos)) rp :: rest) σ fun fm _ => match fm with | .ret m => m = .list (ws.map tx) | _ => False := fun X s R => by
  refine wpAny_execs_cons (wpAny_Return_some ?_)
  refine wpAny_bind (wpAny_mono (hx s R.toRelE) (fun v s₁ h₁ => ?_) fun _ _ x => x)
  obtain ⟨k₁, rfl⟩ := h₁
  have R₁ := R.ks k₁.ks
  have has : EvTs C env σ [.Name lx p2] [.obj (.ref a)] := .cons (Ev.t ha) (by intro _ _ h; cases h) .nil
  refine callWith_typ (plain_args has).1 (wpAny_mono (evalArgs_ has s₁ R₁.toRelE) (fun ar s₂ h₂ => ?_) fun _ _ x => x)
  obtain ⟨k₂, hkw, hv⟩ := h₂
  have R₂ := R₁.ks k₂.ks
  rw [hkw]
  obtain ⟨v, r, e0, hv1, hr⟩ := hv
  cases hv1
  rw [show r = [] from hr] at e0
  rw [e0]
  refine wpAny_mono (list_lex hC (by lia) hfull hlen hL (.inr rfl) (Nat.zero_le _) hws R₂.base R₂.fr (gok_of R₂.toRelE hc hnd)) (fun v s₃ h₃ => ?_) fun _ _ x => x
  obtain ⟨km, L, vs, c, rfl, hLn, hL3, htx⟩ := h₃
  obtain ⟨h1, t1, rfl, _⟩ := k₁
  obtain ⟨h2, t2, rfl, _⟩ := k₂
  obtain ⟨h3, t3, rfl, km⟩ := km
  have R₃ := R₂.forget hσ (B := [a, d, b, e]) (fun x hx => by rw [hin]; exact hx) (fun x hx => (R₂.insX.resolve_left (by rw [hro]; decide)) x (by rw [hin]; exact hx)) km
  refine ⟨h3, t3, rfl, .ret (.list (ws.map tx)), _, ⟨L, vs.toList, rfl, ?_, ⟨⟨_, hL3, rfl, c, by simp⟩, fun _ => ⟨_, hL3, rfl⟩⟩, htx.vins⟩, R₃, rfl⟩
  intro hm
  rcases List.mem_append.mp hm with hm | hm
  · obtain ⟨ws, n, q⟩ := R₂.own L (by rw [noInst_owned] at hm; exact hm)
    rw [hLn] at q; cases q
  · obtain ⟨ws, n, q⟩ := R₂.outer L hm
    rw [hLn] at q; cases q
theorem split_body (hC : C.G = G w) (hro : C.ro = false) (hmB : C.mB = []) (hl : C.lvl ≤ 72) (hfull : C.Full) {env : Env} (hs : env.scope = fS (st 20)) (l : List Nat) (hlen : l.length ≤ 1000000) {ws : List (List Nat)} (hL : Lx l (some 32) 1 0 ws) (hws : ws.length ≤ 1000000) :
    wpSs C env (fB (st 20)) [(S "s", .fz (tx l)), (S "comments", .fz (.bool false)), (S "posix", .fz (.bool true))] fun fm _ => match fm with | .ret m => m = .list (ws.map tx) | _ => False := by
  have hnm : env.scope.names = (fS (st 20)).names := by rw [hs]
  conv at hnm => rhs; whnf
  have ok' : ∀ {h}, C.ok h → BaseOk w.params h := fun {h} hh => by have hh : C.G.ok h := hh; rw [hC] at hh; exact hh
  have hprog : C.M.prog = PySem.Challenge.pw_ny0304_04 := by show C.G.prog = _; rw [hC]; rfl
  have hP : C.M.w.params = w.params := by show C.G.w.params = _; rw [hC]; rfl
  apply ss_no
  · tm_at "evb"
  · rfl
  refine ss_makeK (Cl := 722) (k := 83) (full := false) (kv := true) (Q0 := fun v γ => ∃ a d b e, v = .ref a ∧ γ = [(S "@lex", lex0 a d b), (S "@in", inB b e l 0)] ∧ [a, d, b, e].Nodup) ?_ (.cons (m := tx l) ?_ (by intro _ _ h; cases h) .nil) (by simp) ?_ (by rw [hC]; exact make_lex w l) (by lia) (fun h => nomatch h) (fun h hok => cls_ok722 (ok' hok) hprog hP) rfl ?_ ?_ ?_
  · tm_at "typ"
  · tm_at "ev"
  · tm_at "ev"
  · tm_at "stores"
  · rintro v γ ⟨a, d, b, e, rfl, rfl, _⟩ p hp
    simp only [List.mem_cons, List.not_mem_nil, or_false] at hp
    rcases hp with rfl | rfl <;> (show env.scope.names.lookup _ = none) <;> rw [hnm] <;> kernel_rfl
  rintro v γ ⟨a, d, b, e, rfl, rfl, hnd⟩
  simp only [List.cons_append, List.nil_append]
  refine ⟨_, by tm_at "sp", ?_⟩
  tm_at "self"
  apply ss_if
  · tm_at "evb"
  rotate_left
  · intro h; cases h
  intro _
  tm_at "self"
  apply wpSs_nil
  refine ss_ret_list (a := a) (d := d) (b := b) (e := e) (l := l) hC hro hl hfull hlen hL hws hnd ?_ ?_ ?_ rfl rfl
  · tm_at "typ"
  · tm_at "ev"
  · intro p hp
    simp only [gaM, List.mem_cons, List.not_mem_nil, or_false] at hp
    rcases hp with rfl | rfl
    · show sget _ (S "@lex") = some (lexB a d b (tx [32]) 1 []); tm_at "sg"
    · show sget _ (S "@in") = some (inB b e l 0); tm_at "sg"
theorem spec_split (w : World) (l : List Nat) (hlen : l.length ≤ 1000000) {ws : List (List Nat)} (hL : Lx l (some 32) 1 0 ws) (hws : ws.length ≤ 1000000) : Spec (G w) true 71 (.ref 734) [tx l] (.list (ws.map tx)) := fun C hC hlv hfull s O vals hok hfr hO hv => by
  have hprog : C.M.prog = PySem.Challenge.pw_ny0304_04 := by show C.G.prog = _; rw [hC]; rfl
  have hP : C.M.w.params = w.params := by show C.G.w.params = _; rw [hC]; rfl
  have ok' : ∀ {h}, C.ok h → BaseOk w.params h := fun {h} hh => by have hh : C.G.ok h := hh; rw [hC] at hh; exact hh
  obtain ⟨v, r, rfl, ⟨tv, rfl⟩, hr⟩ := hv
  rw [show r = [] from hr]
  have cq : CodeQ (G w) true 71 734 (fdAt w.params 734) [S "s", S "comments", S "posix"] [tx l, .bool false, .bool true] [] (fun m _ => m = .list (ws.map tx)) :=
    codeQ_of (def_split w).toIsDef0 (by lia) rfl rfl (fun _ h => nomatch h) fun C hC hl hf L hmB hro _ => by
      intro X s R
      refine wpAny_mono (split_body hC hro hmB hl (hf rfl) (by kernel_rfl) l hlen hL hws X s R) (fun fl s' p => ?_) fun _ _ x => x
      obtain ⟨h', tk, e, fm, σ', fr, R', q⟩ := p
      refine ⟨h', tk, e, fm, σ', fr, R', ?_⟩
      cases fm <;> first | exact q | exact q.elim
  refine wpAny_call (codeAny_mono (cq C hC hlv hfull s O ⟨[.str (mk l) tv], []⟩ (Binds.of (vals := [.str (mk l) tv, .bool false, .bool true]) (bind_split (ok' hok) hprog hP _) rfl ⟨_, _, rfl, ⟨tv, rfl⟩, _, _, rfl, rfl, _, _, rfl, rfl, rfl⟩) hok hfr hO ⟨(by intro _ _ _ _ _ h; cases h), (by intro _ h; cases h), List.nodup_nil⟩) fun res s2 p2 => ?_)
  rcases res with e | (_ | _ | _ | v) <;> first | exact p2.elim | skip
  obtain ⟨m, σ', ⟨h', t', rfl, km⟩, hvm, rfl, _⟩ := p2
  exact ⟨⟨h', t', rfl, km.ks⟩, hvm⟩
/-- bridges: pairs of islands -/
noncomputable abbrev Brs := List (Nat × Nat)
noncomputable def one1 (a b : Nat) : Nat := if a = b then 1 else 0
noncomputable def deg : Brs → Nat → Nat
  | [], _ => 0
  | b :: r, v => one1 b.1 v + one1 b.2 v + deg r v
inductive Rch (bs : Brs) (s : Nat) : Nat → Prop
  | refl : Rch bs s s
  | fw {b} : b ∈ bs → Rch bs s b.1 → Rch bs s b.2
  | bw {b} : b ∈ bs → Rch bs s b.2 → Rch bs s b.1
theorem Rch.trans {bs : Brs} {s u v : Nat} (h : Rch bs s u) (h' : Rch bs u v) : Rch bs s v := by
  induction h' with
  | refl => exact h
  | fw m _ ih => exact .fw m ih
  | bw m _ ih => exact .bw m ih
theorem Rch.symm {bs : Brs} {s u : Nat} (h : Rch bs s u) : Rch bs u s := by
  induction h with
  | refl => exact .refl
  | @fw b m _ ih => exact (Rch.bw m .refl).trans ih
  | @bw b m _ ih => exact (Rch.fw m .refl).trans ih
theorem Rch.mono {bs bs' : Brs} (hs : ∀ b ∈ bs, b ∈ bs') {s u : Nat} (h : Rch bs s u) : Rch bs' s u := by
  induction h with
  | refl => exact .refl
  | fw m _ ih => exact .fw (hs _ m) ih
  | bw m _ ih => exact .bw (hs _ m) ih
/-- all bridges lie between the four islands -/
noncomputable def Isl (bs : Brs) : Prop := ∀ b ∈ bs, b.1 < 4 ∧ b.2 < 4
/-- a walk over all bridges, each once, leads from s to t -/
structure Eul (bs : Brs) (s t : Nat) : Prop where
  s4 : s < 4
  t4 : t < 4
  par : ∀ v, deg bs v % 2 = (one1 s v + one1 t v) % 2
  con : ∀ b ∈ bs, Rch bs s b.1
theorem deg_perm {a b : Brs} (h : a.Perm b) (v : Nat) : deg a v = deg b v := by
  induction h with
  | nil => rfl
  | cons x _ ih => simp only [deg, ih]
  | swap x y l => simp only [deg]; lia
  | trans _ _ ih ih' => exact ih.trans ih'
theorem Eul.perm {a b : Brs} (h : a.Perm b) {s t : Nat} (x : Eul a s t) : Eul b s t :=
  ⟨x.s4, x.t4, fun v => by rw [← deg_perm h]; exact x.par v, fun c hc => (x.con c (h.mem_iff.mpr hc)).mono fun d hd => h.mem_iff.mp hd⟩
theorem deg_pos {bs : Brs} {v : Nat} (h : 0 < deg bs v) : ∃ b ∈ bs, b.1 = v ∨ b.2 = v := by
  induction bs with
  | nil => simp [deg] at h
  | cons b r ih =>
    by_cases h1 : b.1 = v
    · exact ⟨b, List.mem_cons_self, .inl h1⟩
    by_cases h2 : b.2 = v
    · exact ⟨b, List.mem_cons_self, .inr h2⟩
    simp only [deg, one1, h1, h2, if_false, Nat.zero_add] at h
    obtain ⟨c, hc, q⟩ := ih h
    exact ⟨c, List.mem_cons_of_mem _ hc, q⟩
theorem one1_self (a : Nat) : one1 a a = 1 := by simp [one1]
/-- the two ends of a bridge -/
noncomputable def Ends (b : Nat × Nat) (u t : Nat) : Prop := b = (u, t) ∨ b = (t, u)
theorem deg_ends {b : Nat × Nat} {u t : Nat} (h : Ends b u t) (r : Brs) (v : Nat) : deg (b :: r) v = one1 u v + one1 t v + deg r v := by
  rcases h with rfl | rfl <;> simp only [deg] <;> lia
theorem Rch.ends {bs : Brs} {b : Nat × Nat} {u t : Nat} (h : Ends b u t) (m : b ∈ bs) : Rch bs u t := by
  rcases h with rfl | rfl
  · exact .fw m .refl
  · exact .bw m .refl
/-- one bridge more at the walk's end -/
theorem Eul.snoc {b : Nat × Nat} {r : Brs} {s u t : Nat} (hb : Ends b u t) (ht : t < 4) (x : Eul r s u) : Eul (b :: r) s t := by
  have sub : ∀ c ∈ r, c ∈ b :: r := fun c hc => List.mem_cons_of_mem _ hc
  have hu : Rch (b :: r) s u := by
    by_cases e : s = u
    · subst e; exact .refl
    · have := x.par u
      rw [one1_self] at this
      have : one1 s u = 0 := by simp [one1, e]
      have hp : 0 < deg r u := by lia
      obtain ⟨c, hc, q⟩ := deg_pos hp
      have h1 := (x.con c hc).mono sub
      rcases q with q | q
      · rw [← q]; exact h1
      · rw [← q]; exact .fw (sub c hc) h1
  refine ⟨x.s4, ht, fun v => ?_, fun c hc => ?_⟩
  · rw [deg_ends hb]
    have := x.par v
    lia
  · rcases List.mem_cons.mp hc with rfl | hc
    · have ht' : Rch (c :: r) s t := hu.trans (Rch.ends hb List.mem_cons_self)
      rcases hb with rfl | rfl
      · exact hu
      · exact ht'
    · exact (x.con c hc).mono sub
theorem hand {r : Brs} (B : Nat → Prop) [DecidablePred B] (h4 : Isl r) (hB : ∀ b ∈ r, B b.1 ↔ B b.2) :
    ((if B 0 then deg r 0 else 0) + (if B 1 then deg r 1 else 0) + (if B 2 then deg r 2 else 0) + (if B 3 then deg r 3 else 0)) % 2 = 0 := by
  induction r with
  | nil => simp [deg]
  | cons b r ih =>
    have := ih (fun c hc => h4 c (List.mem_cons_of_mem _ hc)) fun c hc => hB c (List.mem_cons_of_mem _ hc)
    obtain ⟨h1, h2⟩ := h4 b List.mem_cons_self
    have hb := hB b List.mem_cons_self
    obtain ⟨x, y⟩ := b
    simp only [deg] at *
    have ex : ∀ x, x < 4 → (if B 0 then one1 x 0 else 0) + (if B 1 then one1 x 1 else 0) + (if B 2 then one1 x 2 else 0) + (if B 3 then one1 x 3 else 0) = if B x then 1 else 0 := by
      intro x hx
      rcases (by lia : x = 0 ∨ x = 1 ∨ x = 2 ∨ x = 3) with rfl | rfl | rfl | rfl <;> simp [one1]
    have e1 := ex x h1
    have e2 := ex y h2
    have : (if B x then 1 else 0) = (if B y then 1 else 0) := by by_cases q : B x <;> simp [q, hb.mp, ← hb]
    by_cases b0 : B 0 <;> by_cases b1 : B 1 <;> by_cases b2 : B 2 <;> by_cases b3 : B 3 <;> simp only [b0, b1, b2, b3, if_true, if_false] at * <;> lia
/-- a bridge whose lack parts its ends: the walk's start lies on the other side -/
theorem cut_side {b : Nat × Nat} {r : Brs} {s u t : Nat} (h4 : Isl r) (hs : s < 4) (hu : u < 4) (hb : Ends b u t) (hp : ∀ v, deg (b :: r) v % 2 = (one1 s v + one1 t v) % 2) (hc : ¬ Rch r t u) : Rch r u s := by
  classical
  apply Classical.byContradiction
  intro hns
  have hh := hand (r := r) (fun v => Rch r u v) h4 fun c hc => ⟨fun q => .fw hc q, fun q => .bw hc q⟩
  have par : ∀ v, deg r v % 2 = (one1 s v + one1 u v) % 2 := fun v => by
    have := hp v
    rw [deg_ends hb] at this
    lia
  have key : ∀ v, ((if Rch r u v then deg r v else 0) % 2) = (if v = u then 1 else 0) := fun v => by
    by_cases hv : Rch r u v
    · rw [if_pos hv, par v]
      have : s ≠ v := fun q => hns (q ▸ hv)
      by_cases e : v = u
      · subst e; simp [one1, this]
      · simp [one1, this, e, Ne.symm e]
    · rw [if_neg hv]
      have : v ≠ u := fun q => hv (q ▸ .refl)
      simp [this]
  have k0 := key 0
  have k1 := key 1
  have k2 := key 2
  have k3 := key 3
  rcases (by lia : u = 0 ∨ u = 1 ∨ u = 2 ∨ u = 3) with rfl | rfl | rfl | rfl <;> simp at k0 k1 k2 k3 <;> lia
theorem isl_tail {b : Nat × Nat} {r : Brs} (h : Isl (b :: r)) : Isl r := fun c hc => h c (List.mem_cons_of_mem _ hc)
/-- Fleury: a walk's last bridge -/
theorem Eul.last {bs : Brs} {s t : Nat} (h4 : Isl bs) (hne : bs ≠ []) (x : Eul bs s t) : ∃ b u r, bs.Perm (b :: r) ∧ Ends b u t ∧ Eul r s u := by
  classical
  -- a bridge lies at t
  have ex : ∃ b ∈ bs, b.1 = t ∨ b.2 = t := by
    by_cases e : s = t
    · subst e
      obtain ⟨b, hb⟩ := List.exists_mem_of_ne_nil bs hne
      have go : ∀ v, Rch bs s v → v = s ∨ ∃ b ∈ bs, b.1 = s ∨ b.2 = s := by
        intro v hv
        induction hv with
        | refl => exact .inl rfl
        | @fw c m _ ih => exact ih.elim (fun q => .inr ⟨c, m, .inl q⟩) .inr
        | @bw c m _ ih => exact ih.elim (fun q => .inr ⟨c, m, .inr q⟩) .inr
      rcases go _ (x.con b hb) with q | q
      · exact ⟨b, hb, .inl q⟩
      · exact q
    · have := x.par t
      rw [one1_self] at this
      have h0 : one1 s t = 0 := by simp [one1, e]
      exact deg_pos (by lia)
  have all : ∀ b ∈ bs, Rch bs s b.1 ∧ Rch bs s b.2 := fun b hb => ⟨x.con b hb, .fw hb (x.con b hb)⟩
  have mk : ∀ b ∈ bs, ∀ u, Ends b u t → ∃ r, bs.Perm (b :: r) ∧ r = bs.erase b ∧ u < 4 := fun b hb u he => by
    refine ⟨bs.erase b, List.perm_cons_erase hb, rfl, ?_⟩
    have := h4 b hb
    rcases he with rfl | rfl
    · exact this.1
    · exact this.2
  have par' : ∀ {b r u}, bs.Perm (b :: r) → Ends b u t → ∀ v, deg r v % 2 = (one1 s v + one1 u v) % 2 := fun {b r u} hp he v => by
    have := x.par v
    rw [deg_perm hp, deg_ends he] at this
    lia
  by_cases hnc : ∃ b ∈ bs, ∃ u, Ends b u t ∧ Rch (bs.erase b) t u
  · obtain ⟨b, hb, u, he, hr⟩ := hnc
    obtain ⟨r, hp, rfl, hu⟩ := mk b hb u he
    have back : ∀ a v, Rch bs a v → Rch (bs.erase b) a v := by
      intro a v hv
      induction hv with
      | refl => exact .refl
      | @fw c m _ ih =>
        by_cases q : c = b
        · subst q
          rcases he with rfl | rfl
          · exact ih.trans hr.symm
          · exact ih.trans hr
        · exact .fw ((List.mem_erase_of_ne q).mpr m) ih
      | @bw c m _ ih =>
        by_cases q : c = b
        · subst q
          rcases he with rfl | rfl
          · exact ih.trans hr
          · exact ih.trans hr.symm
        · exact .bw ((List.mem_erase_of_ne q).mpr m) ih
    refine ⟨b, u, bs.erase b, hp, he, x.s4, hu, par' hp he, fun c hc => back _ _ (x.con c (List.mem_of_mem_erase hc))⟩
  · have hcut : ∀ b ∈ bs, ∀ u, Ends b u t → ¬ Rch (bs.erase b) t u := fun b hb u he q => hnc ⟨b, hb, u, he, q⟩
    obtain ⟨b, hb, hbt⟩ := ex
    obtain ⟨u, he⟩ : ∃ u, Ends b u t := by
      rcases hbt with q | q
      · exact ⟨b.2, .inr (by rw [← q])⟩
      · exact ⟨b.1, .inl (by rw [← q])⟩
    obtain ⟨r, hp, hre, hu⟩ := mk b hb u he
    have hi4 : Isl r := fun c hc => h4 c (hp.mem_iff.mpr (List.mem_cons_of_mem _ hc))
    have hside : Rch r u s := cut_side hi4 x.s4 hu he (fun v => by rw [← deg_perm hp]; exact x.par v) (by rw [hre]; exact hcut b hb u he)
    have hnu : ¬ Rch r u t := fun q => hcut b hb u he (by rw [← hre]; exact q.symm)
    have hno : ∀ f ∈ r, f.1 ≠ t ∧ f.2 ≠ t := by
      intro f hf
      apply Classical.byContradiction
      intro hneg
      obtain ⟨y, hfe⟩ : ∃ y, Ends f y t := by
        by_cases q : f.1 = t
        · exact ⟨f.2, .inr (by rw [← q])⟩
        · by_cases q2 : f.2 = t
          · exact ⟨f.1, .inl (by rw [← q2])⟩
          · exact absurd ⟨q, q2⟩ hneg
      have hfb : f ∈ bs := hp.mem_iff.mpr (List.mem_cons_of_mem _ hf)
      obtain ⟨r', hp', hre', hy⟩ := mk f hfb y hfe
      have hi4' : Isl r' := fun c hc => h4 c (hp'.mem_iff.mpr (List.mem_cons_of_mem _ hc))
      have hys : Rch r' y s := cut_side hi4' x.s4 hy hfe (fun v => by rw [← deg_perm hp']; exact x.par v) (by rw [hre']; exact hcut f hfb y hfe)
      -- the way from u to s does not meet f
      have hus : Rch r' u s := by
        have go : ∀ v, Rch r u v → Rch r' u v := by
          intro v hv
          have nf : ∀ {c}, c ∈ r → (Rch r u c.1 ∨ Rch r u c.2) → c ∈ r' := fun {c} m h => by
            have m' : c ∈ bs := hp.mem_iff.mpr (List.mem_cons_of_mem _ m)
            have hcf : c ≠ f := by
              rintro rfl
              have both : Rch r u c.1 ∧ Rch r u c.2 := h.elim (fun q => ⟨q, .fw m q⟩) fun q => ⟨.bw m q, q⟩
              rcases hfe with e | e
              · rw [e] at both; exact hnu both.2
              · rw [e] at both; exact hnu both.1
            rw [hre']; exact (List.mem_erase_of_ne hcf).mpr m'
          induction hv with
          | refl => exact .refl
          | @fw c m h ih => exact .fw (nf m (.inl h)) ih
          | @bw c m h ih => exact .bw (nf m (.inr h)) ih
        exact go s hside
      -- b is in r'
      have hbr' : b ∈ r' := by
        have p2 : (b :: bs.erase b).Perm (f :: r') := (List.perm_cons_erase hb).symm.trans hp'
        by_cases q : b = f
        · subst q
          have h3 : (bs.erase b).Perm r' := List.Perm.cons_inv p2
          exact h3.mem_iff.mp (by rw [← hre]; exact hf)
        · have : b ∈ f :: r' := p2.mem_iff.mp List.mem_cons_self
          exact (List.mem_cons.mp this).resolve_left q
      have : Rch r' t y := ((Rch.ends he hbr').symm.trans hus).trans hys.symm
      exact hcut f hfb y hfe (by rw [← hre']; exact this)
    have reach : ∀ v, Rch bs s v → v = t ∨ Rch r s v := by
      intro v hv
      have nt : ∀ {c}, c ∈ bs → c = b ∨ c ∈ r := fun {c} m => List.mem_cons.mp (hp.mem_iff.mp m)
      have hsu : Rch r s u := hside.symm
      induction hv with
      | refl => exact .inr .refl
      | @fw c m _ ih =>
        rcases nt m with rfl | m'
        · rcases he with rfl | rfl
          · exact .inl rfl
          · exact .inr hsu
        · rcases ih with q | q
          · exact absurd q (hno c m').1
          · exact .inr (.fw m' q)
      | @bw c m _ ih =>
        rcases nt m with rfl | m'
        · rcases he with rfl | rfl
          · exact .inr hsu
          · exact .inl rfl
        · rcases ih with q | q
          · exact absurd q (hno c m').2
          · exact .inr (.bw m' q)
    refine ⟨b, u, r, hp, he, x.s4, hu, par' hp he, fun c hc => ?_⟩
    rcases reach _ (x.con c (hp.mem_iff.mpr (List.mem_cons_of_mem _ hc))) with q | q
    · exact absurd q (hno c hc).1
    · exact q
noncomputable def wE (w : List Nat) : Nat × Nat := (w.headD 0, w.getLastD 0)
noncomputable def tryA (h t : Nat) (acc : List (List Nat)) (w : List Nat) : List (List Nat) := if w.getLastD 0 = h ∧ (w.headD 0, t) ∉ acc.map wE then acc ++ [w ++ [t]] else acc
noncomputable def addW (b : Nat × Nat) (acc : List (List Nat)) (w : List Nat) : List (List Nat) := tryA b.2 b.1 (tryA b.1 b.2 acc w) w
noncomputable def addK (bs : Brs) (found : List (List (List Nat))) (c : Nat) (acc : List (List Nat)) (k : Nat) : List (List Nat) := if c / 2 ^ k % 2 = 1 then (found.getD (c - 2 ^ k) []).foldl (addW (bs.getD k (0, 0))) acc else acc
noncomputable def walksAt (bs : Brs) (found : List (List (List Nat))) (c : Nat) : List (List Nat) := (List.range bs.length).foldl (addK bs found c) []
noncomputable def foundN (bs : Brs) : Nat → List (List (List Nat))
  | 0 => [[[0], [1], [2], [3]]]
  | c + 1 => foundN bs c ++ [walksAt bs (foundN bs c) (c + 1)]
/-- the bridges that are chosen -/
noncomputable def subB : Brs → Nat → Brs
  | [], _ => []
  | b :: r, c => if c % 2 = 1 then b :: subB r (c / 2) else subB r (c / 2)
theorem sub_half (c p : Nat) : (c - p * 2) / 2 = c / 2 - p := by lia
theorem sub_par (c p : Nat) (h : p ≤ c / 2) : (c - p * 2) % 2 = c % 2 := by lia
theorem subB_perm : ∀ (k : Nat) (bs : Brs) (c : Nat), c / 2 ^ k % 2 = 1 → k < bs.length → (subB bs c).Perm (bs.getD k (0, 0) :: subB bs (c - 2 ^ k))
  | _, [], _, _, h => absurd h (Nat.not_lt_zero _)
  | 0, b :: r, c, h, _ => by
    simp only [Nat.pow_zero, Nat.div_one] at h
    have h2 : ¬ (c - 2 ^ 0) % 2 = 1 := by simp; lia
    have h3 : (c - 2 ^ 0) / 2 = c / 2 := by simp; lia
    rw [subB, if_pos h, subB, if_neg h2, h3]
    exact List.Perm.refl _
  | k + 1, b :: r, c, h, hk => by
    have hk' : k < r.length := by simpa using hk
    have e1 : c / 2 ^ (k + 1) = c / 2 / 2 ^ k := by rw [Nat.pow_succ, Nat.mul_comm, Nat.div_div_eq_div_mul]
    rw [e1] at h
    have ih := subB_perm k r (c / 2) h hk'
    have e2 : (c - 2 ^ (k + 1)) / 2 = c / 2 - 2 ^ k := by rw [Nat.pow_succ]; exact sub_half _ _
    have le : 2 ^ k ≤ c / 2 := by
      apply Classical.byContradiction
      intro q
      rw [Nat.div_eq_of_lt (by lia)] at h
      simp at h
    have e3 : (c - 2 ^ (k + 1)) % 2 = c % 2 := by rw [Nat.pow_succ]; exact sub_par _ _ le
    show (if c % 2 = 1 then b :: subB r (c / 2) else subB r (c / 2)).Perm (r.getD k (0, 0) :: if (c - 2 ^ (k + 1)) % 2 = 1 then b :: subB r ((c - 2 ^ (k + 1)) / 2) else subB r ((c - 2 ^ (k + 1)) / 2))
    rw [e2, e3]
    split
    · exact (ih.cons b).trans (.swap _ _ _)
    · exact ih
theorem subB_mem {b : Nat × Nat} : ∀ (bs : Brs) (c : Nat), b ∈ subB bs c → ∃ k, k < bs.length ∧ c / 2 ^ k % 2 = 1 ∧ bs.getD k (0, 0) = b
  | [], _, h => nomatch h
  | x :: r, c, h => by
    rw [subB] at h
    have next : b ∈ subB r (c / 2) → ∃ k, k < (x :: r).length ∧ c / 2 ^ k % 2 = 1 ∧ (x :: r).getD k (0, 0) = b := fun h => by
      obtain ⟨k, h1, h2, h3⟩ := subB_mem r _ h
      refine ⟨k + 1, by simpa using h1, ?_, by simpa using h3⟩
      rw [Nat.pow_succ, Nat.mul_comm, ← Nat.div_div_eq_div_mul]; exact h2
    split at h
    · rename_i hc
      rcases List.mem_cons.mp h with rfl | h
      · exact ⟨0, by simp, by simpa using hc, rfl⟩
      · exact next h
    · exact next h
theorem subB_sub {b : Nat × Nat} : ∀ {bs : Brs} {c : Nat}, b ∈ subB bs c → b ∈ bs
  | [], _, h => nomatch h
  | x :: r, c, h => by
    rw [subB] at h
    split at h
    · rcases List.mem_cons.mp h with rfl | h
      · exact List.mem_cons_self
      · exact List.mem_cons_of_mem _ (subB_sub h)
    · exact List.mem_cons_of_mem _ (subB_sub h)
theorem subB_ne : ∀ (bs : Brs) (c : Nat), 0 < c → c < 2 ^ bs.length → subB bs c ≠ []
  | [], c, h, h' => by simp at h'; lia
  | x :: r, c, h, h' => by
    rw [subB]
    split
    · simp
    · exact subB_ne r (c / 2) (by lia) (by rw [List.length_cons, Nat.pow_succ] at h'; lia)
theorem subB_all : ∀ bs : Brs, subB bs (2 ^ bs.length - 1) = bs
  | [] => rfl
  | x :: r => by
    have hp := Nat.two_pow_pos r.length
    rw [List.length_cons, Nat.pow_succ, subB, if_pos (by lia), show (2 ^ r.length * 2 - 1) / 2 = 2 ^ r.length - 1 by lia, subB_all r]
theorem subB_zero : ∀ bs : Brs, subB bs 0 = []
  | [] => rfl
  | x :: r => by rw [subB, if_neg (by decide)]; exact subB_zero r
structure GW (sub : Brs) (w : List Nat) : Prop where
  ne : w ≠ []
  lt : ∀ v ∈ w, v < 4
  len : w.length = sub.length + 1
  cnt : ∀ v, 2 * w.count v = deg sub v + one1 (w.headD 0) v + one1 (w.getLastD 0) v
  eul : Eul sub (w.headD 0) (w.getLastD 0)
theorem headD_snoc {w : List Nat} (h : w ≠ []) (t : Nat) : (w ++ [t]).headD 0 = w.headD 0 := by
  cases w with
  | nil => exact absurd rfl h
  | cons a r => rfl
theorem lastD_snoc (w : List Nat) (t : Nat) : (w ++ [t]).getLastD 0 = t := by simp [List.getLastD_eq_getLast?]
theorem count_one (v t : Nat) : List.count v [t] = one1 t v := by simp [one1, List.count_cons]
theorem GW.snoc {sub r : Brs} {b : Nat × Nat} {w : List Nat} {u t : Nat} (hp : sub.Perm (b :: r)) (hb : Ends b u t) (ht : t < 4) (x : GW r w) (hl : w.getLastD 0 = u) : GW sub (w ++ [t]) := by
  refine ⟨by simp, fun v hv => ?_, ?_, fun v => ?_, ?_⟩
  · rcases List.mem_append.mp hv with h | h
    · exact x.lt v h
    · rw [List.mem_singleton.mp h]; exact ht
  · rw [List.length_append, x.len, hp.length_eq]; rfl
  · rw [headD_snoc x.ne, lastD_snoc, deg_perm hp, deg_ends hb, List.count_append, count_one]
    have := x.cnt v
    rw [hl] at this
    lia
  · rw [headD_snoc x.ne, lastD_snoc]
    have := x.eul
    rw [hl] at this
    exact (Eul.snoc hb ht this).perm hp.symm
structure Pre (sub : Brs) (acc : List (List Nat)) : Prop where
  each : ∀ w ∈ acc, GW sub w
  nd : (acc.map wE).Nodup
theorem tryA_ok {sub : Brs} {acc : List (List Nat)} {w : List Nat} {h t : Nat} (P : Pre sub acc) (hw : w ≠ []) (hg : w.getLastD 0 = h → GW sub (w ++ [t])) :
    Pre sub (tryA h t acc w) ∧ (∀ p ∈ acc.map wE, p ∈ (tryA h t acc w).map wE) ∧ (w.getLastD 0 = h → (w.headD 0, t) ∈ (tryA h t acc w).map wE) := by
  have we : wE (w ++ [t]) = (w.headD 0, t) := by unfold wE; rw [headD_snoc hw, lastD_snoc]
  unfold tryA
  split
  · rename_i hc
    refine ⟨⟨fun v hv => ?_, ?_⟩, fun p hp => ?_, fun _ => ?_⟩
    · rcases List.mem_append.mp hv with q | q
      · exact P.each v q
      · rw [List.mem_singleton.mp q]; exact hg hc.1
    · rw [List.map_append, List.nodup_append]
      refine ⟨P.nd, by simp, fun a ha b hb => ?_⟩
      rw [List.map_cons, List.map_nil, List.mem_singleton, we] at hb
      rintro rfl
      exact hc.2 (hb ▸ ha)
    · rw [List.map_append]; exact List.mem_append_left _ hp
    · rw [List.map_append, List.map_cons, List.map_nil, we]; exact List.mem_append_right _ List.mem_cons_self
  · rename_i hc
    refine ⟨P, fun p hp => hp, fun hl => ?_⟩
    exact Classical.byContradiction fun q => hc ⟨hl, q⟩
theorem addW_ok {sub r : Brs} {b : Nat × Nat} {acc : List (List Nat)} {w : List Nat} (hp : sub.Perm (b :: r)) (hb : b.1 < 4 ∧ b.2 < 4) (P : Pre sub acc) (hw : GW r w) :
    Pre sub (addW b acc w) ∧ (∀ p ∈ acc.map wE, p ∈ (addW b acc w).map wE) ∧ ∀ u t, Ends b u t → w.getLastD 0 = u → (w.headD 0, t) ∈ (addW b acc w).map wE := by
  obtain ⟨P1, m1, c1⟩ := tryA_ok (h := b.1) (t := b.2) P hw.ne fun hl => hw.snoc hp (.inl rfl) hb.2 hl
  obtain ⟨P2, m2, c2⟩ := tryA_ok (h := b.2) (t := b.1) P1 hw.ne fun hl => hw.snoc hp (.inr rfl) hb.1 hl
  refine ⟨P2, fun p h => m2 p (m1 p h), fun u t he hl => ?_⟩
  rcases he with rfl | rfl
  · exact m2 _ (c1 hl)
  · exact c2 hl
theorem addWs_ok {sub r : Brs} {b : Nat × Nat} (hp : sub.Perm (b :: r)) (hb : b.1 < 4 ∧ b.2 < 4) : ∀ (ws : List (List Nat)) {acc : List (List Nat)}, Pre sub acc → (∀ w ∈ ws, GW r w) →
    Pre sub (ws.foldl (addW b) acc) ∧ (∀ p ∈ acc.map wE, p ∈ (ws.foldl (addW b) acc).map wE) ∧ ∀ w ∈ ws, ∀ u t, Ends b u t → w.getLastD 0 = u → (w.headD 0, t) ∈ (ws.foldl (addW b) acc).map wE
  | [], acc, P, _ => ⟨P, fun _ h => h, fun _ h => nomatch h⟩
  | w :: ws, acc, P, hw => by
    obtain ⟨P1, m1, c1⟩ := addW_ok hp hb P (hw w List.mem_cons_self)
    obtain ⟨P2, m2, c2⟩ := addWs_ok hp hb ws P1 fun x hx => hw x (List.mem_cons_of_mem _ hx)
    refine ⟨P2, fun p h => m2 p (m1 p h), fun x hx u t he hl => ?_⟩
    rcases List.mem_cons.mp hx with rfl | hx
    · exact m2 _ (c1 u t he hl)
    · exact c2 x hx u t he hl
/-- all walks of a set of bridges -/
structure GWs (sub : Brs) (W : List (List Nat)) : Prop extends Pre sub W where
  all : ∀ s t, Eul sub s t → (s, t) ∈ W.map wE
theorem isl_getD {bs : Brs} (h4 : Isl bs) (k : Nat) : (bs.getD k (0, 0)).1 < 4 ∧ (bs.getD k (0, 0)).2 < 4 := by
  rw [List.getD_eq_getElem?_getD]
  cases q : bs[k]? with
  | none => simp
  | some b => exact h4 b (List.mem_of_getElem? q)
theorem addKs_ok {bs : Brs} (h4 : Isl bs) {found : List (List (List Nat))} {c : Nat} (hf : ∀ k, k < bs.length → c / 2 ^ k % 2 = 1 → GWs (subB bs (c - 2 ^ k)) (found.getD (c - 2 ^ k) [])) : ∀ (ks : List Nat) {acc : List (List Nat)}, (∀ k ∈ ks, k < bs.length) → Pre (subB bs c) acc →
    Pre (subB bs c) (ks.foldl (addK bs found c) acc) ∧ (∀ p ∈ acc.map wE, p ∈ (ks.foldl (addK bs found c) acc).map wE) ∧
      ∀ k ∈ ks, c / 2 ^ k % 2 = 1 → ∀ w ∈ found.getD (c - 2 ^ k) [], ∀ u t, Ends (bs.getD k (0, 0)) u t → w.getLastD 0 = u → (w.headD 0, t) ∈ (ks.foldl (addK bs found c) acc).map wE
  | [], acc, _, P => ⟨P, fun _ h => h, fun _ h => nomatch h⟩
  | k :: ks, acc, hk, P => by
    have hkl := hk k List.mem_cons_self
    have one : Pre (subB bs c) (addK bs found c acc k) ∧ (∀ p ∈ acc.map wE, p ∈ (addK bs found c acc k).map wE) ∧ (c / 2 ^ k % 2 = 1 → ∀ w ∈ found.getD (c - 2 ^ k) [], ∀ u t, Ends (bs.getD k (0, 0)) u t → w.getLastD 0 = u → (w.headD 0, t) ∈ (addK bs found c acc k).map wE) := by
      unfold addK
      split
      · rename_i hb
        obtain ⟨a1, a2, a3⟩ := addWs_ok (subB_perm k bs c hb hkl) (isl_getD h4 k) (found.getD (c - 2 ^ k) []) P (hf k hkl hb).each
        exact ⟨a1, a2, fun _ => a3⟩
      · rename_i hb
        exact ⟨P, fun _ h => h, fun h => absurd h hb⟩
    obtain ⟨P1, m1, c1⟩ := one
    obtain ⟨P2, m2, c2⟩ := addKs_ok h4 hf ks (fun x hx => hk x (List.mem_cons_of_mem _ hx)) P1
    refine ⟨P2, fun p h => m2 p (m1 p h), fun x hx hb w hw u t he hl => ?_⟩
    rcases List.mem_cons.mp hx with rfl | hx
    · exact m2 _ (c1 hb w hw u t he hl)
    · exact c2 x hx hb w hw u t he hl
theorem walksAt_ok {bs : Brs} (h4 : Isl bs) {found : List (List (List Nat))} {c : Nat} (h0 : 0 < c) (hc : c < 2 ^ bs.length) (hf : ∀ d, d < c → GWs (subB bs d) (found.getD d [])) : GWs (subB bs c) (walksAt bs found c) := by
  have hf' : ∀ k, k < bs.length → c / 2 ^ k % 2 = 1 → GWs (subB bs (c - 2 ^ k)) (found.getD (c - 2 ^ k) []) := fun k _ _ => hf _ (by have := Nat.two_pow_pos k; lia)
  obtain ⟨P, _, cc⟩ := addKs_ok h4 hf' (List.range bs.length) (acc := []) (fun k hk => List.mem_range.mp hk) ⟨(fun _ h => nomatch h), List.nodup_nil⟩
  refine ⟨P, fun s t he => ?_⟩
  have h4' : Isl (subB bs c) := fun b hb => h4 b (subB_sub hb)
  obtain ⟨b, u, r, hp, hb, hr⟩ := he.last h4' (subB_ne bs c h0 hc)
  obtain ⟨k, k1, k2, k3⟩ := subB_mem bs c (hp.mem_iff.mpr List.mem_cons_self)
  have p2 := subB_perm k bs c k2 k1
  rw [k3] at p2
  have hr' : Eul (subB bs (c - 2 ^ k)) s u := hr.perm (List.Perm.cons_inv (hp.symm.trans p2))
  obtain ⟨w, hw, e⟩ := List.mem_map.mp ((hf' k k1 k2).all s u hr')
  unfold wE at e
  have e1 : w.headD 0 = s := congrArg Prod.fst e
  have e2 : w.getLastD 0 = u := congrArg Prod.snd e
  have := cc k (List.mem_range.mpr k1) k2 w hw u t (by rw [k3]; exact hb) e2
  rw [e1] at this
  exact this
theorem foundN_len (bs : Brs) : ∀ m, (foundN bs m).length = m + 1
  | 0 => rfl
  | m + 1 => by rw [foundN, List.length_append, foundN_len bs m]; rfl
theorem zero_ok : GWs [] [[0], [1], [2], [3]] := by
  refine ⟨⟨fun w hw => ?_, by decide⟩, fun s t he => ?_⟩
  · simp only [List.mem_cons, List.not_mem_nil, or_false] at hw
    have mk : ∀ a, a < 4 → GW [] [a] := fun a ha => ⟨by simp, by simp [ha], rfl, fun v => by rw [count_one]; simp [deg]; lia, ⟨ha, ha, fun v => by simp [deg]; lia, fun b hb => nomatch hb⟩⟩
    rcases hw with rfl | rfl | rfl | rfl <;> exact mk _ (by decide)
  · have hst : s = t := by
      apply Classical.byContradiction
      intro q
      have := he.par s
      rw [one1_self] at this
      have h0 : one1 t s = 0 := by simp [one1, Ne.symm q]
      simp [deg, h0] at this
    subst hst
    have := he.s4
    rcases (by lia : s = 0 ∨ s = 1 ∨ s = 2 ∨ s = 3) with rfl | rfl | rfl | rfl <;> decide
theorem foundN_ok {bs : Brs} (h4 : Isl bs) : ∀ m, m < 2 ^ bs.length → ∀ c, c ≤ m → GWs (subB bs c) ((foundN bs m).getD c [])
  | 0, _, c, hc => by
    have : c = 0 := by lia
    subst this
    rw [subB_zero]; exact zero_ok
  | m + 1, hm, c, hc => by
    have ih := foundN_ok h4 m (by lia)
    have hl := foundN_len bs m
    rw [foundN, List.getD_eq_getElem?_getD]
    by_cases e : c = m + 1
    · subst e
      rw [List.getElem?_append_right (by lia), hl, Nat.sub_self]
      exact walksAt_ok h4 (by lia) hm fun d hd => ih d (by lia)
    · rw [List.getElem?_append_left (by lia), ← List.getD_eq_getElem?_getD]
      exact ih c (by lia)
/-- all walks over all bridges -/
noncomputable def allW (bs : Brs) : List (List Nat) := (foundN bs (2 ^ bs.length - 1)).getLastD []
theorem allW_ok {bs : Brs} (h4 : Isl bs) : GWs bs (allW bs) := by
  have hp := Nat.two_pow_pos bs.length
  have h := foundN_ok h4 (2 ^ bs.length - 1) (by lia) (2 ^ bs.length - 1) (Nat.le_refl _)
  rw [subB_all] at h
  have e : allW bs = (foundN bs (2 ^ bs.length - 1)).getD (2 ^ bs.length - 1) [] := by
    unfold allW
    rw [List.getLastD_eq_getLast?, List.getLast?_eq_getElem?, foundN_len, List.getD_eq_getElem?_getD]
    rfl
  rw [e]; exact h
noncomputable def pass1 (R : List Nat) (b : Nat × Nat) : List Nat := if b.1 ∈ R ∨ b.2 ∈ R then R ++ [b.1, b.2] else R
noncomputable def passN (bs : Brs) : List (Nat × Nat) → List Nat → List Nat
  | [], R => R
  | _ :: r, R => passN bs r (bs.foldl pass1 R)
noncomputable def Clo (bs : Brs) (R : List Nat) : Prop := ∀ b ∈ bs, b.1 ∈ R ∨ b.2 ∈ R → b.1 ∈ R ∧ b.2 ∈ R
noncomputable def insC (bs : Brs) (R : List Nat) : Nat := bs.countP fun b => decide (b.1 ∈ R ∧ b.2 ∈ R)
theorem pass1_sub {R : List Nat} {b : Nat × Nat} {v : Nat} (h : v ∈ R) : v ∈ pass1 R b := by
  unfold pass1
  split
  · exact List.mem_append_left _ h
  · exact h
theorem fold1_sub : ∀ (l : Brs) {R : List Nat} {v : Nat}, v ∈ R → v ∈ l.foldl pass1 R
  | [], _, _, h => h
  | b :: r, _, _, h => fold1_sub r (pass1_sub h)
theorem fold1_in : ∀ (l : Brs) {R : List Nat} {b : Nat × Nat}, b ∈ l → b.1 ∈ R ∨ b.2 ∈ R → b.1 ∈ l.foldl pass1 R ∧ b.2 ∈ l.foldl pass1 R
  | c :: r, R, b, hb, h => by
    rcases List.mem_cons.mp hb with rfl | hb
    · have : b.1 ∈ pass1 R b ∧ b.2 ∈ pass1 R b := by
        unfold pass1; rw [if_pos h]
        exact ⟨List.mem_append_right _ (by simp), List.mem_append_right _ (by simp)⟩
      exact ⟨fold1_sub r this.1, fold1_sub r this.2⟩
    · exact fold1_in r hb (h.imp pass1_sub pass1_sub)
theorem fold1_clo {bs : Brs} {R : List Nat} (hc : Clo bs R) : ∀ (l : Brs), (∀ b ∈ l, b ∈ bs) → ∀ {R' : List Nat}, (∀ v, v ∈ R' ↔ v ∈ R) → ∀ v, v ∈ l.foldl pass1 R' ↔ v ∈ R
  | [], _, _, h, v => h v
  | b :: r, hs, R', h, v => by
    refine fold1_clo hc r (fun c hc => hs c (List.mem_cons_of_mem _ hc)) (fun u => ?_) v
    unfold pass1
    split
    · rename_i q
      have := hc b (hs b List.mem_cons_self) (q.imp (h _).mp (h _).mp)
      rw [List.mem_append, h]
      simp only [List.mem_cons, List.not_mem_nil, or_false]
      constructor
      · rintro (q | rfl | rfl)
        · exact q
        · exact this.1
        · exact this.2
      · exact .inl
    · exact h u
theorem clo_fold {bs : Brs} {R : List Nat} (hc : Clo bs R) : Clo bs (bs.foldl pass1 R) := fun b hb q => by
  have e := fold1_clo hc bs (fun _ h => h) (R' := R) (fun _ => Iff.rfl)
  rw [e, e] at q ⊢
  exact hc b hb q
theorem countP_lt' {α : Type} {p q : α → Bool} : ∀ {l : List α}, (∀ x ∈ l, p x = true → q x = true) → (∃ x ∈ l, p x = false ∧ q x = true) → l.countP p < l.countP q
  | [], _, ⟨x, h, _⟩ => nomatch h
  | a :: r, h, ⟨x, hx, h1, h2⟩ => by
    have le : r.countP p ≤ r.countP q := List.countP_mono_left fun y hy => h y (List.mem_cons_of_mem _ hy)
    rcases List.mem_cons.mp hx with rfl | hx
    · rw [List.countP_cons, List.countP_cons, h1, h2]; simp; lia
    · have ih := countP_lt' (l := r) (fun y hy => h y (List.mem_cons_of_mem _ hy)) ⟨x, hx, h1, h2⟩
      have := h a List.mem_cons_self
      rw [List.countP_cons, List.countP_cons]
      cases hp : p a
      · simp; lia
      · rw [this hp]; simp; lia
theorem insC_lt {bs : Brs} {R : List Nat} (hc : ¬ Clo bs R) : insC bs R < insC bs (bs.foldl pass1 R) := by
  have : ∃ b ∈ bs, (b.1 ∈ R ∨ b.2 ∈ R) ∧ ¬ (b.1 ∈ R ∧ b.2 ∈ R) := by
    apply Classical.byContradiction
    intro q
    exact hc fun b hb h => Classical.byContradiction fun z => q ⟨b, hb, h, z⟩
  obtain ⟨b, hb, h1, h2⟩ := this
  refine countP_lt' (fun c hc h => ?_) ⟨b, hb, by simpa using h2, by simpa using fold1_in bs hb h1⟩
  have h := of_decide_eq_true h
  exact decide_eq_true ⟨fold1_sub bs h.1, fold1_sub bs h.2⟩
theorem passN_clo {bs : Brs} : ∀ (l : List (Nat × Nat)) {R : List Nat} (k : Nat), (Clo bs R ∨ k ≤ insC bs R) → Clo bs (passN bs l R) ∨ k + l.length ≤ insC bs (passN bs l R)
  | [], _, _, h => h
  | _ :: r, R, k, h => by
    have h' : Clo bs (bs.foldl pass1 R) ∨ k + 1 ≤ insC bs (bs.foldl pass1 R) := by
      by_cases hc : Clo bs R
      · exact .inl (clo_fold hc)
      · have := insC_lt hc
        have := h.resolve_left hc
        exact .inr (by lia)
    have := passN_clo r (k + 1) h'
    rw [passN, List.length_cons]
    rcases this with q | q
    · exact .inl q
    · exact .inr (by lia)
/-- the islands that are reached from the first bridge -/
noncomputable def reached (bs : Brs) : List Nat := passN bs bs [(bs.headD (0, 0)).1]
theorem reached_clo (bs : Brs) : Clo bs (reached bs) := by
  rcases passN_clo (bs := bs) bs (R := [(bs.headD (0, 0)).1]) 0 (.inr (Nat.zero_le _)) with h | h
  · exact h
  · have e : insC bs (reached bs) = bs.length := Nat.le_antisymm List.countP_le_length (by unfold reached; lia)
    have := List.countP_eq_length.mp e
    exact fun b hb _ => of_decide_eq_true (this b hb)
theorem passN_sub {bs : Brs} : ∀ (l : List (Nat × Nat)) {R : List Nat} {v : Nat}, v ∈ R → v ∈ passN bs l R
  | [], _, _, h => h
  | _ :: r, _, _, h => passN_sub r (fold1_sub bs h)
theorem fold1_sound {bs : Brs} {a : Nat} : ∀ (l : Brs), (∀ b ∈ l, b ∈ bs) → ∀ {R : List Nat}, (∀ v ∈ R, Rch bs a v) → ∀ v ∈ l.foldl pass1 R, Rch bs a v
  | [], _, _, h => h
  | b :: r, hs, R, h => by
    refine fold1_sound r (fun c hc => hs c (List.mem_cons_of_mem _ hc)) fun v hv => ?_
    have hb := hs b List.mem_cons_self
    unfold pass1 at hv
    split at hv
    · rename_i q
      have both : Rch bs a b.1 ∧ Rch bs a b.2 := q.elim (fun q => ⟨h _ q, .fw hb (h _ q)⟩) fun q => ⟨.bw hb (h _ q), h _ q⟩
      rcases List.mem_append.mp hv with q | q
      · exact h v q
      · simp only [List.mem_cons, List.not_mem_nil, or_false] at q
        rcases q with rfl | rfl
        · exact both.1
        · exact both.2
    · exact h v hv
theorem passN_sound {bs : Brs} {a : Nat} : ∀ (l : List (Nat × Nat)) {R : List Nat}, (∀ v ∈ R, Rch bs a v) → ∀ v ∈ passN bs l R, Rch bs a v
  | [], _, h => h
  | _ :: r, _, h => passN_sound r (fold1_sound bs (fun _ h => h) h)
theorem reached_iff (bs : Brs) (v : Nat) : v ∈ reached bs ↔ Rch bs (bs.headD (0, 0)).1 v := by
  constructor
  · refine passN_sound bs (fun u hu => ?_) v
    rw [List.mem_singleton.mp hu]; exact .refl
  · intro h
    have hc := reached_clo bs
    induction h with
    | refl => exact passN_sub bs List.mem_cons_self
    | @fw b m _ ih => exact (hc b m (.inl ih)).2
    | @bw b m _ ih => exact (hc b m (.inr ih)).1
noncomputable def oddL (bs : Brs) : List Nat := [0, 1, 2, 3].filter fun i => decide (deg bs i % 2 = 1)
noncomputable def Con (bs : Brs) : Prop := ∀ b ∈ bs, b.1 ∈ reached bs
noncomputable instance (bs : Brs) : Decidable (Con bs) := inferInstanceAs (Decidable (∀ b ∈ bs, b.1 ∈ reached bs))
/-- the walks' ends that are due -/
noncomputable def expE (bs : Brs) : List (Nat × Nat) := if Con bs then (match oddL bs with | [] => ([0, 1, 2, 3].filter fun i => decide (i ∈ reached bs)).map fun i => (i, i) | [a, b] => [(a, b), (b, a)] | _ => []) else []
theorem deg_out {bs : Brs} (h4 : Isl bs) {v : Nat} (hv : 4 ≤ v) : deg bs v = 0 := by
  induction bs with
  | nil => rfl
  | cons b r ih =>
    have := h4 b List.mem_cons_self
    rw [deg, ih (isl_tail h4)]
    have h1 : b.1 ≠ v := by lia
    have h2 : b.2 ≠ v := by lia
    simp [one1, h1, h2]
theorem deg_sum {bs : Brs} (h4 : Isl bs) : deg bs 0 + deg bs 1 + deg bs 2 + deg bs 3 = 2 * bs.length := by
  induction bs with
  | nil => rfl
  | cons b r ih =>
    have := ih (isl_tail h4)
    obtain ⟨h1, h2⟩ := h4 b List.mem_cons_self
    have ex : ∀ x, x < 4 → one1 x 0 + one1 x 1 + one1 x 2 + one1 x 3 = 1 := by
      intro x hx
      rcases (by lia : x = 0 ∨ x = 1 ∨ x = 2 ∨ x = 3) with rfl | rfl | rfl | rfl <;> rfl
    have e1 := ex _ h1
    have e2 := ex _ h2
    simp only [deg, List.length_cons]
    lia
theorem head_mem {bs : Brs} (hne : bs ≠ []) : bs.headD (0, 0) ∈ bs := by
  cases bs with
  | nil => exact absurd rfl hne
  | cons b r => exact List.mem_cons_self
theorem eul_con {bs : Brs} (hne : bs ≠ []) {s t : Nat} (h : Eul bs s t) : Con bs ∧ s ∈ reached bs := by
  have h0 := h.con _ (head_mem hne)
  exact ⟨fun b hb => (reached_iff bs _).mpr (h0.symm.trans (h.con b hb)), (reached_iff bs s).mpr h0.symm⟩
theorem eul_of {bs : Brs} (h4 : Isl bs) {s t : Nat} (hs : s < 4) (ht : t < 4) (hc : Con bs) (hr : s ∈ reached bs) (hp : ∀ v, v < 4 → deg bs v % 2 = (one1 s v + one1 t v) % 2) : Eul bs s t :=
  ⟨hs, ht, fun v => by
    by_cases hv : v < 4
    · exact hp v hv
    · have h1 : s ≠ v := by lia
      have h2 : t ≠ v := by lia
      rw [deg_out h4 (by lia)]; simp [one1, h1, h2], fun b hb => ((reached_iff bs s).mp hr).symm.trans ((reached_iff bs _).mp (hc b hb))⟩
theorem odd_reached {bs : Brs} (hc : Con bs) {v : Nat} (h : deg bs v % 2 = 1) : v ∈ reached bs := by
  obtain ⟨b, hb, q⟩ := deg_pos (bs := bs) (v := v) (by lia)
  rcases q with q | q
  · rw [← q]; exact hc b hb
  · have := reached_clo bs b hb (.inl (hc b hb))
    rw [← q]; exact this.2
theorem expE_iff {bs : Brs} (h4 : Isl bs) (hne : bs ≠ []) (s t : Nat) : Eul bs s t ↔ (s, t) ∈ expE bs := by
  have hsum := deg_sum h4
  constructor
  · intro h
    obtain ⟨hc, hr⟩ := eul_con hne h
    unfold expE
    rw [if_pos hc]
    have e : oddL bs = [0, 1, 2, 3].filter fun i => decide ((one1 s i + one1 t i) % 2 = 1) := by
      unfold oddL
      refine List.filter_congr fun i _ => ?_
      rw [h.par i]
    have hd : ∀ s < 4, ∀ t < 4, ([0, 1, 2, 3].filter fun i => decide ((one1 s i + one1 t i) % 2 = 1)) = if s = t then [] else if s < t then [s, t] else [t, s] := by decide
    rw [e, hd s h.s4 t h.t4]
    by_cases hst : s = t
    · subst hst
      rw [if_pos rfl]
      exact List.mem_map.mpr ⟨s, List.mem_filter.mpr ⟨by have := h.s4; simp; lia, decide_eq_true hr⟩, rfl⟩
    · rw [if_neg hst]
      by_cases hlt : s < t
      · rw [if_pos hlt]; exact List.mem_cons_self
      · rw [if_neg hlt]; exact List.mem_cons_of_mem _ List.mem_cons_self
  · intro h
    unfold expE at h
    split at h
    · rename_i hc
      split at h
      · rename_i ho
        obtain ⟨i, hi, e⟩ := List.mem_map.mp h
        cases e
        obtain ⟨h1, h2⟩ := List.mem_filter.mp hi
        have hi4 : s < 4 := by simp at h1; lia
        refine eul_of h4 hi4 hi4 hc (of_decide_eq_true h2) fun v hv => ?_
        have : v ∉ oddL bs := by rw [ho]; simp
        unfold oddL at this
        rw [List.mem_filter] at this
        have hvm : v ∈ [0, 1, 2, 3] := by simp; lia
        have : ¬ deg bs v % 2 = 1 := fun q => this ⟨hvm, decide_eq_true q⟩
        lia
      · rename_i a b ho
        have hmem : ∀ v, v < 4 → (deg bs v % 2 = 1 ↔ v = a ∨ v = b) := fun v hv => by
          have : v ∈ oddL bs ↔ v = a ∨ v = b := by rw [ho]; simp
          rw [← this]
          unfold oddL
          rw [List.mem_filter]
          have hvm : v ∈ [0, 1, 2, 3] := by simp; lia
          exact ⟨fun q => ⟨hvm, decide_eq_true q⟩, fun q => of_decide_eq_true q.2⟩
        have hab : a ≠ b ∧ a < 4 ∧ b < 4 := by
          have hn : (oddL bs).Nodup := List.Nodup.sublist List.filter_sublist (by decide)
          rw [ho] at hn
          have ha : a ∈ oddL bs := by rw [ho]; simp
          have hb : b ∈ oddL bs := by rw [ho]; simp
          have ha := (List.mem_filter.mp ha).1
          have hb := (List.mem_filter.mp hb).1
          simp at hn ha hb
          exact ⟨hn, by lia, by lia⟩
        have gen : ∀ x y, (x = a ∧ y = b ∨ x = b ∧ y = a) → Eul bs x y := fun x y hxy => by
          have hx4 : x < 4 := by lia
          have hy4 : y < 4 := by lia
          refine eul_of h4 hx4 hy4 hc (odd_reached hc ((hmem x hx4).mpr (by lia))) fun v hv => ?_
          have := hmem v hv
          have hne : x ≠ y := by lia
          by_cases e1 : v = x
          · subst e1
            rw [one1_self, (hmem v hv).mpr (by lia)]
            simp [one1, Ne.symm hne]
          · by_cases e2 : v = y
            · subst e2
              rw [one1_self, (hmem v hv).mpr (by lia)]
              simp [one1, hne]
            · have hz : ¬ deg bs v % 2 = 1 := fun q => by have := (hmem v hv).mp q; lia
              have : one1 x v = 0 ∧ one1 y v = 0 := by simp [one1, Ne.symm e1, Ne.symm e2]
              rw [this.1, this.2]; lia
        simp only [List.mem_cons, Prod.mk.injEq, List.not_mem_nil, or_false] at h
        exact gen s t h
      · cases h
    · cases h
theorem expE_nd (bs : Brs) : ((expE bs).map (·.1)).Pairwise (· ≠ ·) := by
  unfold expE
  split
  · split
    · rw [List.map_map]
      have : ((fun x : Nat × Nat => x.1) ∘ fun i : Nat => (i, i)) = id := rfl
      rw [this, List.map_id]
      exact List.Nodup.sublist List.filter_sublist (by decide)
    · rename_i a b ho
      have hn : (oddL bs).Nodup := List.Nodup.sublist List.filter_sublist (by decide)
      rw [ho] at hn
      simp at hn ⊢
      exact hn
    · exact .nil
  · exact .nil
theorem nodup_of_map {α β : Type} (f : α → β) {l : List α} (h : (l.map f).Nodup) : l.Nodup := by
  induction l with
  | nil => exact .nil
  | cons a r ih =>
    rw [List.map_cons, List.nodup_cons] at h
    exact List.nodup_cons.mpr ⟨fun q => h.1 (List.mem_map_of_mem q), ih h.2⟩
/-- the walks' ends are the due ones, but for their order -/
theorem ends_perm {bs : Brs} (h4 : Isl bs) (hne : bs ≠ []) : ((allW bs).map wE).Perm (expE bs) := by
  have h := allW_ok h4
  refine (List.perm_ext_iff_of_nodup h.nd (nodup_of_map (fun p : Nat × Nat => p.1) (expE_nd bs))).mpr fun p => ?_
  obtain ⟨s, t⟩ := p
  rw [← expE_iff h4 hne]
  constructor
  · intro hm
    obtain ⟨w, hw, e⟩ := List.mem_map.mp hm
    have := (h.each w hw).eul
    cases e
    exact this
  · exact h.all s t
theorem rt_go {c st esc : Nat} {q : Bool} {tok r : List Nat} {ln : Int} {st' esc' : Nat} {q' : Bool} {tok' : List Nat} (h : stp c st esc q tok = (false, st', esc', q', tok')) : rt (c :: r) (some st) esc q tok ln = rt r (some st') esc' q' tok' (if c = 10 then ln + 1 else ln) := by
  rw [rt, h]
theorem rt_stop {c st esc : Nat} {q : Bool} {tok r : List Nat} {ln : Int} {st' esc' : Nat} {q' : Bool} {tok' : List Nat} (h : stp c st esc q tok = (true, st', esc', q', tok')) : rt (c :: r) (some st) esc q tok ln = some ⟨q', tok', some st', r, if c = 10 then ln + 1 else ln⟩ := by
  rw [rt, h]
noncomputable def lineT (e : Nat × Nat) : List (Nat × Nat) → List Nat
  | [] => List.replicate e.1 34 ++ [e.2]
  | p :: r => List.replicate p.1 34 ++ (p.2 :: 32 :: lineT e r)
noncomputable def OkC (c : Nat) : Prop := c ≠ 32 ∧ c ≠ 9 ∧ c ≠ 13 ∧ c ≠ 10 ∧ c ≠ 34 ∧ c ≠ 39 ∧ c ≠ 92
theorem OkC.ws {c : Nat} (h : OkC c) : c ∉ WS := by
  obtain ⟨a, b, d, e, _⟩ := h
  unfold WS
  simp [a, b, d, e]
/-- the words of such a line -/
noncomputable def wds (e : Nat × Nat) : Bool → List Nat → List (Nat × Nat) → Option (List (List Nat))
  | b, tok, [] => if (b ^^ (e.1 % 2 == 1)) = true then none else some [tok ++ [e.2]]
  | b, tok, p :: r => if (b ^^ (p.1 % 2 == 1)) = true then wds e true (tok ++ [p.2, 32]) r else (wds e false [] r).map ((tok ++ [p.2]) :: ·)
noncomputable def stB (b : Bool) : Nat := if b = true then 34 else 97
theorem rt_marks {r tok : List Nat} {esc : Nat} {ln : Int} : ∀ (d : Nat) (b q : Bool), ∃ q', rt (List.replicate d 34 ++ r) (some (stB b)) esc q tok ln = rt r (some (stB (b ^^ (d % 2 == 1)))) esc q' tok ln
  | 0, b, q => ⟨q, by simp⟩
  | d + 1, b, q => by
    obtain ⟨q', h⟩ := rt_marks d (!b) (if b = true then true else q)
    refine ⟨q', ?_⟩
    have e1 : rt (List.replicate (d + 1) 34 ++ r) (some (stB b)) esc q tok ln = rt (List.replicate d 34 ++ r) (some (stB (!b))) esc (if b = true then true else q) tok ln := by
      rw [List.replicate_succ, List.cons_append]
      cases b
      · exact rt_go (by simp [stp, stB, WS])
      · exact rt_go (by simp [stp, stB])
    rw [e1, h]
    have : (!b ^^ (d % 2 == 1)) = (b ^^ ((d + 1) % 2 == 1)) := by
      rcases Nat.mod_two_eq_zero_or_one d with z | z <;> (have : (d + 1) % 2 = 1 - d % 2 := by lia) <;> rw [this, z] <;> cases b <;> rfl
    rw [this]
theorem rt_sign {c : Nat} (hc : OkC c) {r tok : List Nat} {esc : Nat} {ln : Int} (b q : Bool) : ∃ q', rt (c :: r) (some (stB b)) esc q tok ln = rt r (some (stB b)) esc q' (tok ++ [c]) ln := by
  have hw := hc.ws
  obtain ⟨_, _, _, h10, h34, h39, h92⟩ := hc
  cases b
  · exact ⟨q, by have := rt_go (c := c) (st := stB false) (esc := esc) (q := q) (tok := tok) (r := r) (ln := ln) (st' := stB false) (esc' := esc) (q' := q) (tok' := tok ++ [c]) (by simp [stp, stB, hw, h34, h39, h92]); rwa [if_neg h10] at this⟩
  · exact ⟨true, by have := rt_go (c := c) (st := stB true) (esc := esc) (q := q) (tok := tok) (r := r) (ln := ln) (st' := stB true) (esc' := esc) (q' := true) (tok' := tok ++ [c]) (by simp [stp, stB, h34, h92]); rwa [if_neg h10] at this⟩
/-- a start: between words, or within one -/
noncomputable def Sta (z : Nat) (b : Bool) (tok : List Nat) : Prop := z = stB b ∨ (z = 32 ∧ b = false ∧ tok = [])
theorem rt_seg {c : Nat} (hc : OkC c) {r tok : List Nat} {esc : Nat} {ln : Int} {z d : Nat} {b q : Bool} (hz : Sta z b tok) : ∃ q', rt (List.replicate d 34 ++ (c :: r)) (some z) esc q tok ln = rt r (some (stB (b ^^ (d % 2 == 1)))) esc q' (tok ++ [c]) ln := by
  rcases hz with rfl | ⟨rfl, rfl, rfl⟩
  · obtain ⟨q1, h1⟩ := rt_marks (r := c :: r) (tok := tok) (esc := esc) (ln := ln) d b q
    obtain ⟨q2, h2⟩ := rt_sign hc (r := r) (tok := tok) (esc := esc) (ln := ln) (b ^^ (d % 2 == 1)) q1
    exact ⟨q2, by rw [h1, h2]⟩
  · cases d with
    | zero =>
      have hw := hc.ws
      obtain ⟨_, _, _, h10, h34, h39, h92⟩ := hc
      refine ⟨q, ?_⟩
      have := rt_go (c := c) (st := 32) (esc := esc) (q := q) (tok := []) (r := r) (ln := ln) (st' := 97) (esc' := esc) (q' := q) (tok' := [c]) (by simp [stp, hw, h34, h39, h92])
      rw [if_neg h10] at this
      exact this
    | succ d =>
      have e1 : rt (List.replicate (d + 1) 34 ++ (c :: r)) (some 32) esc q [] ln = rt (List.replicate d 34 ++ (c :: r)) (some (stB true)) esc q [] ln := by
        rw [List.replicate_succ, List.cons_append]
        exact rt_go (by simp [stp, stB, WS])
      obtain ⟨q1, h1⟩ := rt_marks (r := c :: r) (tok := []) (esc := esc) (ln := ln) d true q
      obtain ⟨q2, h2⟩ := rt_sign hc (r := r) (tok := []) (esc := esc) (ln := ln) (true ^^ (d % 2 == 1)) q1
      refine ⟨q2, ?_⟩
      rw [e1, h1, h2]
      have : (true ^^ (d % 2 == 1)) = (false ^^ ((d + 1) % 2 == 1)) := by
        rcases Nat.mod_two_eq_zero_or_one d with z | z <;> (have : (d + 1) % 2 = 1 - d % 2 := by lia) <;> rw [this, z] <;> rfl
      rw [this]
theorem rt_line {e : Nat × Nat} (he : OkC e.2) : ∀ (segs : List (Nat × Nat)), (∀ p ∈ segs, OkC p.2) → ∀ (b : Bool) (tok : List Nat) (z : Nat) (ws : List (List Nat)), Sta z b tok → wds e b tok segs = some ws →
    ∃ w wr, ws = w :: wr ∧ w ≠ [] ∧ ∀ esc q ln, ∃ q' st' rest pre, rt (lineT e segs) (some z) esc q tok ln = some ⟨q', w, st', rest, ln⟩ ∧ lineT e segs = pre ++ rest ∧
      ((st' = none ∧ rest = [] ∧ wr = []) ∨ (st' = some 32 ∧ ∃ segs', segs'.length < segs.length ∧ (∀ p ∈ segs', OkC p.2) ∧ rest = lineT e segs' ∧ wds e false [] segs' = some wr))
  | [], _, b, tok, z, ws, hz, hw => by
    rw [wds] at hw
    split at hw
    · cases hw
    · rename_i hb
      cases hw
      refine ⟨tok ++ [e.2], [], rfl, by simp, fun esc q ln => ?_⟩
      obtain ⟨q', h⟩ := rt_seg he (r := []) (tok := tok) (esc := esc) (ln := ln) (z := z) (d := e.1) (b := b) (q := q) hz
      refine ⟨q', none, [], lineT e [], ?_, by simp, .inl ⟨rfl, rfl, rfl⟩⟩
      rw [lineT, h, Bool.eq_false_iff.mpr hb, rt]
      simp [stB]
  | p :: r, hs, b, tok, z, ws, hz, hw => by
    rw [wds] at hw
    have hp := hs p List.mem_cons_self
    have hr : ∀ x ∈ r, OkC x.2 := fun x hx => hs x (List.mem_cons_of_mem _ hx)
    split at hw
    · rename_i hb
      obtain ⟨w, wr, e1, e2, ih⟩ := rt_line he r hr true (tok ++ [p.2, 32]) 34 ws (.inl rfl) hw
      refine ⟨w, wr, e1, e2, fun esc q ln => ?_⟩
      obtain ⟨q1, h⟩ := rt_seg hp (r := 32 :: lineT e r) (tok := tok) (esc := esc) (ln := ln) (z := z) (d := p.1) (b := b) (q := q) hz
      have h2 : rt (32 :: lineT e r) (some (stB (b ^^ (p.1 % 2 == 1)))) esc q1 (tok ++ [p.2]) ln = rt (lineT e r) (some 34) esc true (tok ++ [p.2, 32]) ln := by
        rw [hb]
        have := rt_go (c := 32) (st := stB true) (esc := esc) (q := q1) (tok := tok ++ [p.2]) (r := lineT e r) (ln := ln) (st' := 34) (esc' := esc) (q' := true) (tok' := tok ++ [p.2, 32]) (by simp [stp, stB])
        simpa using this
      obtain ⟨q', st', rest, pre, g1, g2, g3⟩ := ih esc true ln
      refine ⟨q', st', rest, List.replicate p.1 34 ++ (p.2 :: 32 :: pre), ?_, ?_, ?_⟩
      · rw [lineT, h, h2, g1]
      · rw [lineT, g2]; simp
      · rcases g3 with g3 | ⟨a, segs', c1, c2⟩
        · exact .inl g3
        · exact .inr ⟨a, segs', by rw [List.length_cons]; lia, c2⟩
    · rename_i hb
      obtain ⟨wr, hwr, rfl⟩ := Option.map_eq_some_iff.mp hw
      refine ⟨tok ++ [p.2], wr, rfl, by simp, fun esc q ln => ?_⟩
      obtain ⟨q1, h⟩ := rt_seg hp (r := 32 :: lineT e r) (tok := tok) (esc := esc) (ln := ln) (z := z) (d := p.1) (b := b) (q := q) hz
      refine ⟨q1, some 32, lineT e r, List.replicate p.1 34 ++ [p.2, 32], ?_, by rw [lineT]; simp, .inr ⟨rfl, r, by simp, hr, rfl, hwr⟩⟩
      rw [lineT, h, Bool.eq_false_iff.mpr hb]
      have := rt_stop (c := 32) (st := stB false) (esc := esc) (q := q1) (tok := tok ++ [p.2]) (r := lineT e r) (ln := ln) (st' := 32) (esc' := esc) (q' := q1) (tok' := tok ++ [p.2]) (by simp [stp, stB, WS])
      simpa using this
theorem drop_suffix {buf pre rest : List Nat} {pos : Nat} (hp : pos ≤ buf.length) (h : buf.drop pos = pre ++ rest) : buf.length - rest.length ≤ buf.length ∧ buf.drop (buf.length - rest.length) = rest := by
  refine ⟨Nat.sub_le _ _, ?_⟩
  have e : buf = buf.take pos ++ (pre ++ rest) := by rw [← h, List.take_append_drop]
  have hl : buf.length - rest.length = (buf.take pos ++ pre).length := by
    have := congrArg List.length e
    simp only [List.length_append] at this ⊢
    lia
  rw [hl]
  have e' : buf = (buf.take pos ++ pre) ++ rest := by rw [List.append_assoc]; exact e
  exact (congrArg (List.drop _) e').trans List.drop_left
theorem lx_line {e : Nat × Nat} (he : OkC e.2) {buf : List Nat} (n : Nat) : ∀ segs : List (Nat × Nat), segs.length ≤ n → (∀ p ∈ segs, OkC p.2) → ∀ (ws : List (List Nat)), wds e false [] segs = some ws → ∀ (pos : Nat) (ln : Int), pos ≤ buf.length → buf.drop pos = lineT e segs → Lx buf (some 32) ln pos ws := by
  induction n using Nat.strongRecOn with
  | ind n ih =>
    intro segs hn hs ws hw pos ln hp hd
    obtain ⟨w, wr, rfl, hne, h⟩ := rt_line he segs hs false [] 32 ws (.inr ⟨rfl, rfl, rfl⟩) hw
    obtain ⟨q', st', rest, pre, g1, g2, g3⟩ := h 32 false ln
    have hsuf := drop_suffix hp (hd.trans g2)
    refine Lx.word (k := ⟨q', w, st', rest, ln⟩) (by rw [hd]; exact g1) (fun q => hne q.2) ?_
    rcases g3 with ⟨rfl, rfl, rfl⟩ | ⟨rfl, segs', c1, c2, rfl, c4⟩
    · refine Lx.done (k := ⟨false, [], none, [], ln⟩) ?_ ⟨rfl, rfl⟩
      show rt (buf.drop (buf.length - ([] : List Nat).length)) none 32 false [] ln = _
      rw [hsuf.2, rt]
    · exact ih segs'.length (Nat.lt_of_lt_of_le c1 hn) segs' (Nat.le_refl _) c2 wr c4 _ ln hsuf.1 hsuf.2
/-- what parse257 tells of marks and a sign -/
theorem p257_marks {c : Nat} (hc : c ≠ 34) (r : List Nat) : ∀ d : Nat, p257 (List.replicate d 34 ++ (c :: r)) = List.replicate (d / 2) 34 ++ (if d % 2 = 0 then c :: p257 r else [])
  | 0 => by simp [p257_other r hc]
  | 1 => by simp [p257_one r hc]
  | d + 2 => by
    have ih := p257_marks hc r d
    rw [List.replicate_succ, List.replicate_succ, List.cons_append, List.cons_append, p257_two, ih, show (d + 2) / 2 = d / 2 + 1 by lia, show (d + 2) % 2 = d % 2 by lia, List.replicate_succ, List.cons_append]
theorem c_n257q {C : Cx} {env : Env} {σ : St} {k : Nat} {p : Pos} : Ev C env σ (.Constant (.str (Str.ofString "257 \"")) k p) (tx [50, 53, 55, 32, 34]) := ev_tx (by decide +kernel)
theorem c_bz {C : Cx} {env : Env} {σ : St} {k : Nat} {p : Pos} : Ev C env σ (.Constant (.str (Str.ofString " z")) k p) (tx [32, 122]) := ev_tx (by decide +kernel)
theorem gv_chr {C : Cx} {w : World} (hC : C.G = G w) : GV C (S "chr") (.builtin "chr") := gv_blt hC (by kernel_rfl) (by kernel_rfl)
theorem gv_sum {C : Cx} {w : World} (hC : C.G = G w) : GV C (S "sum") (.builtin "sum") := gv_blt hC (by kernel_rfl) (by kernel_rfl)
theorem gv_sorted {C : Cx} {w : World} (hC : C.G = G w) : GV C (S "sorted") (.builtin "sorted") := gv_blt hC (by kernel_rfl) (by kernel_rfl)
theorem gv_range {C : Cx} {w : World} (hC : C.G = G w) : GV C (S "range") (.type "range") := gv_blt hC (by kernel_rfl) (by kernel_rfl)
theorem gv_parse {C : Cx} {w : World} (hC : C.G = G w) : GV C (S "parse257") (.ref 766) := gv_glob hC (by kernel_rfl)
theorem gv_split {C : Cx} {w : World} (hC : C.G = G w) : GV C (S "split") (.ref 734) := gv_glob hC (by kernel_rfl)
theorem gv_walks {C : Cx} {w : World} (hC : C.G = G w) : GV C (S "_law_walks") (.ref 771) := gv_glob hC (by kernel_rfl)
theorem gv_ends {C : Cx} {w : World} (hC : C.G = G w) : GV C (S "_law_ends") (.ref 776) := gv_glob hC (by kernel_rfl)
theorem gv_due {C : Cx} {w : World} (hC : C.G = G w) : GV C (S "_law_due") (.ref 783) := gv_glob hC (by kernel_rfl)
local macro_rules | `(tactic| tm_at "kind") => altS "a .kind_lk = nnull/1 tapp/2 Tapply/2 !lk | a .CompEnv.same = _ _ ? a a nnull/0 ToptConfig/1 Tdecide/2 Q/1 tbyTactic/2 nnull/5 tapp/2 Trefine/2 !lk"
local macro_rules | `(tactic| tm_at "kindc") => altS "a .kind_lk = nnull/1 tapp/2 Tapply/2 !lk | a .CompEnv.free = _ ? nnull/3 tapp/2 Trefine/2 !lk"
local macro_rules | `(tactic| tm_at "str") => altS "a a a ec_z Q/1 ngroup/2 a ec_n257q Q/1 ngroup/2 a ec_bz Q/1 ngroup/2 nnull/3 Tfirst/2 Q/1 TwithReducible/2"
local macro_rules | `(tactic| tm_at "name") => altS "pev_name_local !sg !kind R | pev_name_cell !sg !kindc R"
local macro_rules | `(tactic| tm_at "nameT") => altS "pevT_own_local !sg !kind R"
local macro_rules | `(tactic| tm_at "glob") => altS "ggv_chr | ggv_sum | ggv_sorted"
local macro_rules | `(tactic| tm_at "fun") => altS "ggv_range | ggv_parse | ggv_split | ggv_walks | ggv_ends | ggv_due"
local macro_rules | `(tactic| tm_at "bin") => altS "a a .mod_int_ a a nnull/0 ToptConfig/1 Tdecide/2 Q/1 tbyTactic/2 nnull/1 tapp/2 Texact/2 Q/1 TwithReducible/2 | a a .div_int_ a a nnull/0 ToptConfig/1 Tdecide/2 Q/1 tbyTactic/2 a K Q/1 tbyTactic/2 nnull/2 tapp/2 Texact/2 Q/1 TwithReducible/2"
local macro_rules | `(tactic| tm_at "meth") => altS "rm_count | rm_join | rm_split | rm_replace"
local macro_rules | `(tactic| tm_at "mfn") => altS "rfn_count"
local macro_rules | `(tactic| tm_at "evt") => altS "dEv.t !ev | !nameT"
local macro_rules | `(tactic| tm_at "ev") => altS "a a .ev_meth Nhbase Nhline a .hfew a a a nnull/0 ToptConfig/1 Tdecide/2 Q/1 tbyTactic/2 a tnamedArgument/5 nnull/3 tapp/2 Tapply/2 Q/1 TwithReducible/2 !evt !args !meth !mfn"
local macro_rules | `(tactic| tm_at "kp") => altS "ekeep_nil | a .keep_yes a a + .kernel TposConfigItem/2 TconfigItem/1 nnull/1 ToptConfig/1 Tdecide/2 Q/1 tbyTactic/2 ? nnull/2 tapp/2 Trefine/2 !kp | a .keep_no a a + .kernel TposConfigItem/2 TconfigItem/1 nnull/1 ToptConfig/1 Tdecide/2 Q/1 tbyTactic/2 ? nnull/2 tapp/2 Trefine/2 !kp"
theorem def_walks (w : World) : IsDef (G w) 771 (fdAt w.params 771) (fB (st 26)) [S "bridges"] := by
  refine def_of w 771 770 [S "bridges"] (st 26) rfl ?_ ?_ rfl ?_ ?_ ?_ ?_ ?_ ?_ ?_ ?_ ?_ ?_ ?_ (by decide +kernel) ?bb ?kk
  case bb =>
    intro vs hv
    obtain ⟨a0, rfl⟩ := len1 hv
    kernel_rfl
  case kk =>
    intro x hx
    simp only [List.mem_cons, List.not_mem_nil, or_false] at hx
    rcases hx with rfl <;> exact .inl (by kernel_rfl)
  all_goals kernel_rfl
noncomputable def forB : List Stmt → List Stmt
  | .For _ _ b _ _ :: _ => b
  | _ => []
noncomputable def ifB : List Stmt → List Stmt
  | .If _ b _ _ :: _ => b
  | _ => []
noncomputable def wk1 : List Stmt := forB ((fB (st 26)).drop 1)
noncomputable def wk2 : List Stmt := forB (wk1.drop 2)
noncomputable def wk3 : List Stmt := forB ((ifB wk2).drop 1)
noncomputable def wk4 : List Stmt := forB wk3
noncomputable abbrev stW (bs : Brs) (a : Addr) (F : List (List (List Nat))) (c : Nat) (a2 a3 : Addr) (acc : List (List Nat)) (r : St) : St := (S "bridges", .fz (.list (bs.map pr))) :: (S "found", .own a (F.map nls)) :: (S "chosen", .fz (ni c)) :: (S "walks", .own a2 (acc.map nl)) :: (S "known", .own a3 ((acc.map wE).map pr)) :: r
theorem wE_snoc {w : List Nat} (hw : w ≠ []) (t : Nat) : wE (w ++ [t]) = (w.headD 0, t) := by unfold wE; rw [headD_snoc hw, lastD_snoc]
theorem head_at {w : List Nat} (hw : w ≠ []) : (w.map ni)[0]? = some (ni (w.headD 0)) := by
  cases w with
  | nil => exact absurd rfl hw
  | cons a r => rfl
theorem last_at {w : List Nat} (hw : w ≠ []) : (w.map ni).getLast? = some (ni (w.getLastD 0)) := by
  rw [List.getLast?_map]
  cases q : w.getLast? with
  | none => exact absurd (List.getLast?_eq_none_iff.mp q) hw
  | some x => rw [List.getLastD_eq_getLast?, q]; rfl
variable {env : Env}
theorem ss_ownK {x : Str} {p' p : Pos} {e : Expr} {ms : List MV} {σ : St} {rest : List Stmt} {Q : FM → St → Prop} (hB : C.mB = []) (hg : env.kindOf (Str.ofString "@own") = none) (he : EvN C env σ e ms) (hx : Stores env x) (hs : swapsWith e (some (.Name x p')) p.line env = pure false) (hi : instA σ = []) (hxg : (x == Str.ofString "@own") = false) (hkn : notKey (Str.ofString "@own") σ = true)
    (h : ∀ a, ∃ σ', sput σ x (.own a ms) = σ' ∧ wpSs C env rest σ' Q) : wpSs C env (.Assign [.Name x p'] e p :: rest) σ Q := ss_own he hx hs hB hi hg hxg hkn h
theorem try_body (hC : C.G = G w) (hs : env.scope = fS (st 26)) (hint : interactive env = false) {bs : Brs} {a a2 a3 : Addr} {F : List (List (List Nat))} {c k x y h t : Nat} {acc : List (List Nat)} {wk : List Nat} (hacc : acc.length ≤ 1000) (hw : wk ≠ []) (hwl : wk.length ≤ 1000) (Q : FM → St → Prop)
    (hQ : Q .next (stW bs a F c a2 a3 (tryA h t acc wk) [(S "k", .fz (ni k)), (S "one", .fz (ni x)), (S "other", .fz (ni y)), (S "walk", .fz (nl wk)), (S "here", .fz (ni h)), (S "there", .fz (ni t))])) :
    wpSs C env wk4 (stW bs a F c a2 a3 acc [(S "k", .fz (ni k)), (S "one", .fz (ni x)), (S "other", .fz (ni y)), (S "walk", .fz (nl wk)), (S "here", .fz (ni h)), (S "there", .fz (ni t))]) Q := by
  have hnm : env.scope.names = (fS (st 26)).names := by rw [hs]
  conv at hnm => rhs; whnf
  have e0 : ∀ m : Nat, m = 0 → Ev C env (stW bs a F c a2 a3 acc [(S "k", .fz (ni k)), (S "one", .fz (ni x)), (S "other", .fz (ni y)), (S "walk", .fz (nl wk)), (S "here", .fz (ni h)), (S "there", .fz (ni t))]) (.Constant (.int 0) 0 ⟨0, 0, 0, 0⟩) (ni 0) := fun _ _ => ev_int
  refine ss_if1 (b := (decide (wk.getLastD 0 = h) && (decide ((wk.headD 0, t) ∉ acc.map wE) && true))) (evB_and (evB_cmp (a := ni (wk.getLastD 0)) (b := ni h) (Ev.t (ev_sub (a := nl wk) (i := .int (-1)) ?_ (Ev.t (ev_neg ev_int)) (item_last (by rw [List.length_map]; lia) (last_at hw)))) ?_ eqn_ rfl) (fun _ => evB_and (evB_cmp (a := pr (wk.headD 0, t)) (b := .list ((acc.map wE).map pr)) (Ev.t (ev_list (ms := [ni (wk.headD 0), ni t]) (.cons (ev_sub (a := nl wk) (i := ni 0) ?_ (Ev.t ev_int) (itemn_ (by lia) (head_at hw))) (by intro _ _ h; cases h) (.cons ?_ (by intro _ _ h; cases h) .nil)) (by show 2 ≤ sizeLine; rw [sizeLine_eq]; lia))) ?_ notin_pr rfl) (fun _ => evB_and_nil))) ?_ ?_
  · tm_at "evt"
  · tm_at "evt"
  · tm_at "evt"
  · tm_at "name"
  · tm_at "nameT"
  · intro hb
    simp only [Bool.and_true, Bool.and_eq_true, decide_eq_true_eq] at hb
    have hty : tryA h t acc wk = acc ++ [wk ++ [t]] := by unfold tryA; rw [if_pos hb]
    rw [hty] at hQ
    refine ss_append (x := S "known") (m := pr (wk.headD 0, t)) (by tm_at "sg") (by tm_at "kind") rfl (ev_list (ms := [ni (wk.headD 0), ni t]) (.cons (ev_sub (a := nl wk) (i := ni 0) ?_ (Ev.t ev_int) (itemn_ (by lia) (head_at hw))) (by intro _ _ h; cases h) (.cons ?_ (by intro _ _ h; cases h) .nil)) (by show 2 ≤ sizeLine; rw [sizeLine_eq]; lia)) (by intro _ _ h; cases h) rfl hint (by rw [List.length_map, List.length_map]; lia) rfl (by tm_at "sp") ?_
    · tm_at "evt"
    · tm_at "name"
    refine ss_append (x := S "walks") (m := nl (wk ++ [t])) (by tm_at "sg") (by tm_at "kind") rfl ?_ (by intro _ _ h; cases h) rfl hint (by rw [List.length_map]; lia) rfl (by tm_at "sp") ?_
    · have e : nl (wk ++ [t]) = .list (wk.map ni ++ [ni t]) := by show MV.list ((wk ++ [t]).map ni) = _; rw [List.map_append]; rfl
      rw [e]
      refine ev_binop (a := nl wk) (b := .list [ni t]) ?_ (Ev.t (ev_list (.cons ?_ (by intro _ _ h; cases h) .nil) (by show 1 ≤ sizeLine; rw [sizeLine_eq]; lia))) (add_list_ (by rw [List.length_map]; show wk.length + 1 ≤ _; lia))
      · tm_at "evt"
      · tm_at "name"
    refine wpSs_nil ?_
    have e1 : (acc ++ [wk ++ [t]]).map nl = acc.map nl ++ [nl (wk ++ [t])] := by rw [List.map_append]; rfl
    have e2 : ((acc ++ [wk ++ [t]]).map wE).map pr = (acc.map wE).map pr ++ [pr (wk.headD 0, t)] := by rw [List.map_append, List.map_append]; show _ ++ [pr (wE (wk ++ [t]))] = _; rw [wE_snoc hw]
    simp only [stW, e1, e2] at hQ
    exact hQ
  · intro hb
    simp only [Bool.and_true, Bool.and_eq_false_iff, decide_eq_false_iff_not] at hb
    have hty : tryA h t acc wk = acc := by
      unfold tryA
      rw [if_neg]
      rintro ⟨h1, h2⟩
      exact hb.elim (fun q => q h1) fun q => q h2
    rw [hty] at hQ
    exact wpSs_nil hQ
theorem len_tryA (h t : Nat) (acc : List (List Nat)) (wk : List Nat) : (tryA h t acc wk).length ≤ acc.length + 1 := by
  unfold tryA
  split
  · simp
  · lia
theorem pre_len {sub : Brs} {acc : List (List Nat)} (P : Pre sub acc) : acc.length ≤ 16 := by
  have h1 : ((acc.map wE).map fun p => 4 * p.1 + p.2).Nodup := by
    have gen : ∀ l : List (Nat × Nat), (∀ p ∈ l, p.1 < 4 ∧ p.2 < 4) → l.Nodup → (l.map fun p => 4 * p.1 + p.2).Nodup := by
      intro l
      induction l with
      | nil => intro _ _; exact .nil
      | cons a r ih =>
        intro h4 hn
        rw [List.nodup_cons] at hn
        rw [List.map_cons, List.nodup_cons]
        refine ⟨fun q => ?_, ih (fun p hp => h4 p (List.mem_cons_of_mem _ hp)) hn.2⟩
        obtain ⟨b, hb, e⟩ := List.mem_map.mp q
        have hb4 := h4 b (List.mem_cons_of_mem _ hb)
        have ha4 := h4 a List.mem_cons_self
        have : b = a := Prod.ext (by lia) (by lia)
        exact hn.1 (this ▸ hb)
    refine gen _ (fun p hp => ?_) P.nd
    obtain ⟨w, hw, rfl⟩ := List.mem_map.mp hp
    have := (P.each w hw).eul
    exact ⟨this.s4, this.t4⟩
  have := nodup_lt 16 _ h1 fun x hx => by
    obtain ⟨p, hp, rfl⟩ := List.mem_map.mp hx
    obtain ⟨w, hw, rfl⟩ := List.mem_map.mp hp
    have := (P.each w hw).eul
    have h1 := this.s4
    have h2 := this.t4
    show 4 * (w.headD 0) + w.getLastD 0 < 16
    lia
  rwa [List.length_map, List.length_map] at this
theorem walk_body (hC : C.G = G w) (hB : C.mB = []) (hs : env.scope = fS (st 26)) (hc : CellsOk env) (hint : interactive env = false) {bs : Brs} {a a2 a3 : Addr} {F : List (List (List Nat))} {c k x y : Nat} {acc : List (List Nat)} {wk : List Nat} (hacc : acc.length ≤ 900) (hw : wk ≠ []) (hwl : wk.length ≤ 1000) (Q : FM → St → Prop)
    (hQ : Q .next (stW bs a F c a2 a3 (addW (x, y) acc wk) [(S "k", .fz (ni k)), (S "one", .fz (ni x)), (S "other", .fz (ni y))])) :
    wpSs C env wk3 (stW bs a F c a2 a3 acc [(S "k", .fz (ni k)), (S "one", .fz (ni x)), (S "other", .fz (ni y)), (S "walk", .fz (nl wk))]) Q := by
  have hnm : env.scope.names = (fS (st 26)).names := by rw [hs]
  conv at hnm => rhs; whnf
  have sh : Stores env (S "here") := by tm_at "stores"
  have stt : Stores env (S "there") := by tm_at "stores"
  refine wpSs_cons (wpS_for (items := [pr (x, y), pr (y, x)]) (fun j σ' => σ' = stW bs a F c a2 a3 (if j = 0 then acc else if j = 1 then tryA x y acc wk else addW (x, y) acc wk) [(S "k", .fz (ni k)), (S "one", .fz (ni x)), (S "other", .fz (ni y)), (S "walk", .fz (nl wk))]) hc hB rfl (by rintro i _ rfl; rfl) ?_ rfl ?_ ?_)
  · apply evIt_list
    refine ev_list (.cons (ev_list (ms := [ni x, ni y]) ?_ (by show 2 ≤ sizeLine; rw [sizeLine_eq]; lia)) (by intro _ _ h; cases h) (.cons (ev_list (ms := [ni y, ni x]) ?_ (by show 2 ≤ sizeLine; rw [sizeLine_eq]; lia)) (by intro _ _ h; cases h) .nil)) (by show 2 ≤ sizeLine; rw [sizeLine_eq]; lia)
    · tm_at "evs"
    · tm_at "evs"
  · rintro i m σ' hm rfl
    have turn : ∀ (h t : Nat) (ac ac' : List (List Nat)), ac.length ≤ 1000 → tryA h t ac wk = ac' → ∃ σ'', Asg C env (.Tuple [.Name (S "here") ⟨0, 0, 0, 0⟩, .Name (S "there") ⟨0, 0, 0, 0⟩] 0 ⟨0, 0, 0, 0⟩) (pr (h, t)) (stW bs a F c a2 a3 ac [(S "k", .fz (ni k)), (S "one", .fz (ni x)), (S "other", .fz (ni y)), (S "walk", .fz (nl wk))]) σ'' ∧ True := fun h t ac ac' _ _ => ⟨_, asg_pair sh stt hc hB rfl, trivial⟩
    have body : ∀ (h t : Nat) (ac ac' : List (List Nat)) (Q : FM → St → Prop), ac.length ≤ 1000 → tryA h t ac wk = ac' → Q .next (stW bs a F c a2 a3 ac' [(S "k", .fz (ni k)), (S "one", .fz (ni x)), (S "other", .fz (ni y)), (S "walk", .fz (nl wk))]) →
        wpSs C env wk4 (sput (sput (stW bs a F c a2 a3 ac [(S "k", .fz (ni k)), (S "one", .fz (ni x)), (S "other", .fz (ni y)), (S "walk", .fz (nl wk))]) (S "here") (.fz (ni h))) (S "there") (.fz (ni t))) Q := by
      intro h t ac ac' Q hl e hq
      have es : sput (sput (stW bs a F c a2 a3 ac [(S "k", .fz (ni k)), (S "one", .fz (ni x)), (S "other", .fz (ni y)), (S "walk", .fz (nl wk))]) (S "here") (.fz (ni h))) (S "there") (.fz (ni t)) = stW bs a F c a2 a3 ac [(S "k", .fz (ni k)), (S "one", .fz (ni x)), (S "other", .fz (ni y)), (S "walk", .fz (nl wk)), (S "here", .fz (ni h)), (S "there", .fz (ni t))] := by
        have e1 : sput (stW bs a F c a2 a3 ac [(S "k", .fz (ni k)), (S "one", .fz (ni x)), (S "other", .fz (ni y)), (S "walk", .fz (nl wk))]) (S "here") (.fz (ni h)) = stW bs a F c a2 a3 ac [(S "k", .fz (ni k)), (S "one", .fz (ni x)), (S "other", .fz (ni y)), (S "walk", .fz (nl wk)), (S "here", .fz (ni h))] := by tm_at "sp"
        rw [e1]; tm_at "sp"
      rw [es]
      refine wpSs_end [S "bridges", S "found", S "chosen", S "walks", S "known", S "k", S "one", S "other", S "walk"] (try_body hC hs hint hl hw hwl _ ?_)
      show Q .next (Mine.keep _ _)
      have ek : Mine.keep [S "bridges", S "found", S "chosen", S "walks", S "known", S "k", S "one", S "other", S "walk"] (stW bs a F c a2 a3 (tryA h t ac wk) [(S "k", .fz (ni k)), (S "one", .fz (ni x)), (S "other", .fz (ni y)), (S "walk", .fz (nl wk)), (S "here", .fz (ni h)), (S "there", .fz (ni t))]) = stW bs a F c a2 a3 (tryA h t ac wk) [(S "k", .fz (ni k)), (S "one", .fz (ni x)), (S "other", .fz (ni y)), (S "walk", .fz (nl wk))] := by tm_at "kp"
      rw [ek, e]
      exact hq
    match i, hm with
    | 0, hm =>
      have hm' : m = pr (x, y) := by simpa using hm.symm
      subst hm'
      exact ⟨_, asg_pair sh stt hc hB rfl, rfl, body x y acc _ _ (by lia) rfl rfl⟩
    | 1, hm =>
      have hm' : m = pr (y, x) := by simpa using hm.symm
      subst hm'
      have := len_tryA x y acc wk
      exact ⟨_, asg_pair sh stt hc hB rfl, rfl, body y x (tryA x y acc wk) _ _ (by lia) rfl rfl⟩
    | i + 2, hm => simp at hm
  · rintro σ' rfl
    apply wpSs_nil
    show wpSs C env [] (stW bs a F c a2 a3 (addW (x, y) acc wk) [(S "k", .fz (ni k)), (S "one", .fz (ni x)), (S "other", .fz (ni y)), (S "walk", .fz (nl wk))]) Q
    refine ss_keep [S "bridges", S "found", S "chosen", S "walks", S "known", S "k", S "one", S "other"] (σ' := stW bs a F c a2 a3 (addW (x, y) acc wk) [(S "k", .fz (ni k)), (S "one", .fz (ni x)), (S "other", .fz (ni y))]) (by tm_at "kp") (wpSs_nil hQ)
theorem k_body (hC : C.G = G w) (hB : C.mB = []) (hs : env.scope = fS (st 26)) (hc : CellsOk env) (hint : interactive env = false) {bs : Brs} (h4 : Isl bs) (hn : bs.length ≤ 6) {a a2 a3 : Addr} {F : List (List (List Nat))} {c k : Nat} (hk : k < bs.length) (hFl : F.length ≤ 64) {acc : List (List Nat)} (P : Pre (subB bs c) acc)
    (hF : c / 2 ^ k % 2 = 1 → c - 2 ^ k < F.length ∧ GWs (subB bs (c - 2 ^ k)) (F.getD (c - 2 ^ k) [])) (Q : FM → St → Prop)
    (hQ : Q .next (stW bs a F c a2 a3 (addK bs F c acc k) [])) :
    wpSs C env wk2 (stW bs a F c a2 a3 acc [(S "k", .fz (ni k))]) Q := by
  have hnm : env.scope.names = (fS (st 26)).names := by rw [hs]
  conv at hnm => rhs; whnf
  have so : Stores env (S "one") := by tm_at "stores"
  have st' : Stores env (S "other") := by tm_at "stores"
  have hp := Nat.two_pow_pos k
  have hpk : 2 ^ k ≤ 64 := Nat.le_trans (Nat.pow_le_pow_right (by decide) (by lia : k ≤ 6)) (by decide)
  refine wpSs_endG [S "bridges", S "found", S "chosen", S "walks", S "known"] fun Q₁ n₁ c₁ b₁ r₁ => ?_
  refine ss_if1 (b := decide (c / 2 ^ k % 2 = 1)) (evB_cmp (a := ni (c / 2 ^ k % 2)) (b := ni 1) (Ev.t (ev_binop (a := ni (c / 2 ^ k)) (b := ni 2) (Ev.t (ev_binop (a := ni c) (b := ni (2 ^ k)) ?_ (Ev.t (ev_binop (a := .int 2) (b := ni k) (Ev.t ev_int) ?_ (pow2_ (by lia)))) (divn_ (by lia) (by lia)))) (Ev.t ev_int) (modn_ (by decide)))) (Ev.t ev_int) eqn_ rfl) ?_ ?_
  · tm_at "evt"
  · tm_at "evt"
  · intro hb
    have hb := of_decide_eq_true hb
    obtain ⟨hlt, hG⟩ := hF hb
    obtain ⟨b, hbe⟩ : ∃ b, b = bs.getD k (0, 0) := ⟨_, rfl⟩
    have hbk : (bs.map pr)[k]? = some (pr b) := by
      rw [List.getElem?_map, hbe, List.getD_eq_getElem?_getD, List.getElem?_eq_getElem hk]; rfl
    have hperm := subB_perm k bs c hb hk
    rw [← hbe] at hperm
    have hb4 : b.1 < 4 ∧ b.2 < 4 := by rw [hbe]; exact isl_getD h4 k
    refine ss_asg (m := pr b) (σ' := stW bs a F c a2 a3 acc [(S "k", .fz (ni k)), (S "one", .fz (ni b.1)), (S "other", .fz (ni b.2))]) (ev_sub (a := .list (bs.map pr)) (i := ni k) ?_ ?_ (itemn_ (by lia) hbk)) ?_ rfl rfl ?_
    · tm_at "evt"
    · tm_at "evt"
    · exact asg_pair' so st' hc hB rfl (by tm_at "sp") (by tm_at "sp")
    obtain ⟨ws, hws⟩ : ∃ ws, ws = F.getD (c - 2 ^ k) [] := ⟨_, rfl⟩
    rw [← hws] at hG
    have haddK : addK bs F c acc k = ws.foldl (addW b) acc := by unfold addK; rw [if_pos hb, ← hws, ← hbe]
    rw [haddK] at hQ
    have hitem : (F.map nls)[c - 2 ^ k]? = some (nls ws) := by
      rw [List.getElem?_map, hws, List.getD_eq_getElem?_getD, List.getElem?_eq_getElem hlt]; rfl
    have hle : 2 ^ k ≤ c := by
      apply Classical.byContradiction
      intro q
      rw [Nat.div_eq_of_lt (by lia)] at hb
      simp at hb
    refine wpSs_cons (wpS_for (items := ws.map nl) (fun i σ' => σ' = stW bs a F c a2 a3 ((ws.take i).foldl (addW b) acc) [(S "k", .fz (ni k)), (S "one", .fz (ni b.1)), (S "other", .fz (ni b.2))]) hc hB rfl (by rintro i _ rfl; rfl) ?_ rfl ?_ ?_)
    · refine evIt_list (ev_sub (a := .list (F.map nls)) (i := ni (c - 2 ^ k)) ?_ (Ev.t (ev_binop (a := ni c) (b := ni (2 ^ k)) ?_ (Ev.t (ev_binop (a := .int 2) (b := ni k) (Ev.t ev_int) ?_ (pow2_ (by lia)))) (subn_ hle))) (itemn_ (by lia) hitem))
      · tm_at "nameT"
      · tm_at "evt"
      · tm_at "evt"
    · rintro i m σ' hm rfl
      rw [List.getElem?_map] at hm
      obtain ⟨wk, hwk, rfl⟩ := Option.map_eq_some_iff.mp hm
      have hmem := List.mem_of_getElem? hwk
      have hg := hG.each wk hmem
      have hPi : Pre (subB bs c) ((ws.take i).foldl (addW b) acc) := (addWs_ok hperm hb4 (ws.take i) P fun x hx => hG.each x (List.mem_of_mem_take hx)).1
      have hl16 := pre_len hPi
      have hsl : (subB bs (c - 2 ^ k)).length ≤ 6 := by
        have h1 := hperm.length_eq
        have h2 : ∀ (l : Brs) (c : Nat), (subB l c).length ≤ l.length := by
          intro l
          induction l with
          | nil => intro c; exact Nat.le_refl _
          | cons x r ih =>
            intro c
            rw [subB]
            have := ih (c / 2)
            split
            · simpa using this
            · rw [List.length_cons]; lia
        have := h2 bs (c - 2 ^ k)
        lia
      refine ⟨_, asg_name (by tm_at "stores"), rfl, ?_⟩
      have es : sput (stW bs a F c a2 a3 ((ws.take i).foldl (addW b) acc) [(S "k", .fz (ni k)), (S "one", .fz (ni b.1)), (S "other", .fz (ni b.2))]) (S "walk") (.fz (nl wk)) = stW bs a F c a2 a3 ((ws.take i).foldl (addW b) acc) [(S "k", .fz (ni k)), (S "one", .fz (ni b.1)), (S "other", .fz (ni b.2)), (S "walk", .fz (nl wk))] := by tm_at "sp"
      show wpSs C env wk3 (sput _ (S "walk") _) _
      rw [es]
      refine walk_body hC hB hs hc hint (by lia) hg.ne (by rw [hg.len]; lia) _ ?_
      show _ = _
      rw [List.take_add_one, hwk, List.foldl_append]
      rfl
    · rintro σ' rfl
      apply wpSs_nil
      refine wpSs_nil ?_
      refine n₁ _ ?_
      show Q .next (Mine.keep _ _)
      have ek : Mine.keep [S "bridges", S "found", S "chosen", S "walks", S "known"] (stW bs a F c a2 a3 ((ws.take (ws.map nl).length).foldl (addW b) acc) [(S "k", .fz (ni k)), (S "one", .fz (ni b.1)), (S "other", .fz (ni b.2))]) = stW bs a F c a2 a3 (ws.foldl (addW b) acc) [] := by
        rw [List.length_map, List.take_length]
        tm_at "kp"
      rw [ek]
      exact hQ
  · intro hb
    have hb := of_decide_eq_false hb
    have haddK : addK bs F c acc k = acc := by unfold addK; rw [if_neg hb]
    rw [haddK] at hQ
    refine wpSs_nil ?_
    refine n₁ _ ?_
    show Q .next (Mine.keep _ _)
    have ek : Mine.keep [S "bridges", S "found", S "chosen", S "walks", S "known"] (stW bs a F c a2 a3 acc [(S "k", .fz (ni k))]) = stW bs a F c a2 a3 acc [] := by tm_at "kp"
    rw [ek]
    exact hQ
theorem walks_body (hC : C.G = G w) (hB : C.mB = []) (hs : env.scope = fS (st 26)) (hc : CellsOk env) (hint : interactive env = false) (bs : Brs) (h4 : Isl bs) (hn : bs.length ≤ 6) :
    wpSs C env (fB (st 26)) [(S "bridges", .fz (.list (bs.map pr)))] fun fm _ => match fm with | .ret m => m = nls (allW bs) | .next => nls (allW bs) = .none | _ => False := by
  have hnm : env.scope.names = (fS (st 26)).names := by rw [hs]
  conv at hnm => rhs; whnf
  have hg : env.kindOf (Str.ofString "@own") = none := by show env.scope.names.lookup _ = none; rw [hnm]; kernel_rfl
  have hg2 : env.kindOf (Str.ofString "@acc") = none := by show env.scope.names.lookup _ = none; rw [hnm]; kernel_rfl
  refine ss_ownK (ms := (foundN bs 0).map nls) hB hg ?_ (by tm_at "stores") rfl rfl (by kernel_rfl) rfl ?_
  · refine evN_list (ms := [nls [[0], [1], [2], [3]]]) (.cons (EvN.ev (evN_comp (items := (List.range 4).map ni) (p := fun _ => true) (f := fun i => nl [i]) ?_ rfl rfl (compOk_of (fr := []) (by kernel_rfl) (fun _ h => nomatch h)) (by simp) hg2 ?_ ?_ ?_)) (by intro _ _ h; cases h) .nil) (by show 1 ≤ sizeLine; rw [sizeLine_eq]; lia)
    · exact evIt_range (by tm_at "fun") (Ev.t ev_int) (by intro _ _ h; cases h) (by lia)
    · intro i m cenv D cur hm ce
      exact rfl
    · intro i m cenv D cur hm _ ce
      obtain ⟨j, hj, rfl⟩ := Option.map_eq_some_iff.mp (by rw [List.getElem?_map] at hm; exact hm)
      have hij : j = i := by simpa using ((List.getElem?_eq_some_iff.mp hj).2).symm
      subst hij
      refine ev_list (.cons ?_ (by intro _ _ h; cases h) .nil) (by show 1 ≤ sizeLine; rw [sizeLine_eq]; lia)
      tm_at "name"
    · rfl
  intro a
  refine ⟨_, by tm_at "sp", ?_⟩
  have hp := Nat.two_pow_pos bs.length
  have hp6 : 2 ^ bs.length ≤ 64 := Nat.le_trans (Nat.pow_le_pow_right (by decide) hn) (by decide)
  have hlen : ∀ {σ : St} {e : Expr} {p pos : Pos}, EvT C env σ e (.list (bs.map pr)) → (∀ x p, e ≠ .Starred x p) → Ev C env σ (.Call (.Name (S "len") p) [e] [] pos) (ni bs.length) := fun {σ e p pos} he hne => by
    have := len_list (C := C) (xs := bs.map pr) (by rw [List.length_map]; lia)
    rw [List.length_map] at this
    exact ev_call_b (by tm_at "glob") (.cons he hne .nil) this
  refine wpSs_cons (wpS_for (items := (List.range (2 ^ bs.length - 1)).map fun i => .int (((1 : Nat) : Int) + (i : Nat))) (fun i σ' => σ' = [(S "bridges", .fz (.list (bs.map pr))), (S "found", .own a ((foundN bs i).map nls))]) hc hB rfl (by rintro i _ rfl; rfl) ?_ rfl ?_ ?_)
  · refine evIt_range2 (a := 1) (b := ((2 ^ bs.length : Nat) : Int)) (by tm_at "fun") (Ev.t ev_int) (by intro _ _ h; cases h) (Ev.t (ev_binop (a := .int 2) (b := ni bs.length) (Ev.t ev_int) (Ev.t (hlen (by tm_at "evt") (by intro _ _ h; cases h))) (pow2_ (by lia)))) (by intro _ _ h; cases h) (by lia) (by lia)
  · rintro i m σ' hm rfl
    rw [List.getElem?_map] at hm
    obtain ⟨j, hj, rfl⟩ := Option.map_eq_some_iff.mp hm
    obtain ⟨hjl, hje⟩ := List.getElem?_eq_some_iff.mp hj
    have hij : j = i := by simpa using hje.symm
    subst hij
    have hil : j < 2 ^ bs.length - 1 := by simpa using hjl
    have em : (MV.int (((1 : Nat) : Int) + (j : Nat))) = ni (j + 1) := by show MV.int _ = MV.int _; congr 1; lia
    rw [em]
    have hfo := foundN_ok h4 j (by lia)
    have hfl := foundN_len bs j
    refine ⟨_, asg_name (by tm_at "stores"), rfl, ?_⟩
    have es : sput [(S "bridges", .fz (.list (bs.map pr))), (S "found", .own a ((foundN bs j).map nls))] (S "chosen") (.fz (ni (j + 1))) = [(S "bridges", .fz (.list (bs.map pr))), (S "found", .own a ((foundN bs j).map nls)), (S "chosen", .fz (ni (j + 1)))] := by tm_at "sp"
    show wpSs C env wk1 (sput _ (S "chosen") _) _
    rw [es]
    refine wpSs_endG [S "bridges", S "found"] fun Q₃ n₃ c₃ b₃ r₃ => ?_
    refine ss_ownK (ms := []) hB hg (evN_list .nil (by show 0 ≤ _; lia)) (by tm_at "stores") rfl rfl (by kernel_rfl) rfl ?_
    intro a2
    refine ⟨_, by tm_at "sp", ?_⟩
    refine ss_ownK (ms := []) hB hg (evN_list .nil (by show 0 ≤ _; lia)) (by tm_at "stores") rfl rfl (by kernel_rfl) rfl ?_
    intro a3
    refine ⟨_, by tm_at "sp", ?_⟩
    show wpSs C env (wk1.drop 2) (stW bs a (foundN bs j) (j + 1) a2 a3 [] []) _
    have hf' : ∀ k, k < bs.length → (j + 1) / 2 ^ k % 2 = 1 → GWs (subB bs (j + 1 - 2 ^ k)) ((foundN bs j).getD (j + 1 - 2 ^ k) []) := fun k _ _ => hfo _ (by have := Nat.two_pow_pos k; lia)
    have hpre : ∀ k, k ≤ bs.length → Pre (subB bs (j + 1)) ((List.range k).foldl (addK bs (foundN bs j) (j + 1)) []) := fun k hk => (addKs_ok h4 hf' (List.range k) (acc := []) (fun x hx => by have := List.mem_range.mp hx; lia) ⟨(fun _ h => nomatch h), List.nodup_nil⟩).1
    refine wpSs_cons (wpS_for (items := (List.range bs.length).map ni) (fun k σ' => σ' = stW bs a (foundN bs j) (j + 1) a2 a3 ((List.range k).foldl (addK bs (foundN bs j) (j + 1)) []) []) hc hB rfl (by rintro i _ rfl; rfl) ?_ rfl ?_ ?_)
    · exact evIt_range (by tm_at "fun") (Ev.t (hlen (by tm_at "evt") (by intro _ _ h; cases h))) (by intro _ _ h; cases h) (by lia)
    · rintro k m σ' hm rfl
      rw [List.getElem?_map] at hm
      obtain ⟨k', hk, rfl⟩ := Option.map_eq_some_iff.mp hm
      obtain ⟨hkl, hke⟩ := List.getElem?_eq_some_iff.mp hk
      have hkk : k' = k := by simpa using hke.symm
      subst hkk
      have hkl : k' < bs.length := by simpa using hkl
      refine ⟨_, asg_name (by tm_at "stores"), rfl, ?_⟩
      have es : sput (stW bs a (foundN bs j) (j + 1) a2 a3 ((List.range k').foldl (addK bs (foundN bs j) (j + 1)) []) []) (S "k") (.fz (ni k')) = stW bs a (foundN bs j) (j + 1) a2 a3 ((List.range k').foldl (addK bs (foundN bs j) (j + 1)) []) [(S "k", .fz (ni k'))] := by tm_at "sp"
      show wpSs C env wk2 (sput _ (S "k") _) _
      rw [es]
      refine k_body hC hB hs hc hint h4 hn hkl (by lia) (hpre k' (by lia)) (fun hb => ⟨by have := Nat.two_pow_pos k'; lia, hf' k' hkl hb⟩) _ ?_
      show _ = _
      rw [List.range_succ, List.foldl_append]
      rfl
    · rintro σ' rfl
      apply wpSs_nil
      have ew : (List.range ((List.range bs.length).map ni).length).foldl (addK bs (foundN bs j) (j + 1)) [] = walksAt bs (foundN bs j) (j + 1) := by
        rw [List.length_map, List.length_range]; rfl
      rw [ew]
      refine ss_freeze (x := S "walks") (by tm_at "sg") (by tm_at "sp") ?_
      refine ss_append (x := S "found") (m := nls (walksAt bs (foundN bs j) (j + 1))) (by tm_at "sg") (by tm_at "kind") rfl ?_ (by intro _ _ h; cases h) rfl hint (by rw [List.length_map]; lia) rfl (by tm_at "sp") ?_
      · tm_at "name"
      refine wpSs_nil ?_
      refine n₃ _ ?_
      show Mine.keep _ _ = _
      have e1 : (foundN bs (j + 1)).map nls = (foundN bs j).map nls ++ [nls (walksAt bs (foundN bs j) (j + 1))] := by rw [foundN, List.map_append]; rfl
      rw [e1]
      tm_at "kp"
  · rintro σ' rfl
    apply wpSs_nil
    have e2 : ((List.range (2 ^ bs.length - 1)).map fun i => MV.int (((1 : Nat) : Int) + (i : Nat))).length = 2 ^ bs.length - 1 := by rw [List.length_map, List.length_range]
    rw [e2]
    have hfl := foundN_len bs (2 ^ bs.length - 1)
    refine ss_ret (m := nls (allW bs)) (ev_sub (a := .list ((foundN bs (2 ^ bs.length - 1)).map nls)) (i := .int (-1)) ?_ (Ev.t (ev_neg ev_int)) (item_last (by rw [List.length_map]; lia) ?_)) rfl
    · tm_at "nameT"
    · rw [List.getLast?_map]
      unfold allW
      rw [List.getLastD_eq_getLast?]
      cases q : (foundN bs (2 ^ bs.length - 1)).getLast? with
      | none => rw [List.getLast?_eq_none_iff] at q; rw [q] at hfl; simp at hfl
      | some x => rfl
theorem spec_walks (w : World) (bs : Brs) (h4 : Isl bs) (hn : bs.length ≤ 6) : Spec (G w) false 98 (.ref 771) [.list (bs.map pr)] (nls (allW bs)) :=
  spec_ofB (def_walks w) (by lia) rfl fun C hC hl _ L hB => walks_body hC hB (by kernel_rfl) (cells_none (by kernel_rfl)) (by kernel_rfl) bs h4 hn
theorem def_ends (w : World) : IsDef (G w) 776 (fdAt w.params 776) (fB (st 27)) [S "bridges", S "spans"] := by
  refine def_of w 776 775 [S "bridges", S "spans"] (st 27) rfl ?_ ?_ rfl ?_ ?_ ?_ ?_ ?_ ?_ ?_ ?_ ?_ ?_ ?_ (by decide +kernel) ?bb ?kk
  case bb =>
    intro vs hv
    obtain ⟨a0, a1, rfl⟩ := len2 hv
    kernel_rfl
  case kk =>
    intro x hx
    simp only [List.mem_cons, List.not_mem_nil, or_false] at hx
    rcases hx with rfl | rfl <;> exact .inl (by kernel_rfl)
  all_goals kernel_rfl
theorem len_fold1 : ∀ (l : Brs) (R : List Nat), (l.foldl pass1 R).length ≤ R.length + 2 * l.length
  | [], R => by simp
  | b :: r, R => by
    have := len_fold1 r (pass1 R b)
    have h : (pass1 R b).length ≤ R.length + 2 := by
      unfold pass1
      split
      · simp
      · lia
    rw [List.foldl_cons, List.length_cons]; lia
theorem passN_snoc (bs : Brs) (b : Nat × Nat) : ∀ (l : List (Nat × Nat)) (R : List Nat), passN bs (l ++ [b]) R = bs.foldl pass1 (passN bs l R)
  | [], _ => rfl
  | _ :: r, R => passN_snoc bs b r _
theorem len_passN (bs : Brs) (hn : bs.length ≤ 6) : ∀ (l : List (Nat × Nat)) (R : List Nat), (passN bs l R).length ≤ R.length + 12 * l.length
  | [], R => by simp [passN]
  | b :: r, R => by
    have h1 := len_passN bs hn r (bs.foldl pass1 R)
    have h2 := len_fold1 bs R
    rw [passN, List.length_cons]; lia
/-- what _law_ends tells -/
noncomputable def endsF (bs : Brs) (sp : List (Nat × Nat)) : List (Nat × Nat) :=
  if 1 < sp.length ∨ ¬ Con bs then [] else match sp with
    | [] => ((List.range 4).filter fun i => decide (i ∈ reached bs)).map fun i => (i, i)
    | p :: _ => [p, (p.2, p.1)]
theorem ends_body (hC : C.G = G w) (hB : C.mB = []) (hs : env.scope = fS (st 27)) (hc : CellsOk env) (hcl : ∃ c, env.cells.lookup (S "reached") = some c) (hint : interactive env = false) (bs : Brs) (hne : bs ≠ []) (hn : bs.length ≤ 6) (sp : List (Nat × Nat)) (hsp : sp.length ≤ 10) :
    wpSs C env (fB (st 27)) [(S "bridges", .fz (.list (bs.map pr))), (S "spans", .fz (.list (sp.map pr)))] fun fm _ => match fm with | .ret m => m = .list ((endsF bs sp).map pr) | .next => MV.list ((endsF bs sp).map pr) = .none | _ => False := by
  have hnm : env.scope.names = (fS (st 27)).names := by rw [hs]
  conv at hnm => rhs; whnf
  have hg2 : env.kindOf (Str.ofString "@acc") = none := by show env.scope.names.lookup _ = none; rw [hnm]; kernel_rfl
  have hkr : env.kindOf (S "reached") = some .cell := by tm_at "kindc"
  have sr : Stores env (S "reached") := .inr ⟨hkr, hcl⟩
  obtain ⟨b0, rb, rfl⟩ := List.exists_cons_of_ne_nil hne
  obtain ⟨bs, hbs⟩ : ∃ bs, bs = b0 :: rb := ⟨_, rfl⟩
  rw [← hbs] at hne hn ⊢
  have h0 : (bs.map pr)[0]? = some (pr b0) := by rw [hbs]; rfl
  have hR0 : (bs.headD (0, 0)).1 = b0.1 := by rw [hbs]; rfl
  refine ss_assign (m := nl [b0.1]) (ev_slice (a := pr b0) (lo := none) (hi := some ((1 : Nat) : Int)) (Ev.t (ev_sub (a := .list (bs.map pr)) (i := ni 0) ?_ (Ev.t ev_int) (itemn_ (by lia) h0))) .none (.some (Ev.t ev_int)) (slice_list_ (by show 2 ≤ sizeLine; rw [sizeLine_eq]; lia))) sr rfl (by tm_at "sp") ?_
  · tm_at "evt"
  refine wpSs_cons (wpS_for (items := bs.map pr) (fun i σ' => σ' = [(S "bridges", .fz (.list (bs.map pr))), (S "spans", .fz (.list (sp.map pr))), (S "reached", .fz (nl (passN bs (bs.take i) [b0.1])))]) hc hB rfl (by rintro i _ rfl; rfl) ?_ rfl ?_ ?_)
  · apply evIt_list; tm_at "ev"
  · rintro i m σ' hm rfl
    refine ⟨_, asg_name (by tm_at "stores"), rfl, ?_⟩
    obtain ⟨R, hR⟩ : ∃ R, R = passN bs (bs.take i) [b0.1] := ⟨_, rfl⟩
    have hRl : R.length ≤ 73 := by
      rw [hR]
      have := len_passN bs hn (bs.take i) [b0.1]
      have h2 : (bs.take i).length ≤ 6 := by rw [List.length_take]; lia
      simp only [List.length_cons, List.length_nil] at this; lia
    rw [← hR]
    have es : sput [(S "bridges", .fz (.list (bs.map pr))), (S "spans", .fz (.list (sp.map pr))), (S "reached", .fz (nl R))] (S "turn") (.fz m) = [(S "bridges", .fz (.list (bs.map pr))), (S "spans", .fz (.list (sp.map pr))), (S "reached", .fz (nl R)), (S "turn", .fz m)] := by tm_at "sp"
    rw [es]
    refine wpSs_endG [S "bridges", S "spans", S "reached"] fun Q₁ n₁ c₁ b₁ r₁ => ?_
    refine wpSs_cons (wpS_for (items := bs.map pr) (fun j σ' => σ' = [(S "bridges", .fz (.list (bs.map pr))), (S "spans", .fz (.list (sp.map pr))), (S "reached", .fz (nl ((bs.take j).foldl pass1 R))), (S "turn", .fz m)]) hc hB rfl (by rintro i _ rfl; rfl) ?_ rfl ?_ ?_)
    · apply evIt_list; tm_at "ev"
    · rintro j m2 σ' hm2 rfl
      rw [List.getElem?_map] at hm2
      obtain ⟨b, hb, rfl⟩ := Option.map_eq_some_iff.mp hm2
      obtain ⟨R2, hR2⟩ : ∃ R2, R2 = (bs.take j).foldl pass1 R := ⟨_, rfl⟩
      have hR2l : R2.length ≤ 85 := by
        rw [hR2]
        have := len_fold1 (bs.take j) R
        have h2 : (bs.take j).length ≤ 6 := by rw [List.length_take]; lia
        lia
      have hstep : (bs.take (j + 1)).foldl pass1 R = pass1 R2 b := by rw [List.take_add_one, hb, List.foldl_append, ← hR2]; rfl
      rw [hstep, ← hR2]
      refine ⟨_, asg_pair' (by tm_at "stores") (by tm_at "stores") hc hB rfl (by tm_at "sp") (by tm_at "sp"), rfl, ?_⟩
      refine wpSs_endG [S "bridges", S "spans", S "reached", S "turn"] fun Q₂ n₂ c₂ b₂ r₂ => ?_
      refine ss_if1 (b := decide (b.1 ∈ R2) || (decide (b.2 ∈ R2) || false)) (evB_or (evB_cmp (a := ni b.1) (b := nl R2) ?_ ?_ in_ni rfl) (fun _ => evB_or (evB_cmp (a := ni b.2) (b := nl R2) ?_ ?_ in_ni rfl) (fun _ => evB_or_nil))) ?_ ?_
      · tm_at "evt"
      · tm_at "evt"
      · tm_at "evt"
      · tm_at "evt"
      · intro hbb
        have hbb : b.1 ∈ R2 ∨ b.2 ∈ R2 := by simpa using hbb
        have hp1 : pass1 R2 b = R2 ++ [b.1, b.2] := by unfold pass1; rw [if_pos hbb]
        have en : nl (R2 ++ [b.1, b.2]) = .list (R2.map ni ++ [ni b.1, ni b.2]) := by show MV.list ((R2 ++ [b.1, b.2]).map ni) = _; rw [List.map_append]; rfl
        refine ss_assign (m := nl (R2 ++ [b.1, b.2])) ?_ sr rfl (by tm_at "sp") ?_
        · rw [en]
          refine ev_binop (a := nl R2) (b := .list [ni b.1, ni b.2]) ?_ (Ev.t (ev_list (ms := [ni b.1, ni b.2]) ?_ (by show 2 ≤ sizeLine; rw [sizeLine_eq]; lia))) (add_list_ (by rw [List.length_map]; show R2.length + 2 ≤ _; lia))
          · tm_at "evt"
          · tm_at "evs"
        refine wpSs_nil ?_
        refine n₂ _ ?_
        show Mine.keep _ _ = _
        rw [hp1]
        tm_at "kp"
      · intro hbb
        have hbb : ¬ (b.1 ∈ R2 ∨ b.2 ∈ R2) := by simpa using hbb
        have hp1 : pass1 R2 b = R2 := by unfold pass1; rw [if_neg hbb]
        refine wpSs_nil ?_
        refine n₂ _ ?_
        show Mine.keep _ _ = _
        rw [hp1]
        tm_at "kp"
    · rintro σ' rfl
      apply wpSs_nil
      refine wpSs_nil ?_
      refine n₁ _ ?_
      show Mine.keep _ _ = _
      have e1 : (bs.take (bs.map pr).length).foldl pass1 R = bs.foldl pass1 R := by rw [List.length_map, List.take_length]
      have e2 : passN bs (bs.take (i + 1)) [b0.1] = bs.foldl pass1 R := by
        rw [List.getElem?_map] at hm
        obtain ⟨b, hb, _⟩ := Option.map_eq_some_iff.mp hm
        rw [List.take_add_one, hb, hR]
        exact passN_snoc bs b _ _
      rw [e1, e2]
      tm_at "kp"
  · rintro σ' rfl
    apply wpSs_nil
    have eR : passN bs (bs.take (bs.map pr).length) [b0.1] = reached bs := by
      rw [List.length_map, List.take_length]
      unfold reached
      rw [hR0]
    rw [eR]
    obtain ⟨R, hR⟩ : ∃ R, R = reached bs := ⟨_, rfl⟩
    rw [← hR]
    have hlsp : Fn C (.builtin "len") [.list (sp.map pr)] (ni sp.length) := by
      have := len_list (C := C) (xs := sp.map pr) (by rw [List.length_map]; lia)
      rwa [List.length_map] at this
    have hcon : (bs.filter fun b => decide (b.1 ∉ R)).isEmpty = true ↔ Con bs := by
      rw [List.isEmpty_iff, List.filter_eq_nil_iff, hR]
      constructor
      · intro h b hb
        have := h b hb
        simpa using this
      · intro h b hb
        simpa using h b hb
    refine ss_if (b := decide (((1 : Nat) : Int) < (sp.length : Int)) || ((!((bs.filter fun b => decide (b.1 ∉ R)).map pr).isEmpty) || false)) (evB_or (evB_cmp (a := ni sp.length) (b := ni 1) (Ev.t (ev_call_b (by tm_at "glob") (.cons (by tm_at "evt") (by intro _ _ h; cases h) .nil) hlsp)) (Ev.t ev_int) gt_int_ rfl) (fun _ => evB_or (evB_cmp (a := .list ((bs.filter fun b => decide (b.1 ∉ R)).map pr)) (b := .list []) (Ev.t (EvN.ev (evN_comp (items := bs.map pr) (p := fun i => decide ((bs.getD i (0, 0)).1 ∉ R)) (f := fun i => pr (bs.getD i (0, 0))) ?_ rfl rfl (compOk_of (fr := [S "reached"]) (by kernel_rfl) ?_) (by rw [List.length_map]; lia) hg2 ?_ ?_ ?_))) (Ev.t (ev_list .nil (by show 0 ≤ _; lia))) (ne_nil (dd_prs _) (by decide)) rfl) (fun _ => evB_or_nil))) ?_ ?_
    · apply evIt_list; tm_at "ev"
    · intro y hy
      rw [List.mem_singleton.mp hy]
      exact ⟨hkr, hcl⟩
    · intro i m cenv D cur hm ce
      rw [List.getElem?_map] at hm
      obtain ⟨b, hb, rfl⟩ := Option.map_eq_some_iff.mp hm
      have hgd : bs.getD i (0, 0) = b := by rw [List.getD_eq_getElem?_getD, hb]; rfl
      rewrite [hgd]
      refine ⟨_, evB_cmp (a := ni b.1) (b := nl R) (Ev.t (ev_sub (a := pr b) (i := ni 0) ?_ (Ev.t ev_int) (itemn_ (by lia) rfl))) ?_ notin_ni rfl, fun h => h, fun h => h⟩
      · tm_at "evt"
      · tm_at "evt"
    · intro i m cenv D cur hm _ ce
      rw [List.getElem?_map] at hm
      obtain ⟨b, hb, rfl⟩ := Option.map_eq_some_iff.mp hm
      have hgd : bs.getD i (0, 0) = b := by rw [List.getD_eq_getElem?_getD, hb]; rfl
      rewrite [hgd]
      tm_at "name"
    · rw [List.length_map]
      exact compRes_filter (0, 0) (fun b : Nat × Nat => decide (b.1 ∉ R)) pr _ bs
    · intro hb
      have hb : 1 < sp.length ∨ ¬ Con bs := by
        rw [← hcon]
        simp only [Bool.or_false, Bool.or_eq_true, decide_eq_true_eq, Bool.not_eq_true'] at hb
        rcases hb with hb | hb
        · exact .inl (by lia)
        · refine .inr ?_
          rw [List.isEmpty_map] at hb
          rw [hb]; decide
      have he : endsF bs sp = [] := by unfold endsF; rw [if_pos hb]
      rw [he]
      exact ss_ret (m := .list []) (ev_list .nil (by show 0 ≤ _; lia)) rfl
    · intro hb
      have hb : ¬ (1 < sp.length ∨ ¬ Con bs) := by
        rw [← hcon]
        simp only [Bool.or_false, Bool.or_eq_false_iff, decide_eq_false_iff_not, Bool.not_eq_false'] at hb
        rintro (q | q)
        · exact hb.1 (by lia)
        · rw [List.isEmpty_map] at hb
          exact q hb.2
      have he : endsF bs sp = match sp with | [] => ((List.range 4).filter fun i => decide (i ∈ reached bs)).map fun i => (i, i) | p :: _ => [p, (p.2, p.1)] := by unfold endsF; rw [if_neg hb]
      refine wpSs_nil ?_
      refine ss_if (b := (sp.map pr).isEmpty) (evB_cmp (a := .list (sp.map pr)) (b := .list []) ?_ (Ev.t (ev_list .nil (by show 0 ≤ _; lia))) (eq_nil (dd_prs _) (by decide)) rfl) ?_ ?_
      · tm_at "evt"
      · intro hsn
        have hsn : sp = [] := by rw [List.isEmpty_map] at hsn; exact List.isEmpty_iff.mp hsn
        subst hsn
        rw [he]
        refine ss_ret (m := .list ((((List.range 4).filter fun i => decide (i ∈ reached bs)).map fun i => (i, i)).map pr)) (EvN.ev (evN_comp (items := (List.range 4).map ni) (p := fun i => decide ((List.range 4).getD i 0 ∈ R)) (f := fun i => pr ((List.range 4).getD i 0, (List.range 4).getD i 0)) ?_ rfl rfl (compOk_of (fr := [S "reached"]) (by kernel_rfl) ?_) (by simp) hg2 ?_ ?_ ?_)) rfl
        · exact evIt_range (by tm_at "fun") (Ev.t ev_int) (by intro _ _ h; cases h) (by lia)
        · intro y hy
          rw [List.mem_singleton.mp hy]
          exact ⟨hkr, hcl⟩
        · intro i m cenv D cur hm ce
          rw [List.getElem?_map] at hm
          obtain ⟨b, hb, rfl⟩ := Option.map_eq_some_iff.mp hm
          have hgd : (List.range 4).getD i 0 = b := by rw [List.getD_eq_getElem?_getD, hb]; rfl
          rewrite [hgd]
          refine ⟨_, evB_cmp (a := ni b) (b := nl R) ?_ ?_ in_ni rfl, fun h => h, fun h => h⟩
          · tm_at "evt"
          · tm_at "evt"
        · intro i m cenv D cur hm _ ce
          rw [List.getElem?_map] at hm
          obtain ⟨b, hb, rfl⟩ := Option.map_eq_some_iff.mp hm
          have hgd : (List.range 4).getD i 0 = b := by rw [List.getD_eq_getElem?_getD, hb]; rfl
          rewrite [hgd]
          refine ev_list (ms := [ni b, ni b]) ?_ (by show 2 ≤ sizeLine; rw [sizeLine_eq]; lia)
          tm_at "evs"
        · rw [List.map_map, ← hR]
          exact compRes_filter 0 (fun i : Nat => decide (i ∈ R)) (fun i => pr (i, i)) _ (List.range 4)
      · intro hsn
        refine wpSs_nil ?_
        match sp, hsn, he with
        | p :: r, _, he =>
          rw [he]
          refine ss_asg (m := pr p) (ev_sub (a := .list ((p :: r).map pr)) (i := ni 0) ?_ (Ev.t ev_int) (itemn_ (by lia) rfl)) (asg_pair' (by tm_at "stores") (by tm_at "stores") hc hB rfl (by tm_at "sp") (by tm_at "sp")) rfl rfl ?_
          · tm_at "evt"
          refine ss_ret (m := .list [pr p, pr (p.2, p.1)]) (ev_list (.cons (ev_list (ms := [ni p.1, ni p.2]) ?_ (by show 2 ≤ sizeLine; rw [sizeLine_eq]; lia)) (by intro _ _ h; cases h) (.cons (ev_list (ms := [ni p.2, ni p.1]) ?_ (by show 2 ≤ sizeLine; rw [sizeLine_eq]; lia)) (by intro _ _ h; cases h) .nil)) (by show 2 ≤ sizeLine; rw [sizeLine_eq]; lia)) rfl
          · tm_at "evs"
          · tm_at "evs"
theorem cells_one {fd : FuncData} {L fa : Addr} {a : Str} (h : cellsFrom (L + 1) fd.scope.names [] = [(a, L + 1)]) : CellsOk (envAt fd L fa) ∧ ∃ c, (envAt fd L fa).cells.lookup a = some c := by
  have e : (envAt fd L fa).cells = [(a, L + 1)] := h
  constructor
  · intro x c hm
    rw [e] at hm ⊢
    simp only [List.mem_cons, List.not_mem_nil, or_false, Prod.mk.injEq] at hm
    obtain ⟨rfl, rfl⟩ := hm
    simp [List.lookup]
  · exact ⟨L + 1, by rw [e]; simp [List.lookup]⟩
theorem spec_ends (w : World) (bs : Brs) (hne : bs ≠ []) (hn : bs.length ≤ 6) (sp : List (Nat × Nat)) (hsp : sp.length ≤ 10) : Spec (G w) false 98 (.ref 776) [.list (bs.map pr), .list (sp.map pr)] (.list ((endsF bs sp).map pr)) :=
  spec_ofB (def_ends w) (by lia) rfl fun C hC hl _ L hB => by
    obtain ⟨c1, c2⟩ := cells_one (fd := fdAt w.params 776) (L := L) (fa := 776) (a := S "reached") (by kernel_rfl)
    exact ends_body hC hB (by kernel_rfl) c1 c2 (by kernel_rfl) bs hne hn sp hsp
theorem def_due (w : World) : IsDef (G w) 783 (fdAt w.params 783) (fB (st 28)) [S "walk", S "signs"] := by
  refine def_of w 783 782 [S "walk", S "signs"] (st 28) rfl ?_ ?_ rfl ?_ ?_ ?_ ?_ ?_ ?_ ?_ ?_ ?_ ?_ ?_ (by decide +kernel) ?bb ?kk
  case bb =>
    intro vs hv
    obtain ⟨a0, a1, rfl⟩ := len2 hv
    kernel_rfl
  case kk =>
    intro x hx
    simp only [List.mem_cons, List.not_mem_nil, or_false] at hx
    rcases hx with rfl | rfl <;> exact .inl (by kernel_rfl)
  all_goals kernel_rfl
/-- what _law_due tells of an island -/
noncomputable def dueAt (wk : List Nat) (sg : List (List Nat)) (i : Nat) : List Nat :=
  if wk.headD 0 = wk.getLastD 0 then List.replicate ((wk.drop 1).count i) 34 ++ sg.getD i []
  else List.replicate (((wk.drop 1).take (wk.length - 2)).count i) 34 ++ (if i ∈ [wk.headD 0, wk.getLastD 0] then [] else sg.getD i [])
theorem lslice_from1 {α : Type} (xs : List α) (h : xs ≠ []) : lslice xs (some ((1 : Nat) : Int)) none = xs.drop 1 := by
  have hl : 0 < xs.length := List.length_pos_iff.mpr h
  unfold lslice
  simp only [Option.elim_some, Option.elim_none]
  have : clipAt xs.length ((1 : Nat) : Int) = 1 := by unfold clipAt; rw [if_neg (by lia)]; lia
  rw [this]
  exact List.take_of_length_le (by rw [List.length_drop]; lia)
theorem lslice_mid {α : Type} (xs : List α) (h : xs ≠ []) : lslice xs (some ((1 : Nat) : Int)) (some (-1)) = (xs.drop 1).take (xs.length - 2) := by
  have hl : 0 < xs.length := List.length_pos_iff.mpr h
  unfold lslice
  simp only [Option.elim_some]
  have h1 : clipAt xs.length ((1 : Nat) : Int) = 1 := by unfold clipAt; rw [if_neg (by lia)]; lia
  have h2 : clipAt xs.length (-1) = xs.length - 1 := by unfold clipAt; rw [if_pos (by lia)]; lia
  rw [h1, h2]
  congr 1
theorem due_body (hC : C.G = G w) (hB : C.mB = []) (hs : env.scope = fS (st 28)) (hc : CellsOk env) (hint : interactive env = false) (wk : List Nat) (hw : wk ≠ []) (hwl : wk.length ≤ 100) (sg : List (List Nat)) (hsg : sg.length = 4) (hsl : ∀ s ∈ sg, s.length ≤ 100) :
    wpSs C env (fB (st 28)) [(S "walk", .fz (nl wk)), (S "signs", .fz (.list (sg.map tx)))] fun fm _ => match fm with | .ret m => m = .list (((List.range 4).map (dueAt wk sg)).map tx) | .next => MV.list (((List.range 4).map (dueAt wk sg)).map tx) = .none | _ => False := by
  have hnm : env.scope.names = (fS (st 28)).names := by rw [hs]
  conv at hnm => rhs; whnf
  have hg : env.kindOf (Str.ofString "@own") = none := by show env.scope.names.lookup _ = none; rw [hnm]; kernel_rfl
  have hwm : wk.map ni ≠ [] := by simpa using hw
  refine ss_ownK (ms := []) hB hg (evN_list .nil (by show 0 ≤ _; lia)) (by tm_at "stores") rfl rfl (by kernel_rfl) rfl ?_
  intro a
  refine ⟨_, by tm_at "sp", ?_⟩
  refine wpSs_cons (wpS_for (items := (List.range 4).map ni) (fun i σ' => σ' = [(S "walk", .fz (nl wk)), (S "signs", .fz (.list (sg.map tx))), (S "names", .own a (((List.range i).map (dueAt wk sg)).map tx))]) hc hB rfl (by rintro i _ rfl; rfl) ?_ rfl ?_ ?_)
  · exact evIt_range (by tm_at "fun") (Ev.t ev_int) (by intro _ _ h; cases h) (by lia)
  · rintro i m σ' hm rfl
    rw [List.getElem?_map] at hm
    obtain ⟨j, hj, rfl⟩ := Option.map_eq_some_iff.mp hm
    obtain ⟨hjl, hje⟩ := List.getElem?_eq_some_iff.mp hj
    have hij : j = i := by simpa using hje.symm
    subst hij
    have hj4 : j < 4 := by simpa using hjl
    refine ⟨_, asg_name (by tm_at "stores"), rfl, ?_⟩
    have es : sput [(S "walk", .fz (nl wk)), (S "signs", .fz (.list (sg.map tx))), (S "names", .own a (((List.range j).map (dueAt wk sg)).map tx))] (S "island") (.fz (ni j)) = [(S "walk", .fz (nl wk)), (S "signs", .fz (.list (sg.map tx))), (S "names", .own a (((List.range j).map (dueAt wk sg)).map tx)), (S "island", .fz (ni j))] := by tm_at "sp"
    rw [es]
    refine wpSs_end [S "walk", S "signs", S "names"] ?_
    have hsx : (sg.map tx)[j]? = some (tx (sg.getD j [])) := by
      rw [List.getElem?_map, List.getD_eq_getElem?_getD, List.getElem?_eq_getElem (by lia)]; rfl
    have hsj : (sg.getD j []).length ≤ 100 := by
      rw [List.getD_eq_getElem?_getD, List.getElem?_eq_getElem (by lia)]
      exact hsl _ (List.getElem_mem _)
    have hrs : ((List.range (j + 1)).map (dueAt wk sg)).map tx = ((List.range j).map (dueAt wk sg)).map tx ++ [tx (dueAt wk sg j)] := by
      rw [List.range_succ, List.map_append, List.map_append]; rfl
    have hlen : (((List.range j).map (dueAt wk sg)).map tx).length ≤ 1000000 := by rw [List.length_map, List.length_map, List.length_range]; lia
    refine ss_if1 (b := decide (wk.headD 0 = wk.getLastD 0)) (evB_cmp (a := ni (wk.headD 0)) (b := ni (wk.getLastD 0)) (Ev.t (ev_sub (a := nl wk) (i := ni 0) ?_ (Ev.t ev_int) (itemn_ (by lia) (head_at hw)))) (Ev.t (ev_sub (a := nl wk) (i := .int (-1)) ?_ (Ev.t (ev_neg ev_int)) (item_last (by rw [List.length_map]; lia) (last_at hw)))) eqn_ rfl) ?_ ?_
    · tm_at "evt"
    · tm_at "evt"
    · intro hb
      have hb := of_decide_eq_true hb
      have ed : dueAt wk sg j = List.replicate ((wk.drop 1).count j) 34 ++ sg.getD j [] := by unfold dueAt; rw [if_pos hb]
      have hcl : (wk.drop 1).count j ≤ 100 := Nat.le_trans List.count_le_length (by rw [List.length_drop]; lia)
      refine ss_append (x := S "names") (m := tx (dueAt wk sg j)) (by tm_at "sg") (by tm_at "kind") rfl ?_ (by intro _ _ h; cases h) rfl hint hlen rfl (by tm_at "sp") ?_
      · rw [ed]
        refine ev_binop (a := tx (List.replicate ((wk.drop 1).count j) 34)) (b := tx (sg.getD j [])) (Ev.t (ev_binop (a := tx [34]) (b := ni ((wk.drop 1).count j)) (Ev.t c_q) (Ev.t (ev_meth (a := nl (wk.drop 1)) (ms := [ni j]) (Ev.t ?_) (.cons ?_ (by intro _ _ h; cases h) .nil) m_lcount fn_lcount rfl rfl (by decide))) (mul_tx (by lia)))) (Ev.t (ev_sub (a := .list (sg.map tx)) (i := ni j) ?_ ?_ (itemn_ (by lia) hsx))) (cat_tx (by rw [List.length_replicate]; lia))
        · have e : nl (wk.drop 1) = .list (lslice (wk.map ni) (some ((1 : Nat) : Int)) none) := by rw [lslice_from1 _ hwm, ← List.map_drop]
          rw [e]
          refine ev_slice (a := nl wk) (lo := some ((1 : Nat) : Int)) (hi := none) ?_ (.some (Ev.t ev_int)) .none (slice_list_ (by rw [List.length_map, sizeLine_eq]; lia))
          tm_at "evt"
        · tm_at "evt"
        · tm_at "evt"
        · tm_at "evt"
      refine wpSs_nil ?_
      show Mine.keep _ _ = _
      rw [hrs]
      tm_at "kp"
    · intro hb
      have hb := of_decide_eq_false hb
      have ed : dueAt wk sg j = List.replicate (((wk.drop 1).take (wk.length - 2)).count j) 34 ++ (if j ∈ [wk.headD 0, wk.getLastD 0] then [] else sg.getD j []) := by unfold dueAt; rw [if_neg hb]
      have hcl : ((wk.drop 1).take (wk.length - 2)).count j ≤ 100 := Nat.le_trans List.count_le_length (by rw [List.length_take, List.length_drop]; lia)
      obtain ⟨told, htold⟩ : ∃ told, told = (if j ∈ [wk.headD 0, wk.getLastD 0] then [] else sg.getD j []) := ⟨_, rfl⟩
      have htl : told.length ≤ 100 := by
        rw [htold]; split
        · simp
        · exact hsj
      rw [← htold] at ed
      refine ss_assign (m := tx told) (ev_ifexp (b := decide (j ∈ [wk.headD 0, wk.getLastD 0])) (evB_cmp (a := ni j) (b := nl [wk.headD 0, wk.getLastD 0]) ?_ (Ev.t (ev_list (ms := [ni (wk.headD 0), ni (wk.getLastD 0)]) (.cons (ev_sub (a := nl wk) (i := ni 0) ?_ (Ev.t ev_int) (itemn_ (by lia) (head_at hw))) (by intro _ _ h; cases h) (.cons (ev_sub (a := nl wk) (i := .int (-1)) ?_ (Ev.t (ev_neg ev_int)) (item_last (by rw [List.length_map]; lia) (last_at hw))) (by intro _ _ h; cases h) .nil)) (by show 2 ≤ sizeLine; rw [sizeLine_eq]; lia))) in_ni rfl) ?_ ?_) (by tm_at "stores") rfl (by tm_at "sp") ?_
      · tm_at "evt"
      · tm_at "evt"
      · tm_at "evt"
      · intro h
        have h := of_decide_eq_true h
        rw [htold, if_pos h]
        exact c_nil
      · intro h
        have h := of_decide_eq_false h
        rw [htold, if_neg h]
        refine ev_sub (a := .list (sg.map tx)) (i := ni j) ?_ ?_ (itemn_ (by lia) hsx)
        · tm_at "evt"
        · tm_at "evt"
      refine ss_append (x := S "names") (m := tx (dueAt wk sg j)) (by tm_at "sg") (by tm_at "kind") rfl ?_ (by intro _ _ h; cases h) rfl hint hlen rfl (by tm_at "sp") ?_
      · rw [ed]
        refine ev_binop (a := tx (List.replicate (((wk.drop 1).take (wk.length - 2)).count j) 34)) (b := tx told) (Ev.t (ev_binop (a := tx [34]) (b := ni (((wk.drop 1).take (wk.length - 2)).count j)) (Ev.t c_q) (Ev.t (ev_meth (a := nl ((wk.drop 1).take (wk.length - 2))) (ms := [ni j]) (Ev.t ?_) (.cons ?_ (by intro _ _ h; cases h) .nil) m_lcount fn_lcount rfl rfl (by decide))) (mul_tx (by lia)))) ?_ (cat_tx (by rw [List.length_replicate]; lia))
        · have e : nl ((wk.drop 1).take (wk.length - 2)) = .list (lslice (wk.map ni) (some ((1 : Nat) : Int)) (some (-1))) := by rw [lslice_mid _ hwm, List.length_map, ← List.map_drop, ← List.map_take]
          rw [e]
          refine ev_slice (a := nl wk) (lo := some ((1 : Nat) : Int)) (hi := some (-1)) ?_ (.some (Ev.t ev_int)) (.some (Ev.t (ev_neg ev_int))) (slice_list_ (by rw [List.length_map, sizeLine_eq]; lia))
          tm_at "evt"
        · tm_at "evt"
        · tm_at "evt"
      refine wpSs_nil ?_
      show Mine.keep _ _ = _
      rw [hrs]
      tm_at "kp"
  · rintro σ' rfl
    apply wpSs_nil
    rw [List.length_map, List.length_range]
    refine ss_freeze (x := S "names") (by tm_at "sg") (by tm_at "sp") ?_
    refine ss_ret ?_ rfl
    tm_at "name"
theorem spec_due (w : World) (wk : List Nat) (hw : wk ≠ []) (hwl : wk.length ≤ 100) (sg : List (List Nat)) (hsg : sg.length = 4) (hsl : ∀ s ∈ sg, s.length ≤ 100) : Spec (G w) false 98 (.ref 783) [nl wk, .list (sg.map tx)] (.list (((List.range 4).map (dueAt wk sg)).map tx)) :=
  spec_ofB (def_due w) (by lia) rfl fun C hC hl _ L hB => due_body hC hB (by kernel_rfl) (cells_none (by kernel_rfl)) (by kernel_rfl) wk hw hwl sg hsg hsl
theorem expE_asc (bs : Brs) : ((expE bs).map Prod.fst).Pairwise (· < ·) := by
  have ho : (oddL bs).Pairwise (· < ·) := List.Pairwise.filter _ (by decide)
  unfold expE
  split
  · split
    · rw [List.map_map]
      have : (Prod.fst ∘ fun i : Nat => (i, i)) = id := rfl
      rw [this, List.map_id]
      exact List.Pairwise.filter _ (by decide)
    · rename_i a b he
      rw [he] at ho
      simp at ho ⊢
      exact ho
    · exact .nil
  · exact .nil
theorem expE_lt4 {bs : Brs} (h4 : Isl bs) (hne : bs ≠ []) : ∀ p ∈ expE bs, p.1 < 4 := fun p hp => by
  obtain ⟨s, t⟩ := p
  exact ((expE_iff h4 hne s t).mpr hp).s4
noncomputable def spansOf (bs : Brs) : List (Nat × Nat) := match oddL bs with
  | [a, b] => [(a, b)]
  | [a, b, c, d] => [(a, b), (c, d)]
  | _ => []
theorem ends_exp {bs : Brs} (h4 : Isl bs) : endsF bs (spansOf bs) = expE bs := by
  have hs := deg_sum h4
  unfold endsF expE spansOf
  have hr : List.range 4 = [0, 1, 2, 3] := by decide
  rw [hr]
  by_cases hc : Con bs
  · rw [if_pos hc]
    unfold oddL
    rcases Nat.mod_two_eq_zero_or_one (deg bs 0) with h0 | h0 <;> rcases Nat.mod_two_eq_zero_or_one (deg bs 1) with h1 | h1 <;> rcases Nat.mod_two_eq_zero_or_one (deg bs 2) with h2 | h2 <;> rcases Nat.mod_two_eq_zero_or_one (deg bs 3) with h3 | h3 <;> first | (exfalso; lia) | (simp only [List.filter, h0, h1, h2, h3, decide_true, decide_false, Nat.zero_ne_one, List.length_cons, List.length_nil]; split <;> simp_all)
  · rw [if_neg hc, if_pos (.inr hc)]
noncomputable def segsOf (c : Nat) (bs : Brs) : List (Nat × Nat) := [(deg bs 0, c), (deg bs 1, c + 1), (deg bs 2, c + 2), (deg bs 3, c + 3)]
noncomputable def signsL (c : Nat) : List (List Nat) := [[c], [c + 1], [c + 2], [c + 3]]
noncomputable def rowT (c : Nat) (bs : Brs) (i : Nat) : List Nat := List.replicate (deg bs i) 34 ++ [c + i]
noncomputable def nameT (c : Nat) (bs : Brs) (i : Nat) : List Nat := List.replicate (deg bs i / 2) 34 ++ (if deg bs i % 2 = 0 then [c + i] else [])
structure WordsOk (c : Nat) (bs : Brs) (ws : List (List Nat)) : Prop where
  w : wds (0, 122) false [] (segsOf c bs) = some ws
  flat : rep1 32 [] (joinL [] ws) = [c, c + 1, c + 2, c + 3, 122]
  len : ws.length ≤ 10
  each : ∀ w ∈ ws, w ≠ [] ∧ w.length ≤ 20
  ends : ∀ w ∈ ws, 32 ∈ w → c ≤ w.headD 0 ∧ w.headD 0 < c + 4 ∧ c ≤ w.getLastD 0 ∧ w.getLastD 0 < c + 4
  spans : (ws.filter fun w => decide (32 ∈ w)).map (fun w => (w.headD 0 - c, w.getLastD 0 - c)) = spansOf bs
theorem words_ok {c : Nat} (hc : 97 ≤ c) {bs : Brs} (h4 : Isl bs) : ∃ ws, WordsOk c bs ws := by
  have hs := deg_sum h4
  have n0 : ¬ c = 32 := by lia
  have n1 : ¬ c + 1 = 32 := by lia
  have n2 : ¬ c + 2 = 32 := by lia
  have n3 : ¬ c + 3 = 32 := by lia
  have m0 : ¬ 32 = c := by lia
  have m1 : ¬ 32 = c + 1 := by lia
  have m2 : ¬ 32 = c + 2 := by lia
  have m3 : ¬ 32 = c + 3 := by lia
  have d1 : c + 1 - c = 1 := by lia
  have d2 : c + 2 - c = 2 := by lia
  have d3 : c + 3 - c = 3 := by lia
  rcases Nat.mod_two_eq_zero_or_one (deg bs 0) with h0 | h0 <;> rcases Nat.mod_two_eq_zero_or_one (deg bs 1) with h1 | h1 <;> rcases Nat.mod_two_eq_zero_or_one (deg bs 2) with h2 | h2 <;> rcases Nat.mod_two_eq_zero_or_one (deg bs 3) with h3 | h3 <;> first
    | (exfalso; lia)
    | (refine ⟨_, ⟨by simp only [segsOf, wds, h0, h1, h2, h3]; rfl, ?_, ?_, ?_, ?_, ?_⟩⟩
       · simp [joinL, rep1, n0, n1, n2, n3]
       · simp
       · simp
       · simp [m0, m1, m2, m3]
       · simp [List.filter, m0, m1, m2, m3, spansOf, oddL, h0, h1, h2, h3, d1, d2, d3])
theorem names_count {c : Nat} (hc : 97 ≤ c) {bs : Brs} (h4 : Isl bs) : (joinL [] ((List.range 4).map (nameT c bs))).count 34 + (spansOf bs).length = bs.length := by
  have hs := deg_sum h4
  have hr : List.range 4 = [0, 1, 2, 3] := by decide
  rw [hr]
  have cn : ∀ i, (nameT c bs i).count 34 = deg bs i / 2 := fun i => by
    unfold nameT
    rw [List.count_append, List.count_replicate_self]
    have : ([c + i] : List Nat).count 34 = 0 := by
      rw [List.count_eq_zero]; simp; lia
    split
    · rw [this]; rfl
    · rfl
  have hj : (joinL [] ([0, 1, 2, 3].map (nameT c bs))).count 34 = deg bs 0 / 2 + deg bs 1 / 2 + deg bs 2 / 2 + deg bs 3 / 2 := by
    simp only [List.map_cons, List.map_nil, joinL, List.append_nil, List.count_append, cn]; lia
  rw [hj]
  unfold spansOf oddL
  rcases Nat.mod_two_eq_zero_or_one (deg bs 0) with h0 | h0 <;> rcases Nat.mod_two_eq_zero_or_one (deg bs 1) with h1 | h1 <;> rcases Nat.mod_two_eq_zero_or_one (deg bs 2) with h2 | h2 <;> rcases Nat.mod_two_eq_zero_or_one (deg bs 3) with h3 | h3 <;> first | (exfalso; lia) | (simp only [List.filter, h0, h1, h2, h3, decide_true, decide_false, Nat.zero_ne_one, List.length_cons, List.length_nil]; lia)
theorem due_names {c : Nat} {bs : Brs} {wk : List Nat} (h : GW bs wk) : (List.range 4).map (dueAt wk (signsL c)) = (List.range 4).map (nameT c bs) := by
  refine List.map_congr_left fun i hi => ?_
  have hi4 := List.mem_range.mp hi
  have hsg : (signsL c).getD i [] = [c + i] := by
    rcases (by lia : i = 0 ∨ i = 1 ∨ i = 2 ∨ i = 3) with rfl | rfl | rfl | rfl <;> rfl
  have hc := h.cnt i
  obtain ⟨a, r, rfl⟩ := List.exists_cons_of_ne_nil h.ne
  have hhd : (a :: r).headD 0 = a := rfl
  rw [hhd] at hc
  unfold dueAt nameT
  rw [hsg, hhd]
  have hcc : (a :: r).count i = r.count i + one1 a i := by
    rw [List.count_cons]; simp [one1]
  rw [hcc] at hc
  by_cases hcl : a = (a :: r).getLastD 0
  · rw [if_pos hcl]
    have hl : (a :: r).getLastD 0 = a := hcl.symm
    rw [hl] at hc
    have e1 : deg bs i / 2 = r.count i := by lia
    have e2 : deg bs i % 2 = 0 := by lia
    rw [e1, if_pos e2]; rfl
  · rw [if_neg hcl]
    have hne : r ≠ [] := by rintro rfl; exact hcl rfl
    obtain ⟨mid, l, rfl⟩ : ∃ mid l, r = mid ++ [l] := ⟨r.dropLast, r.getLast hne, (List.dropLast_concat_getLast hne).symm⟩
    have hll : (a :: (mid ++ [l])).getLastD 0 = l := by rw [← List.cons_append]; exact lastD_snoc _ _
    rw [hll] at hc hcl ⊢
    have hmid : ((a :: (mid ++ [l])).drop 1).take ((a :: (mid ++ [l])).length - 2) = mid := by
      show (mid ++ [l]).take (((mid ++ [l]).length + 1) - 2) = mid
      rw [List.length_append, show mid.length + [l].length + 1 - 2 = mid.length by simp]
      exact List.take_left
    rw [hmid]
    rw [List.count_append, count_one] at hc
    have hal : one1 a i + one1 l i ≤ 1 := by
      unfold one1
      by_cases q1 : a = i <;> by_cases q2 : l = i <;> simp [q1, q2]
      exact hcl (q1.trans q2.symm)
    have e1 : deg bs i / 2 = mid.count i := by lia
    rw [e1]
    by_cases hm : i ∈ [a, l]
    · rw [if_pos hm]
      have : one1 a i + one1 l i = 1 := by
        simp only [List.mem_cons, List.not_mem_nil, or_false] at hm
        rcases hm with rfl | rfl
        · rw [one1_self] at hal ⊢; lia
        · rw [one1_self] at hal ⊢; lia
      rw [if_neg (by lia)]
    · rw [if_neg hm]
      have : one1 a i + one1 l i = 0 := by
        simp only [List.mem_cons, List.not_mem_nil, or_false, not_or] at hm
        have h1 : ¬ a = i := fun q => hm.1 q.symm
        have h2 : ¬ l = i := fun q => hm.2 q.symm
        simp [one1, h1, h2]
      rw [if_pos (by lia)]
theorem def_law (w : World) : IsDef (G w) 788 (fdAt w.params 788) (fB (st 29)) [S "script"] := by
  refine def_of w 788 787 [S "script"] (st 29) rfl ?_ ?_ rfl ?_ ?_ ?_ ?_ ?_ ?_ ?_ ?_ ?_ ?_ ?_ (by decide +kernel) ?bb ?kk
  case bb =>
    intro vs hv
    obtain ⟨a0, rfl⟩ := len1 hv
    kernel_rfl
  case kk =>
    intro x hx
    simp only [List.mem_cons, List.not_mem_nil, or_false] at hx
    rcases hx with rfl <;> exact .inl (by kernel_rfl)
  all_goals kernel_rfl
noncomputable def drawn (ns : List Int) : List Int := if ns.isEmpty = true then [4, 9, 2, 12, 15] else ns.take 6
noncomputable def numsOf (ns : List Int) : List Nat := (drawn ns).map fun n => (n.fmod 800000).toNat
noncomputable def bsOf (nums : List Nat) : Brs := nums.map fun n => (n % 4, n / 4 % 4)
noncomputable def baseOf (nums : List Nat) : Nat := 97 + (nums.map fun n => n / 16).sum % 50000
theorem drawn_len (ns : List Int) : (drawn ns).length ≤ 6 := by
  unfold drawn
  split
  · simp
  · rw [List.length_take]; lia
theorem drawn_ne (ns : List Int) : drawn ns ≠ [] := by
  unfold drawn
  split
  · simp
  · rename_i h
    cases ns with
    | nil => simp at h
    | cons a r => simp
theorem bs_isl (nums : List Nat) : Isl (bsOf nums) := fun b hb => by
  obtain ⟨n, _, rfl⟩ := List.mem_map.mp hb
  exact ⟨Nat.mod_lt _ (by decide), Nat.mod_lt _ (by decide)⟩
theorem ends_count (i : Nat) : ∀ bs : Brs, ((bs.map fun b => [b.1, b.2]).flatten).count i = deg bs i
  | [] => rfl
  | b :: r => by
    rw [List.map_cons, List.flatten_cons, List.count_append, ends_count i r, deg]
    simp [one1, List.count_cons]
    lia
theorem sum_cast : ∀ l : List Nat, (l.map fun (n : Nat) => (n : Int)).sum = ((l.sum : Nat) : Int)
  | [] => rfl
  | a :: r => by rw [List.map_cons, List.sum_cons, List.sum_cons, sum_cast r]; lia
theorem line_eq (c : Nat) (bs : Brs) : joinL [32] ((List.range 4).map (rowT c bs)) ++ [32, 122] = lineT (0, 122) (segsOf c bs) := by
  have hr : List.range 4 = [0, 1, 2, 3] := by decide
  rw [hr]
  simp [joinL, rowT, segsOf, lineT]
theorem rowT_len {bs : Brs} (hn : bs.length ≤ 6) (h4 : Isl bs) (c i : Nat) : (rowT c bs i).length ≤ 13 := by
  have hd : deg bs i ≤ 2 * bs.length := by
    clear hn h4
    induction bs with
    | nil => exact Nat.le_refl _
    | cons b r ih =>
      rw [deg, List.length_cons]
      have : ∀ a, one1 a i ≤ 1 := fun a => by unfold one1; split <;> lia
      have h1 := this b.1
      have h2 := this b.2
      lia
  unfold rowT
  rw [List.length_append, List.length_replicate]
  show deg bs i + 1 ≤ 13
  lia
theorem cells_four {fd : FuncData} {L fa : Addr} {a b c d : Str} (hab : (a == b) = false) (hac : (a == c) = false) (had : (a == d) = false) (hbc : (b == c) = false) (hbd : (b == d) = false) (hcd : (c == d) = false) (h : cellsFrom (L + 1) fd.scope.names [] = [(d, L + 4), (c, L + 3), (b, L + 2), (a, L + 1)]) : CellsOk (envAt fd L fa) ∧ (∀ x, x = a ∨ x = b ∨ x = c ∨ x = d → ∃ q, (envAt fd L fa).cells.lookup x = some q) := by
  have e : (envAt fd L fa).cells = [(d, L + 4), (c, L + 3), (b, L + 2), (a, L + 1)] := h
  constructor
  · intro x q hm
    rw [e] at hm ⊢
    simp only [List.mem_cons, List.not_mem_nil, or_false, Prod.mk.injEq] at hm
    rcases hm with ⟨rfl, rfl⟩ | ⟨rfl, rfl⟩ | ⟨rfl, rfl⟩ | ⟨rfl, rfl⟩
    · simp [List.lookup]
    · simp [List.lookup, hcd]
    · simp [List.lookup, hbd, hbc]
    · simp [List.lookup, had, hac, hab]
  · rintro x (rfl | rfl | rfl | rfl)
    · exact ⟨L + 1, by rw [e]; simp [List.lookup, had, hac, hab]⟩
    · exact ⟨L + 2, by rw [e]; simp [List.lookup, hbd, hbc]⟩
    · exact ⟨L + 3, by rw [e]; simp [List.lookup, hcd]⟩
    · exact ⟨L + 4, by rw [e]; simp [List.lookup]⟩
theorem wpS_set {σ σ' : St} {x : Str} {p' p : Pos} {e : Expr} {m : MV} {Q : FM → St → Prop} (he : Ev C env σ e m) (hx : Stores env x) (hs : swapsWith e (some (.Name x p')) p.line env = pure false) (hp : sput σ x (.fz m) = σ') (h : Q .next σ') : wpS C env (.Assign [.Name x p'] e p) σ Q := wpS_assign he hx hs (by rw [hp]; exact h)
theorem evN_flatN {σ : St} {y x n : Str} {py px p1 p2 p3 pn : Pos} {scope : Scope} {pos : Pos} {ls : List (List Nat)} (hit : EvIt C env σ (.Name n pn) (ls.map fun l => .list (l.map ni))) (ok : Comp2Ok scope x y) (hxy : x ≠ y) (hd : (x == ("__debug__" : Str)) = false) (hd' : (y == ("__debug__" : Str)) = false) (hsz : ls.length * 1000 ≤ 1000000) (hl : ∀ l ∈ ls, l.length ≤ 1000) :
    EvN C env σ (comp2 y x py px p1 p2 p3 (.Name n pn) scope pos) (ls.flatten.map ni) := evN_flat hit ok hxy hd hd' hsz hl (fun _ => rfl)
theorem fn_idx {c v : Nat} (h1 : c ≤ v) (h2 : v < c + 4) : Fn C (.builtin "list.index") [.list ((signsL c).map tx), tx [v]] (ni (v - c)) := by
  obtain ⟨j, rfl⟩ : ∃ j, v = c + j := ⟨v - c, by lia⟩
  rw [show c + j - c = j by lia]
  refine fn_lindex (ls := signsL c) (j := j) ?_ (fun i hi => ?_) (by show 4 ≤ _; lia)
  · rcases (by lia : j = 0 ∨ j = 1 ∨ j = 2 ∨ j = 3) with rfl | rfl | rfl | rfl <;> rfl
  · have : (signsL c)[i]? = some [c + i] := by
      rcases (by lia : i = 0 ∨ i = 1 ∨ i = 2) with rfl | rfl | rfl <;> rfl
    rw [this]
    simp; lia
set_option maxHeartbeats 8000000 in
theorem law_body (hC : C.G = G w) (hB : C.mB = []) (hl : C.lvl ≤ 70) (hfull : C.Full) (hs : env.scope = fS (st 29)) (hbk : env.blockKind = .function) (hc : CellsOk env) (hcl : ∀ x, x = S "base" ∨ x = S "signs" ∨ x = S "ends" ∨ x = S "names" → ∃ q, env.cells.lookup x = some q) (ns : List Int) (hn : ns.length ≤ 63) :
    wpSs C env (fB (st 29)) [(S "script", .fz (.seq (ns.map .int)))] fun fm _ => match fm with | .ret m => m = .bool true | .next => MV.bool true = .none | _ => False := by
  have hnm : env.scope.names = (fS (st 29)).names := by rw [hs]
  conv at hnm => rhs; whnf
  have hg2 : env.kindOf (Str.ofString "@acc") = none := by show env.scope.names.lookup _ = none; rw [hnm]; kernel_rfl
  have kb : env.kindOf (S "base") = some .cell := by tm_at "kindc"
  have ks : env.kindOf (S "signs") = some .cell := by tm_at "kindc"
  have ke : env.kindOf (S "ends") = some .cell := by tm_at "kindc"
  have kn : env.kindOf (S "names") = some .cell := by tm_at "kindc"
  have cb : ∃ q, env.cells.lookup (S "base") = some q := hcl _ (.inl rfl)
  have cs : ∃ q, env.cells.lookup (S "signs") = some q := hcl _ (.inr (.inl rfl))
  have ce' : ∃ q, env.cells.lookup (S "ends") = some q := hcl _ (.inr (.inr (.inl rfl)))
  have cn : ∃ q, env.cells.lookup (S "names") = some q := hcl _ (.inr (.inr (.inr rfl)))
  have hdl := drawn_len ns
  -- drawn
  refine ssP_first (m := .list ((drawn ns).map .int)) ?_ (by tm_at "kind") rfl (by tm_at "sp") ?_
  · refine ev_ifexp (b := !(ns.map MV.int).isEmpty) ?_ ?_ ?_
    · exact evB_cmp (by tm_at "evt") (Ev.t (ev_list .nil (by show 0 ≤ _; lia))) (ne_nil_seq (k := 0) (.seq fun m hm => by obtain ⟨n, _, rfl⟩ := List.mem_map.mp hm; exact .int) (by decide)) rfl
    · intro h
      have h : ns.isEmpty = false := by rw [List.isEmpty_map] at h; simpa using h
      have e : MV.list ((drawn ns).map .int) = .list (lslice (ns.map .int) none (some ((6 : Nat) : Int))) := by
        rw [lslice_to, ← List.map_take]
        unfold drawn
        rw [h, if_neg (by decide)]
      rewrite [e]
      refine ev_slice (a := .seq (ns.map .int)) (lo := none) (hi := some 6) ?_ ?_ ?_ (slice_seq_ (by rw [List.length_map, sizeLine_eq]; lia))
      · tm_at "evt"
      · tm_at "part"
      · tm_at "part"
    · intro h
      have h : ns.isEmpty = true := by rw [List.isEmpty_map] at h; simpa using h
      have e : MV.list ((drawn ns).map .int) = .list [.int 4, .int 9, .int 2, .int 12, .int 15] := by
        unfold drawn
        rw [if_pos h]; rfl
      rewrite [e]
      refine ev_list ?_ (by show 5 ≤ sizeLine; rw [sizeLine_eq]; lia)
      tm_at "evs"
  obtain ⟨dr, hdr⟩ : ∃ dr, dr = drawn ns := ⟨_, rfl⟩
  obtain ⟨nums, hnums⟩ : ∃ nums, nums = numsOf ns := ⟨_, rfl⟩
  have hnl : nums.length ≤ 6 := by rw [hnums]; unfold numsOf; rw [List.length_map]; exact hdl
  have hnne : nums ≠ [] := by
    rw [hnums]; unfold numsOf
    intro q
    exact drawn_ne ns (List.map_eq_nil_iff.mp q)
  rw [← hdr] at hdl ⊢
  -- numbers
  refine wpP_cons (wpS_compset (items := dr.map .int) (p := fun _ => true) (f := fun i => .int ((dr.getD i 0).fmod 800000)) (res := nums.map ni) ?_ rfl rfl (compOk_of (fr := []) (by kernel_rfl) (fun _ h => nomatch h)) (by rw [List.length_map]; lia) hg2 (fun i m cenv D cur hm ce => rfl) ?_ ?_ (swaps_local hbk (by tm_at "kind") rfl (by decide +kernel)) (by tm_at "stores") hB hc (by tm_at "sp") ?_)
  · apply evIt_list; tm_at "ev"
  · intro i m cenv D cur hm _ ce
    rw [List.getElem?_map] at hm
    obtain ⟨n, hn1, rfl⟩ := Option.map_eq_some_iff.mp hm
    have hgd : dr.getD i 0 = n := by rw [List.getD_eq_getElem?_getD, hn1]; rfl
    rewrite [hgd]
    tm_at "ev"
  · rw [List.length_map]
    refine (compRes_map 0 (fun n : Int => MV.int (n.fmod 800000)) _ dr).trans ?_
    rw [hnums]; unfold numsOf
    rw [← hdr, List.map_map]
    refine List.map_congr_left fun n _ => ?_
    have := Int.fmod_nonneg_of_pos n (b := 800000) (by decide)
    show MV.int (n.fmod 800000) = MV.int (((n.fmod 800000).toNat : Nat) : Int)
    rw [Int.toNat_of_nonneg this]
  dsimp only
  obtain ⟨bs, hbs⟩ : ∃ bs, bs = bsOf nums := ⟨_, rfl⟩
  have h4 : Isl bs := by rw [hbs]; exact bs_isl nums
  have hbl : bs.length ≤ 6 := by rw [hbs]; unfold bsOf; rw [List.length_map]; exact hnl
  have hbne : bs ≠ [] := by rw [hbs]; unfold bsOf; intro q; exact hnne (List.map_eq_nil_iff.mp q)
  -- bridges
  refine wpP_cons (wpS_compset (items := nums.map ni) (p := fun _ => true) (f := fun i => pr ((nums.getD i 0) % 4, (nums.getD i 0) / 4 % 4)) (res := bs.map pr) ?_ rfl rfl (compOk_of (fr := []) (by kernel_rfl) (fun _ h => nomatch h)) (by rw [List.length_map]; lia) hg2 (fun i m cenv D cur hm ce => rfl) ?_ ?_ (swaps_local hbk (by tm_at "kind") rfl (by decide +kernel)) (by tm_at "stores") hB hc (by tm_at "sp") ?_)
  · apply evIt_list; tm_at "ev"
  · intro i m cenv D cur hm _ ce
    rw [List.getElem?_map] at hm
    obtain ⟨n, hn1, rfl⟩ := Option.map_eq_some_iff.mp hm
    have hgd : nums.getD i 0 = n := by rw [List.getD_eq_getElem?_getD, hn1]; rfl
    rewrite [hgd]
    refine ev_list (ms := [ni (n % 4), ni (n / 4 % 4)]) (.cons (ev_binop (a := ni n) (b := ni 4) ?_ (Ev.t ev_int) (modn_ (by decide))) (by intro _ _ h; cases h) (.cons (ev_binop (a := ni (n / 4)) (b := ni 4) (Ev.t (ev_binop (a := ni n) (b := ni 4) ?_ (Ev.t ev_int) (divn_ (by decide) (by decide)))) (Ev.t ev_int) (modn_ (by decide))) (by intro _ _ h; cases h) .nil)) (by show 2 ≤ sizeLine; rw [sizeLine_eq]; lia)
    · tm_at "evt"
    · tm_at "evt"
  · rw [List.length_map]
    refine (compRes_map 0 (fun n : Nat => pr (n % 4, n / 4 % 4)) _ nums).trans ?_
    rw [hbs]; unfold bsOf
    rw [List.map_map]; rfl
  dsimp only
  -- base
  obtain ⟨c, hcb⟩ : ∃ c, c = baseOf nums := ⟨_, rfl⟩
  have hc1 : 97 ≤ c := by rw [hcb]; unfold baseOf; lia
  have hc2 : c ≤ 50100 := by rw [hcb]; unfold baseOf; have := Nat.mod_lt ((nums.map fun n => n / 16).sum) (by decide : 0 < 50000); lia
  refine wpP_cons (wpS_set (m := ni c) (ev_binop (a := .int 97) (b := ni ((nums.map fun n => n / 16).sum % 50000)) (Ev.t ev_int) (Ev.t (ev_binop (a := ni ((nums.map fun n => n / 16).sum)) (b := ni 50000) (Ev.t (ev_call_b (id := "sum") (ms := [.list (((nums.map fun n => n / 16).map fun (n : Nat) => (n : Int)).map .int)]) ?_ (.cons (Ev.t (EvN.ev (evN_comp (items := nums.map ni) (p := fun _ => true) (f := fun i => ni (nums.getD i 0 / 16)) ?_ rfl rfl (compOk_of (fr := []) (by kernel_rfl) (fun _ h => nomatch h)) (by rw [List.length_map]; lia) hg2 (fun i m cenv D cur hm ce => rfl) ?_ ?_))) (by intro _ _ h; cases h) .nil) ?_)) (Ev.t ev_int) (modn_ (by decide)))) ?_) (.inr ⟨kb, cb⟩) rfl (by tm_at "sp") ?_)
  · tm_at "glob"
  · apply evIt_list; tm_at "ev"
  · intro i m cenv D cur hm _ ce
    rw [List.getElem?_map] at hm
    obtain ⟨n, hn1, rfl⟩ := Option.map_eq_some_iff.mp hm
    have hgd : nums.getD i 0 = n := by rw [List.getD_eq_getElem?_getD, hn1]; rfl
    rewrite [hgd]
    refine ev_binop (a := ni n) (b := ni 16) ?_ (Ev.t ev_int) (divn_ (by decide) (by decide))
    tm_at "evt"
  · rw [List.length_map]
    refine (compRes_map 0 (fun n : Nat => ni (n / 16)) _ nums).trans ?_
    rw [List.map_map, List.map_map]; rfl
  · have := fn_sum (C := C) (ns := (nums.map fun n => n / 16).map fun (n : Nat) => (n : Int))
    rwa [sum_cast] at this
  · have := add_int_ (C := C) (a := 97) (b := (((nums.map fun n => n / 16).sum % 50000 : Nat) : Int))
    have e : (97 : Int) + (((nums.map fun n => n / 16).sum % 50000 : Nat) : Int) = ((c : Nat) : Int) := by rw [hcb]; unfold baseOf; lia
    rwa [e] at this
  dsimp only
  -- signs
  refine wpP_cons (wpS_set (m := .list ((signsL c).map tx)) (EvN.ev (evN_comp (items := (List.range 4).map ni) (p := fun _ => true) (f := fun i => tx [c + (List.range 4).getD i 0]) ?_ rfl rfl (compOk_of (fr := [S "base"]) (by kernel_rfl) ?_) (by simp) hg2 (fun i m cenv D cur hm ce => rfl) ?_ ?_)) (.inr ⟨ks, cs⟩) (swaps_cell ks) (by tm_at "sp") ?_)
  · exact evIt_range (by tm_at "fun") (Ev.t ev_int) (by intro _ _ h; cases h) (by lia)
  · intro y hy
    rw [List.mem_singleton.mp hy]; exact ⟨kb, cb⟩
  · intro i m cenv D cur hm _ ce
    rw [List.getElem?_map] at hm
    obtain ⟨n, hn1, rfl⟩ := Option.map_eq_some_iff.mp hm
    have hgd : (List.range 4).getD i 0 = n := by rw [List.getD_eq_getElem?_getD, hn1]; rfl
    have hn4 : n < 4 := List.mem_range.mp (List.mem_of_getElem? hn1)
    rewrite [hgd]
    refine ev_call_b (id := "chr") (ms := [ni (c + n)]) ?_ (.cons (Ev.t (ev_binop (a := ni c) (b := ni n) ?_ ?_ ?_)) (by intro _ _ h; cases h) .nil) ?_
    · tm_at "glob"
    · tm_at "evt"
    · tm_at "evt"
    · have := add_int_ (C := C) (a := (c : Int)) (b := (n : Int))
      rwa [show (c : Int) + (n : Int) = ((c + n : Nat) : Int) by lia] at this
    · have := fn_chr (C := C) (i := ((c + n : Nat) : Int)) (by lia) (by lia)
      rwa [show ((c + n : Nat) : Int).toNat = c + n by lia] at this
  · rfl
  dsimp only
  -- ends
  obtain ⟨es, hes⟩ : ∃ es, es = (bs.map fun b => [b.1, b.2]).flatten := ⟨_, rfl⟩
  refine wpP_cons (wpS_set (m := nl es) (EvN.ev (by
      rw [hes]
      refine evN_flatN (p2 := ⟨0, 0, 0, 0⟩) (x := S "bridge") (y := S "island") (ls := bs.map fun b => [b.1, b.2]) ?_ (comp2Ok_of (by kernel_rfl)) (by decide +kernel) rfl rfl (by rw [List.length_map]; lia) (fun l hl' => by obtain ⟨b, _, rfl⟩ := List.mem_map.mp hl'; show 2 ≤ 1000; lia)
      rw [List.map_map]
      show EvIt _ _ _ _ (bs.map pr)
      apply evIt_list; tm_at "ev")) (.inr ⟨ke, ce'⟩) (swaps_cell ke) (by tm_at "sp") ?_)
  dsimp only
  -- rows
  have hfr : ∀ y ∈ [S "ends", S "signs"], env.kindOf y = some .cell ∧ ∃ q, env.cells.lookup y = some q := fun y hy => by
    simp only [List.mem_cons, List.not_mem_nil, or_false] at hy
    rcases hy with rfl | rfl
    · exact ⟨ke, ce'⟩
    · exact ⟨ks, cs⟩
  have hsg : ∀ n, n < 4 → ((signsL c).map tx)[n]? = some (tx [c + n]) := fun n hn4 => by
    rcases (by lia : n = 0 ∨ n = 1 ∨ n = 2 ∨ n = 3) with rfl | rfl | rfl | rfl <;> rfl
  refine wpP_cons (wpS_compset (items := (List.range 4).map ni) (p := fun _ => true) (f := fun i => tx (rowT c bs ((List.range 4).getD i 0))) (res := ((List.range 4).map (rowT c bs)).map tx) ?_ rfl rfl (compOk_of (fr := [S "ends", S "signs"]) (by kernel_rfl) hfr) (by simp) hg2 (fun i m cenv D cur hm ce => rfl) ?_ ?_ (swaps_local hbk (by tm_at "kind") rfl (by decide +kernel)) (by tm_at "stores") hB hc (by tm_at "sp") ?_)
  · exact evIt_range (by tm_at "fun") (Ev.t ev_int) (by intro _ _ h; cases h) (by lia)
  · intro i m cenv D cur hm _ ce
    rw [List.getElem?_map] at hm
    obtain ⟨n, hn1, rfl⟩ := Option.map_eq_some_iff.mp hm
    have hgd : (List.range 4).getD i 0 = n := by rw [List.getD_eq_getElem?_getD, hn1]; rfl
    have hn4 : n < 4 := List.mem_range.mp (List.mem_of_getElem? hn1)
    rewrite [hgd]
    have hrl := rowT_len hbl h4 c n
    have hdl : deg bs n ≤ 12 := by unfold rowT at hrl; rw [List.length_append, List.length_replicate] at hrl; have : [c + n].length = 1 := rfl; lia
    refine ev_binop (a := tx (List.replicate (deg bs n) 34)) (b := tx [c + n]) (Ev.t (ev_binop (a := tx [34]) (b := ni (deg bs n)) (Ev.t c_q) (Ev.t (ev_meth (a := nl es) (ms := [ni n]) ?_ (.cons ?_ (by intro _ _ h; cases h) .nil) m_lcount ?_ rfl rfl (by decide))) (mul_tx (by lia)))) (Ev.t (ev_sub (a := .list ((signsL c).map tx)) (i := ni n) ?_ ?_ (itemn_ (by lia) (hsg n hn4)))) (cat_tx (by rw [List.length_replicate]; show deg bs n + 1 ≤ _; lia))
    · tm_at "evt"
    · tm_at "evt"
    · rw [← ends_count, ← hes]
      exact fn_lcount
    · tm_at "evt"
    · tm_at "evt"
  · rw [List.length_map, List.map_map]
    exact compRes_map 0 (fun n : Nat => tx (rowT c bs n)) _ (List.range 4)
  dsimp only
  -- words
  obtain ⟨ws, W⟩ := words_ok hc1 h4
  have hrows : ∀ y ∈ (List.range 4).map (rowT c bs), y.length ≤ 13 := fun y hy => by
    obtain ⟨i, _, rfl⟩ := List.mem_map.mp hy
    exact rowT_len hbl h4 c i
  obtain ⟨ln, hln⟩ : ∃ ln, ln = lineT (0, 122) (segsOf c bs) := ⟨_, rfl⟩
  have hlnl : ln.length ≤ 100 := by
    rw [hln, ← line_eq]
    have hr : List.range 4 = [0, 1, 2, 3] := by decide
    have h0 := rowT_len hbl h4 c 0
    have h1 := rowT_len hbl h4 c 1
    have h2 := rowT_len hbl h4 c 2
    have h3 := rowT_len hbl h4 c 3
    rw [hr]
    simp only [List.map_cons, List.map_nil, joinL, List.length_append, List.length_cons, List.length_nil]
    lia
  have okc : ∀ n, n < 4 → OkC (c + n) := fun n _ => by unfold OkC; lia
  have hLx : Lx ln (some 32) 1 0 ws := lx_line (e := (0, 122)) (by unfold OkC; decide) 4 (segsOf c bs) (Nat.le_refl _) (fun p hp => by
    simp only [segsOf, List.mem_cons, List.not_mem_nil, or_false] at hp
    rcases hp with rfl | rfl | rfl | rfl
    · exact okc 0 (by decide)
    · exact okc 1 (by decide)
    · exact okc 2 (by decide)
    · exact okc 3 (by decide)) ws W.w 0 1 (Nat.zero_le _) (by rw [List.drop_zero]; exact hln)
  refine wpP_cons (wpS_set (m := .list (ws.map tx)) (ev_call_f (full := true) (k := 71) (fa := 734) (ms := [tx ln]) ?_ (.cons ?_ (by intro _ _ h; cases h) .nil) (by rw [hC]; exact spec_split w ln (by lia) hLx (by have := W.len; lia)) (by lia) (fun _ => hfull) (fn_at hC rfl (by kernel_rfl) (by kernel_rfl))) (by tm_at "stores") rfl (by tm_at "sp") ?_)
  · tm_at "fun"
  · rw [hln, ← line_eq]
    refine ev_binop (a := tx (joinL [32] ((List.range 4).map (rowT c bs)))) (b := tx [32, 122]) (Ev.t (ev_meth (a := tx [32]) (ms := [.list (((List.range 4).map (rowT c bs)).map tx)]) (Ev.t c_b) (.cons ?_ (by intro _ _ h; cases h) .nil) m_join (fn_join (joinFit (B := 13) hrows (by simp))) rfl rfl (by decide))) (Ev.t c_bz) (cat_tx ?_)
    · tm_at "evt"
    · have := line_eq c bs
      rw [← hln] at this
      have := congrArg List.length this
      rw [List.length_append] at this
      lia
  dsimp only
  -- the first test
  have hjw : (joinL [] ws).length ≤ 200 := by
    have gen : ∀ l : List (List Nat), (∀ y ∈ l, y.length ≤ 20) → (joinL [] l).length ≤ l.length * 20 := by
      intro l
      induction l with
      | nil => intro _; simp [joinL]
      | cons x r ih =>
        intro h
        have h1 := h x List.mem_cons_self
        have h2 := ih fun y hy => h y (List.mem_cons_of_mem _ hy)
        cases r with
        | nil => simp [joinL]; lia
        | cons y r' =>
          rw [joinL]
          simp only [List.length_append, List.length_cons, List.length_nil] at h2 ⊢
          lia
    have := gen ws fun y hy => (W.each y hy).2
    have := W.len
    lia
  have hsj : joinL [] (signsL c) = [c, c + 1, c + 2, c + 3] := by simp [signsL, joinL]
  refine wpP_consP (wpSP_ifcmp (a := tx [c, c + 1, c + 2, c + 3, 122]) (b := tx [c, c + 1, c + 2, c + 3, 122]) (c := false) ?_ (Ev.t (ev_binop (a := tx [c, c + 1, c + 2, c + 3]) (b := tx [122]) (Ev.t ?_) (Ev.t c_z) (cat_tx (by show 4 + 1 ≤ _; lia)))) ?_ rfl (fun h => nomatch h) (fun _ => wpSs_nil ?_))
  · have e : [c, c + 1, c + 2, c + 3, 122] = joinL [] (cutL [32] (joinL [] ws)) := by rw [← W.flat]; exact (rep1_cut 32 [] _).symm
    rw [e]
    refine evP_replace (EvQ.of (ev_meth (a := tx []) (ms := [.list (ws.map tx)]) (Ev.t c_nil) (.cons ?_ (by intro _ _ h; cases h) .nil) m_join (fn_join (joinFit (B := 20) (fun y hy => (W.each y hy).2) (by have := W.len; simp only [List.length_nil]; lia))) rfl rfl (by decide))) (by decide +kernel) (by decide +kernel) (by decide) (by decide) (by lia) (by decide) rfl rfl
    tm_at "evt"
  · rw [← hsj]
    refine ev_meth (a := tx []) (ms := [.list ((signsL c).map tx)]) (Ev.t c_nil) (.cons ?_ (by intro _ _ h; cases h) .nil) m_join (fn_join (joinFit (B := 1) (fun y hy => by
      simp only [signsL, List.mem_cons, List.not_mem_nil, or_false] at hy
      rcases hy with rfl | rfl | rfl | rfl <;> exact Nat.le_refl _) (by show 4 * 1 + 4 * 0 ≤ _; lia))) rfl rfl (by decide)
    tm_at "evt"
  · have := ne_tx (C := C) (a := [c, c + 1, c + 2, c + 3, 122]) (b := [c, c + 1, c + 2, c + 3, 122])
    rwa [show ([c, c + 1, c + 2, c + 3, 122] != [c, c + 1, c + 2, c + 3, 122]) = false by simp] at this
  dsimp only
  -- names
  refine wpP_cons (wpS_set (m := .list (((List.range 4).map (nameT c bs)).map tx)) (EvN.ev (evN_comp (items := ((List.range 4).map (rowT c bs)).map tx) (p := fun _ => true) (f := fun i => tx (nameT c bs ((List.range 4).getD i 0))) ?_ rfl rfl (compOk_of (fr := []) (by kernel_rfl) (fun _ h => nomatch h)) (by simp) hg2 (fun i m cenv D cur hm ce => rfl) ?_ ?_)) (.inr ⟨kn, cn⟩) (swaps_cell kn) (by tm_at "sp") ?_)
  · apply evIt_list; tm_at "ev"
  · intro i m cenv D cur hm _ ce
    rw [List.map_map, List.getElem?_map] at hm
    obtain ⟨n, hn1, rfl⟩ := Option.map_eq_some_iff.mp hm
    have hgd : (List.range 4).getD i 0 = n := by rw [List.getD_eq_getElem?_getD, hn1]; rfl
    rewrite [hgd]
    have hrl := rowT_len hbl h4 c n
    have hp : p257 (rowT c bs n) = nameT c bs n := by
      unfold rowT nameT
      rw [p257_marks (by lia) [], p257_nil]
    rw [← hp]
    refine ev_call_f (full := false) (k := 98) (fa := 766) (ms := [tx ([50, 53, 55, 32, 34] ++ rowT c bs n)]) ?_ (.cons (ev_binop (a := tx [50, 53, 55, 32, 34]) (b := tx (rowT c bs n)) (Ev.t c_n257q) ?_ (cat_tx (by show 5 + (rowT c bs n).length ≤ _; lia))) (by intro _ _ h; cases h) .nil) (by rw [hC]; exact spec_parse w _ (by lia) (by lia)) (by lia) (fun h => nomatch h) (fn_at hC rfl (by kernel_rfl) (by kernel_rfl))
    · tm_at "fun"
    · show EvT _ _ ((S "row", Bd.fz (tx (rowT c bs n))) :: _) _ _
      tm_at "evt"
  · rw [List.length_map, List.length_map, List.map_map]
    exact compRes_map 0 (fun n : Nat => tx (nameT c bs n)) _ (List.range 4)
  dsimp only
  -- spans
  have hfs : ∀ y ∈ [S "signs"], env.kindOf y = some .cell ∧ ∃ q, env.cells.lookup y = some q := fun y hy => by
    rw [List.mem_singleton.mp hy]; exact ⟨ks, cs⟩
  refine wpP_cons (wpS_compset (items := ws.map tx) (p := fun i => decide (32 ∈ ws.getD i [])) (f := fun i => pr ((ws.getD i []).headD 0 - c, (ws.getD i []).getLastD 0 - c)) (res := (spansOf bs).map pr) ?_ rfl rfl (compOk_of (fr := [S "signs"]) (by kernel_rfl) hfs) (by rw [List.length_map]; have := W.len; lia) hg2 ?_ ?_ ?_ (swaps_local hbk (by tm_at "kind") rfl (by decide +kernel)) (by tm_at "stores") hB hc (by tm_at "sp") ?_)
  · apply evIt_list; tm_at "ev"
  · intro i m cenv D cur hm ce
    rw [List.getElem?_map] at hm
    obtain ⟨wd, hn1, rfl⟩ := Option.map_eq_some_iff.mp hm
    have hgd : ws.getD i [] = wd := by rw [List.getD_eq_getElem?_getD, hn1]; rfl
    rewrite [hgd]
    refine ⟨_, evB_cmp (a := tx [32]) (b := tx wd) (Ev.t c_b) ?_ in_tx rfl, fun h => h, fun h => h⟩
    tm_at "evt"
  · intro i m cenv D cur hm hp ce
    rw [List.getElem?_map] at hm
    obtain ⟨wd, hn1, rfl⟩ := Option.map_eq_some_iff.mp hm
    have hgd : ws.getD i [] = wd := by rw [List.getD_eq_getElem?_getD, hn1]; rfl
    rw [hgd] at hp
    rewrite [hgd]
    have hmem := List.mem_of_getElem? hn1
    obtain ⟨w1, w2⟩ := W.each wd hmem
    obtain ⟨e1, e2, e3, e4⟩ := W.ends wd hmem (of_decide_eq_true hp)
    refine ev_list (ms := [ni (wd.headD 0 - c), ni (wd.getLastD 0 - c)]) (.cons (ev_meth (a := .list ((signsL c).map tx)) (ms := [tx [wd.headD 0]]) ?_ (.cons (Ev.t (ev_sub (a := tx wd) (i := ni 0) ?_ (Ev.t ev_int) (item0_tx (by lia) w1))) (by intro _ _ h; cases h) .nil) m_lindex (fn_idx e1 e2) rfl rfl (by decide)) (by intro _ _ h; cases h) (.cons (ev_meth (a := .list ((signsL c).map tx)) (ms := [tx [wd.getLastD 0]]) ?_ (.cons (Ev.t (ev_sub (a := tx wd) (i := .int (-1)) ?_ (Ev.t (ev_neg ev_int)) (itemL_tx (by lia) w1))) (by intro _ _ h; cases h) .nil) m_lindex (fn_idx e3 e4) rfl rfl (by decide)) (by intro _ _ h; cases h) .nil)) (by show 2 ≤ sizeLine; rw [sizeLine_eq]; lia)
    · tm_at "evt"
    · tm_at "evt"
    · tm_at "evt"
    · tm_at "evt"
  · rw [List.length_map, ← W.spans, List.map_map]
    exact compRes_filter [] (fun wd : List Nat => decide (32 ∈ wd)) (fun wd => pr (wd.headD 0 - c, wd.getLastD 0 - c)) _ ws
  dsimp only
  -- the second test
  have hnmL : ∀ y ∈ (List.range 4).map (nameT c bs), y.length ≤ 13 := fun y hy => by
    obtain ⟨i, _, rfl⟩ := List.mem_map.mp hy
    have hrl := rowT_len hbl h4 c i
    unfold rowT at hrl
    rw [List.length_append, List.length_replicate] at hrl
    have h1 : [c + i].length = 1 := rfl
    unfold nameT
    rw [List.length_append, List.length_replicate]
    split
    · rw [h1]; lia
    · show deg bs i / 2 + 0 ≤ 13; lia
  have hspl : (spansOf bs).length ≤ 2 := by
    unfold spansOf
    split
    · show 1 ≤ 2; lia
    · show 2 ≤ 2; lia
    · show 0 ≤ 2; lia
  have hnc := names_count hc1 h4
  refine wpP_cons (wpS_if (b := (((joinL [] ((List.range 4).map (nameT c bs))).count 34 : Nat) : Int) + ((spansOf bs).length : Int) != (bs.length : Int)) (evB_cmp (a := .int ((((joinL [] ((List.range 4).map (nameT c bs))).count 34 : Nat) : Int) + ((spansOf bs).length : Int))) (b := ni bs.length) (Ev.t (ev_binop (a := .int (((joinL [] ((List.range 4).map (nameT c bs))).count 34 : Nat) : Int)) (b := ni (spansOf bs).length) (Ev.t (ev_meth (a := tx (joinL [] ((List.range 4).map (nameT c bs)))) (ms := [tx [34]]) (Ev.t (ev_meth (a := tx []) (ms := [.list (((List.range 4).map (nameT c bs)).map tx)]) (Ev.t c_nil) (.cons ?_ (by intro _ _ h; cases h) .nil) m_join (fn_join (joinFit (B := 13) hnmL (by simp))) rfl rfl (by decide))) (.cons (Ev.t c_q) (by intro _ _ h; cases h) .nil) m_count fn_count rfl rfl (by decide))) (Ev.t (ev_call_b (id := "len") (ms := [.list ((spansOf bs).map pr)]) ?_ (.cons ?_ (by intro _ _ h; cases h) .nil) ?_)) add_int_)) (Ev.t (ev_call_b (id := "len") (ms := [.list (bs.map pr)]) ?_ (.cons ?_ (by intro _ _ h; cases h) .nil) ?_)) ne_int_ rfl) (fun h => ?_) (fun _ => wpSs_nil ?_))
  · tm_at "evt"
  · tm_at "glob"
  · tm_at "evt"
  · have := len_list (C := C) (xs := (spansOf bs).map pr) (by rw [List.length_map]; lia)
    rwa [List.length_map] at this
  · tm_at "glob"
  · tm_at "evt"
  · have := len_list (C := C) (xs := bs.map pr) (by rw [List.length_map]; lia)
    rwa [List.length_map] at this
  · exfalso
    have : (((joinL [] ((List.range 4).map (nameT c bs))).count 34 : Nat) : Int) + ((spansOf bs).length : Int) = (bs.length : Int) := by lia
    rw [this] at h
    simp at h
  dsimp only
  -- walks
  refine wpP_cons (wpS_set (m := nls (allW bs)) (ev_call_f (full := false) (k := 98) (fa := 771) (ms := [.list (bs.map pr)]) ?_ ?_ (by rw [hC]; exact spec_walks w bs h4 hbl) (by lia) (fun h => nomatch h) (fn_at hC rfl (by kernel_rfl) (by kernel_rfl))) (by tm_at "stores") rfl (by tm_at "sp") ?_)
  · tm_at "fun"
  · tm_at "evs"
  dsimp only
  have G := allW_ok h4
  have hW16 := pre_len G.toPre
  obtain ⟨Ws, hWs⟩ : ∃ Ws, Ws = allW bs := ⟨_, rfl⟩
  rw [← hWs] at G hW16 ⊢
  have hperm := ends_perm h4 hbne
  rw [← hWs] at hperm
  have hlen7 : ∀ wk ∈ Ws, wk.length ≤ 7 := fun wk hwk => by rw [(G.each wk hwk).len]; lia
  -- the third test
  refine wpP_cons (wpS_if (b := false) (evB_cmp (a := .list ((expE bs).map pr)) (b := .list ((expE bs).map pr)) (Ev.t (ev_call_b (id := "sorted") (ms := [.list ((Ws.map wE).map pr)]) ?_ (.cons (Ev.t (EvN.ev (evN_comp (items := Ws.map nl) (p := fun _ => true) (f := fun i => pr (wE (Ws.getD i []))) ?_ rfl rfl (compOk_of (fr := []) (by kernel_rfl) (fun _ h => nomatch h)) (by rw [List.length_map]; lia) hg2 (fun i m cenv D cur hm ce => rfl) ?_ ?_))) (by intro _ _ h; cases h) .nil) ?_)) (Ev.t (ev_call_f (full := false) (k := 98) (fa := 776) (ms := [.list (bs.map pr), .list ((spansOf bs).map pr)]) ?_ ?_ (by rw [hC, ← ends_exp h4]; exact spec_ends w bs hbne hbl (spansOf bs) (by lia)) (by lia) (fun h => nomatch h) (fn_at hC rfl (by kernel_rfl) (by kernel_rfl)))) (ne_self (dd_prs _) (by decide)) rfl) (fun h => nomatch h) (fun _ => wpSs_nil ?_))
  · tm_at "glob"
  · apply evIt_list; tm_at "ev"
  · intro i m cenv D cur hm _ ce
    rw [List.getElem?_map] at hm
    obtain ⟨wk, hn1, rfl⟩ := Option.map_eq_some_iff.mp hm
    have hgd : Ws.getD i [] = wk := by rw [List.getD_eq_getElem?_getD, hn1]; rfl
    rewrite [hgd]
    have hmem := List.mem_of_getElem? hn1
    have hne := (G.each wk hmem).ne
    have h7 := hlen7 wk hmem
    refine ev_list (ms := [ni (wk.headD 0), ni (wk.getLastD 0)]) (.cons (ev_sub (a := nl wk) (i := ni 0) ?_ (Ev.t ev_int) (itemn_ (by lia) (head_at hne))) (by intro _ _ h; cases h) (.cons (ev_sub (a := nl wk) (i := .int (-1)) ?_ (Ev.t (ev_neg ev_int)) (item_last (by rw [List.length_map]; lia) (last_at hne))) (by intro _ _ h; cases h) .nil)) (by show 2 ≤ sizeLine; rw [sizeLine_eq]; lia)
    · tm_at "evt"
    · tm_at "evt"
  · rw [List.length_map, List.map_map]
    exact compRes_map [] (fun wk : List Nat => pr (wE wk)) _ Ws
  · exact fn_sorted (fun p hp => expE_lt4 h4 hbne p (hperm.mem_iff.mp hp)) hperm (expE_asc bs) (by rw [List.length_map]; lia)
  · tm_at "fun"
  · tm_at "evs"
  dsimp only
  -- the walks' names
  have hcp : CpOk ((List.range 4).map (nameT c bs)) := fun y hy q hq => by
    obtain ⟨i, hi, rfl⟩ := List.mem_map.mp hy
    have hi4 := List.mem_range.mp hi
    unfold nameT at hq
    rcases List.mem_append.mp hq with hq | hq
    · rw [List.eq_of_mem_replicate hq]; decide
    · split at hq
      · rw [List.mem_singleton.mp hq]; lia
      · cases hq
  have hfn : ∀ y ∈ [S "signs", S "names"], env.kindOf y = some .cell ∧ ∃ q, env.cells.lookup y = some q := fun y hy => by
    simp only [List.mem_cons, List.not_mem_nil, or_false] at hy
    rcases hy with rfl | rfl
    · exact ⟨ks, cs⟩
    · exact ⟨kn, cn⟩
  refine wpP_of (ss_ret (m := .bool true) (ev_cmp (a := .list []) (b := .list []) (Ev.t (EvN.ev (evN_comp (items := Ws.map nl) (p := fun _ => false) (f := fun _ => .none) ?_ rfl rfl (compOk_of (fr := [S "signs", S "names"]) (by kernel_rfl) hfn) (by rw [List.length_map]; lia) hg2 ?_ (fun i m cenv D cur hm h => nomatch h) ?_))) (Ev.t (ev_list .nil (by show 0 ≤ _; lia))) (eq_nil (k := 0) DD.nil (by decide)) rfl) rfl)
  · apply evIt_list; tm_at "ev"
  · intro i m cenv D cur hm ce
    rw [List.getElem?_map] at hm
    obtain ⟨wk, hn1, rfl⟩ := Option.map_eq_some_iff.mp hm
    have hmem := List.mem_of_getElem? hn1
    have hne := (G.each wk hmem).ne
    have h7 := hlen7 wk hmem
    refine ⟨false, evB_cmp (a := .list (((List.range 4).map (nameT c bs)).map tx)) (b := .list (((List.range 4).map (nameT c bs)).map tx)) (Ev.t ?_) ?_ (ne_self (dd_txs (k := 0) hcp) (by decide)) rfl, (fun h => nomatch h), fun _ => rfl⟩
    · rw [← due_names (c := c) (G.each wk hmem)]
      refine ev_call_f (full := false) (k := 98) (fa := 783) (ms := [nl wk, .list ((signsL c).map tx)]) ?_ ?_ (by rw [hC]; exact spec_due w wk hne (by lia) (signsL c) rfl (fun s hs => by
        simp only [signsL, List.mem_cons, List.not_mem_nil, or_false] at hs
        rcases hs with rfl | rfl | rfl | rfl <;> (show 1 ≤ 100; lia))) (by lia) (fun h => nomatch h) (fn_at hC rfl (by kernel_rfl) (by kernel_rfl))
      · tm_at "fun"
      · tm_at "evs"
    · tm_at "evt"
  · unfold compRes
    have e : List.filter (fun _ => false) (List.range (Ws.map nl).length) = [] := List.filter_eq_nil_iff.mpr (by intro _ _; decide)
    rw [e]; rfl
theorem spec_law (w : World) (ns : List Int) (hn : ns.length ≤ 63) : Spec (G w) true 69 (.ref 788) [.seq (ns.map .int)] (.bool true) :=
  spec_ofB (def_law w) (by lia) rfl fun C hC hl hf L hB => by
    obtain ⟨c1, c2⟩ := cells_four (fd := fdAt w.params 788) (L := L) (fa := 788) (a := S "base") (b := S "signs") (c := S "ends") (d := S "names") (by decide +kernel) (by decide +kernel) (by decide +kernel) (by decide +kernel) (by decide +kernel) (by decide +kernel) (by kernel_rfl)
    exact law_body hC hB hl (hf rfl) (by kernel_rfl) (by kernel_rfl) c1 c2 ns hn
noncomputable def C0 (w : World) : Cx where
  G := G w
  A := callerA
  hh := rfl
  lvl := 0
  hd := by show 1 + claimMargin ≤ 301 + 0; decide +kernel
  hu := by show 4 ≤ 4 + 8 * 0; decide
  hl := by decide
  fs := []
  hfs := rfl
  S := []
  hS := fun _ h => nomatch h
  O := []
  mB := []
  ro := false
theorem vins_ints {h : Heap} {O : List Addr} : ∀ {vs : List Value} {ns : List Int}, IntsAre vs ns → VIns h O (ns.map .int) vs
  | _, _, .nil => rfl
  | _, _, .cons k t r => ⟨_, _, rfl, ⟨t, rfl⟩, vins_ints r⟩
theorem main_law : MainLaw := fun w s a vs ns hok hg hl hi hn f hf => by
  have ef : f = 788 := by
    obtain ⟨mg, h1, h2⟩ := hf
    have h3 := Ns.unique h1 (ns_main hok)
    rw [h3] at h2
    have h4 : nsFind (esOf (objAt w.params 3)) (S "law") = some (.ref 788) := by kernel_rfl
    rw [h4] at h2
    cases h2; rfl
  subst ef
  refine wpAny_mono (spec_law w ns hn (C0 w) rfl (Nat.zero_le _) (fun _ e he => nomatch he) s [] [.ref a] hok (fun e he => nomatch he) (fun _ h => nomatch h) ⟨_, [], rfl, ⟨a, vs, rfl, (fun h => nomatch h), ⟨hl, fun h => nomatch h⟩, vins_ints hi⟩, rfl⟩) (fun v s' h => ?_) fun _ _ z => z
  exact ⟨h.2, h.1.keeps⟩
end Mine
theorem PySem.Challenge.cw_ny0304_04_holds : PySem.Challenge.rw_ny0304_04.Holds :=
  Mine.law_holds Mine.main_law
