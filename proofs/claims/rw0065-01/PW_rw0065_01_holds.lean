import PyProof.Rows.All
import Wide.All
import OpenK.AllK
import Wide.FinOn
import KE.BitLaws
import KE.IntBitsLaws
import PyProof.StrLawsReplace
import PySem.Challenge.RW_rw0065_01
set_option Elab.async false
section
open PySem PySem.W PyProof.Rows
set_option maxRecDepth 10000
set_option autoImplicit false
set_option linter.unusedVariables false
namespace Py

inductive BI where
  | max | min | len | sum | sorted | divmod
  deriving DecidableEq, Inhabited
inductive TY where
  | int | range | tuple | enumerate | reversed
  deriving DecidableEq, Inhabited
noncomputable def BI.name : BI → String
  | .max => "max" | .min => "min" | .len => "len" | .sum => "sum" | .sorted => "sorted" | .divmod => "divmod"
noncomputable def TY.name : TY → String
  | .int => "int" | .range => "range" | .tuple => "tuple" | .enumerate => "enumerate" | .reversed => "reversed"
inductive AV where
  | none | bool (b : Bool) | int (i : Int) | flt (x : UInt64) | str (s : Str) | bi (id : BI) | ty (n : TY) | fn (a : Addr) | ref (n : Nat)
  deriving DecidableEq, Inhabited

inductive AO where
  | tup (xs : List AV) | lst (xs : List AV) | cell (v : Option AV) | rng (a b c : Int) | slc (a b c : AV)
  | clo (cells : List (Str × Nat)) (k : FuncData → Prop)
  | itL (n i : Nat) | itT (n i : Nat) | itR (x left step : Int) | itE (m : Nat) (i : Int) | itV (n i : Nat) | dead
  | raw (o : Obj → Prop)
  | cst (xs : List AV) (p : Obj → Prop)

noncomputable def VR (ρ : List Addr) : AV → Value → Prop
  | .none, v => v = .none
  | .bool b, v => v = .bool b
  | .int i, v => ∃ t, v = .int i t
  | .flt x, v => ∃ t, t ≠ 0 ∧ v = .float x t
  | .str s, v => ∃ t, v = .str s t
  | .bi id, v => v = .builtin id.name
  | .ty n, v => v = .type n.name
  | .fn a, v => v = .ref a
  | .ref n, v => ∃ a, ρ[n]? = some a ∧ v = .ref a

noncomputable def VRs (ρ : List Addr) : List AV → List Value → Prop
  | [], vs => vs = []
  | x :: xs, vs => ∃ v r, vs = v :: r ∧ VR ρ x v ∧ VRs ρ xs r

noncomputable def CR (ρ : List Addr) : List (Str × Nat) → List (Str × Addr) → Prop
  | [], l => l = []
  | (x, i) :: r, l => ∃ a q, l = (x, a) :: q ∧ ρ[i]? = some a ∧ CR ρ r q
theorem CR.mono {ρ ρ' : List Addr} (h : ρ <+: ρ') : ∀ {xs : List (Str × Nat)} {l : List (Str × Addr)}, CR ρ xs l → CR ρ' xs l
  | [], _, r => r
  | _ :: _, _, ⟨a, q, e, p, r⟩ => ⟨a, q, e, by obtain ⟨t, rfl⟩ := h; rw [List.getElem?_append_left (List.getElem?_eq_some_iff.mp p).1]; exact p, r.mono h⟩

/-- what is known of the heap that stood before the call -/
structure G where
  prog : Program
  w : World
  B : Heap → Prop
  bs : Heap → Addr → Prop
  tb : Addr → Prop
  cdk : Heap → Value → Str → Prop
  keep : ∀ h h', B h → (∀ b o, bs h b → h.get? b = some o → h'.get? b = some o) → B h' ∧ (∀ b, bs h' b → bs h b) ∧ ∀ c q, cdk h c q → cdk h' c q
  cdr : ∀ h c q, B h → cdk h c q → h.CodeRec c q
  lt : ∀ h b, B h → bs h b → ∃ o, h.get? b = some o
  tbb : ∀ h b, B h → tb b → bs h b
  nb : ∀ h, B h → NoneBooked h

noncomputable def OR (g : G) (ρ : List Addr) (h : Heap) : AO → Obj → Prop
  | .tup xs, o => ∃ vs n, o = { cls := .type "tuple", data := .seq vs n } ∧ VRs ρ xs vs.toList
  | .lst xs, o => ∃ vs n, o = { cls := .type "list", data := .seq vs n } ∧ VRs ρ xs vs.toList
  | .cell .none, o => o.data = .cell none
  | .cell (some x), o => ∃ v, o.data = .cell (some v) ∧ VR ρ x v
  | .rng a b c, o => ∃ t1 t2 t3, o = { cls := .type "range", data := .fields #[.int a t1, .int b t2, .int c t3] }
  | .slc a b c, o => ∃ x y z, o = { cls := .type "slice", data := .fields #[x, y, z] } ∧ VR ρ a x ∧ VR ρ b y ∧ VR ρ c z
  | .clo cells k, o => ∃ fd, o.data = .func fd ∧ k fd ∧ CR ρ cells fd.closure ∧ g.cdk h fd.code fd.qualname
  | .itL n i, o => ∃ l, ρ[n]? = some l ∧ o.cls = .type "list_iterator" ∧ o.data = .fields #[.ref l, .int i 0]
  | .itT n i, o => ∃ l, ρ[n]? = some l ∧ o.cls = .type "tuple_iterator" ∧ o.data = .fields #[.ref l, .int i 0]
  | .itR x left step, o => o = { cls := .type "range_iterator", data := .fields #[rawInt x, rawInt left, rawInt step] }
  | .itE m i, o => ∃ it r old, ρ[m]? = some it ∧ o = { cls := .type "enumerate", data := .fields #[r, .bool false, .ref it, rawInt i, .none, old] } ∧ r = .none
  | .itV n i, o => ∃ l, ρ[n]? = some l ∧ o.cls = .type "list_reverseiterator" ∧ o.data = .fields #[.ref l, rawInt ((i : Int) - 1)]
  | .dead, _ => True
  | .raw p, o => p o
  | .cst xs p, o => p o ∧ ∃ vs n, o = { cls := .type "list", data := .seq vs n } ∧ VRs ρ xs vs.toList

theorem prefix_get {α : Type} {ρ ρ' : List α} (h : ρ <+: ρ') {i : Nat} {a : α} (e : ρ[i]? = some a) : ρ'[i]? = some a := by
  obtain ⟨t, rfl⟩ := h
  rw [List.getElem?_append_left (List.getElem?_eq_some_iff.mp e).1]; exact e
theorem VR.mono {ρ ρ' : List Addr} (h : ρ <+: ρ') {x : AV} {v : Value} (r : VR ρ x v) : VR ρ' x v := by
  obtain ⟨t, rfl⟩ := h
  cases x <;> first | exact r | skip
  obtain ⟨a, e, rfl⟩ := r
  exact ⟨a, by rw [List.getElem?_append_left (List.getElem?_eq_some_iff.mp e).1]; exact e, rfl⟩
theorem VRs.mono {ρ ρ' : List Addr} (h : ρ <+: ρ') : ∀ {xs : List AV} {vs : List Value}, VRs ρ xs vs → VRs ρ' xs vs
  | [], _, r => r
  | _ :: _, _, ⟨v, r, e, p, q⟩ => ⟨v, r, e, p.mono h, q.mono h⟩
theorem OR.mono {g : G} {ρ ρ' : List Addr} {hp : Heap} (h : ρ <+: ρ') {x : AO} {o : Obj} (r : OR g ρ hp x o) : OR g ρ' hp x o := by
  cases x with
  | tup xs => obtain ⟨vs, n, b, c⟩ := r; exact ⟨vs, n, b, c.mono h⟩
  | lst xs => obtain ⟨vs, n, b, c⟩ := r; exact ⟨vs, n, b, c.mono h⟩
  | cell v => cases v with
    | none => exact r
    | some x => obtain ⟨v, a, b⟩ := r; exact ⟨v, a, b.mono h⟩
  | rng => exact r
  | slc => obtain ⟨x, y, z, b, c, d, e⟩ := r; exact ⟨x, y, z, b, c.mono h, d.mono h, e.mono h⟩
  | clo => obtain ⟨fd, a, b, c, d⟩ := r; exact ⟨fd, a, b, c.mono h, d⟩
  | itL => obtain ⟨l, a, b⟩ := r; exact ⟨l, prefix_get h a, b⟩
  | itT => obtain ⟨l, a, b⟩ := r; exact ⟨l, prefix_get h a, b⟩
  | itR => exact r
  | itE => obtain ⟨l, x, y, a, b⟩ := r; exact ⟨l, x, y, prefix_get h a, b⟩
  | itV => obtain ⟨l, a, b⟩ := r; exact ⟨l, prefix_get h a, b⟩
  | dead => trivial
  | raw => exact r
  | cst xs p => obtain ⟨a, vs, n, b, c⟩ := r; exact ⟨a, vs, n, b, c.mono h⟩
theorem OR.heap {g : G} {ρ : List Addr} {h h' : Heap} (k : ∀ c q, g.cdk h c q → g.cdk h' c q) {x : AO} {o : Obj} (r : OR g ρ h x o) : OR g ρ h' x o := by
  cases x with
  | clo => obtain ⟨fd, a, b, c, d⟩ := r; exact ⟨fd, a, b, c, k _ _ d⟩
  | cell v => cases v <;> exact r
  | _ => exact r
theorem VRs.length {ρ : List Addr} : ∀ {xs : List AV} {vs : List Value}, VRs ρ xs vs → vs.length = xs.length
  | [], _, r => by cases r; rfl
  | _ :: _, _, ⟨v, r, e, _, q⟩ => by rw [e, List.length_cons, List.length_cons, q.length]
theorem VRs.get {ρ : List Addr} : ∀ {xs : List AV} {vs : List Value} {i : Nat} {x : AV}, VRs ρ xs vs → xs[i]? = some x → ∃ v, vs[i]? = some v ∧ VR ρ x v
  | [], _, _, _, _, e => by simp at e
  | _ :: _, _, 0, x, ⟨v, r, e, p, q⟩, h => by simp at h; subst h; exact ⟨v, by rw [e]; rfl, p⟩
  | _ :: _, _, i + 1, x, ⟨v, r, e, p, q⟩, h => by
    obtain ⟨w, a, b⟩ := VRs.get q (by simpa using h)
    exact ⟨w, by rw [e]; simpa using a, b⟩
theorem VRs.append {ρ : List Addr} : ∀ {xs ys : List AV} {vs ws : List Value}, VRs ρ xs vs → VRs ρ ys ws → VRs ρ (xs ++ ys) (vs ++ ws)
  | [], _, _, _, r, q => by cases r; exact q
  | _ :: _, _, _, _, ⟨v, r, e, p, q⟩, q' => ⟨v, r ++ _, by rw [e]; rfl, p, q.append q'⟩
theorem VRs.set {ρ : List Addr} : ∀ {xs : List AV} {vs : List Value} (i : Nat) {x : AV} {v : Value}, VRs ρ xs vs → VR ρ x v → VRs ρ (xs.set i x) (vs.set i v)
  | [], _, _, _, _, r, _ => by cases r; exact rfl
  | _ :: _, _, 0, x, w, ⟨v, r, e, p, q⟩, h => ⟨w, r, by rw [e]; rfl, h, q⟩
  | _ :: _, _, i + 1, x, w, ⟨v, r, e, p, q⟩, h => ⟨v, r.set i w, by rw [e]; rfl, p, VRs.set i q h⟩
theorem VRs.reverse {ρ : List Addr} : ∀ {xs : List AV} {vs : List Value}, VRs ρ xs vs → VRs ρ xs.reverse vs.reverse
  | [], _, r => by cases r; exact rfl
  | _ :: _, _, ⟨v, r, e, p, q⟩ => by
    rw [e, List.reverse_cons, List.reverse_cons]
    exact q.reverse.append ⟨v, [], rfl, p, rfl⟩

structure HR (g : G) (ρ : List Addr) (H : List AO) (h : Heap) : Prop where
  base : g.B h
  len : ρ.length = H.length
  nodup : ρ.Nodup
  off : ∀ a ∈ ρ, ¬ g.bs h a
  obj : ∀ (i : Nat) (o : AO), H[i]? = some o → ∃ a ob, ρ[i]? = some a ∧ h.get? a = some ob ∧ OR g ρ h o ob

theorem HR.has {g : G} {ρ : List Addr} {H : List AO} {h : Heap} (D : HR g ρ H h) {a : Addr} (ha : a ∈ ρ) : ∃ o, h.get? a = some o := by
  obtain ⟨i, hi, rfl⟩ := List.mem_iff_getElem.mp ha
  have : i < H.length := D.len ▸ hi
  obtain ⟨a, ob, e1, e2, _⟩ := D.obj i H[i] (List.getElem?_eq_getElem this)
  rw [List.getElem?_eq_getElem hi] at e1
  cases e1
  exact ⟨ob, e2⟩
theorem HR.top {g : G} {ρ : List Addr} {H : List AO} {h : Heap} (D : HR g ρ H h) : h.objs.size ∉ ρ := fun q => by
  obtain ⟨o, e⟩ := D.has q
  exact Nat.lt_irrefl _ (Heap.lt_size e)

/-- kept, or a table that has grown -/
noncomputable def Kp (g : G) (b : Addr) (o : Obj) (h' : Heap) : Prop := h'.get? b = some o ∨ (g.tb b ∧ ∃ o', h'.get? b = some o')
theorem Kp.there {g : G} {b : Addr} {o : Obj} {h' : Heap} (k : Kp g b o h') : ∃ o', h'.get? b = some o' := k.elim (fun e => ⟨o, e⟩) fun e => e.2
theorem Kp.get {g : G} {b : Addr} {o : Obj} {h' : Heap} (k : Kp g b o h') (n : ¬ g.tb b) : h'.get? b = some o := k.elim id fun e => (n e.1).elim

structure Nx (g : G) (ρ ρ' : List Addr) (s s' : Shared) : Prop where
  pre : ρ <+: ρ'
  fresh : ∀ a ∈ ρ', a ∈ ρ ∨ s.heap.get? a = none
  live : ∀ b o, s.heap.get? b = some o → ∃ o', s'.heap.get? b = some o'
  keep : ∀ b o, s.heap.get? b = some o → b ∉ ρ → Kp g b o s'.heap
  bsn : ∀ b, g.bs s'.heap b → g.bs s.heap b ∨ s.heap.get? b = none
  cdm : ∀ c q, g.cdk s.heap c q → g.cdk s'.heap c q
  gens : s'.gens = s.gens
  os : s'.os = s.os
  drawn : s'.drawn = s.drawn

theorem Nx.refl {g : G} (ρ : List Addr) (s : Shared) : Nx g ρ ρ s s := ⟨List.prefix_refl _, fun _ h => .inl h, fun _ o e => ⟨o, e⟩, fun _ _ e _ => .inl e, fun _ e => .inl e, fun _ _ e => e, rfl, rfl, rfl⟩
theorem none_of_live {h h' : Heap} (l : ∀ b o, h.get? b = some o → ∃ o', h'.get? b = some o') {b : Addr} (e : h'.get? b = none) : h.get? b = none := by
  cases q : h.get? b with
  | none => rfl
  | some o => obtain ⟨o', e'⟩ := l b o q; rw [e] at e'; cases e'
theorem Kp.trans {g : G} {b : Addr} {o : Obj} {h' h'' : Heap} (k : Kp g b o h') (f : ∀ o, h'.get? b = some o → Kp g b o h'') : Kp g b o h'' := by
  rcases k with e | ⟨t, o', e⟩
  · exact f o e
  · exact .inr ⟨t, (f o' e).there⟩
theorem Nx.trans {g : G} {ρ ρ' ρ'' : List Addr} {s s' s'' : Shared} (x : Nx g ρ ρ' s s') (y : Nx g ρ' ρ'' s' s'') : Nx g ρ ρ'' s s'' where
  pre := x.pre.trans y.pre
  fresh := fun a h => (y.fresh a h).elim (x.fresh a) fun e => .inr (none_of_live x.live e)
  live := fun b o e => let ⟨o', e'⟩ := x.live b o e; y.live b o' e'
  keep := fun b o e n => (x.keep b o e n).trans fun o' e' => y.keep b o' e' fun q => (x.fresh b q).elim n fun z => by rw [e] at z; cases z
  bsn := fun b e => (y.bsn b e).elim (x.bsn b) fun e => .inr (none_of_live x.live e)
  cdm := fun c q e => y.cdm c q (x.cdm c q e)
  gens := y.gens.trans x.gens
  os := y.os.trans x.os
  drawn := y.drawn.trans x.drawn
theorem Nx.toks {g : G} {ρ : List Addr} {s : Shared} {t : Nat} : Nx g ρ ρ s { s with toks := t } := ⟨List.prefix_refl _, fun _ h => .inl h, fun _ o e => ⟨o, e⟩, fun _ _ e _ => .inl e, fun _ e => .inl e, fun _ _ e => e, rfl, rfl, rfl⟩
theorem get_size (h : Heap) : h.get? h.objs.size = none := by
  cases e : h.get? h.objs.size with
  | none => rfl
  | some o => exact absurd (Heap.lt_size e) (Nat.lt_irrefl _)

/-- a new object, told -/
theorem HR.add {g : G} {ρ : List Addr} {H : List AO} {h h' : Heap} (D : HR g ρ H h) {o : AO} {ob : Obj} {a : Addr} (hn : h.get? a = none) (k : ∀ b o, h.get? b = some o → h'.get? b = some o) (ha : h'.get? a = some ob) (r : OR g (ρ ++ [a]) h' o ob) :
    HR g (ρ ++ [a]) (H ++ [o]) h' where
  base := (g.keep _ _ D.base fun b o' _ e => k _ _ e).1
  len := by simp [D.len]
  nodup := by
    refine List.nodup_append.mpr ⟨D.nodup, by simp, fun b hb c hc => ?_⟩
    simp at hc
    subst hc
    rintro rfl
    obtain ⟨o, e⟩ := D.has hb
    rw [e] at hn; cases hn
  off := fun b hb z => by
    have z := (g.keep _ _ D.base fun b o' _ e => k _ _ e).2.1 b z
    rcases List.mem_append.mp hb with q | q
    · exact D.off b q z
    · simp at q; subst q
      obtain ⟨o, e⟩ := g.lt _ _ D.base z
      rw [e] at hn; cases hn
  obj := fun i o' e => by
    by_cases hi : i < H.length
    · rw [List.getElem?_append_left hi] at e
      obtain ⟨b, ob', e1, e2, e3⟩ := D.obj i o' e
      exact ⟨b, ob', by rw [List.getElem?_append_left (by rw [D.len]; exact hi)]; exact e1, k _ _ e2, (e3.mono (List.prefix_append _ _)).heap (g.keep _ _ D.base fun b o' _ e => k _ _ e).2.2⟩
    · rw [List.getElem?_append_right (Nat.le_of_not_lt hi)] at e
      have : i - H.length = 0 := by
        have := (List.getElem?_eq_some_iff.mp e).1
        simp at this; omega
      rw [this] at e
      simp at e
      subst e
      refine ⟨a, ob, ?_, ha, r⟩
      rw [List.getElem?_append_right (by rw [D.len]; omega), D.len, this]; rfl
theorem HR.push {g : G} {ρ : List Addr} {H : List AO} {h : Heap} (D : HR g ρ H h) {o : AO} {ob : Obj} (hf : ob.isFreed = false) (r : OR g (ρ ++ [h.objs.size]) (h.push ob) o ob) :
    HR g (ρ ++ [h.objs.size]) (H ++ [o]) (h.push ob) := D.add (get_size h) (fun b o e => Heap.get?_push_of_some _ e) (Heap.get?_push_size _ hf) r
theorem Nx.add {g : G} {ρ : List Addr} {H : List AO} {s : Shared} {h' : Heap} {a : Addr} {t : Nat} (D : HR g ρ H s.heap) (hn : s.heap.get? a = none) (k : ∀ b o, s.heap.get? b = some o → h'.get? b = some o) : Nx g ρ (ρ ++ [a]) s { s with heap := h', toks := t } where
  pre := List.prefix_append _ _
  fresh := fun b h => by
    rcases List.mem_append.mp h with q | q
    · exact .inl q
    · simp at q; subst q; exact .inr hn
  live := fun b o e => ⟨o, k _ _ e⟩
  keep := fun b o e _ => .inl (k _ _ e)
  bsn := fun b e => .inl ((g.keep _ _ D.base fun b o' _ e => k _ _ e).2.1 b e)
  cdm := (g.keep _ _ D.base fun b o' _ e => k _ _ e).2.2
  gens := rfl
  os := rfl
  drawn := rfl
theorem Nx.push {g : G} {ρ : List Addr} {H : List AO} {s : Shared} {ob : Obj} {t : Nat} (D : HR g ρ H s.heap) : Nx g ρ (ρ ++ [s.heap.objs.size]) s { s with heap := s.heap.push ob, toks := t } := Nx.add D (get_size _) fun b o e => Heap.get?_push_of_some _ e
/-- heap grows by things not told; told things stand -/
theorem HR.grow {g : G} {ρ : List Addr} {H : List AO} {h h' : Heap} (D : HR g ρ H h) (k : ∀ b o, h.get? b = some o → h'.get? b = some o) : HR g ρ H h' where
  base := (g.keep _ _ D.base fun b o' _ e => k _ _ e).1
  len := D.len
  nodup := D.nodup
  off := fun b hb z => D.off b hb ((g.keep _ _ D.base fun b o' _ e => k _ _ e).2.1 b z)
  obj := fun i o' e => by
    obtain ⟨a, ob', e1, e2, e3⟩ := D.obj i o' e
    exact ⟨a, ob', e1, k _ _ e2, e3.heap (g.keep _ _ D.base fun b o' _ e => k _ _ e).2.2⟩
theorem HR.keeps {g : G} {ρ : List Addr} {H : List AO} {h h' : Heap} (D : HR g ρ H h) {a : Addr} (ha : a ∈ ρ) (hs : Heap.ExtBut a h h') : g.B h' ∧ (∀ b, g.bs h' b → g.bs h b) ∧ ∀ c q, g.cdk h c q → g.cdk h' c q :=
  g.keep _ _ D.base fun b o' q e => by
    have : b ≠ a := by rintro rfl; exact D.off _ ha q
    exact hs b o' this e
/-- one told object is changed, others stand -/
theorem HR.putE {g : G} {ρ : List Addr} {H : List AO} {h h' : Heap} (D : HR g ρ H h) {i : Nat} {a : Addr} {o : AO} {ob : Obj} (hi : ρ[i]? = some a) (hs : Heap.ExtBut a h h') (ho : h'.get? a = some ob) (r : OR g ρ h' o ob) :
    HR g ρ (H.set i o) h' where
  base := (D.keeps (List.mem_of_getElem? hi) hs).1
  len := by simp [D.len]
  nodup := D.nodup
  off := fun b hb z => D.off b hb ((D.keeps (List.mem_of_getElem? hi) hs).2.1 b z)
  obj := fun j o' e => by
    rw [List.getElem?_set] at e
    by_cases hj : i = j
    · subst hj
      rw [if_pos rfl] at e
      split at e
      · cases e; exact ⟨a, ob, hi, ho, r⟩
      · cases e
    · rw [if_neg hj] at e
      obtain ⟨b, ob', e1, e2, e3⟩ := D.obj j o' e
      have : b ≠ a := by
        rintro rfl
        exact hj ((List.getElem?_inj (List.getElem?_eq_some_iff.mp hi).1 D.nodup).mp (hi.trans e1.symm))
      exact ⟨b, ob', e1, hs b ob' this e2, e3.heap (D.keeps (List.mem_of_getElem? hi) hs).2.2⟩
theorem HR.put {g : G} {ρ : List Addr} {H : List AO} {h h' : Heap} (D : HR g ρ H h) {i : Nat} {a : Addr} {o : AO} {ob : Obj} (hi : ρ[i]? = some a) (hs : Heap.SameBut a h h') (ho : h'.get? a = some ob) (r : OR g ρ h' o ob) :
    HR g ρ (H.set i o) h' := D.putE hi hs.extBut ho r
theorem Nx.putE {g : G} {ρ : List Addr} {H : List AO} {s : Shared} {h' : Heap} {a : Addr} {t : Nat} (D : HR g ρ H s.heap) (ha : a ∈ ρ) (hs : Heap.ExtBut a s.heap h') (h2 : ∃ o', h'.get? a = some o') : Nx g ρ ρ s { s with heap := h', toks := t } where
  pre := List.prefix_refl _
  fresh := fun _ h => .inl h
  live := fun b o e => by
    by_cases q : b = a
    · subst q; exact h2
    · exact ⟨o, hs b o q e⟩
  keep := fun b o e n => .inl (hs b o (fun q => n (q ▸ ha)) e)
  bsn := fun b e => .inl ((D.keeps ha hs).2.1 b e)
  cdm := (D.keeps ha hs).2.2
  gens := rfl
  os := rfl
  drawn := rfl
theorem Nx.put {g : G} {ρ : List Addr} {H : List AO} {s : Shared} {h' : Heap} {a : Addr} {t : Nat} (D : HR g ρ H s.heap) (ha : a ∈ ρ) (hs : Heap.SameBut a s.heap h') (h2 : ∃ o', h'.get? a = some o') : Nx g ρ ρ s { s with heap := h', toks := t } := Nx.putE D ha hs.extBut h2
theorem Nx.grow {g : G} {ρ : List Addr} {H : List AO} {s : Shared} {h' : Heap} {t : Nat} (D : HR g ρ H s.heap) (k : ∀ b o, s.heap.get? b = some o → h'.get? b = some o) : Nx g ρ ρ s { s with heap := h', toks := t } :=
  ⟨List.prefix_refl _, fun _ h => .inl h, fun b o e => ⟨o, k b o e⟩, fun b o e _ => .inl (k b o e), fun b e => .inl ((g.keep _ _ D.base fun b o' _ e => k _ _ e).2.1 b e), (g.keep _ _ D.base fun b o' _ e => k _ _ e).2.2, rfl, rfl, rfl⟩
end Py

end
section
open PySem PySem.W PyProof.Rows
set_option maxRecDepth 10000
set_option autoImplicit false
set_option linter.unusedVariables false
namespace Py

noncomputable abbrev Lc := List (Str × AV)
noncomputable abbrev AH := List AO
noncomputable abbrev Kv := AV → AH → Prop

inductive Fl where
  | next | brk | cont | ret (v : AV)

noncomputable def setL (x : Str) (v : AV) : Lc → Lc
  | [] => [(x, v)]
  | (y, w) :: r => if x = y then (y, v) :: r else (y, w) :: setL x v r

theorem setL_lookup (x : Str) (v : AV) : ∀ (l : Lc) (y : Str), (setL x v l).lookup y = if y = x then some v else l.lookup y
  | [], y => by
    unfold setL
    rw [List.lookup_cons]
    by_cases h : y = x
    · subst h; simp
    · have : (y == x) = false := by simpa using h
      simp [this, h]
  | (z, w) :: r, y => by
    unfold setL
    by_cases h : x = z
    · subst h
      rw [if_pos rfl, List.lookup_cons, List.lookup_cons]
      by_cases h2 : y = x
      · subst h2; simp
      · have : (y == x) = false := by simpa using h2
        simp [this, h2]
    · rw [if_neg h, List.lookup_cons, List.lookup_cons]
      by_cases h2 : y = z
      · subst h2
        have : ¬ y = x := fun e => h e.symm
        simp [this]
      · have : (y == z) = false := by simpa using h2
        rw [this]; exact setL_lookup x v r y

structure PC where
  scope : Scope
  cells : List (Str × Nat)
  sites : List (Nat × Option Bool)
  fns : List Addr
  gl : Str → Option AV
  sp : AV → List AV → AH → Kv → Prop
  hk : Nat → Option (Stmt → Lc → AH → (Fl → Lc → AH → Prop) → Prop)
  cd : Value
  qn : Str
  sym : Bool := false

noncomputable def newW (o : AO) (H : AH) (K : Kv) : Prop := K (.ref H.length) (H ++ [o])

/-! what a thing is, asked one at a time -/
noncomputable def oI (a : AV) (k : Int → Prop) (e : Prop) : Prop := match a with
  | .int x => k x
  | _ => e
noncomputable def oF (a : AV) (k : UInt64 → Prop) (e : Prop) : Prop := match a with
  | .flt x => k x
  | _ => e
noncomputable def oS (a : AV) (k : Str → Prop) (e : Prop) : Prop := match a with
  | .str x => k x
  | _ => e
noncomputable def oB (a : AV) (k : Bool → Prop) (e : Prop) : Prop := match a with
  | .bool x => k x
  | _ => e
noncomputable def oR (a : AV) (k : Nat → Prop) (e : Prop) : Prop := match a with
  | .ref x => k x
  | _ => e
noncomputable def oN (a : AV) (k e : Prop) : Prop := match a with
  | .none => k
  | _ => e
noncomputable def oFn (a : Nat) (f : AV) (k e : Prop) : Prop := match f with
  | .fn b => match a == b with
    | true => k
    | false => e
  | _ => e
noncomputable def oLs (o : Option AO) (k : List AV → Prop) (e : Prop) : Prop := match o with
  | some (.lst xs) => k xs
  | _ => e
noncomputable def oTp (o : Option AO) (k : List AV → Prop) (e : Prop) : Prop := match o with
  | some (.tup xs) => k xs
  | _ => e
noncomputable def oSm {α : Type} (o : Option α) (k : α → Prop) : Prop := match o with
  | some x => k x
  | none => False
noncomputable def a0 {α : Type} (l : List α) (k e : Prop) : Prop := match l with
  | [] => k
  | _ => e
noncomputable def aC {α : Type} (l : List α) (k : α → List α → Prop) (e : Prop) : Prop := match l with
  | x :: r => k x r
  | [] => e
noncomputable def a1 (l : List AV) (k : AV → Prop) (e : Prop) : Prop := aC l (fun x r => a0 r (k x) e) e
noncomputable def a2 (l : List AV) (k : AV → AV → Prop) (e : Prop) : Prop := aC l (fun x r => a1 r (k x) e) e
noncomputable def a3 (l : List AV) (k : AV → AV → AV → Prop) (e : Prop) : Prop := aC l (fun x r => a2 r (k x) e) e
theorem oI_or {a : AV} {k : Int → Prop} {e : Prop} (h : oI a k e) : (∃ x, a = .int x ∧ k x) ∨ e := by cases a <;> first | exact .inl ⟨_, rfl, h⟩ | exact .inr h
theorem oF_or {a : AV} {k : UInt64 → Prop} {e : Prop} (h : oF a k e) : (∃ x, a = .flt x ∧ k x) ∨ e := by cases a <;> first | exact .inl ⟨_, rfl, h⟩ | exact .inr h
theorem oS_or {a : AV} {k : Str → Prop} {e : Prop} (h : oS a k e) : (∃ x, a = .str x ∧ k x) ∨ e := by cases a <;> first | exact .inl ⟨_, rfl, h⟩ | exact .inr h
theorem oB_or {a : AV} {k : Bool → Prop} {e : Prop} (h : oB a k e) : (∃ x, a = .bool x ∧ k x) ∨ e := by cases a <;> first | exact .inl ⟨_, rfl, h⟩ | exact .inr h
theorem oR_or {a : AV} {k : Nat → Prop} {e : Prop} (h : oR a k e) : (∃ x, a = .ref x ∧ k x) ∨ e := by cases a <;> first | exact .inl ⟨_, rfl, h⟩ | exact .inr h
theorem oN_or {a : AV} {k e : Prop} (h : oN a k e) : (a = .none ∧ k) ∨ e := by cases a <;> first | exact .inl ⟨rfl, h⟩ | exact .inr h
theorem oFn_or {a : Nat} {f : AV} {k e : Prop} (h : oFn a f k e) : (f = .fn a ∧ k) ∨ e := by
  cases f <;> first | exact .inr h | skip
  rename_i b
  cases hb : a == b with
  | true =>
    have := of_decide_eq_true hb
    subst this
    unfold oFn at h; dsimp only at h; rw [hb] at h; exact .inl ⟨rfl, h⟩
  | false => unfold oFn at h; dsimp only at h; rw [hb] at h; exact .inr h
theorem oLs_or {o : Option AO} {k : List AV → Prop} {e : Prop} (h : oLs o k e) : (∃ x, o = some (.lst x) ∧ k x) ∨ e := by
  cases o with
  | none => exact .inr h
  | some o => cases o <;> first | exact .inl ⟨_, rfl, h⟩ | exact .inr h
theorem oTp_or {o : Option AO} {k : List AV → Prop} {e : Prop} (h : oTp o k e) : (∃ x, o = some (.tup x) ∧ k x) ∨ e := by
  cases o with
  | none => exact .inr h
  | some o => cases o <;> first | exact .inl ⟨_, rfl, h⟩ | exact .inr h
theorem oSm_in {α : Type} {o : Option α} {k : α → Prop} (h : oSm o k) : ∃ x, o = some x ∧ k x := by
  cases o with
  | none => exact h.elim
  | some x => exact ⟨x, rfl, h⟩
theorem a0_or {α : Type} {l : List α} {k e : Prop} (h : a0 l k e) : (l = [] ∧ k) ∨ e := by
  cases l with
  | nil => exact .inl ⟨rfl, h⟩
  | cons => exact .inr h
theorem aC_or {α : Type} {l : List α} {k : α → List α → Prop} {e : Prop} (h : aC l k e) : (∃ x r, l = x :: r ∧ k x r) ∨ e := by
  cases l with
  | nil => exact .inr h
  | cons x r => exact .inl ⟨x, r, rfl, h⟩
theorem a1_or {l : List AV} {k : AV → Prop} {e : Prop} (h : a1 l k e) : (∃ x, l = [x] ∧ k x) ∨ e := by
  rcases aC_or h with ⟨x, r, rfl, h⟩ | h
  · rcases a0_or h with ⟨rfl, h⟩ | h
    · exact .inl ⟨x, rfl, h⟩
    · exact .inr h
  · exact .inr h
theorem a2_or {l : List AV} {k : AV → AV → Prop} {e : Prop} (h : a2 l k e) : (∃ x y, l = [x, y] ∧ k x y) ∨ e := by
  rcases aC_or h with ⟨x, r, rfl, h⟩ | h
  · rcases a1_or h with ⟨y, rfl, h⟩ | h
    · exact .inl ⟨x, y, rfl, h⟩
    · exact .inr h
  · exact .inr h
theorem a3_or {l : List AV} {k : AV → AV → AV → Prop} {e : Prop} (h : a3 l k e) : (∃ x y z, l = [x, y, z] ∧ k x y z) ∨ e := by
  rcases aC_or h with ⟨x, r, rfl, h⟩ | h
  · rcases a2_or h with ⟨y, z, rfl, h⟩ | h
    · exact .inl ⟨x, y, z, rfl, h⟩
    · exact .inr h
  · exact .inr h
noncomputable def oRf (n : Nat) (f : AV) (k : Prop) : Prop := oR f (fun m => match n == m with
  | true => k
  | false => False) False
theorem oRf_in {n : Nat} {f : AV} {k : Prop} (h : oRf n f k) : f = .ref n ∧ k := by
  replace h := oR_or h
  rcases h with ⟨m, rfl, h⟩ | h
  · cases e : n == m with
    | true => have := LawfulBEq.eq_of_beq e; subst this; rw [e] at h; exact ⟨rfl, h⟩
    | false => rw [e] at h; exact h.elim
  · exact h.elim
noncomputable def oCe (o : AO) (k : AV → Prop) : Prop := match o with
  | .cell (some v) => k v
  | _ => False
theorem oCe_in {o : AO} {k : AV → Prop} (h : oCe o k) : ∃ v, o = .cell (some v) ∧ k v := by
  cases o <;> first | exact h.elim | skip
  rename_i v
  cases v with
  | none => exact h.elim
  | some v => exact ⟨v, rfl, h⟩
noncomputable def oCl (o : AO) (k : List (Str × Nat) → (FuncData → Prop) → Prop) : Prop := match o with
  | .clo c p => k c p
  | _ => False
theorem oCl_in {o : AO} {k : List (Str × Nat) → (FuncData → Prop) → Prop} (h : oCl o k) : ∃ c p, o = .clo c p ∧ k c p := by cases o <;> first | exact ⟨_, _, rfl, h⟩ | exact h.elim
noncomputable def oLt (o : AO) (k : List AV → Prop) : Prop := match o with
  | .lst xs => k xs
  | _ => False
theorem oLt_in {o : AO} {k : List AV → Prop} (h : oLt o k) : ∃ xs, o = .lst xs ∧ k xs := by cases o <;> first | exact ⟨_, rfl, h⟩ | exact h.elim
noncomputable def oBi (i : BI) (f : AV) (k e : Prop) : Prop := match f with
  | .bi j => match i == j with
    | true => k
    | false => e
  | _ => e
theorem oBi_or {i : BI} {f : AV} {k e : Prop} (h : oBi i f k e) : (f = .bi i ∧ k) ∨ e := by
  cases f <;> first | exact .inr h | skip
  rename_i j
  cases hb : i == j with
  | true =>
    have := of_decide_eq_true hb
    subst this
    unfold oBi at h; dsimp only at h; rw [hb] at h; exact .inl ⟨rfl, h⟩
  | false => unfold oBi at h; dsimp only at h; rw [hb] at h; exact .inr h
theorem no {P : Prop} (h : P ∨ False) : P := h.elim id False.elim
/-- two whole numbers -/
noncomputable def oII (a b : AV) (k : Int → Int → Prop) (e : Prop) : Prop := oI a (fun x => oI b (k x) False) e
theorem oII_or {a b : AV} {k : Int → Int → Prop} {e : Prop} (h : oII a b k e) : (∃ x y, (a = .int x ∧ b = .int y) ∧ k x y) ∨ e := by
  rcases oI_or h with ⟨x, rfl, h⟩ | h
  · obtain ⟨y, rfl, h⟩ := no (oI_or h); exact .inl ⟨x, y, ⟨rfl, rfl⟩, h⟩
  · exact .inr h
noncomputable def oFF (a b : AV) (k : UInt64 → UInt64 → Prop) (e : Prop) : Prop := oF a (fun x => oF b (k x) False) e
theorem oFF_or {a b : AV} {k : UInt64 → UInt64 → Prop} {e : Prop} (h : oFF a b k e) : (∃ x y, (a = .flt x ∧ b = .flt y) ∧ k x y) ∨ e := by
  rcases oF_or h with ⟨x, rfl, h⟩ | h
  · obtain ⟨y, rfl, h⟩ := no (oF_or h); exact .inl ⟨x, y, ⟨rfl, rfl⟩, h⟩
  · exact .inr h
noncomputable def oSS (a b : AV) (k : Str → Str → Prop) (e : Prop) : Prop := oS a (fun x => oS b (k x) False) e
theorem oSS_or {a b : AV} {k : Str → Str → Prop} {e : Prop} (h : oSS a b k e) : (∃ x y, (a = .str x ∧ b = .str y) ∧ k x y) ∨ e := by
  rcases oS_or h with ⟨x, rfl, h⟩ | h
  · obtain ⟨y, rfl, h⟩ := no (oS_or h); exact .inl ⟨x, y, ⟨rfl, rfl⟩, h⟩
  · exact .inr h

noncomputable def binW (op : Operator) (a b : AV) (H : AH) (K : Kv) : Prop :=
  match op with
  | .Add => oII a b (fun x y => K (.int (x + y)) H) <| oFF a b (fun x y => K (.flt (Float64.add x y)) H) <| oSS a b (fun x y => x.length + y.length ≤ 1000000 ∧ K (.str (x ++ y)) H) <|
      oR a (fun n => oR b (fun m => oLs H[n]? (fun xs => oLs H[m]? (fun ys => xs.length + ys.length ≤ 100000 ∧ newW (.lst (xs ++ ys)) H K) False) False) False) False
  | .Sub => oII a b (fun x y => K (.int (x - y)) H) <| oF a (fun x => oF b (fun y => K (.flt (Float64.sub x y)) H) <| oI b (fun y => match y.natAbs.ble 1000000000 with
      | true => K (.flt (Float64.sub x (Float64.ofInt y))) H
      | false => False) False) False
  | .Mult => oI a (fun x => oI b (fun y => IntMulOk x y ∧ K (.int (x * y)) H) <| oF b (fun y => match x.natAbs.ble 1000000000 with
        | true => K (.flt (Float64.mul (Float64.ofInt x) y)) H
        | false => False) False) <|
      oF a (fun x => oF b (fun y => K (.flt (Float64.mul x y)) H) <| oI b (fun y => match y.natAbs.ble 1000000000 with
        | true => K (.flt (Float64.mul x (Float64.ofInt y))) H
        | false => False) False) <|
      oS a (fun x => oI b (fun n => MulOk x n ∧ K (.str (Txt.mul x n)) H) False) <|
      oR a (fun m => oI b (fun n => oLs H[m]? (fun xs => a1 xs (fun x => (0 ≤ n ∧ n ≤ 100000) ∧ newW (.lst (List.replicate n.toNat x)) H K) False) False) False) False
  | .FloorDiv => oII a b (fun x y => y ≠ 0 ∧ Builtin.divisionGoesByPylong x y = false ∧ K (.int (x.fdiv y)) H) False
  | .Mod => oII a b (fun x y => y ≠ 0 ∧ K (.int (x.fmod y)) H) <| oFF a b (fun x y => match Float64.isZero y with | true => False | false => K (.flt (Float64.divmod x y).2) H) False
  | .LShift => oII a b (fun x y => 0 ≤ y ∧ (Builtin.Int.intBits x : Int) + y ≤ 2 ^ 27 ∧ K (.int (x * 2 ^ y.toNat)) H) False
  | .RShift => oII a b (fun x y => 0 ≤ y ∧ K (.int (x.fdiv (2 ^ y.toNat))) H) False
  | .BitXor => oII a b (fun x y => K (.int (Builtin.bitXor x y)) H) False
  | .BitAnd => oII a b (fun x y => K (.int (Builtin.bitAnd x y)) H) False
  | .BitOr => oII a b (fun x y => K (.int (Builtin.bitOr x y)) H) False
  | .Div => oFF a b (fun x y => match Float64.isZero y with | true => False | false => K (.flt (Float64.div x y)) H) <|
      oII a b (fun x y => match y == 0 with
        | true => False
        | false => match Float64.isInf (Float64.ofFrac (decide (x < 0) != decide (y < 0)) x.natAbs y.natAbs) with
          | true => False
          | false => K (.flt (Float64.ofFrac (decide (x < 0) != decide (y < 0)) x.natAbs y.natAbs)) H) False
  | _ => False

noncomputable def eqS : AV → AV → Option Bool
  | .int x, .int y => some (x == y)
  | .str x, .str y => some (x == y)
  | .flt x, .flt y => match x == y, Float64.cmp x y == some Ordering.eq with
    | true, true => some true
    | _, _ => none
  | _, _ => none
noncomputable def eqAll : List AV → List AV → Option Bool
  | [], [] => some true
  | x :: xs, y :: ys => match eqS x y, eqAll xs ys with
    | some a, some b => some (a && b)
    | _, _ => none
  | _, _ => some false
noncomputable def anyEq (k : AV) : List AV → Option Bool
  | [] => some false
  | x :: xs => match eqS x k, anyEq k xs with
    | some a, some b => some (a || b)
    | _, _ => none
/-- two seqs set side by side -/
noncomputable def rrW (n m : Nat) (H : AH) (k : Bool → Prop) : Prop :=
  oTp H[n]? (fun xs => oTp H[m]? (fun ys => oSm (eqAll xs ys) k) False) <| oLs H[n]? (fun xs => oLs H[m]? (fun ys => oSm (eqAll xs ys) k) False) False
noncomputable def inR (k : AV) (neg : Bool) (n : Nat) (H : AH) (K : Kv) : Prop :=
  oTp H[n]? (fun xs => oSm (anyEq k xs) fun b => K (.bool (if neg then !b else b)) H) <|
  oLs H[n]? (fun xs => oSm (anyEq k xs) fun b => K (.bool (if neg then !b else b)) H) False
noncomputable def neNone (n : Nat) (H : AH) (K : Kv) : Prop := oTp H[n]? (fun _ => K (.bool true) H) False

noncomputable def cmpW (op : CmpOp) (a b : AV) (H : AH) (K : Kv) : Prop :=
  match op with
  | .Eq => oII a b (fun x y => K (.bool (x == y)) H) <| oFF a b (fun x y => K (.bool (Float64.cmp x y == some Ordering.eq)) H) <| oSS a b (fun x y => K (.bool (x == y)) H) <|
      oB a (fun x => oB b (fun y => K (.bool (x == y)) H) False) <| oR a (fun n => oR b (fun m => rrW n m H fun v => K (.bool v) H) False) False
  | .NotEq => oII a b (fun x y => K (.bool (x != y)) H) <| oFF a b (fun x y => K (.bool (Float64.cmp x y != some Ordering.eq)) H) <| oSS a b (fun x y => K (.bool (x != y)) H) <|
      oB a (fun x => oB b (fun y => K (.bool (x != y)) H) False) <| oN a (oN b (K (.bool false) H) <| oR b (fun n => neNone n H K) False) <|
      oR a (fun n => oN b (neNone n H K) <| oR b (fun m => rrW n m H fun v => K (.bool (!v)) H) False) False
  | .Lt => oII a b (fun x y => K (.bool (decide (x < y))) H) False
  | .LtE => oII a b (fun x y => K (.bool (decide (x ≤ y))) H) False
  | .Gt => oII a b (fun x y => K (.bool (decide (x > y))) H) False
  | .GtE => oII a b (fun x y => K (.bool (decide (x ≥ y))) H) False
  | .In => oS a (fun y => oS b (fun x => K (.bool !(Builtin.Str.occurrences x y 0 x.length 1).isEmpty) H) False) <| oI a (fun k => oR b (fun n => inR (.int k) false n H K) False) False
  | .NotIn => oI a (fun k => oR b (fun n => inR (.int k) true n H K) False) False
  | _ => False

noncomputable def truW (a : AV) (H : AH) (K : Bool → Prop) : Prop :=
  match a with
  | .bool b => K b
  | .int x => K (x != 0)
  | .ref n => match H[n]? with
    | some (.lst xs) => xs.length ≤ 1000000 ∧ K (!xs.isEmpty)
    | _ => False
  | _ => False

/-- what kind of thing is called: its keeper must be told -/
noncomputable def isCallee (c : PC) (f : AV) (H : AH) : Bool :=
  match f with
  | .bi _ => true
  | .ty _ => true
  | .fn a => c.fns.contains a
  | .ref n => match H[n]? with
    | some (.clo ..) => true
    | _ => false
  | _ => false

noncomputable def iteW (c : PC) (pos : Pos) (b : Bool) (X Y : Prop) : Prop :=
  match c.sites.lookup pos.line with
  | some none => (b = true → X) ∧ (b = false → Y)
  | some (some true) => b = true ∧ X
  | some (some false) => b = false ∧ Y
  | none => match b with
    | true => X
    | false => Y

noncomputable def nameW (c : PC) (loc : Lc) (x : Str) (H : AH) (K : Kv) : Prop :=
  match c.scope.names.lookup x with
  | some .local => match loc.lookup x with
    | some v => K v H
    | none => False
  | some .globalImplicit => match c.gl x with
    | some v => K v H
    | none => False
  | some .cell => match c.cells.lookup x with
    | some i => match H[i]? with
      | some (.cell (some v)) => K v H
      | _ => False
    | none => False
  | some .free => match c.cells.lookup x with
    | some i => match H[i]? with
      | some (.cell (some v)) => K v H
      | _ => False
    | none => False
  | _ => False

noncomputable def storeW (c : PC) (loc : Lc) (x : Str) (v : AV) (H : AH) (K : Lc → AH → Prop) : Prop :=
  match c.scope.names.lookup x with
  | some .local => K (setL x v loc) H
  | some .cell => match c.cells.lookup x with
    | some i => match H[i]? with
      | some (.cell _) => K loc (H.set i (.cell (some v)))
      | _ => False
    | none => False
  | _ => False

noncomputable def constW (k : Const) (H : AH) (K : Kv) : Prop :=
  match k with
  | .none => K .none H
  | .bool b => K (.bool b) H
  | .int i => K (.int i) H
  | .float x => K (.flt x) H
  | .str s => K (.str s) H
  | _ => False

noncomputable def isComp1 : PySem.Expr → Bool
  | .SetComp .. => true
  | .DictComp .. => true
  | _ => false
noncomputable def isSetD : PySem.Expr → Bool
  | .Set .. => true
  | _ => false
noncomputable def appW (d : Nat) (v : AV) (H : AH) (K : AH → Prop) : Prop :=
  match H[d]? with
  | some (.lst xs) => xs.length ≤ 1000000 ∧ K (H.set d (.lst (xs ++ [v])))
  | _ => False
noncomputable def isComp : PySem.Expr → Bool
  | .ListComp .. => true
  | .SetComp .. => true
  | .DictComp .. => true
  | _ => false

noncomputable def iterW (v : AV) (H : AH) (K : Nat → AH → Prop) : Prop :=
  match v with
  | .ref n => match H[n]? with
    | some (.lst _) => K H.length (H ++ [.itL n 0])
    | some (.tup _) => K H.length (H ++ [.itT n 0])
    | some (.rng a b c) => match Builtin.Range.small a b c with
      | true => K H.length (H ++ [.itR a (Builtin.Range.rangeSize a b c) c])
      | false => False
    | some (.itV ..) => K n H
    | some (.itE ..) => K n H
    | some (.itL ..) => K n H
    | some (.itT ..) => K n H
    | some (.itR ..) => K n H
    | _ => False
  | _ => False

noncomputable def nextW (m : Nat) (H : AH) (K : Option AV → AH → Prop) : Prop :=
  match H[m]? with
  | some (.itL n i) => match H[n]? with
    | some (.lst xs) => match xs[i]? with
      | some x => K (some x) (H.set m (.itL n (i + 1)))
      | none => K none (H.set m .dead)
    | _ => False
  | some (.itT n i) => match H[n]? with
    | some (.tup xs) => match xs[i]? with
      | some x => K (some x) (H.set m (.itT n (i + 1)))
      | none => K none (H.set m .dead)
    | _ => False
  | some (.itR x left step) => match decide (0 < left) with
    | true => K (some (.int x)) (H.set m (.itR (x + step) (left - 1) step))
    | false => K none (H.set m .dead)
  | some (.itV n i) => match H[n]? with
    | some (.lst xs) => match i with
      | 0 => K none (H.set m .dead)
      | i + 1 => match xs[i]? with
        | some x => K (some x) (H.set m (.itV n i))
        | none => False
    | _ => False
  | _ => False

/-- as nextW, an enumerate over a tuple too -/
noncomputable def nextE (tgt : PySem.Expr) (m : Nat) (H : AH) (K : Option AV → AH → Prop) : Prop :=
  match H[m]? with
  | some (.itE m' i) => match tgt with
    | .Tuple .. => match H[m']? with
      | some (.itT n j) => match H[n]?, i == (j : Int), m == m' with
        | some (.tup xs), true, false => match xs[j]? with
          | some x => K (some (.ref H.length)) ((H.set m' (.itT n (j + 1))).set m (.itE m' ((j + 1 : Nat) : Int)) ++ [.tup [.int (j : Int), x]])
          | none => K none ((H.set m' .dead).set m .dead)
        | _, _, _ => False
      | _ => False
    | _ => False
  | _ => nextW m H K

/-- the scope of a comprehension, seen from its block -/
noncomputable def relS (scope outer : Scope) : Scope :=
  { scope with names := scope.names.map fun (n, k) => if (k == .free && outer.kind == .function && outer.names.lookup n == some .cell) then (n, .cell) else (n, k) }
noncomputable def cloOf (cells : List (Str × Nat)) : List (Str × NameKind) → List (Str × Nat) → Option (List (Str × Nat))
  | [], acc => some acc
  | (x, k) :: r, acc => match k == .free with
    | true => match cells.lookup x with
      | some i => cloOf cells r ((x, i) :: acc)
      | none => none
    | false => cloOf cells r acc
noncomputable def compPC (c : PC) (scope : Scope) : Option PC :=
  match scope.kind, scope.names.all (fun x => x.1 != "__debug__" && x.1 != "__classdict__" && x.2 != .cell && (x.2 != .local || scope.names.lookup x.1 == some .local)), cloOf c.cells scope.names [] with
  | .function, true, some cl => some { c with scope := relS scope c.scope, cells := cl, hk := fun _ => none }
  | _, _, _ => none

/-- item of a list, a tuple, a text -/
noncomputable def getW (o i : AV) (H : AH) (K : Kv) : Prop :=
  match o, i with
  | .ref n, .int k => match H[n]? with
    | some (.lst xs) => match decide (0 ≤ k), decide (k < 2 ^ 63) with
      | true, true => match xs[k.toNat]? with
        | some x => K x H
        | none => False
      | _, _ => False
    | some (.tup xs) => match decide (0 ≤ k), decide (k < 2 ^ 63) with
      | true, true => match xs[k.toNat]? with
        | some x => K x H
        | none => False
      | _, _ => False
    | _ => False
  | .str x, .int k => (-(2 ^ 63) ≤ k ∧ k < 2 ^ 63) ∧ ∃ ch, (seqIndex? k x.length).bind (x.cps[·]?) = some ch ∧ K (.str ⟨#[ch]⟩) H
  | _, _ => False

/-- item of a list, at a place that is not written out -/
noncomputable def getS (o i : AV) (H : AH) (K : Kv) : Prop :=
  match o, i with
  | .ref n, .int k => match H[n]? with
    | some (.lst xs) => (0 ≤ k ∧ k < 2 ^ 63) ∧ ∃ x, xs[k.toNat]? = some x ∧ K x H
    | _ => False
  | _, _ => False
/-- part of a text, a list -/
noncomputable def partW (v : AV) : Option (Option Int) :=
  match v with
  | .none => some none
  | .int i => some (some i)
  | _ => none
noncomputable def sliW (o lo hi st : AV) (H : AH) (K : Kv) : Prop :=
  match o, partW lo, partW hi, partW st with
  | .str x, some l, some u, some none => x.length ≤ 1000000 ∧ K (.str (Txt.slice x l u)) H
  | .ref n, some l, some u, some st => match H[n]? with
    | some (.lst xs) => (xs.length ≤ 1000000 ∧ st ≠ some 0) ∧ newW (.lst ((sliceRange (sliceBounds l u st xs.length).1 (sliceBounds l u st xs.length).2.1 (sliceBounds l u st xs.length).2.2).filterMap (xs[·]?))) H K
    | some (.cst xs _) => (xs.length ≤ 1000000 ∧ st ≠ some 0) ∧ newW (.lst ((sliceRange (sliceBounds l u st xs.length).1 (sliceBounds l u st xs.length).2.1 (sliceBounds l u st xs.length).2.2).filterMap (xs[·]?))) H K
    | _ => False
  | _, _, _, _ => False

noncomputable def setW (o i v : AV) (H : AH) (K : AH → Prop) : Prop :=
  match o, i with
  | .ref n, .int k => match H[n]? with
    | some (.lst xs) => 0 ≤ k ∧ k < 2 ^ 63 ∧ k < (xs.length : Int) ∧ K (H.set n (.lst (xs.set k.toNat v)))
    | _ => False
  | _, _ => False

noncomputable def methW (sy : Bool) (name : Str) (o : AV) (args : List AV) (H : AH) (K : Kv) : Prop :=
  match o with
  | .ref n => match H[n]? with
    | some (.lst xs) =>
      if name = "append" then (match args with
        | [v] => match sy with
          | true => xs.length ≤ 1000000 ∧ K .none (H.set n (.lst (xs ++ [v])))
          | false => match xs.length.ble 1000000 with
            | true => K .none (H.set n (.lst (xs ++ [v])))
            | false => False
        | _ => False)
      else if name = "reverse" then (match args with
        | [] => xs.length ≤ 1000000 ∧ K .none (H.set n (.lst xs.reverse))
        | _ => False)
      else if name = "index" then (match args with
        | [.int k] => (match anyEq (.int k) xs with
          | some true => xs.length ≤ 1000000 ∧ K (.int (xs.findIdx fun x => eqS x (.int k) == some true)) H
          | _ => False)
        | [.str k] => (match anyEq (.str k) xs with
          | some true => xs.length ≤ 1000000 ∧ K (.int (xs.findIdx fun x => eqS x (.str k) == some true)) H
          | _ => False)
        | _ => False)
      else False
    | _ => False
  | .str x =>
    if name = "index" then (match args with
      | [.str y] => (Builtin.Str.occurrences x y 0 x.length 1).isEmpty = false ∧ K (.int (Txt.find x y)) H
      | _ => False)
    else False
  | .int x =>
    if name = "bit_length" then (match args with
      | [] => K (.int (Builtin.Int.intBits x)) H
      | _ => False)
    else False
  | _ => False

noncomputable def methOk (name : Str) (o : AV) (H : AH) : Bool :=
  match o with
  | .ref n => match H[n]? with
    | some (.lst _) => name == "append" || name == "reverse" || name == "index"
    | _ => false
  | .str _ => name == "index"
  | .int _ => name == "bit_length"
  | _ => false
noncomputable def inplW (op : Operator) (a b : AV) (H : AH) (K : Kv) : Prop :=
  match op, a, b with
  | .Add, .int x, .int y => K (.int (x + y)) H
  | .Sub, .int x, .int y => K (.int (x - y)) H
  | _, _, _ => False

noncomputable def unW (op : UnaryOp) (a : AV) (H : AH) (K : Kv) : Prop :=
  match op, a with
  | .USub, .int x => K (.int (-x)) H
  | .Invert, .int x => K (.int (Builtin.bitNot x)) H
  | _, _ => False

noncomputable def seqOf (v : AV) (H : AH) : Option (List AV) :=
  match v with
  | .ref n => match H[n]? with
    | some (.tup xs) => some xs
    | _ => none
  | _ => none

noncomputable def noStar : List PySem.Expr → Bool
  | [] => true
  | .Starred .. :: _ => false
  | _ :: es => noStar es

mutual
noncomputable def awe (n : Nat) (c : PC) (loc : Lc) (e : PySem.Expr) (H : AH) (K : Kv) : Prop := match n with
  | 0 => False
  | n + 1 => match e with
    | .Constant k _ _ => constW k H K
    | .Name x _ => nameW c loc x H K
    | .BinOp l op r _ => awe n c loc l H fun a H => awe n c loc r H fun b H => binW op a b H K
    | .Compare l [op] [r] _ => match behindInMarks op r with | true => False | false => awe n c loc l H fun a H => awe n c loc r H fun b H => cmpW op a b H K
    | .IfExp t b o pos => awt n c loc t H fun v H => iteW c pos v (awe n c loc b H K) (awe n c loc o H K)
    | .Call (.Name f _) args [] _ => match noStar args with | false => False | true => nameW c loc f H fun f H => awl n c loc args H fun vs H => match isCallee c f H with | true => c.sp f vs H K | false => False
    | .Tuple es _ _ => match es.length.ble 1000 with | true => awl n c loc es H fun vs H => newW (.tup vs) H K | false => False
    | .List es _ => match es.length.ble 1000 with | true => awl n c loc es H fun vs H => newW (.lst vs) H K | false => False
    | .UnaryOp op x _ => awe n c loc x H fun v H => unW op v H K
    | .Subscript o i _ => match i with
      | .Slice lo hi st _ => awe n c loc o H fun o H => awp n c loc lo H fun lo H => awp n c loc hi H fun hi H => awp n c loc st H fun st H => sliW o lo hi st H K
      | i => awe n c loc o H fun o H => awe n c loc i H fun i H => match c.sym with
        | true => getS o i H K
        | false => getW o i H K
    | .Call (.Attribute o name apos) args [] pos => match noStar args, args.length.ble 20, apos.endLine == pos.line, o with
      | true, true, true, .Name x _ => nameW c loc x H fun ov H => match methOk name ov H with | true => awl n c loc args H fun vs H => methW c.sym name ov vs H K | false => False
      | true, true, true, .Constant (.str x) _ _ => match methOk name (.str x) H with | true => awl n c loc args H fun vs H => methW c.sym name (.str x) vs H K | false => False
      | _, _, _, _ => False
    | .ListComp elt [⟨tgt, it, ifs, 0⟩] scope _ => match isSetD it, compPC c scope with
      | false, some c' => awe n c loc it H fun v H => iterW v H fun m H => newW (.lst []) H fun acc H => match acc with
        | .ref d => awq n c' [] elt tgt ifs m d H (K (.ref d))
        | _ => False
      | _, _ => False
    | _ => False
noncomputable def awl (n : Nat) (c : PC) (loc : Lc) (es : List PySem.Expr) (H : AH) (K : List AV → AH → Prop) : Prop := match n with
  | 0 => False
  | n + 1 => match es with
    | [] => K [] H
    | e :: es => awe n c loc e H fun v H => awl n c loc es H fun vs H => K (v :: vs) H
noncomputable def awp (n : Nat) (c : PC) (loc : Lc) (e : Option PySem.Expr) (H : AH) (K : Kv) : Prop := match n with
  | 0 => False
  | n + 1 => match e with
    | none => K .none H
    | some e => awe n c loc e H K
/-- a list comprehension's turns -/
noncomputable def awq (n : Nat) (c : PC) (loc : Lc) (elt tgt : PySem.Expr) (ifs : List PySem.Expr) (m d : Nat) (H : AH) (K : AH → Prop) : Prop := match n with
  | 0 => False
  | n + 1 => nextE tgt m H fun o H => match o with
    | none => K H
    | some v => awa n c loc tgt v H fun loc H => match ifs with
      | [] => awe n c loc elt H fun x H => appW d x H fun H => awq n c loc elt tgt ifs m d H K
      | [t] => awt n c loc t H fun b H => iteW c t.pos b (awe n c loc elt H fun x H => appW d x H fun H => awq n c loc elt tgt ifs m d H K) (awq n c loc elt tgt ifs m d H K)
      | _ => False
noncomputable def awt (n : Nat) (c : PC) (loc : Lc) (e : PySem.Expr) (H : AH) (K : Bool → AH → Prop) : Prop := match n with
  | 0 => False
  | n + 1 => match e with
    | .UnaryOp .Not x _ => awt n c loc x H fun b H => K (!b) H
    | .Compare l [op] [r] _ => match behindInMarks op r with | true => False | false => awe n c loc l H fun a H => awe n c loc r H fun b H => cmpW op a b H fun v H => truW v H fun b => K b H
    | .BoolOp op es _ => awb n c loc op es H K
    | .IfExp t b o _ => awt n c loc t H fun v H => match v with | true => awt n c loc b H K | false => awt n c loc o H K
    | .Compare .. => False
    | .UnaryOp .. => False
    | e => awe n c loc e H fun v H => truW v H fun b => K b H
noncomputable def awb (n : Nat) (c : PC) (loc : Lc) (op : BoolOp) (es : List PySem.Expr) (H : AH) (K : Bool → AH → Prop) : Prop := match n with
  | 0 => False
  | n + 1 => match es with
    | [] => K (match op with | .And => true | .Or => false) H
    | e :: es => awt n c loc e H fun b H => match op with
      | .And => iteW c e.pos b (awb n c loc op es H K) (K false H)
      | .Or => iteW c e.pos b (K true H) (awb n c loc op es H K)
noncomputable def aws (n : Nat) (c : PC) (loc : Lc) (ss : List Stmt) (H : AH) (K : Fl → Lc → AH → Prop) : Prop := match n with
  | 0 => False
  | n + 1 => match ss with
    | [] => K .next loc H
    | s :: ss => aw1 n c loc s H fun f loc H => match f with
      | .next => aws n c loc ss H K
      | f => K f loc H
noncomputable def aw1 (n : Nat) (c : PC) (loc : Lc) (s : Stmt) (H : AH) (K : Fl → Lc → AH → Prop) : Prop := match n with
  | 0 => False
  | n + 1 => match s with
    | .Return none _ => K (.ret .none) loc H
    | .Return (some e) _ => awe n c loc e H fun v H => K (.ret v) loc H
    | .Assign [.Name x _] e _ => match isComp1 e with | true => False | false => awe n c loc e H fun v H => storeW c loc x v H fun loc H => K .next loc H
    | .If t b o pos => match c.hk pos.line with
      | some f => f (.If t b o pos) loc H K
      | none => awt n c loc t H fun v H => iteW c pos v (aws n c loc b H K) (aws n c loc o H K)
    | .Assign [.Tuple ts k p] e _ => match isComp e, e with
      | false, .Tuple .. => False
      | false, e => awe n c loc e H fun v H => awa n c loc (.Tuple ts k p) v H fun loc H => K .next loc H
      | _, _ => False
    | .Assign [.Subscript o i p] e _ => match isComp e with
      | false => awe n c loc e H fun v H => awa n c loc (.Subscript o i p) v H fun loc H => K .next loc H
      | true => False
    | .AugAssign (.Name x _) op e _ => match c.scope.names.lookup x with
      | some .local => nameW c loc x H fun a H => awe n c loc e H fun b H => inplW op a b H fun v H => storeW c loc x v H fun loc H => K .next loc H
      | _ => False
    | .Expr e _ => match isComp e with
      | false => awe n c loc e H fun v H => match v with
        | .ref _ => False
        | .fn _ => False
        | _ => K .next loc H
      | true => False
    | .Break _ => K .brk loc H
    | .For tgt it body els pos => match c.hk pos.line with
      | some f => f (.For tgt it body els pos) loc H K
      | none => match els, isSetD it with
        | [], false => awe n c loc it H fun v H => iterW v H fun m H => awf n c loc tgt body m H K
        | _, _ => False
    | .While t body [] _ => aww n c loc t body H K
    | .Try body (h :: hs) els fin pos => match c.hk pos.line with
      | some f => f (.Try body (h :: hs) els fin pos) loc H K
      | none => match els, fin with
        | [], [] => aws n c loc body H K
        | _, _ => False
    | .FunctionDef f a b d r ty sc ts bn pos => match c.hk pos.line with
      | some f' => f' (.FunctionDef f a b d r ty sc ts bn pos) loc H K
      | none => False
    | _ => False
/-- a target is stored -/
noncomputable def awa (n : Nat) (c : PC) (loc : Lc) (t : PySem.Expr) (v : AV) (H : AH) (K : Lc → AH → Prop) : Prop := match n with
  | 0 => False
  | n + 1 => match t with
    | .Name x _ => storeW c loc x v H K
    | .Tuple ts _ _ => match noStar ts, seqOf v H with
      | true, some vs => match ts.length == vs.length with
        | true => awz n c loc ts vs H K
        | false => False
      | _, _ => False
    | .Subscript o i _ => match i with
      | .Slice .. => False
      | i => awe n c loc o H fun o H => awe n c loc i H fun i H => setW o i v H fun H => K loc H
    | _ => False
noncomputable def awz (n : Nat) (c : PC) (loc : Lc) (ts : List PySem.Expr) (vs : List AV) (H : AH) (K : Lc → AH → Prop) : Prop := match n with
  | 0 => False
  | n + 1 => match ts, vs with
    | [], [] => K loc H
    | t :: ts, v :: vs => awa n c loc t v H fun loc H => awz n c loc ts vs H K
    | _, _ => False
/-- a for, its iterator made -/
noncomputable def awf (n : Nat) (c : PC) (loc : Lc) (tgt : PySem.Expr) (body : List Stmt) (m : Nat) (H : AH) (K : Fl → Lc → AH → Prop) : Prop := match n with
  | 0 => False
  | n + 1 => nextW m H fun o H => match o with
    | none => K .next loc H
    | some v => awa n c loc tgt v H fun loc H => aws n c loc body H fun f loc H => match f with
      | .next => awf n c loc tgt body m H K
      | .cont => awf n c loc tgt body m H K
      | .brk => K .next loc H
      | .ret v => K (.ret v) loc H
noncomputable def aww (n : Nat) (c : PC) (loc : Lc) (t : PySem.Expr) (body : List Stmt) (H : AH) (K : Fl → Lc → AH → Prop) : Prop := match n with
  | 0 => False
  | n + 1 => awt n c loc t H fun b H => iteW c t.pos b (aws n c loc body H fun f loc H => match f with
      | .next => aww n c loc t body H K
      | .cont => aww n c loc t body H K
      | .brk => K .next loc H
      | .ret v => K (.ret v) loc H) (K .next loc H)
end
end Py

end
section
open PySem PySem.W PyProof.Rows
set_option maxRecDepth 10000
set_option autoImplicit false
set_option linter.unusedVariables false
namespace Py
variable {g : G}

/-- what a step on values must show of its end -/
noncomputable abbrev PostV (g : G) (ρ : List Addr) (s : Shared) (K : Kv) (Q : Value → Shared → Prop) : Prop :=
  ∀ v H' cv s' ρ', K v H' → VR ρ' v cv → Nx g ρ ρ' s s' → HR g ρ' H' s'.heap → 1 ≤ s'.toks → Q cv s'

structure AOk (D : Nat) (A : Around) : Prop where
  hd : A.handled = none
  dp : A.depth + D < recursionLimit
  un : A.units + 20 * D < cLine

noncomputable abbrev Tk (Q : Value → Shared → Prop) : Value → Shared → Prop := fun v s' => 1 ≤ s'.toks → Q v s'
theorem post_int {ρ : List Addr} {H : AH} {s : Shared} {K : Kv} {Q : Value → Shared → Prop} {i : Int} (hQ : PostV g ρ s K Q) (D : HR g ρ H s.heap) (k : K (.int i) H) : (Made.int i).post (Tk Q) s :=
  fun T => hQ _ _ _ _ _ k ⟨_, rfl⟩ Nx.toks D T
theorem post_flt {ρ : List Addr} {H : AH} {s : Shared} {K : Kv} {Q : Value → Shared → Prop} {i : UInt64} (hQ : PostV g ρ s K Q) (D : HR g ρ H s.heap) (T : 1 ≤ s.toks) (k : K (.flt i) H) : (Made.float i).post (Tk Q) s :=
  fun T' => hQ _ _ _ _ _ k ⟨_, Nat.ne_of_gt T, rfl⟩ Nx.toks D T'
theorem post_bool {ρ : List Addr} {H : AH} {s : Shared} {K : Kv} {Q : Value → Shared → Prop} {b : Bool} (hQ : PostV g ρ s K Q) (D : HR g ρ H s.heap) (k : K (.bool b) H) : Tk Q (.bool b) s :=
  fun T => hQ _ _ _ _ _ k rfl (Nx.refl _ _) D T
theorem post_str {ρ : List Addr} {H : AH} {s : Shared} {K : Kv} {Q : Value → Shared → Prop} {x : Str} {t : Tok} {n : Nat} (hQ : PostV g ρ s K Q) (D : HR g ρ H s.heap) (k : K (.str x) H) : Tk Q (.str x t) { s with toks := n } :=
  fun T => hQ _ _ _ _ _ k ⟨_, rfl⟩ Nx.toks D T

theorem HR.lst {ρ : List Addr} {H : AH} {h : Heap} (D : HR g ρ H h) {n : Nat} {xs : List AV} {v : Value} (hn : H[n]? = some (.lst xs)) (r : VR ρ (.ref n) v) :
    ∃ a vs k, v = .ref a ∧ ρ[n]? = some a ∧ h.get? a = some { cls := .type "list", data := .seq vs k } ∧ VRs ρ xs vs.toList := by
  obtain ⟨a, e, rfl⟩ := r
  obtain ⟨a', ob, e1, e2, vs, k, rfl, e3⟩ := D.obj n _ hn
  rw [e] at e1; cases e1
  exact ⟨a, vs, k, rfl, e, e2, e3⟩
theorem HR.cst {ρ : List Addr} {H : AH} {h : Heap} (D : HR g ρ H h) {n : Nat} {xs : List AV} {p : Obj → Prop} {v : Value} (hn : H[n]? = some (.cst xs p)) (r : VR ρ (.ref n) v) :
    ∃ a vs k, v = .ref a ∧ ρ[n]? = some a ∧ h.get? a = some { cls := .type "list", data := .seq vs k } ∧ VRs ρ xs vs.toList := by
  obtain ⟨a, e, rfl⟩ := r
  obtain ⟨a', ob, e1, e2, _, vs, k, rfl, e3⟩ := D.obj n _ hn
  rw [e] at e1; cases e1
  exact ⟨a, vs, k, rfl, e, e2, e3⟩
theorem HR.tup {ρ : List Addr} {H : AH} {h : Heap} (D : HR g ρ H h) {n : Nat} {xs : List AV} {v : Value} (hn : H[n]? = some (.tup xs)) (r : VR ρ (.ref n) v) :
    ∃ a vs k, v = .ref a ∧ ρ[n]? = some a ∧ h.get? a = some { cls := .type "tuple", data := .seq vs k } ∧ VRs ρ xs vs.toList := by
  obtain ⟨a, e, rfl⟩ := r
  obtain ⟨a', ob, e1, e2, vs, k, rfl, e3⟩ := D.obj n _ hn
  rw [e] at e1; cases e1
  exact ⟨a, vs, k, rfl, e, e2, e3⟩
theorem ref_last {ρ : List Addr} {H : AH} {h : Heap} (D : HR g ρ H h) (a : Addr) : VR (ρ ++ [a]) (.ref H.length) (.ref a) := by
  refine ⟨a, ?_, rfl⟩
  rw [List.getElem?_append_right (by rw [D.len]; exact Nat.le_refl _), D.len, Nat.sub_self]; rfl
theorem get_last {ρ : List Addr} {H : AH} {h : Heap} (D : HR g ρ H h) (a : Addr) : (ρ ++ [a])[H.length]? = some a := by
  rw [List.getElem?_append_right (by rw [D.len]; exact Nat.le_refl _), D.len, Nat.sub_self]; rfl
theorem VRs.getA {ρ : List Addr} {xs : List AV} {vs : Array Value} {i : Nat} {x : AV} (r : VRs ρ xs vs.toList) (e : xs[i]? = some x) : ∃ v, vs[i]? = some v ∧ VR ρ x v := by
  obtain ⟨v, a, b⟩ := r.get e
  exact ⟨v, by simpa using a, b⟩
theorem VRs.noneA {ρ : List Addr} {xs : List AV} {vs : Array Value} {i : Nat} (r : VRs ρ xs vs.toList) (e : xs[i]? = none) : vs[i]? = none := by
  have := r.length
  simp at e
  simp at this
  simp [this, e]
theorem VRs.sizeA {ρ : List Addr} {xs : List AV} {vs : Array Value} (r : VRs ρ xs vs.toList) : vs.size = xs.length := by
  have := r.length
  simpa using this


theorem post_push {ρ : List Addr} {H : AH} {s : Shared} {K : Kv} {Q : Value → Shared → Prop} {o : AO} {ob : Obj} {t : Nat} (hQ : PostV g ρ s K Q) (D : HR g ρ H s.heap) (k : newW o H K) (hf : ob.isFreed = false)
    (r : OR g (ρ ++ [s.heap.objs.size]) (s.heap.push ob) o ob) : Tk Q (.ref s.heap.objs.size) { s with heap := s.heap.push ob, toks := t } :=
  fun T => hQ _ _ _ _ _ k (ref_last D _) (Nx.push D) (D.push hf r) T
theorem VRs.ofA {ρ : List Addr} {xs : List AV} {vs : Array Value} (r : VRs ρ xs vs.toList) (a : Addr) : VRs (ρ ++ [a]) xs vs.toList := r.mono (List.prefix_append _ _)
theorem VRs.replicate {ρ : List Addr} {x : AV} {v : Value} (r : VR ρ x v) : ∀ n : Nat, VRs ρ (List.replicate n x) (List.replicate n v)
  | 0 => rfl
  | n + 1 => ⟨v, _, rfl, r, VRs.replicate r n⟩
theorem foldl_one {v : Value} : ∀ (n : Nat) (acc : Array Value), (List.foldl (fun x1 x2 => x1 ++ x2) acc (List.replicate n #[v])).toList = acc.toList ++ List.replicate n v
  | 0, acc => by simp
  | n + 1, acc => by
    rw [List.replicate_succ, List.foldl_cons, foldl_one n, List.replicate_succ]
    simp
theorem wpAny_isSame_flt {M : Model} {A : Around} {E : Value → Shared → Prop} {s : Shared} {y z : UInt64} {u v : Tok} {Q : Bool → Shared → Prop}
    (hu : u ≠ 0) (hv : v ≠ 0) (hb : NoneBooked s.heap) (hq : ∀ b, Q b s) : wpAny M A (isSame (.float y u) (.float z v)) Q E s := by
  show wpAny M A (isSame.created (y == z && !Float64.isNaN y) u v) Q E s
  unfold isSame.created
  have h0 : ¬ ((u == 0 || v == 0) = true) := by simp [hu, hv]
  refine wpAny_ite ?_
  rw [if_neg h0]
  refine wpAny_ite ?_
  by_cases h1 : (u == v) = true
  · rw [if_pos h1]; exact wpAny_pure (hq _)
  rw [if_neg h1]
  refine wpAny_ite ?_
  by_cases h2 : (!(y == z && !Float64.isNaN y)) = true
  · rw [if_pos h2]; exact wpAny_pure (hq _)
  rw [if_neg h2]
  refine wpAny_bind (wpAny_sharingNotTold_none hb ?_)
  rw [if_neg Bool.false_ne_true]
  refine wpAny_bind (wpAny_sharingNotTold_none hb ?_)
  rw [if_neg Bool.false_ne_true]
  exact wpAny_bind (wpAny_rule (wpAny_bind (wpAny_askSetting (wpAny_pure (hq _)))))
/-- the equality of plain values -/
theorem eqS_sound {ρ : List Addr} {x y : AV} {cx cy : Value} {b : Bool} (h : eqS x y = some b) (rx : VR ρ x cx) (ry : VR ρ y cy) (A : Around) (s : Shared) (hb : NoneBooked s.heap) : SeqAt.EqAt A s cx cy b := by
  unfold eqS at h
  split at h
  · cases h; obtain ⟨t, rfl⟩ := rx; obtain ⟨u, rfl⟩ := ry
    exact (MeetsSeq.EqGives.int _ _ t u).at A s
  · rename_i x y
    cases h; obtain ⟨t, rfl⟩ := rx; obtain ⟨u, rfl⟩ := ry
    have e : (x == y) = (x.cps.toList == y.cps.toList) := by
      obtain ⟨x⟩ := x; obtain ⟨y⟩ := y
      rw [Bool.eq_iff_iff]
      simp
    rw [e]
    exact (SeqRoads2.EqGives.str _ _ t u).at A s
  · rename_i x y
    split at h
    · rename_i hx hc
      cases h; obtain ⟨t, ht, rfl⟩ := rx; obtain ⟨u, hu, rfl⟩ := ry
      intro prog w E Q hq
      unfold eqBool
      refine wpAny_holding ?_
      refine wpAny_ite_split (fun hab => ?_) (fun hab => ?_)
      · exact wpAny_bind (wpAny_rule (wpAny_pure hq))
      · refine wpAny_bind (wpAny_isSame_flt ht hu hb fun b => ?_)
        cases b with
        | true => exact wpAny_pure hq
        | false => exact wpAny_bind (AutoFloatOps.eq_0 (by rw [hc]; exact wpAny_truthy_bool hq))
    · cases h
  · cases h

theorem eqAll_len : ∀ {xs ys : List AV} {b : Bool}, eqAll xs ys = some b → xs.length ≠ ys.length → b = false
  | [], [], _, _, h => absurd rfl h
  | [], _ :: _, b, h, _ => by unfold eqAll at h; cases h; rfl
  | _ :: _, [], b, h, _ => by unfold eqAll at h; cases h; rfl
  | x :: xs, y :: ys, b, h, hl => by
    unfold eqAll at h
    split at h
    · rename_i p q _ hq
      cases h
      have : q = false := eqAll_len hq (by simpa using hl)
      rw [this, Bool.and_false]
    · cases h
theorem eqAll_get : ∀ {xs ys : List AV} {b : Bool}, eqAll xs ys = some b → ∃ e : Nat → Bool, (∀ j x y, xs[j]? = some x → ys[j]? = some y → eqS x y = some (e j)) ∧ ((List.range (min xs.length ys.length)).all e && decide (xs.length = ys.length)) = b
  | [], [], b, h => ⟨fun _ => true, fun j x y hx => by simp at hx, by unfold eqAll at h; cases h; simp⟩
  | [], _ :: _, b, h => ⟨fun _ => true, fun j x y hx => by simp at hx, by unfold eqAll at h; cases h; simp⟩
  | _ :: _, [], b, h => ⟨fun _ => true, fun j x y _ hx => by simp at hx, by unfold eqAll at h; cases h; simp⟩
  | x :: xs, y :: ys, b, h => by
    unfold eqAll at h
    split at h
    · rename_i p q hp hq
      cases h
      obtain ⟨e, e1, e2⟩ := eqAll_get (xs := xs) (ys := ys) hq
      refine ⟨fun j => match j with | 0 => p | j + 1 => e j, fun j x' y' hx hy => ?_, ?_⟩
      · cases j with
        | zero => simp at hx hy; subst hx; subst hy; exact hp
        | succ j => exact e1 j x' y' (by simpa using hx) (by simpa using hy)
      · rw [← e2, List.length_cons, List.length_cons, Nat.add_min_add_right, List.range_succ_eq_map, List.all_cons, List.all_map]
        simp [Function.comp_def, Bool.and_assoc]
    · cases h
theorem VRs.elem {ρ : List Addr} {xs : List AV} {vs : Array Value} (r : VRs ρ xs vs.toList) {j : Nat} (h : j < vs.size) : ∃ x, xs[j]? = some x ∧ VR ρ x vs[j] := by
  have hl : j < xs.length := by rw [← r.sizeA]; exact h
  obtain ⟨v, e1, e2⟩ := r.getA (List.getElem?_eq_getElem hl)
  rw [Array.getElem?_eq_getElem h] at e1
  cases e1
  exact ⟨_, List.getElem?_eq_getElem hl, e2⟩

noncomputable def valE : AV → Value → Bool
  | .int k, .int i _ => i == k
  | .str k, .str x _ => x == k
  | _, _ => false
theorem valE_sound {ρ : List Addr} {k x : AV} {ck v : Value} {b : Bool} (rk : VR ρ k ck) (hk : (∃ i, k = .int i) ∨ (∃ i, k = .str i)) (h : eqS x k = some b) (r : VR ρ x v) (s : Shared) (hb : NoneBooked s.heap) :
    (∀ A, SeqAt.EqAt A s v ck (valE k v)) ∧ valE k v = b := by
  have h1 := fun A => eqS_sound h r rk A s hb
  have h2 : valE k v = b := by
    rcases hk with ⟨i, rfl⟩ | ⟨i, rfl⟩
    · cases x <;> first | (unfold eqS at h; cases h; done) | skip
      obtain ⟨t, rfl⟩ := r
      unfold eqS at h
      cases h
      rfl
    · cases x <;> first | (unfold eqS at h; cases h; done) | skip
      obtain ⟨t, rfl⟩ := r
      unfold eqS at h
      cases h
      rfl
  exact ⟨fun A => h2 ▸ h1 A, h2⟩
theorem anyEq_sound {ρ : List Addr} {k : AV} {ck : Value} (rk : VR ρ k ck) (hk : (∃ i, k = .int i) ∨ (∃ i, k = .str i)) {s : Shared} (hb : NoneBooked s.heap) : ∀ {xs : List AV} {vs : List Value} {b : Bool}, anyEq k xs = some b → VRs ρ xs vs →
    (∀ A, ∀ y ∈ vs, SeqAt.EqAt A s y ck (valE k y)) ∧ vs.any (valE k) = b ∧ xs.findIdx (fun x => eqS x k == some true) = vs.findIdx (valE k)
  | [], vs, b, h, r => by cases r; unfold anyEq at h; cases h; exact ⟨fun A y hy => by simp at hy, rfl, rfl⟩
  | x :: xs, _, b, h, ⟨v, r', rfl, p, q⟩ => by
    unfold anyEq at h
    split at h
    · rename_i c d hc hd
      cases h
      obtain ⟨h1, h2, h3⟩ := anyEq_sound rk hk hb hd q
      have hv := valE_sound rk hk hc p s hb
      refine ⟨fun A y hy => ?_, ?_, ?_⟩
      · rcases List.mem_cons.mp hy with rfl | hy
        · exact hv.1 A
        · exact h1 A y hy
      · rw [List.any_cons, h2, hv.2]
      · rw [List.findIdx_cons, List.findIdx_cons, h3, hc, hv.2]
        cases c <;> rfl
    · cases h

theorem split_ble {n : Nat} {X : Prop} (h : match n.ble 1000000000 with | true => X | false => False) : n < 2 ^ 1023 ∧ X := by
  split at h
  · rename_i e
    refine ⟨Nat.lt_of_le_of_lt (Nat.le_of_ble_eq_true e) ?_, h⟩
    exact Nat.lt_of_lt_of_le (show 1000000000 < 2 ^ 30 by decide) (Nat.pow_le_pow_right (by decide) (by decide))
  · exact h.elim

theorem not_true {c : Bool} {X : Prop} (h : match c with | true => False | false => X) : c = false ∧ X := by
  cases c with
  | true => exact h.elim
  | false => exact ⟨rfl, h⟩
theorem binW_sound {op : Operator} {a b : AV} {H : AH} {K : Kv} (h : binW op a b H K) {ρ : List Addr} {s : Shared} {ca cb : Value} {A : Around} {Q E : Value → Shared → Prop}
    (hA : A.handled = none) (D : HR g ρ H s.heap) (hT : 1 ≤ s.toks) (ra : VR ρ a ca) (rb : VR ρ b cb) (hQ : PostV g ρ s K Q) : wpAny (model g.prog g.w) A (binaryOp op ca cb) Q E s := by
  refine wpAny_with_toks hT ?_
  cases op
  case Add =>
    replace h := oII_or h; obtain ⟨x, y, ⟨rfl, rfl⟩, h⟩ | h := h
    · obtain ⟨t, rfl⟩ := ra; obtain ⟨u, rfl⟩ := rb; exact P.add_int (Q := Tk Q) (post_int hQ D h)
    replace h := oFF_or h; obtain ⟨x, y, ⟨rfl, rfl⟩, h⟩ | h := h
    · obtain ⟨t, _, rfl⟩ := ra; obtain ⟨u, _, rfl⟩ := rb; exact add_float (Q := Tk Q) (post_flt hQ D hT h)
    replace h := oSS_or h; obtain ⟨x, y, ⟨rfl, rfl⟩, h⟩ | h := h
    · obtain ⟨t, rfl⟩ := ra; obtain ⟨u, rfl⟩ := rb; exact SBL.add (Q := Tk Q) (fun t' k _ => post_str hQ D h.2) (Nat.le_trans h.1 (by decide))
    replace h := no (oR_or h); obtain ⟨n, rfl, h⟩ := h; replace h := no (oR_or h); obtain ⟨m, rfl, h⟩ := h; replace h := no (oLs_or h); obtain ⟨xs, hn, h⟩ := h; replace h := no (oLs_or h); obtain ⟨ys, hm, h⟩ := h
    obtain ⟨a, vs, k, rfl, e1, e2, e3⟩ := D.lst hn ra
    obtain ⟨a', vs', k', rfl, e1', e2', e3'⟩ := D.lst hm rb
    have hsz : vs.size + vs'.size ≤ sizeLine := by rw [e3.sizeA, e3'.sizeA]; exact Nat.le_trans h.1 (by decide)
    refine concat_meets (Q := Tk Q) ⟨_, e2, rfl⟩ ⟨_, e2', rfl⟩ noFill_list_add seq_list_add PySem.F.slot_list_add PySem.F.entry_list_add (PySem.F.args_list_add_2 _ _) (list_addW a a' vs vs' k k' none none #[] #[] hsz) ⟨e2, e2', ?_⟩
    exact post_push (t := s.toks) hQ D h.2 rfl ⟨_, _, rfl, by rw [Array.toList_append]; exact (e3.ofA _).append (e3'.ofA _)⟩
  case Sub =>
    replace h := oII_or h; obtain ⟨x, y, ⟨rfl, rfl⟩, h⟩ | h := h
    · obtain ⟨t, rfl⟩ := ra; obtain ⟨u, rfl⟩ := rb; exact P.sub_int (Q := Tk Q) (post_int hQ D h)
    replace h := no (oF_or h); obtain ⟨x, rfl, h⟩ := h
    replace h := oF_or h; obtain ⟨y, rfl, h⟩ | h := h
    · obtain ⟨t, _, rfl⟩ := ra; obtain ⟨u, _, rfl⟩ := rb; exact sub_float (Q := Tk Q) (post_flt hQ D hT h)
    replace h := no (oI_or h); obtain ⟨y, rfl, h⟩ := h
    obtain ⟨t, _, rfl⟩ := ra; obtain ⟨u, rfl⟩ := rb; exact (split_ble h).elim fun h1 h2 => sub_fi_fits (Q := Tk Q) h1 (post_flt hQ D hT h2)
  case Mult =>
    replace h := oI_or h; obtain ⟨x, rfl, h⟩ | h := h
    · replace h := oI_or h; obtain ⟨y, rfl, h⟩ | h := h
      · obtain ⟨t, rfl⟩ := ra; obtain ⟨u, rfl⟩ := rb; exact P.mul_int (Q := Tk Q) (post_int hQ D h.2) h.1
      replace h := no (oF_or h); obtain ⟨y, rfl, h⟩ := h
      obtain ⟨t, rfl⟩ := ra; obtain ⟨u, _, rfl⟩ := rb; exact (split_ble h).elim fun h1 h2 => mul_if_fits (Q := Tk Q) h1 (post_flt hQ D hT h2)
    replace h := oF_or h; obtain ⟨x, rfl, h⟩ | h := h
    · replace h := oF_or h; obtain ⟨y, rfl, h⟩ | h := h
      · obtain ⟨t, _, rfl⟩ := ra; obtain ⟨u, _, rfl⟩ := rb; exact mul_float (Q := Tk Q) (post_flt hQ D hT h)
      replace h := no (oI_or h); obtain ⟨y, rfl, h⟩ := h
      obtain ⟨t, _, rfl⟩ := ra; obtain ⟨u, rfl⟩ := rb; exact (split_ble h).elim fun h1 h2 => mul_fi_fits (Q := Tk Q) h1 (post_flt hQ D hT h2)
    replace h := oS_or h; obtain ⟨x, rfl, h⟩ | h := h
    · replace h := no (oI_or h); obtain ⟨n, rfl, h⟩ := h
      obtain ⟨t, rfl⟩ := ra; obtain ⟨u, rfl⟩ := rb; exact SB.mul (Q := Tk Q) h.1 fun t' k => post_str hQ D h.2
    replace h := no (oR_or h); obtain ⟨m, rfl, h⟩ := h; replace h := no (oI_or h); obtain ⟨n, rfl, h⟩ := h; replace h := no (oLs_or h); obtain ⟨xs, hm, h⟩ := h; replace h := no (a1_or h); obtain ⟨x, rfl, h⟩ := h
    obtain ⟨a, vs, k, rfl, e1, e2, v, r, e3, e4, e5⟩ := D.lst hm ra
    obtain ⟨u, rfl⟩ := rb
    have hvs : vs = #[v] := by rw [← Array.toList_inj, e3, show r = [] from e5]
    subst hvs
    obtain ⟨⟨h0, h1⟩, h⟩ := h
    have hm0 : n.toNat ≤ 100000 := by omega
    have hbig : (100000 : Nat) < sizeLine := by decide
    refine wpAny_binaryOp_repeat_ref (T := "list") (U := "int") (Q := Tk Q) (by decide) ⟨_, e2, rfl⟩ (fun s' => typeIs_int s' n u) noFill_list_mul F.fills_int_mul F.slot_int_rmul repeat_list F.slot_int_index.lookup
      (call_meets F.slot_int_rmul (typeIs_int s n u) F.entry_int_rmul (F.args_int_rmul_2 _ _) (int___rmul___int_list n u a #[v] k)
        ⟨e2, rfl, ⟨_, e2, rfl⟩, call_meets F.slot_list_mul ⟨_, e2, rfl⟩ F.entry_list_mul (F.args_list_mul_2 _ _)
          (AutoListH.list___mul___list_int_3 a #[v] k n u (by simp [Builtin.List.listFitsIndex]; omega) (by simp; omega) (by simp [Builtin.List.listTooLong]; omega)) ⟨e2, ?_⟩⟩)
    exact post_push (t := s.toks) hQ D h rfl ⟨_, _, rfl, by
      rw [if_neg (by simp), foldl_one]; exact VRs.replicate (e4.mono (List.prefix_append _ _)) _⟩
  case FloorDiv => replace h := no (oII_or h); obtain ⟨x, y, ⟨rfl, rfl⟩, h⟩ := h; obtain ⟨t, rfl⟩ := ra; obtain ⟨u, rfl⟩ := rb; exact floordiv_int (Q := Tk Q) h.1 (post_int hQ D h.2.2) (.inl h.2.1)
  case Mod =>
    replace h := oII_or h; obtain ⟨x, y, ⟨rfl, rfl⟩, h⟩ | h := h
    · obtain ⟨t, rfl⟩ := ra; obtain ⟨u, rfl⟩ := rb; exact mod_int' (Q := Tk Q) h.1 (post_int hQ D h.2)
    replace h := no (oFF_or h); obtain ⟨x, y, ⟨rfl, rfl⟩, h⟩ := h
    obtain ⟨t, _, rfl⟩ := ra; obtain ⟨u, _, rfl⟩ := rb; 
    replace h := not_true h; obtain ⟨hz, h⟩ := h
    exact AutoFloatOps.mod_1 (Q := Tk Q) (by rw [hz]; exact Bool.false_ne_true) (post_flt hQ D hT h)
  case Div =>
    replace h := oFF_or h; obtain ⟨x, y, ⟨rfl, rfl⟩, h⟩ | h := h
    · obtain ⟨t, _, rfl⟩ := ra; obtain ⟨u, _, rfl⟩ := rb; 
      replace h := not_true h; obtain ⟨hz, h⟩ := h
      exact AutoFloatOps.truediv_1 (Q := Tk Q) (by rw [hz]; exact Bool.false_ne_true) (post_flt hQ D hT h)
    replace h := no (oII_or h); obtain ⟨x, y, ⟨rfl, rfl⟩, h⟩ := h
    obtain ⟨t, rfl⟩ := ra; obtain ⟨u, rfl⟩ := rb; 
    replace h := not_true h; obtain ⟨hz, h⟩ := h
    replace h := not_true h; obtain ⟨hi, h⟩ := h
    exact AutoIntOps.truediv_2 (Q := Tk Q) (by rw [hz]; exact Bool.false_ne_true) (by rw [hi]; exact Bool.false_ne_true) (post_flt hQ D hT h)
  case LShift => replace h := no (oII_or h); obtain ⟨x, y, ⟨rfl, rfl⟩, h⟩ := h; obtain ⟨t, rfl⟩ := ra; obtain ⟨u, rfl⟩ := rb; exact lshift_int (Q := Tk Q) h.1 h.2.1 (post_int hQ D h.2.2)
  case RShift => replace h := no (oII_or h); obtain ⟨x, y, ⟨rfl, rfl⟩, h⟩ := h; obtain ⟨t, rfl⟩ := ra; obtain ⟨u, rfl⟩ := rb; exact rshift_int (Q := Tk Q) h.1 (post_int hQ D h.2)
  case BitXor => replace h := no (oII_or h); obtain ⟨x, y, ⟨rfl, rfl⟩, h⟩ := h; obtain ⟨t, rfl⟩ := ra; obtain ⟨u, rfl⟩ := rb; exact xor_int (Q := Tk Q) (post_int hQ D h)
  case BitAnd => replace h := no (oII_or h); obtain ⟨x, y, ⟨rfl, rfl⟩, h⟩ := h; obtain ⟨t, rfl⟩ := ra; obtain ⟨u, rfl⟩ := rb; exact and_int (Q := Tk Q) (post_int hQ D h)
  case BitOr => replace h := no (oII_or h); obtain ⟨x, y, ⟨rfl, rfl⟩, h⟩ := h; obtain ⟨t, rfl⟩ := ra; obtain ⟨u, rfl⟩ := rb; exact or_int (Q := Tk Q) (post_int hQ D h)
  all_goals exact h.elim

theorem eqAll_list {ρ : List Addr} {xs ys : List AV} {vs ws : Array Value} {b : Bool} (h : eqAll xs ys = some b) (rx : VRs ρ xs vs.toList) (ry : VRs ρ ys ws.toList) {s : Shared} (hb : NoneBooked s.heap) :
    ∃ e : Nat → Bool, (∀ A, ∀ j (h1 : j < vs.size) (h2 : j < ws.size), SeqAt.EqAt A s vs[j] ws[j] (e j)) ∧ ((List.range (min vs.size ws.size)).all e && vs.size == ws.size) = b := by
  obtain ⟨e, e1, e2⟩ := eqAll_get h
  refine ⟨e, fun A j h1 h2 => ?_, ?_⟩
  · obtain ⟨x, x1, x2⟩ := rx.elem h1
    obtain ⟨y, y1, y2⟩ := ry.elem h2
    exact eqS_sound (e1 j x y x1 y1) x2 y2 A s hb
  · rw [rx.sizeA, ry.sizeA, ← e2]
    rfl

theorem rr_eq {n m : Nat} {H : AH} {k : Bool → Prop} (h : rrW n m H k) {ρ : List Addr} {s : Shared} {ca cb : Value} {A : Around} {Q E : Value → Shared → Prop}
    (hu : A.units < cLine) (D : HR g ρ H s.heap) (ra : VR ρ (.ref n) ca) (rb : VR ρ (.ref m) cb) (hQ : ∀ b, k b → Q (.bool b) s) : wpAny (model g.prog g.w) A (compareOp .Eq ca cb) Q E s := by
  have hb := g.nb _ D.base
  replace h := oTp_or h; obtain ⟨xs, hn, h⟩ | h := h
  · replace h := no (oTp_or h); obtain ⟨ys, hm, h⟩ := h
    replace h := oSm_in h; obtain ⟨b, hh, h⟩ := h
    obtain ⟨a, vs, k, rfl, e1, e2, e3⟩ := D.tup hn ra
    obtain ⟨a', ws, k', rfl, e1', e2', e3'⟩ := D.tup hm rb
    obtain ⟨e, h1, h2⟩ := eqAll_list hh e3 e3' hb
    exact SeqAt.eq_tupleAt ⟨_, e2, rfl, k, rfl⟩ ⟨_, e2', rfl, k', rfl⟩ hu (h1 _) (by rw [h2]; exact hQ _ h)
  · replace h := no (oLs_or h); obtain ⟨xs, hn, h⟩ := h
    replace h := no (oLs_or h); obtain ⟨ys, hm, h⟩ := h
    replace h := oSm_in h; obtain ⟨b, hh, h⟩ := h
    obtain ⟨a, vs, k, rfl, e1, e2, e3⟩ := D.lst hn ra
    obtain ⟨a', ws, k', rfl, e1', e2', e3'⟩ := D.lst hm rb
    obtain ⟨e, h1, h2⟩ := eqAll_list hh e3 e3' hb
    by_cases hl : vs.size = ws.size
    · refine SeqAt.eq_listAt ⟨_, e2, rfl, k, rfl⟩ ⟨_, e2', rfl, k', rfl⟩ hl hu (h1 _) ?_
      rw [hl, Nat.min_self, beq_self_eq_true, Bool.and_true] at h2
      rw [hl, h2]; exact hQ _ h
    · have : b = false := by
        rw [← h2]; simp [hl]
      subst this
      exact SeqAt.eq_list_lengthsAt ⟨_, e2, rfl, k, rfl⟩ ⟨_, e2', rfl, k', rfl⟩ (by simpa using hl) hu (hQ _ h)

theorem rr_ne {n m : Nat} {H : AH} {k : Bool → Prop} (h : rrW n m H k) {ρ : List Addr} {s : Shared} {ca cb : Value} {A : Around} {Q E : Value → Shared → Prop}
    (hu : A.units < cLine) (D : HR g ρ H s.heap) (ra : VR ρ (.ref n) ca) (rb : VR ρ (.ref m) cb) (hQ : ∀ b, k b → Q (.bool (!b)) s) : wpAny (model g.prog g.w) A (compareOp .NotEq ca cb) Q E s := by
  have hb := g.nb _ D.base
  replace h := oTp_or h; obtain ⟨xs, hn, h⟩ | h := h
  · replace h := no (oTp_or h); obtain ⟨ys, hm, h⟩ := h
    replace h := oSm_in h; obtain ⟨b, hh, h⟩ := h
    obtain ⟨a, vs, k, rfl, e1, e2, e3⟩ := D.tup hn ra
    obtain ⟨a', ws, k', rfl, e1', e2', e3'⟩ := D.tup hm rb
    obtain ⟨e, h1, h2⟩ := eqAll_list hh e3 e3' hb
    exact SeqAt.RcNeAt.tuples ⟨_, e2, rfl, k, rfl⟩ ⟨_, e2', rfl, k', rfl⟩ hu (h1 _) _ _ _ _ (by rw [h2]; exact hQ _ h)
  · replace h := no (oLs_or h); obtain ⟨xs, hn, h⟩ := h
    replace h := no (oLs_or h); obtain ⟨ys, hm, h⟩ := h
    replace h := oSm_in h; obtain ⟨b, hh, h⟩ := h
    obtain ⟨a, vs, k, rfl, e1, e2, e3⟩ := D.lst hn ra
    obtain ⟨a', ws, k', rfl, e1', e2', e3'⟩ := D.lst hm rb
    obtain ⟨e, h1, h2⟩ := eqAll_list hh e3 e3' hb
    by_cases hl : vs.size = ws.size
    · refine SeqAt.RcNeAt.lists ⟨_, e2, rfl, k, rfl⟩ ⟨_, e2', rfl, k', rfl⟩ hl hu (h1 _) _ _ _ _ ?_
      rw [hl, Nat.min_self, beq_self_eq_true, Bool.and_true] at h2
      rw [hl, h2]; exact hQ _ h
    · have : b = false := by
        rw [← h2]; simp [hl]
      subst this
      exact SeqAt.RcNeAt.lists_lengths ⟨_, e2, rfl, k, rfl⟩ ⟨_, e2', rfl, k', rfl⟩ (by simpa using hl) hu _ _ _ _ (hQ _ h)

theorem inR_sound {i : Int} {neg : Bool} {n : Nat} {H : AH} {K : Kv} (h : inR (.int i) neg n H K) {ρ : List Addr} {s : Shared} {ca cb : Value} {A : Around} {Q E : Value → Shared → Prop}
    (D : HR g ρ H s.heap) (ra : VR ρ (.int i) ca) (rb : VR ρ (.ref n) cb) (hQ : ∀ b, K (.bool b) H → Q (.bool b) s) : wpAny (model g.prog g.w) A (compareOp (if neg then .NotIn else .In) ca cb) Q E s := by
  have hb := g.nb _ D.base
  replace h := oTp_or h; obtain ⟨xs, hn, h⟩ | h := h
  · obtain ⟨a, vs, k, rfl, e1, e2, e3⟩ := D.tup hn rb
    replace h := oSm_in h; obtain ⟨b, hh, h⟩ := h
    obtain ⟨h1, h2, _⟩ := anyEq_sound ra (.inl ⟨_, rfl⟩) hb hh e3
    rw [Array.any_toList] at h2
    cases neg with
    | false => exact SeqAt.in_tupleAt _ ⟨_, e2, rfl, k, rfl⟩ (fun y hy => h1 _ y (by simpa using hy)) (by rw [h2]; exact hQ _ h)
    | true => exact SeqAt.notIn_tupleAt _ ⟨_, e2, rfl, k, rfl⟩ (fun y hy => h1 _ y (by simpa using hy)) (by rw [h2]; exact hQ _ h)
  · replace h := no (oLs_or h); obtain ⟨xs, hn, h⟩ := h
    obtain ⟨a, vs, k, rfl, e1, e2, e3⟩ := D.lst hn rb
    replace h := oSm_in h; obtain ⟨b, hh, h⟩ := h
    obtain ⟨h1, h2, _⟩ := anyEq_sound ra (.inl ⟨_, rfl⟩) hb hh e3
    rw [Array.any_toList] at h2
    cases neg with
    | false => exact SeqAt.in_listAt _ ⟨_, e2, rfl, k, rfl⟩ (fun y hy => h1 _ y (by simpa using hy)) (by rw [h2]; exact hQ _ h)
    | true => exact SeqAt.notIn_listAt _ ⟨_, e2, rfl, k, rfl⟩ (fun y hy => h1 _ y (by simpa using hy)) (by rw [h2]; exact hQ _ h)

theorem cmpW_sound {op : CmpOp} {a b : AV} {H : AH} {K : Kv} (h : cmpW op a b H K) {ρ : List Addr} {s : Shared} {ca cb : Value} {A : Around} {Q E : Value → Shared → Prop}
    (hu : A.units < cLine) (D : HR g ρ H s.heap) (hT : 1 ≤ s.toks) (ra : VR ρ a ca) (rb : VR ρ b cb) (hQ : PostV g ρ s K Q) : wpAny (model g.prog g.w) A (compareOp op ca cb) Q E s := by
  have hQ' : ∀ b, K (.bool b) H → Q (.bool b) s := fun b k => hQ _ _ _ _ _ k rfl (Nx.refl _ _) D hT
  cases op
  case Eq =>
    replace h := oII_or h; obtain ⟨x, y, ⟨rfl, rfl⟩, h⟩ | h := h
    · obtain ⟨t, rfl⟩ := ra; obtain ⟨u, rfl⟩ := rb; exact P.eq_int (hQ' _ h)
    replace h := oFF_or h; obtain ⟨x, y, ⟨rfl, rfl⟩, h⟩ | h := h
    · obtain ⟨t, _, rfl⟩ := ra; obtain ⟨u, _, rfl⟩ := rb; exact AutoFloatOps.eq_0 (hQ' _ h)
    replace h := oSS_or h; obtain ⟨x, y, ⟨rfl, rfl⟩, h⟩ | h := h
    · obtain ⟨t, rfl⟩ := ra; obtain ⟨u, rfl⟩ := rb; exact eq_str (hQ' _ h)
    replace h := oB_or h; obtain ⟨x, rfl, h⟩ | h := h
    · replace h := no (oB_or h); obtain ⟨y, rfl, h⟩ := h; cases ra; cases rb; exact eq_bool (hQ' _ h)
    replace h := no (oR_or h); obtain ⟨n, rfl, h⟩ := h; replace h := no (oR_or h); obtain ⟨m, rfl, h⟩ := h
    exact rr_eq h hu D ra rb hQ'
  case NotEq =>
    replace h := oII_or h; obtain ⟨x, y, ⟨rfl, rfl⟩, h⟩ | h := h
    · obtain ⟨t, rfl⟩ := ra; obtain ⟨u, rfl⟩ := rb; exact P.ne_int (hQ' _ h)
    replace h := oFF_or h; obtain ⟨x, y, ⟨rfl, rfl⟩, h⟩ | h := h
    · obtain ⟨t, _, rfl⟩ := ra; obtain ⟨u, _, rfl⟩ := rb; exact AutoFloatOps.ne_0 (hQ' _ h)
    replace h := oSS_or h; obtain ⟨x, y, ⟨rfl, rfl⟩, h⟩ | h := h
    · obtain ⟨t, rfl⟩ := ra; obtain ⟨u, rfl⟩ := rb; exact ne_str (hQ' _ h)
    replace h := oB_or h; obtain ⟨x, rfl, h⟩ | h := h
    · replace h := no (oB_or h); obtain ⟨y, rfl, h⟩ := h; cases ra; cases rb; exact ne_bool (hQ' _ h)
    replace h := oN_or h; obtain ⟨rfl, h⟩ | h := h
    · cases ra
      replace h := oN_or h; obtain ⟨rfl, h⟩ | h := h
      · cases rb; exact EqNone.ne_none_none (hQ' _ h)
      replace h := no (oR_or h); obtain ⟨n, rfl, h⟩ := h; replace h := no (oTp_or h); obtain ⟨xs, hn, h⟩ := h
      obtain ⟨a, vs, k, rfl, e1, e2, e3⟩ := D.tup hn rb
      exact SeqAt.RcNeAt.none_tuple ⟨_, e2, rfl, k, rfl⟩ hu _ _ _ _ (hQ' _ h)
    replace h := no (oR_or h); obtain ⟨n, rfl, h⟩ := h
    replace h := oN_or h; obtain ⟨rfl, h⟩ | h := h
    · cases rb
      replace h := no (oTp_or h); obtain ⟨xs, hn, h⟩ := h
      obtain ⟨a, vs, k, rfl, e1, e2, e3⟩ := D.tup hn ra
      exact SeqAt.RcNeAt.tuple_none ⟨_, e2, rfl, k, rfl⟩ hu _ _ _ _ (hQ' _ h)
    replace h := no (oR_or h); obtain ⟨m, rfl, h⟩ := h
    exact rr_ne h hu D ra rb fun b k => hQ' _ k
  case Lt => replace h := no (oII_or h); obtain ⟨x, y, ⟨rfl, rfl⟩, h⟩ := h; obtain ⟨t, rfl⟩ := ra; obtain ⟨u, rfl⟩ := rb; exact P.lt_int (hQ' _ h)
  case LtE => replace h := no (oII_or h); obtain ⟨x, y, ⟨rfl, rfl⟩, h⟩ := h; obtain ⟨t, rfl⟩ := ra; obtain ⟨u, rfl⟩ := rb; exact P.le_int (hQ' _ h)
  case Gt => replace h := no (oII_or h); obtain ⟨x, y, ⟨rfl, rfl⟩, h⟩ := h; obtain ⟨t, rfl⟩ := ra; obtain ⟨u, rfl⟩ := rb; exact P.gt_int (hQ' _ h)
  case GtE => replace h := no (oII_or h); obtain ⟨x, y, ⟨rfl, rfl⟩, h⟩ := h; obtain ⟨t, rfl⟩ := ra; obtain ⟨u, rfl⟩ := rb; exact P.ge_int (hQ' _ h)
  case In =>
    replace h := oS_or h; obtain ⟨y, rfl, h⟩ | h := h
    · replace h := no (oS_or h); obtain ⟨x, rfl, h⟩ := h; obtain ⟨t, rfl⟩ := ra; obtain ⟨u, rfl⟩ := rb; exact in_str (hQ' _ h)
    replace h := no (oI_or h); obtain ⟨k, rfl, h⟩ := h; replace h := no (oR_or h); obtain ⟨n, rfl, h⟩ := h
    exact inR_sound (neg := false) h D ra rb hQ'
  case NotIn =>
    replace h := no (oI_or h); obtain ⟨k, rfl, h⟩ := h; replace h := no (oR_or h); obtain ⟨n, rfl, h⟩ := h
    exact inR_sound (neg := true) h D ra rb hQ'
  all_goals exact h.elim

theorem truW_sound {a : AV} {H : AH} {K : Bool → Prop} (h : truW a H K) {ρ : List Addr} {s : Shared} {ca : Value} {A : Around} {Q : Bool → Shared → Prop} {E : Value → Shared → Prop}
    (D : HR g ρ H s.heap) (hT : 1 ≤ s.toks) (ra : VR ρ a ca) (hQ : ∀ b s', K b → Nx g ρ ρ s s' → HR g ρ H s'.heap → 1 ≤ s'.toks → Q b s') : wpAny (model g.prog g.w) A (truthy ca) Q E s := by
  unfold truW at h
  split at h
  · cases ra; exact wpAny_truthy_bool (hQ _ _ h (Nx.refl _ _) D hT)
  · obtain ⟨t, rfl⟩ := ra; exact P.truthy_int (hQ _ _ h (Nx.refl _ _) D hT)
  · split at h
    · rename_i xs hn
      obtain ⟨a, vs, k, rfl, e1, e2, e3⟩ := D.lst hn ra
      have hz := e3.sizeA
      refine wpAny_truthy_list (items := vs) ⟨_, e2, rfl, k, rfl⟩ (by rw [hz]; have := h.1; omega) ?_
      have he : (!vs.isEmpty) = !xs.isEmpty := by
        cases xs with
        | nil => simp at hz; simp [hz]
        | cons x xs => 
          have : vs ≠ #[] := by rintro rfl; simp at hz
          simp [this]
      rw [he]
      exact hQ _ _ h.2 Nx.toks D (Nat.le_trans hT (Nat.le_add_right _ 2))
    · exact h.elim
  · exact h.elim
end Py

end
section
open PySem PySem.W PyProof.Rows
set_option maxRecDepth 10000
set_option autoImplicit false
set_option linter.unusedVariables false
namespace Py
variable {g : G}

structure FR (g : G) (env : Env) (c : PC) (ρ : List Addr) (loc : Lc) (h : Heap) : Prop where
  sc : env.scope = c.scope
  kd : c.scope.kind = .function
  gl : env.globals = mainGlobals
  bl : env.builtins = builtinsNs
  off : env.locals ∉ ρ
  nbs : ¬ g.bs h env.locals
  ntb : ¬ g.tb env.locals
  cd : env.code = c.cd
  qn : env.qual = c.qn
  ns : ∃ m, h.Ns env.locals m ∧ ∀ x v, loc.lookup x = some v → ∃ cv, m x = some cv ∧ VR ρ v cv
  cl : ∀ x i, c.cells.lookup x = some i → ∃ a, env.cells.lookup x = some a ∧ ρ[i]? = some a

theorem FR.kind {env : Env} {c : PC} {ρ : List Addr} {loc : Lc} {h : Heap} (F : FR g env c ρ loc h) : env.scope.kind = .function := F.sc ▸ F.kd
theorem FR.nx {env : Env} {c : PC} {ρ ρ' : List Addr} {loc : Lc} {s s' : Shared} (F : FR g env c ρ loc s.heap) (N : Nx g ρ ρ' s s') : FR g env c ρ' loc s'.heap := by
  obtain ⟨m, hn, hm⟩ := F.ns
  obtain ⟨o, es, ep, ho, r⟩ := hn
  refine ⟨F.sc, F.kd, F.gl, F.bl, fun q => ?_, fun q => ?_, F.ntb, F.cd, F.qn, ⟨m, ⟨o, es, ep, (N.keep _ _ ho F.off).get F.ntb, r⟩, fun x v e => ?_⟩, fun x i e => ?_⟩
  · rcases N.fresh _ q with z | z
    · exact F.off z
    · rw [ho] at z; cases z
  · rcases N.bsn _ q with z | z
    · exact F.nbs z
    · rw [ho] at z; cases z
  · obtain ⟨cv, a, b⟩ := hm x v e
    exact ⟨cv, a, b.mono N.pre⟩
  · obtain ⟨a, e1, e2⟩ := F.cl x i e
    exact ⟨a, e1, prefix_get N.pre e2⟩

noncomputable abbrev CallOk (g : G) (D : Nat) (f : AV) (args : List AV) (H : AH) (K : Kv) : Prop :=
  ∀ (ρ : List Addr) (s : Shared) (cf : Value) (cargs : List Value) (A : Around) (Q E : Value → Shared → Prop), AOk D A → HR g ρ H s.heap → 1 ≤ s.toks → VR ρ f cf → VRs ρ args cargs → PostV g ρ s K Q →
    wpAny (model g.prog g.w) A (call cf cargs) Q E s

inductive FlR (ρ : List Addr) : Fl → Flow → Prop where
  | next : FlR ρ .next .next
  | brk : FlR ρ .brk .brk
  | cont : FlR ρ .cont .cont
  | ret {v cv} : VR ρ v cv → FlR ρ (.ret v) (.ret cv)
theorem FlR.mono {ρ ρ' : List Addr} (h : ρ <+: ρ') {f : Fl} {cf : Flow} (r : FlR ρ f cf) : FlR ρ' f cf := by
  cases r with
  | next => exact .next
  | brk => exact .brk
  | cont => exact .cont
  | ret r => exact .ret (r.mono h)

/-- as Nx, but the frame's own names may turn -/
structure NxL (g : G) (L : Addr) (ρ ρ' : List Addr) (s s' : Shared) : Prop where
  pre : ρ <+: ρ'
  fresh : ∀ a ∈ ρ', a ∈ ρ ∨ s.heap.get? a = none
  live : ∀ b o, s.heap.get? b = some o → ∃ o', s'.heap.get? b = some o'
  keep : ∀ b o, s.heap.get? b = some o → b ∉ ρ → b ≠ L → Kp g b o s'.heap
  bsn : ∀ b, g.bs s'.heap b → g.bs s.heap b ∨ s.heap.get? b = none
  cdm : ∀ c q, g.cdk s.heap c q → g.cdk s'.heap c q
  gens : s'.gens = s.gens
  os : s'.os = s.os
  drawn : s'.drawn = s.drawn
theorem Nx.l {ρ ρ' : List Addr} {s s' : Shared} {L : Addr} (x : Nx g ρ ρ' s s') : NxL g L ρ ρ' s s' := ⟨x.pre, x.fresh, x.live, fun b o e n _ => x.keep b o e n, x.bsn, x.cdm, x.gens, x.os, x.drawn⟩
theorem NxL.refl {ρ : List Addr} {s : Shared} {L : Addr} : NxL g L ρ ρ s s := ⟨List.prefix_refl _, fun _ h => .inl h, fun _ o e => ⟨o, e⟩, fun _ _ e _ _ => .inl e, fun _ e => .inl e, fun _ _ e => e, rfl, rfl, rfl⟩
theorem NxL.trans {L : Addr} {ρ ρ' ρ'' : List Addr} {s s' s'' : Shared} (x : NxL g L ρ ρ' s s') (y : NxL g L ρ' ρ'' s' s'') : NxL g L ρ ρ'' s s'' where
  pre := x.pre.trans y.pre
  fresh := fun a h => (y.fresh a h).elim (x.fresh a) fun e => .inr (none_of_live x.live e)
  live := fun b o e => let ⟨o', e'⟩ := x.live b o e; y.live b o' e'
  keep := fun b o e n l => (x.keep b o e n l).trans fun o' e' => y.keep b o' e' (fun q => (x.fresh b q).elim n fun z => by rw [e] at z; cases z) l
  bsn := fun b e => (y.bsn b e).elim (x.bsn b) fun e => .inr (none_of_live x.live e)
  cdm := fun c q e => y.cdm c q (x.cdm c q e)
  gens := y.gens.trans x.gens
  os := y.os.trans x.os
  drawn := y.drawn.trans x.drawn

noncomputable abbrev PostF (g : G) (env : Env) (c : PC) (ρ : List Addr) (s : Shared) (K : Fl → Lc → AH → Prop) (Q : Flow → Shared → Prop) : Prop :=
  ∀ f loc' H' cf s' ρ', K f loc' H' → FlR ρ' f cf → NxL g env.locals ρ ρ' s s' → FR g env c ρ' loc' s'.heap → HR g ρ' H' s'.heap → 1 ≤ s'.toks → Q cf s'
noncomputable abbrev HkOk (g : G) (D : Nat) (c : PC) (loc : Lc) (st : Stmt) (H : AH) (K : Fl → Lc → AH → Prop) : Prop :=
  ∀ (env : Env) (ρ : List Addr) (s : Shared) (A : Around) (Q : Flow → Shared → Prop) (E : Value → Shared → Prop), AOk D A → FR g env c ρ loc s.heap → HR g ρ H s.heap → 1 ≤ s.toks → PostF g env c ρ s K Q → wpAny (model g.prog g.w) A (exec st env) Q E s
noncomputable abbrev ExOk (g : G) (D : Nat) (c : PC) (loc : Lc) (st : Stmt) (H : AH) (K : Fl → Lc → AH → Prop) : Prop :=
  ∀ (env : Env) (ρ : List Addr) (s : Shared) (A : Around) (Q : Flow → Shared → Prop) (E : Value → Shared → Prop), AOk D A → FR g env c ρ loc s.heap → HR g ρ H s.heap → 1 ≤ s.toks → PostF g env c ρ s K Q → wpAny (model g.prog g.w) A (exec st env) Q E s
noncomputable abbrev ExsOk (g : G) (D : Nat) (c : PC) (loc : Lc) (ss : List Stmt) (H : AH) (K : Fl → Lc → AH → Prop) : Prop :=
  ∀ (env : Env) (ρ : List Addr) (s : Shared) (A : Around) (Q : Flow → Shared → Prop) (E : Value → Shared → Prop), AOk D A → FR g env c ρ loc s.heap → HR g ρ H s.heap → 1 ≤ s.toks → PostF g env c ρ s K Q → wpAny (model g.prog g.w) A (execs ss env) Q E s
noncomputable abbrev TrOk (g : G) (D : Nat) (c : PC) (loc : Lc) (e : PySem.Expr) (H : AH) (K : Bool → AH → Prop) : Prop :=
  ∀ (env : Env) (ρ : List Addr) (s : Shared) (A : Around) (Q : Bool → Shared → Prop) (E : Value → Shared → Prop), AOk D A → FR g env c ρ loc s.heap → HR g ρ H s.heap → 1 ≤ s.toks →
    (∀ b H' s' ρ', K b H' → Nx g ρ ρ' s s' → HR g ρ' H' s'.heap → 1 ≤ s'.toks → Q b s') → wpAny (model g.prog g.w) A (isTrue e env (eval e env)) Q E s

structure COk (g : G) (D : Nat) (c : PC) : Prop where
  sp : ∀ f args H K, c.sp f args H K → CallOk g D f args H K
  gl : ∀ h, g.B h → ∃ mg mb, h.Ns mainGlobals mg ∧ h.Ns builtinsNs mb ∧ ∀ x v, c.gl x = some v → ∃ cv, VR [] v cv ∧ (mg x = some cv ∨ (mg x = none ∧ mb x = some cv))
  nd : ∀ x k, c.scope.names.lookup x = some k → (x == ("__debug__" : Str)) = false ∧ (x == ("__classdict__" : Str)) = false
  hk : ∀ n f st loc H K, c.hk n = some f → f st loc H K → HkOk g D c loc st H K
  kf : ∀ h a, g.B h → c.fns.contains a = true → ∃ o fd, h.get? a = some o ∧ o.data = .func fd

noncomputable abbrev EvOk (g : G) (D : Nat) (c : PC) (loc : Lc) (e : PySem.Expr) (H : AH) (K : Kv) : Prop :=
  ∀ (env : Env) (ρ : List Addr) (s : Shared) (A : Around) (Q E : Value → Shared → Prop), AOk D A → FR g env c ρ loc s.heap → HR g ρ H s.heap → 1 ≤ s.toks → PostV g ρ s K Q → wpAny (model g.prog g.w) A (eval e env) Q E s

theorem constW_sound {k : Const} {H : AH} {K : Kv} (h : constW k H K) {env : Env} {ρ : List Addr} {s : Shared} {A : Around} {Q E : Value → Shared → Prop} {n : Nat} {pos : Pos}
    (D : HR g ρ H s.heap) (hT : 1 ≤ s.toks) (hQ : PostV g ρ s K Q) : wpAny (model g.prog g.w) A (eval (.Constant k n pos) env) Q E s := by
  show wpAny _ A (constValue env k) Q E s
  unfold constW at h
  split at h
  · exact wpAny_pure (hQ _ _ _ _ _ h rfl (Nx.refl _ _) D hT)
  · exact wpAny_pure (hQ _ _ _ _ _ h rfl (Nx.refl _ _) D hT)
  · exact wpAny_mkInt (hQ _ _ _ _ _ h ⟨_, rfl⟩ Nx.toks D (Nat.le_succ_of_le hT))
  · exact wpAny_mkFloat (hQ _ _ _ _ _ h ⟨_, Nat.ne_of_gt hT, rfl⟩ Nx.toks D (Nat.le_succ_of_le hT))
  · exact wpAny_mkText (hQ _ _ _ _ _ h ⟨_, rfl⟩ Nx.toks D (Nat.le_succ_of_le hT))
  · exact h.elim

theorem nameW_sound {d : Nat} {c : PC} (C : COk g d c) {loc : Lc} {x : Str} {H : AH} {K : Kv} (h : nameW c loc x H K) {env : Env} {ρ : List Addr} {s : Shared} {A : Around} {Q E : Value → Shared → Prop} {pos : Pos}
    (F : FR g env c ρ loc s.heap) (D : HR g ρ H s.heap) (hT : 1 ≤ s.toks) (hQ : PostV g ρ s K Q) : wpAny (model g.prog g.w) A (eval (.Name x pos) env) Q E s := by
  unfold nameW at h
  split at h
  · rename_i hx
    split at h
    · rename_i v hv
      obtain ⟨m, hn, hm⟩ := F.ns
      obtain ⟨cv, e1, e2⟩ := hm x v hv
      refine wpAny_Name (wpAny_loadName_local F.kind (by show env.scope.names.lookup x = _; rw [F.sc]; exact hx) hn e1 (hQ _ _ _ _ _ h e2 (Nx.refl _ _) D hT)) (C.nd x _ hx).1
    · exact h.elim
  · rename_i hx
    split at h
    · rename_i v hv
      obtain ⟨mg, mb, h1, h2, h3⟩ := C.gl _ D.base
      obtain ⟨cv, e1, e2⟩ := h3 x v hv
      have e1' : VR ρ v cv := e1.mono (List.nil_prefix)
      refine Calls.Name_function_global F.kind (by show env.scope.names.lookup x = _; rw [F.sc]; exact hx) ?_ (C.nd x _ hx).1
      rcases e2 with e2 | ⟨e2, e3⟩
      · exact Calls.loadGlobal_global (by rw [F.gl]; exact h1) e2 (hQ _ _ _ _ _ h e1' (Nx.refl _ _) D hT)
      · exact Calls.loadGlobal_builtin (by rw [F.gl]; exact h1) e2 (by rw [F.bl]; exact h2) e3 (hQ _ _ _ _ _ h e1' (Nx.refl _ _) D hT)
    · exact h.elim
  · rename_i hx
    split at h
    · rename_i i hi
      split at h
      · rename_i v hv
        obtain ⟨a, e1, e2⟩ := F.cl x i hi
        obtain ⟨a', ob, e3, e4, e5⟩ := D.obj i _ hv
        rw [e2] at e3; cases e3
        obtain ⟨cv, e6, e7⟩ := e5
        exact wpAny_Name (wpAny_loadName_cell F.kind (by show env.scope.names.lookup x = _; rw [F.sc]; exact hx) e1 ⟨_, e4, e6⟩ (hQ _ _ _ _ _ h e7 (Nx.refl _ _) D hT)) (C.nd x _ hx).1
      · exact h.elim
    · exact h.elim
  · rename_i hx
    split at h
    · rename_i i hi
      split at h
      · rename_i v hv
        obtain ⟨a, e1, e2⟩ := F.cl x i hi
        obtain ⟨a', ob, e3, e4, e5⟩ := D.obj i _ hv
        rw [e2] at e3; cases e3
        obtain ⟨cv, e6, e7⟩ := e5
        exact wpAny_Name (wpAny_loadName_free F.kind (by show env.scope.names.lookup x = _; rw [F.sc]; exact hx) e1 ⟨_, e4, e6⟩ (hQ _ _ _ _ _ h e7 (Nx.refl _ _) D hT) (C.nd x _ hx).2) (C.nd x _ hx).1
      · exact h.elim
    · exact h.elim
  · exact h.elim

theorem newW_tup {xs : List AV} {H : AH} {K : Kv} (h : newW (.tup xs) H K) {ρ : List Addr} {s : Shared} {vs : List Value} {A : Around} {Q E : Value → Shared → Prop}
    (D : HR g ρ H s.heap) (hT : 1 ≤ s.toks) (r : VRs ρ xs vs) (hl : vs.length ≤ sizeLine) (hQ : PostV g ρ s K Q) : wpAny (model g.prog g.w) A (newTuple vs) Q E s := by
  refine wpAny_newObj_type ?_ (by show vs.toArray.size ≤ sizeLine; rw [List.size_toArray]; exact hl)
  exact post_push (t := s.toks) hQ D h rfl ⟨_, _, rfl, by exact r.mono (List.prefix_append _ _)⟩ hT
theorem newW_lst {xs : List AV} {H : AH} {K : Kv} (h : newW (.lst xs) H K) {ρ : List Addr} {s : Shared} {vs : List Value} {A : Around} {Q E : Value → Shared → Prop}
    (D : HR g ρ H s.heap) (hT : 1 ≤ s.toks) (r : VRs ρ xs vs) (hl : vs.length ≤ sizeLine) (hQ : PostV g ρ s K Q) : wpAny (model g.prog g.w) A (newList vs) Q E s := by
  refine wpAny_newObj_type ?_ (by show vs.toArray.size ≤ sizeLine; rw [List.size_toArray]; exact hl)
  exact post_push (t := s.toks) hQ D h rfl ⟨_, _, rfl, by exact r.mono (List.prefix_append _ _)⟩ hT

theorem sizeLine_big : 1000 ≤ sizeLine := by decide +kernel

/-- one name is stored -/
theorem store_sound {c : PC} {loc : Lc} {x : Str} {v : AV} {cv : Value} {H : AH} {env : Env} {ρ : List Addr} {s : Shared} {A : Around} {Q : Unit → Shared → Prop} {E : Value → Shared → Prop}
    {K : Lc → AH → Prop} (h : storeW c loc x v H K) (F : FR g env c ρ loc s.heap) (D : HR g ρ H s.heap) (hT : 1 ≤ s.toks) (r : VR ρ v cv)
    (hQ : ∀ loc' H' s', K loc' H' → NxL g env.locals ρ ρ s s' → FR g env c ρ loc' s'.heap → HR g ρ H' s'.heap → 1 ≤ s'.toks → Q () s') : wpAny (model g.prog g.w) A (storeName env x cv) Q E s := by
  refine wpAny_with_toks hT ?_
  unfold storeW at h
  split at h
  · rename_i hx
    obtain ⟨m, hn, hm⟩ := F.ns
    refine wpAny_storeName_local (by show env.scope.names.lookup x = _; rw [F.sc]; exact hx) hn (fun h' hn' hs => ?_) (by rw [F.kind]; rfl)
    have hne : ∀ b ∈ ρ, b ≠ env.locals := fun b hb e => F.off (e ▸ hb)
    intro T'
    have hK := g.keep _ _ D.base fun b o hb e => (hs.2 b (fun q => F.nbs (q ▸ hb))).trans e
    refine hQ _ _ _ h ?_ ?_ ?_ T'
    · refine ⟨List.prefix_refl _, fun _ q => .inl q, fun b o e => ?_, fun b o e _ l => .inl ((hs.2 b l).trans e), fun b e => .inl (hK.2.1 b e), hK.2.2, rfl, rfl, rfl⟩
      by_cases hb : b = env.locals
      · subst hb
        obtain ⟨o', _, _, ho', _⟩ := hn'
        exact ⟨o', ho'⟩
      · exact ⟨o, (hs.2 b hb).trans e⟩
    · refine ⟨F.sc, F.kd, F.gl, F.bl, F.off, fun q => F.nbs (hK.2.1 _ q), F.ntb, F.cd, F.qn, ⟨_, hn', fun y w e => ?_⟩, F.cl⟩
      rw [setL_lookup] at e
      by_cases hy : y = x
      · subst hy
        rw [if_pos rfl] at e; cases e
        exact ⟨cv, by simp, r⟩
      · rw [if_neg hy] at e
        obtain ⟨cw, e1, e2⟩ := hm y w e
        exact ⟨cw, by simp [hy, e1], e2⟩
    · refine ⟨hK.1, D.len, D.nodup, fun b hb z => D.off b hb (hK.2.1 b z), fun i o e => ?_⟩
      obtain ⟨a, ob, e1, e2, e3⟩ := D.obj i o e
      exact ⟨a, ob, e1, (hs.2 a (hne a (List.mem_of_getElem? e1))).trans e2, e3.heap hK.2.2⟩
  · rename_i hx
    split at h
    · rename_i i hi
      split at h
      · rename_i v₀ hv
        obtain ⟨a, e1, e2⟩ := F.cl x i hi
        obtain ⟨a', ob, e3, e4, e5⟩ := D.obj i _ hv
        rw [e2] at e3; cases e3
        have hc : ∃ w₀, s.heap.IsCell a w₀ := by
          cases v₀ with
          | none => exact ⟨none, _, e4, e5⟩
          | some y => obtain ⟨z, q, _⟩ := e5; exact ⟨some z, _, e4, q⟩
        obtain ⟨w₀, hc⟩ := hc
        refine wpAny_storeName_cell F.kind (by show env.scope.names.lookup x = _; rw [F.sc]; exact hx) e1 hc (fun h' hc' hs => ?_)
        obtain ⟨o', ho', hd'⟩ := hc'
        have ha : a ∈ ρ := List.mem_of_getElem? e2
        have N : Nx g ρ ρ s { s with heap := h', toks := s.toks } := Nx.put D ha hs ⟨_, ho'⟩
        exact fun T' => hQ _ _ _ h N.l (F.nx N) (D.put e2 hs ho' ⟨cv, hd', r⟩) T'
      · exact h.elim
    · exact h.elim
  · exact h.elim
end Py

end
section
open PySem PySem.W PyProof.Rows
set_option maxRecDepth 10000
set_option autoImplicit false
set_option linter.unusedVariables false
namespace Py
section
variable {M : Model} {A : Around} {E : Value → Shared → Prop} {s : Shared}
theorem wpAny_operate1 {vs : List Value} {m : Sem Value} {Q : Value → Shared → Prop} (h : wpAny M A m Q E s) : wpAny M A (operate vs m) Q E s := fun Γ p hΓ => by
  rw [Sem.wp_operate]; exact h Γ p hΓ
theorem callWith_gen {pos : Pos} {f : Value} {first : List Value} {args : List (Bool × Sem Value)} {Q : Value → Shared → Prop} (hplain : args.any (·.1) = false)
    (h : wpAny M A (evalArgs f true args []) (fun x s₁ => wpAny M A (keeperOf f) (fun _ s₂ => wpAny M A (call f (first ++ x.pos) x.kw) Q E s₂) E s₁) E s) : wpAny M A (callWith pos f first args []) Q E s := by
  unfold callWith
  refine wpAny_bind (wpAny_holding (wpAny_mono h (fun a s₁ h₁ => wpAny_bind (wpAny_standAt ?_)) fun _ _ x => x))
  simp only [hplain, List.any_nil, Bool.or_false]
  refine wpAny_bind (wpAny_mono h₁ (fun k s₂ h₂ => ?_) fun _ _ x => x)
  have tail : ∀ {t : Sem Value}, wpAny M A t Q E s₂ → wpAny M A (t >>= fun r => holding [r] point >>= fun _ => pure r) Q E s₂ :=
    fun ht => wpAny_bind (wpAny_mono ht (fun r s₃ hr => wpAny_bind (wpAny_holding (wpAny_point (wpAny_pure hr)))) fun _ _ x => x)
  cases k with
  | frame =>
    dsimp only
    split
    · exact tail h₂
    · exact tail (by unfold callMarked; exact Calls.wpAny_keep h₂)
  | boundFrame =>
    dsimp only
    split
    · exact tail h₂
    · exact tail (by unfold callMarked; exact Calls.wpAny_keep h₂)
  | machine => exact tail h₂
  | caller => exact tail (wpAny_operate1 h₂)
theorem evalArgs_gen {f : Value} {args : List (Bool × Sem Value)} {Q : Args → Shared → Prop} (hplain : args.any (·.1) = false)
    (h : wpAny M A (spliced args) (fun vs s' => Q ⟨vs, []⟩ s') E s) : wpAny M A (evalArgs f true args []) Q E s := by
  match args, hplain, h with
  | [], _, h =>
    unfold evalArgs
    show wpAny M A (spliced [] >>= _) Q E s
    refine wpAny_bind (wpAny_mono h (fun vs s' h' => ?_) fun _ _ x => x)
    refine wpAny_bind (wpAny_pure ?_)
    refine wpAny_holding ?_
    exact wpAny_bind (wpAny_pure (wpAny_bind (wpAny_pure (wpAny_pure h'))))
  | (false, x) :: rest, _, h => exact Calls.evalArgs_plain h
  | (true, x) :: rest, hp, _ => simp at hp
theorem keeper_builtin {id : String} {Q : Keeper → Shared → Prop} (h : Q .machine s) : wpAny M A (keeperOf (.builtin id)) Q E s := wpAny_pure h
theorem keeper_type {id : String} {Q : Keeper → Shared → Prop} (h : Q .machine s) : wpAny M A (keeperOf (.type id)) Q E s := wpAny_pure h
theorem keeper_func {a : Addr} {o : Obj} {fd : FuncData} {Q : Keeper → Shared → Prop} (ho : s.heap.get? a = some o) (hd : o.data = .func fd) (h : Q .frame s) : wpAny M A (keeperOf (.ref a)) Q E s := by
  unfold keeperOf
  refine wpAny_bind (wpAny_load ho ?_)
  rw [hd]
  exact wpAny_pure h
end
end Py

end
section
open PySem PySem.W PyProof.Rows
set_option maxRecDepth 10000
set_option autoImplicit false
set_option linter.unusedVariables false
namespace Py
variable {g : G}

noncomputable abbrev ElsOk (g : G) (D : Nat) (c : PC) (loc : Lc) (es : List PySem.Expr) (H : AH) (K : List AV → AH → Prop) : Prop :=
  ∀ (env : Env) (ρ : List Addr) (s : Shared) (A : Around) (pos : Pos) (Q : List Value → Shared → Prop) (E : Value → Shared → Prop), AOk D A → FR g env c ρ loc s.heap → HR g ρ H s.heap → 1 ≤ s.toks →
    (∀ vs H' cvs s' ρ', K vs H' → VRs ρ' vs cvs → cvs.length = es.length → Nx g ρ ρ' s s' → HR g ρ' H' s'.heap → 1 ≤ s'.toks → Q cvs s') →
    wpAny (model g.prog g.w) A (spliced (backTo pos (starEach es env))) Q E s
noncomputable abbrev AlOk (g : G) (D : Nat) (c : PC) (loc : Lc) (op : BoolOp) (es : List PySem.Expr) (H : AH) (K : Bool → AH → Prop) : Prop :=
  ∀ (env : Env) (ρ : List Addr) (s : Shared) (A : Around) (Q : Bool → Shared → Prop) (E : Value → Shared → Prop), AOk D A → FR g env c ρ loc s.heap → HR g ρ H s.heap → 1 ≤ s.toks →
    (∀ b H' s' ρ', K b H' → Nx g ρ ρ' s s' → HR g ρ' H' s'.heap → 1 ≤ s'.toks → Q b s') → wpAny (model g.prog g.w) A (allTrue op es env) Q E s

noncomputable abbrev AssOk (g : G) (D : Nat) (c : PC) (loc : Lc) (t : PySem.Expr) (v : AV) (H : AH) (K : Lc → AH → Prop) : Prop :=
  ∀ (env : Env) (ρ : List Addr) (s : Shared) (A : Around) (cv : Value) (Q : Unit → Shared → Prop) (E : Value → Shared → Prop), AOk D A → FR g env c ρ loc s.heap → HR g ρ H s.heap → 1 ≤ s.toks → VR ρ v cv →
    (∀ loc' H' s' ρ', K loc' H' → NxL g env.locals ρ ρ' s s' → FR g env c ρ' loc' s'.heap → HR g ρ' H' s'.heap → 1 ≤ s'.toks → Q () s') → wpAny (model g.prog g.w) A (assign t env cv) Q E s
noncomputable abbrev AszOk (g : G) (D : Nat) (c : PC) (loc : Lc) (ts : List PySem.Expr) (vs : List AV) (H : AH) (K : Lc → AH → Prop) : Prop :=
  ∀ (env : Env) (ρ : List Addr) (s : Shared) (A : Around) (cvs : List Value) (Q : Unit → Shared → Prop) (E : Value → Shared → Prop), AOk D A → FR g env c ρ loc s.heap → HR g ρ H s.heap → 1 ≤ s.toks → VRs ρ vs cvs →
    (∀ loc' H' s' ρ', K loc' H' → NxL g env.locals ρ ρ' s s' → FR g env c ρ' loc' s'.heap → HR g ρ' H' s'.heap → 1 ≤ s'.toks → Q () s') → wpAny (model g.prog g.w) A (assignInOrder ((assignEach ts env).map (·.2)) cvs) Q E s
noncomputable abbrev PaOk (g : G) (D : Nat) (c : PC) (loc : Lc) (e : Option PySem.Expr) (H : AH) (K : Kv) : Prop :=
  ∀ (env : Env) (ρ : List Addr) (s : Shared) (A : Around) (Q E : Value → Shared → Prop), AOk D A → FR g env c ρ loc s.heap → HR g ρ H s.heap → 1 ≤ s.toks → PostV g ρ s K Q → wpAny (model g.prog g.w) A (evalPart e env) Q E s

structure Sound (g : G) (d : Nat) (c : PC) (n : Nat) : Prop where
  e : ∀ loc e H K, awe n c loc e H K → EvOk g d c loc e H K
  l : ∀ loc es H K, awl n c loc es H K → ElsOk g d c loc es H K
  p : ∀ loc e H K, awp n c loc e H K → PaOk g d c loc e H K
  t : ∀ loc e H K, awt n c loc e H K → TrOk g d c loc e H K
  b : ∀ loc op es H K, awb n c loc op es H K → AlOk g d c loc op es H K
  a : ∀ loc t v H K, awa n c loc t v H K → AssOk g d c loc t v H K
  z : ∀ loc ts vs H K, awz n c loc ts vs H K → AszOk g d c loc ts vs H K
  s : ∀ loc ss H K, aws n c loc ss H K → ExsOk g d c loc ss H K
  s1 : ∀ loc st H K, aw1 n c loc st H K → ExOk g d c loc st H K

theorem PostV.nx {ρ ρ' : List Addr} {s s' : Shared} {K : Kv} {Q : Value → Shared → Prop} (h : PostV g ρ s K Q) (N : Nx g ρ ρ' s s') : PostV g ρ' s' K Q :=
  fun v H' cv s₂ ρ₂ k r N₂ D T => h v H' cv s₂ ρ₂ k r (N.trans N₂) D T

theorem backTo_any {pos : Pos} {l : List (Bool × Sem Value)} (h : l.any (·.1) = false) : (backTo pos l).any (·.1) = false := by
  unfold backTo
  rw [List.any_map]
  exact h

theorem noStar_any {env : Env} : ∀ {es : List PySem.Expr}, noStar es = true → (starEach es env).any (·.1) = false
  | [], _ => rfl
  | e :: es, h => by
    have h2 : noStar es = true := by cases e <;> first | exact h | cases h
    have h3 : starEach (e :: es) env = (false, eval e env) :: starEach es env := by cases e <;> first | rfl | cases h
    rw [h3, List.any_cons, noStar_any h2]; rfl

theorem call_sound {d : Nat} {c : PC} (C : COk g d c) {f : AV} {args : List PySem.Expr} {H : AH} {K : Kv} {loc : Lc} {pos : Pos}
    (hst : noStar args = true) (hl : ElsOk g d c loc args H fun vs H => match isCallee c f H with | true => c.sp f vs H K | false => False) {env : Env} {ρ : List Addr} {s : Shared} {A : Around} {Q E : Value → Shared → Prop} {cf : Value}
    (hA : AOk d A) (F : FR g env c ρ loc s.heap) (D : HR g ρ H s.heap) (hT : 1 ≤ s.toks) (rf : VR ρ f cf) (hQ : PostV g ρ s K Q) : wpAny (model g.prog g.w) A (callWith pos cf [] (backTo pos (starEach args env)) []) Q E s := by
  have hl' := hl env ρ s A pos (fun cvs s' => wpAny (model g.prog g.w) A (keeperOf cf) (fun _ s₂ => wpAny (model g.prog g.w) A (call cf ([] ++ cvs) []) Q E s₂) E s') E hA F D hT ?_
  · exact callWith_gen (backTo_any (noStar_any hst)) (evalArgs_gen (backTo_any (noStar_any hst)) hl')
  · intro vs H' cvs s' ρ' k r _ N D' T'
    have rf' := rf.mono N.pre
    have fin : wpAny (model g.prog g.w) A (call cf ([] ++ cvs) []) Q E s' := by
      cases q : isCallee c f H' with
      | false => rw [q] at k; exact k.elim
      | true => rw [q] at k; exact C.sp _ _ _ _ k ρ' s' cf cvs A Q E hA D' T' rf' r (hQ.nx N)
    cases q : isCallee c f H' with
    | false => rw [q] at k; exact k.elim
    | true =>
      rw [q] at k
      unfold isCallee at q
      split at q
      · cases rf'; exact keeper_builtin fin
      · cases rf'; exact keeper_type fin
      · rename_i a
        cases rf'
        obtain ⟨o, fd, e1, e2⟩ := C.kf _ a D'.base q
        exact keeper_func e1 e2 fin
      · rename_i n
        obtain ⟨a, e1, rfl⟩ := rf'
        split at q
        · rename_i cells kk hn
          obtain ⟨a', ob, e2, e3, e4⟩ := D'.obj n _ hn
          rw [e1] at e2; cases e2
          obtain ⟨fd, e5, _⟩ := e4
          exact keeper_func e3 e5 fin
        · cases q
      · cases q
end Py

end
section
open PySem PySem.W PyProof.Rows
set_option maxRecDepth 10000
set_option autoImplicit false
set_option linter.unusedVariables false
namespace Py
section
variable {prog : Program} {w : World} {A : Around} {s : Shared}

theorem wp_stop {α : Type} {M : Model} {Q : α → Shared → Prop} {E : Value → Shared → Prop} (hh : A.handled = none)
    (h : ∀ h' e ob, (∀ b o, s.heap.get? b = some o → h'.get? b = some o) → h'.get? e = some ob → ob.cls = .type "StopIteration" → E (.ref e) { s with heap := h' }) :
    wpAny M A (Builtin.SmallTypes.stopIteration : Sem α) Q E s := by
  unfold Builtin.SmallTypes.stopIteration
  refine wpAny_bind ?_
  simp only [newExc, newTuple]
  refine wpAny_bind (wpAny_newObj_type ?_ (by size_fits))
  refine wpAny_bind (m := firstArgMember _ _) (wpAny_of_eq (a := Value.none) (by first | rfl | (simp only [firstArgMember]; rfl)) ?_)
  refine wpAny_newObj_type ?_ (by size_fits)
  simp only [raiseNew]
  refine wpAny_bind (wpAny_handled ?_)
  rw [hh]
  refine wpAny_bind (wpAny_pure (wpAny_throw ?_))
  exact h _ _ _ (fun b o e => Heap.get?_push_of_some _ (Heap.get?_push_of_some _ e)) (Heap.get?_push_size _ rfl) rfl

theorem pyNext_end {it : Value} {T id : String} {B : Builtin} {P : Heap → Prop} {Q : Option Value → Shared → Prop} {E : Value → Shared → Prop} (hT : s.TypeIs it T) (slot : Slot T "__next__" id)
    (entry : entryFor table id = some B) (args : argsOk id ⟨[it], []⟩)
    (hb : ∀ E' : Value → Shared → Prop, (∀ h' e ob, P h' → h'.get? e = some ob → ob.cls = .type "StopIteration" → E' (.ref e) { s with heap := h' }) → wpAny (model prog w) A.in1 (B ⟨[it], []⟩) (fun _ _ => False) E' s)
    (hQ : ∀ h', P h' → Q none { s with heap := h' }) : wpAny (model prog w) A (pyNext it) Q E s := by
  unfold pyNext
  refine wpAny_bind (wpAny_attempt (wpAny_callSpecial?_slot (name := Str.ofString "__next__") hT slot (wpAny_call_entry slot hT entry ?_ args)))
  refine wpAny_mono (hb _ fun h' e ob hP ho hc => ?_) (fun _ _ x => x.elim) fun _ _ x => x
  refine wpAny_bind (wpAny_isInstance (T := "StopIteration") (b := true) ⟨_, ho, hc⟩ isSubtype_stop ?_)
  exact wpAny_pure (hQ _ hP)

theorem next_end_list {it l : Addr} {o ol : Obj} {i k : Nat} {items : Array Value} {Q : Option Value → Shared → Prop} {E : Value → Shared → Prop} (hh : A.handled = none) (ho : s.heap.get? it = some o)
    (hc : o.cls = .type "list_iterator") (hd : o.data = .fields #[.ref l, .int i 0]) (hol : s.heap.get? l = some ol) (hdl : ol.data = .seq items k) (hx : items[i]? = none)
    (hQ : ∀ h' o', h'.get? it = some o' → Heap.ExtBut it s.heap h' → Q none { s with heap := h' }) : wpAny (model prog w) A (pyNext (.ref it)) Q E s := by
  refine pyNext_end (P := fun h' => (∃ o', h'.get? it = some o') ∧ Heap.ExtBut it s.heap h') ⟨o, ho, hc⟩ slot_listiter_next entry_listiter_next (args_listiter_next _) (fun E' hE => ?_) fun h' hp => hQ h' _ hp.1.choose_spec hp.2
  show wpAny _ _ (field (.ref it) 0 >>= _) _ _ s
  refine wpAny_bind (wpAny_field ho hd (x := .ref l) rfl ?_)
  show wpAny _ _ (if (Value.ref l == Value.none) = true then _ else _) _ _ s
  rw [if_neg (show ¬ ((Value.ref l == Value.none) = true) from Bool.false_ne_true)]
  show wpAny _ _ (field (.ref it) 1 >>= _) _ _ s
  refine wpAny_bind (wpAny_field ho hd (x := .int i 0) rfl ?_)
  show wpAny _ _ (seqItems? (.ref l) >>= _) _ _ s
  refine wpAny_bind (wpAny_seqItems hol hdl ?_)
  simp only [Int.toNat_natCast, hx]
  refine wpAny_bind (wpAny_rule (wpAny_bind (wpAny_setField ho hd (by simp) ?_)))
  refine wp_stop hh fun h' e ob hk he hc' => hE h' e ob ⟨⟨_, hk _ _ (Heap.get?_update_self _ ho (Obj.isFreed_of_fields (Obj.data_mapFields hd _)))⟩, fun b o hb e => hk _ _ (Heap.SameBut.extBut (Heap.SameBut.update ..) b o hb e)⟩ he hc'
theorem next_end_tuple {it l : Addr} {o ol : Obj} {i k : Nat} {items : Array Value} {Q : Option Value → Shared → Prop} {E : Value → Shared → Prop} (hh : A.handled = none) (ho : s.heap.get? it = some o)
    (hc : o.cls = .type "tuple_iterator") (hd : o.data = .fields #[.ref l, .int i 0]) (hol : s.heap.get? l = some ol) (hdl : ol.data = .seq items k) (hx : items[i]? = none)
    (hQ : ∀ h' o', h'.get? it = some o' → Heap.ExtBut it s.heap h' → Q none { s with heap := h' }) : wpAny (model prog w) A (pyNext (.ref it)) Q E s := by
  refine pyNext_end (P := fun h' => (∃ o', h'.get? it = some o') ∧ Heap.ExtBut it s.heap h') ⟨o, ho, hc⟩ F.slot_tuple_iterator_next F.entry_tuple_iterator_next (F.args_tuple_iterator_next_1 _) (fun E' hE => ?_) fun h' hp => hQ h' _ hp.1.choose_spec hp.2
  show wpAny _ _ (field (.ref it) 0 >>= _) _ _ s
  refine wpAny_bind (wpAny_field ho hd (x := .ref l) rfl ?_)
  show wpAny _ _ (if (Value.ref l == Value.none) = true then _ else _) _ _ s
  rw [if_neg (show ¬ ((Value.ref l == Value.none) = true) from Bool.false_ne_true)]
  show wpAny _ _ (field (.ref it) 1 >>= _) _ _ s
  refine wpAny_bind (wpAny_field ho hd (x := .int i 0) rfl ?_)
  show wpAny _ _ (seqItems? (.ref l) >>= _) _ _ s
  refine wpAny_bind (wpAny_seqItems hol hdl ?_)
  simp only [Int.toNat_natCast, hx]
  refine wpAny_bind (wpAny_rule (wpAny_bind (wpAny_setField ho hd (by simp) ?_)))
  refine wp_stop hh fun h' e ob hk he hc' => hE h' e ob ⟨⟨_, hk _ _ (Heap.get?_update_self _ ho (Obj.isFreed_of_fields (Obj.data_mapFields hd _)))⟩, fun b o hb e => hk _ _ (Heap.SameBut.extBut (Heap.SameBut.update ..) b o hb e)⟩ he hc'
theorem next_end_range {it : Addr} {x left step : Int} {Q : Option Value → Shared → Prop} {E : Value → Shared → Prop} (hh : A.handled = none) (ho : IsRangeIter s.heap it x left step) (hl : left ≤ 0)
    (hQ : ∀ h' o', h'.get? it = some o' → Heap.ExtBut it s.heap h' → Q none { s with heap := h' }) : wpAny (model prog w) A (pyNext (.ref it)) Q E s := by
  refine pyNext_end (P := fun h' => (∃ o', h'.get? it = some o') ∧ Heap.ExtBut it s.heap h') ⟨_, ho, rfl⟩ F.slot_range_iterator_next F.entry_range_iterator_next (F.args_range_iterator_next_1 _) (fun E' hE => ?_) fun h' hp => hQ h' _ hp.1.choose_spec hp.2
  show wpAny _ _ (field (.ref it) 0 >>= _) _ _ s
  refine wpAny_bind (wpAny_field ho rfl (x := rawInt x) rfl ?_)
  show wpAny _ _ (field (.ref it) 1 >>= _) _ _ s
  refine wpAny_bind (wpAny_field ho rfl (x := rawInt left) rfl ?_)
  show wpAny _ _ (field (.ref it) 2 >>= _) _ _ s
  refine wpAny_bind (wpAny_field ho rfl (x := rawInt step) rfl ?_)
  show wpAny _ _ (if left ≤ 0 then _ else _) _ _ s
  rw [if_pos hl]
  refine wpAny_bind (wpAny_rule (wpAny_bind ?_))
  refine wp_stop hh fun h' e ob hk he hc' => hE h' e ob ⟨⟨_, hk _ _ ho⟩, fun b o hb e => hk _ _ e⟩ he hc'
theorem next_end_rev {it l : Addr} {o : Obj} {Q : Option Value → Shared → Prop} {E : Value → Shared → Prop} (hh : A.handled = none) (ho : s.heap.get? it = some o)
    (hc : o.cls = .type "list_reverseiterator") (hd : o.data = .fields #[.ref l, rawInt (-1)])
    (hQ : ∀ h' o', h'.get? it = some o' → Heap.ExtBut it s.heap h' → Q none { s with heap := h' }) : wpAny (model prog w) A (pyNext (.ref it)) Q E s := by
  refine pyNext_end (P := fun h' => (∃ o', h'.get? it = some o') ∧ Heap.ExtBut it s.heap h') ⟨o, ho, hc⟩ F.slot_lri_next F.entry_lri_next (F.args_lri_next_1 _) (fun E' hE => ?_) fun h' hp => hQ h' _ hp.1.choose_spec hp.2
  unfold Builtin.«list_reverseiterator.__next__»
  refine wpAny_bind (wpAny_of_eq (a := (Value.ref it, [])) rfl ?_)
  dsimp only
  refine wpAny_bind (wpAny_field ho hd (x := rawInt (-1)) rfl ?_)
  show wpAny _ _ (if (-1 : Int) < 0 then _ else _) _ _ s
  rw [if_pos (by decide)]
  refine wpAny_bind (wpAny_rule (wpAny_bind ?_))
  refine wp_stop hh fun h' e ob hk he hc' => hE h' e ob ⟨⟨_, hk _ _ ho⟩, fun b o hb e => hk _ _ e⟩ he hc'
end
end Py

end
section
open PySem PySem.W PyProof.Rows
set_option maxRecDepth 10000
set_option autoImplicit false
set_option linter.unusedVariables false
namespace Py
variable {g : G}

theorem iterW_sound {v : AV} {H : AH} {K : Nat → AH → Prop} (h : iterW v H K) {ρ : List Addr} {s : Shared} {cv : Value} {A : Around} {Q E : Value → Shared → Prop}
    (D : HR g ρ H s.heap) (hT : 1 ≤ s.toks) (r : VR ρ v cv) (hQ : ∀ m H' a s' ρ', K m H' → ρ'[m]? = some a → Nx g ρ ρ' s s' → HR g ρ' H' s'.heap → 1 ≤ s'.toks → Q (.ref a) s') : wpAny (model g.prog g.w) A (pyIter cv) Q E s := by
  unfold iterW at h
  split at h
  · rename_i n
    split at h
    · rename_i xs hn
      obtain ⟨a, vs, k, rfl, e1, e2, e3⟩ := D.lst hn r
      refine wpAny_pyIter_list (items := vs) ⟨_, e2, rfl, k, rfl⟩ ?_
      refine hQ _ _ _ _ _ h (get_last D _) (Nx.push (t := s.toks) D) (D.push rfl ⟨a, ?_, rfl, rfl⟩) hT
      exact prefix_get (List.prefix_append _ _) e1
    · rename_i xs hn
      obtain ⟨a, vs, k, rfl, e1, e2, e3⟩ := D.tup hn r
      refine wpAny_pyIter_tuple (items := vs) ⟨_, e2, rfl, k, rfl⟩ ?_
      refine hQ _ _ _ _ _ h (get_last D _) (Nx.push (t := s.toks) D) (D.push rfl ⟨a, ?_, rfl, rfl⟩) hT
      exact prefix_get (List.prefix_append _ _) e1
    · rename_i a b c hn
      obtain ⟨ad, e, rfl⟩ := r
      obtain ⟨a', ob, e1, e2, t1, t2, t3, rfl⟩ := D.obj n _ hn
      rw [e] at e1; cases e1
      split at h
      · rename_i hs
        refine wpAny_pyIter_range e2 hs ?_
        exact hQ _ _ _ _ _ h (get_last D _) (Nx.push (t := s.toks) D) (D.push rfl rfl) hT
      · exact h.elim
    · rename_i n' i hn
      obtain ⟨ad, e, rfl⟩ := r
      obtain ⟨a', ob, e1, e2, l, e3, e4, e5⟩ := D.obj n _ hn
      rw [e] at e1; cases e1
      exact wpAny_pyIter_revIter (l := l) ⟨ob, e2, e4, e5⟩ (hQ _ _ _ _ _ h e (Nx.refl _ _) D hT)
    · rename_i m i hn
      obtain ⟨ad, e, rfl⟩ := r
      obtain ⟨a', ob, e1, e2, it, x, old, e3, rfl, rfl⟩ := D.obj n _ hn
      rw [e] at e1; cases e1
      exact wpAny_pyIter_enum e2 (hQ _ _ _ _ _ h e (Nx.refl _ _) D hT)
    · rename_i n' i hn
      obtain ⟨ad, e, rfl⟩ := r
      obtain ⟨a', ob, e1, e2, l, e3, e4, e5⟩ := D.obj n _ hn
      rw [e] at e1; cases e1
      exact wpAny_pyIter_listiter (l := l) (i := i) ⟨ob, e2, e4, e5⟩ (hQ _ _ _ _ _ h e (Nx.refl _ _) D hT)
    · rename_i n' i hn
      obtain ⟨ad, e, rfl⟩ := r
      obtain ⟨a', ob, e1, e2, l, e3, e4, e5⟩ := D.obj n _ hn
      rw [e] at e1; cases e1
      exact wpAny_pyIter_tupleiter (t := l) (i := i) ⟨ob, e2, e4, e5⟩ (hQ _ _ _ _ _ h e (Nx.refl _ _) D hT)
    · rename_i x left step hn
      obtain ⟨ad, e, rfl⟩ := r
      obtain ⟨a', ob, e1, e2, e3⟩ := D.obj n _ hn
      rw [e] at e1; cases e1
      subst e3
      exact wpAny_pyIter_rangeiter (x := x) (left := left) (step := step) e2 (hQ _ _ _ _ _ h e (Nx.refl _ _) D hT)
    · exact h.elim
  · exact h.elim

theorem nextW_sound {m : Nat} {H : AH} {K : Option AV → AH → Prop} (h : nextW m H K) {ρ : List Addr} {s : Shared} {a : Addr} {A : Around} {Q : Option Value → Shared → Prop} {E : Value → Shared → Prop}
    (hA : A.handled = none) (D : HR g ρ H s.heap) (hT : 1 ≤ s.toks) (hm : ρ[m]? = some a)
    (hQ0 : ∀ H' s', K none H' → Nx g ρ ρ s s' → HR g ρ H' s'.heap → 1 ≤ s'.toks → Q none s')
    (hQ1 : ∀ v H' cv s', K (some v) H' → VR ρ v cv → Nx g ρ ρ s s' → HR g ρ H' s'.heap → 1 ≤ s'.toks → (∀ o, s'.heap.get? a = some o → (∃ T, o.cls = .type T ∧ T ≠ "enumerate" ∧ ["enumerate", "zip", "dict_itemiterator", "dict_reverseitemiterator", "odict_iterator", "itertools.zip_longest", "itertools.pairwise"].contains T = false)) → Q (some cv) s') :
    wpAny (model g.prog g.w) A (pyNext (.ref a)) Q E s := by
  have ham : a ∈ ρ := List.mem_of_getElem? hm
  unfold nextW at h
  split at h
  · rename_i n i hmm
    obtain ⟨a', ob, e1, e2, l, e3, e4, e5⟩ := D.obj m _ hmm
    rw [hm] at e1; cases e1
    split at h
    · rename_i xs hn
      obtain ⟨l', vs, k, e6, e7, e8, e9⟩ := D.lst hn ⟨l, e3, rfl⟩
      cases e6
      split at h
      · rename_i x hx
        obtain ⟨cv, e10, e11⟩ := e9.getA hx
        refine wpAny_pyNext_list_item (l := l) (i := i) (items := vs) ⟨ob, e2, e4, e5⟩ ⟨_, e8, rfl, k, rfl⟩ e10 fun h' hit hs => ?_
        obtain ⟨ob', f1, f2, f3⟩ := hit
        refine hQ1 _ _ _ _ h e11 (Nx.put (t := s.toks) D ham hs ⟨_, f1⟩) (D.put hm hs f1 ⟨l, e3, f2, f3⟩) hT fun o ho => ⟨"list_iterator", ?_, by decide, by decide⟩
        have ho : h'.get? a = some o := ho
        rw [f1] at ho; cases ho; exact f2
      · rename_i hx
        refine next_end_list (i := i) hA e2 e4 e5 e8 rfl (e9.noneA hx) fun h' o' ho' hs => ?_
        exact hQ0 _ _ h (Nx.putE (t := s.toks) D ham hs ⟨_, ho'⟩) (D.putE hm hs ho' trivial) hT
    · exact h.elim
  · rename_i n i hmm
    obtain ⟨a', ob, e1, e2, l, e3, e4, e5⟩ := D.obj m _ hmm
    rw [hm] at e1; cases e1
    split at h
    · rename_i xs hn
      obtain ⟨l', vs, k, e6, e7, e8, e9⟩ := D.tup hn ⟨l, e3, rfl⟩
      cases e6
      split at h
      · rename_i x hx
        obtain ⟨cv, e10, e11⟩ := e9.getA hx
        refine wpAny_pyNext_tuple_item (t := l) (i := i) (items := vs) ⟨ob, e2, e4, e5⟩ ⟨_, e8, rfl, k, rfl⟩ e10 fun h' hit hs => ?_
        obtain ⟨ob', f1, f2, f3⟩ := hit
        refine hQ1 _ _ _ _ h e11 (Nx.put (t := s.toks) D ham hs ⟨_, f1⟩) (D.put hm hs f1 ⟨l, e3, f2, f3⟩) hT fun o ho => ⟨"tuple_iterator", ?_, by decide, by decide⟩
        have ho : h'.get? a = some o := ho
        rw [f1] at ho; cases ho; exact f2
      · rename_i hx
        refine next_end_tuple (i := i) hA e2 e4 e5 e8 rfl (e9.noneA hx) fun h' o' ho' hs => ?_
        exact hQ0 _ _ h (Nx.putE (t := s.toks) D ham hs ⟨_, ho'⟩) (D.putE hm hs ho' trivial) hT
    · exact h.elim
  · rename_i x left step hmm
    obtain ⟨a', ob, e1, e2, e3⟩ := D.obj m _ hmm
    rw [hm] at e1; cases e1
    subst e3
    split at h
    · rename_i hl
      refine wpAny_pyNext_range_item (x := x) (left := left) (step := step) e2 (of_decide_eq_true hl) fun h' hit hs => ?_
      refine hQ1 _ _ _ _ h ⟨_, rfl⟩ (Nx.put D ham hs ⟨_, hit⟩) (D.put hm hs hit rfl) (Nat.le_succ_of_le hT) fun o ho => ⟨"range_iterator", ?_, by decide, by decide⟩
      have ho : h'.get? a = some o := ho
      rw [show h'.get? a = _ from hit] at ho; cases ho; rfl
    · rename_i hl
      refine next_end_range hA e2 (by have := of_decide_eq_false hl; omega) fun h' o' ho' hs => ?_
      exact hQ0 _ _ h (Nx.putE (t := s.toks) D ham hs ⟨_, ho'⟩) (D.putE hm hs ho' trivial) hT
  · rename_i n i hmm
    obtain ⟨a', ob, e1, e2, l, e3, e4, e5⟩ := D.obj m _ hmm
    rw [hm] at e1; cases e1
    split at h
    · rename_i xs hn
      obtain ⟨l', vs, k, e6, e7, e8, e9⟩ := D.lst hn ⟨l, e3, rfl⟩
      cases e6
      split at h
      · refine next_end_rev hA e2 e4 e5 fun h' o' ho' hs => ?_
        exact hQ0 _ _ h (Nx.putE (t := s.toks) D ham hs ⟨_, ho'⟩) (D.putE hm hs ho' trivial) hT
      · rename_i i
        split at h
        · rename_i x hx
          obtain ⟨cv, e10, e11⟩ := e9.getA hx
          refine wpAny_pyNext_rev_item (l := l) (i := i) (items := vs) ⟨ob, e2, e4, by rw [e5]; simp⟩ ⟨_, e8, rfl, k, rfl⟩ e10 fun h' hit hs => ?_
          obtain ⟨ob', f1, f2, f3⟩ := hit
          refine hQ1 _ _ _ _ h e11 (Nx.put (t := s.toks) D ham hs ⟨_, f1⟩) (D.put hm hs f1 ⟨l, e3, f2, f3⟩) hT fun o ho => ⟨"list_reverseiterator", ?_, by decide, by decide⟩
          have ho : h'.get? a = some o := ho
          rw [f1] at ho; cases ho; exact f2
        · exact h.elim
    · exact h.elim
  · exact h.elim

theorem sub_tail {value slice : PySem.Expr} {o i : Value} {T id : String} {A : Around} {s : Shared} {Q E : Value → Shared → Prop} {prog : Program} {w : World} (hT : s.TypeIs o T)
    (hl : typeLookup (.type T) "__getitem__" = pure (some (.builtin id))) (h : wpAny (model prog w) A (getItem o i) Q E s) : wpAny (model prog w) A (subscriptTail value slice o i) Q E s := by
  unfold subscriptTail
  refine wpAny_bind ?_
  rw [getitemInPython_of_ne hT.not_modules]
  refine wpAny_bind (wpAny_specialOf hT hl ?_)
  have fin : wpAny (model prog w) A (subscripted slice false o i) (fun r s₃ => wpAny (model prog w) A (letTemporaryGo value o r >>= fun _ => pure r) Q E s₃) E s := by
    have hs : ∃ ops, subscripted slice false o i = operate ops (getItem o i) := by
      cases slice with
      | Slice l u st p => cases st <;> exact ⟨_, rfl⟩
      | _ => exact ⟨_, rfl⟩
    obtain ⟨ops, hs⟩ := hs
    rw [hs]
    exact wpAny_operating (wpAny_mono h (fun r s₃ h₃ => wpAny_bind (wpAny_letTemporaryGo (wpAny_pure h₃))) fun _ _ x => x)
  first
    | exact wpAny_pure (wpAny_bind fin)
    | exact wpAny_bind (wpAny_pure (wpAny_bind fin))
    | exact wpAny_bind fin

theorem getW_sound {o i : AV} {H : AH} {K : Kv} (h : getW o i H K) {value slice : PySem.Expr} {ρ : List Addr} {s : Shared} {co ci : Value} {A : Around} {Q E : Value → Shared → Prop}
    (D : HR g ρ H s.heap) (hT : 1 ≤ s.toks) (ro : VR ρ o co) (ri : VR ρ i ci) (hQ : PostV g ρ s K Q) : wpAny (model g.prog g.w) A (subscriptTail value slice co ci) Q E s := by
  unfold getW at h
  split at h
  · rename_i n k
    obtain ⟨t, rfl⟩ := ri
    split at h
    · rename_i xs hn
      obtain ⟨a, vs, z, rfl, e1, e2, e3⟩ := D.lst hn ro
      refine sub_tail (T := "list") ⟨_, e2, rfl⟩ list_getitem_lookup ?_
      split at h
      · rename_i h0 h1
        split at h
        · rename_i x hx
          obtain ⟨cv, f1, f2⟩ := e3.getA hx
          exact wpAny_getItem_list (items := vs) ⟨_, e2, rfl, z, rfl⟩ (of_decide_eq_true h0) (of_decide_eq_true h1) f1 (hQ _ _ _ _ _ h f2 (Nx.refl _ _) D hT)
        · exact h.elim
      · exact h.elim
    · rename_i xs hn
      obtain ⟨a, vs, z, rfl, e1, e2, e3⟩ := D.tup hn ro
      refine sub_tail (T := "tuple") ⟨_, e2, rfl⟩ PySem.F.slot_tuple_getitem.lookup ?_
      split at h
      · rename_i h0 h1
        split at h
        · rename_i x hx
          obtain ⟨cv, f1, f2⟩ := e3.getA hx
          have h0 := of_decide_eq_true h0
          have h1 := of_decide_eq_true h1
          obtain ⟨j, rfl⟩ := Int.eq_ofNat_of_zero_le h0
          have hj : j < vs.size := (Array.getElem?_eq_some_iff.mp f1).1
          exact getItem_tuple (items := vs) (j := j) ⟨_, e2, rfl, z, rfl⟩ (by omega) h1 (by unfold seqIndex?; simp; omega) (by simpa using f1) (hQ _ _ _ _ _ h f2 (Nx.refl _ _) D hT)
        · exact h.elim
      · exact h.elim
    · exact h.elim
  · rename_i x k
    obtain ⟨t, rfl⟩ := ro
    obtain ⟨u, rfl⟩ := ri
    obtain ⟨⟨h0, h1⟩, ch, hc, h⟩ := h
    refine sub_tail (T := "str") (typeIs_str _ _ _) PySem.F.slot_str_getitem.lookup ?_
    refine getItem_str (by simp; omega) hc ?_
    exact hQ _ _ _ _ _ h ⟨_, rfl⟩ Nx.toks D (Nat.le_succ_of_le hT)
  · exact h.elim

theorem getS_sound {o i : AV} {H : AH} {K : Kv} (h : getS o i H K) {value slice : PySem.Expr} {ρ : List Addr} {s : Shared} {co ci : Value} {A : Around} {Q E : Value → Shared → Prop}
    (D : HR g ρ H s.heap) (hT : 1 ≤ s.toks) (ro : VR ρ o co) (ri : VR ρ i ci) (hQ : PostV g ρ s K Q) : wpAny (model g.prog g.w) A (subscriptTail value slice co ci) Q E s := by
  unfold getS at h
  split at h
  · rename_i n k
    obtain ⟨t, rfl⟩ := ri
    split at h
    · rename_i xs hn
      obtain ⟨a, vs, z, rfl, e1, e2, e3⟩ := D.lst hn ro
      obtain ⟨⟨h0, h1⟩, x, hx, h⟩ := h
      obtain ⟨cv, f1, f2⟩ := e3.getA hx
      exact sub_tail (T := "list") ⟨_, e2, rfl⟩ list_getitem_lookup (wpAny_getItem_list (items := vs) ⟨_, e2, rfl, z, rfl⟩ h0 h1 f1 (hQ _ _ _ _ _ h f2 (Nx.refl _ _) D hT))
    · exact h.elim
  · exact h.elim

theorem partW_sound {ρ : List Addr} {v : AV} {c : Value} {p : Option Int} (h : partW v = some p) (r : VR ρ v c) : ∃ q : Option (Int × Tok), partValue q = c ∧ q.map (·.1) = p := by
  unfold partW at h
  split at h
  · cases h; cases r; exact ⟨none, rfl, rfl⟩
  · cases h; obtain ⟨t, rfl⟩ := r; exact ⟨some (_, t), rfl, rfl⟩
  · cases h
theorem isPart_of {ρ : List Addr} {v : AV} {c : Value} {p : Option Int} (h : partW v = some p) (r : VR ρ v c) : IsPart c p := by
  unfold partW at h
  split at h
  · cases h; cases r; exact .none
  · cases h; obtain ⟨t, rfl⟩ := r; exact .int _ _
  · cases h
theorem VRs.picks {ρ : List Addr} {xs : List AV} {vs : Array Value} (r : VRs ρ xs vs.toList) : ∀ js : List Nat, VRs ρ (js.filterMap (xs[·]?)) (js.filterMap (vs[·]?))
  | [] => rfl
  | j :: js => by
    cases e : xs[j]? with
    | none =>
      rw [List.filterMap_cons_none e, List.filterMap_cons_none (r.noneA e)]
      exact r.picks js
    | some x =>
      obtain ⟨v, e1, e2⟩ := r.getA e
      rw [List.filterMap_cons_some e, List.filterMap_cons_some e1]
      exact ⟨v, _, rfl, e2, r.picks js⟩

theorem sliW_sound {o lo hi st : AV} {H : AH} {K : Kv} (h : sliW o lo hi st H K) {value slice : PySem.Expr} {ρ : List Addr} {s : Shared} {co cl ch ct : Value} {A : Around} {Q E : Value → Shared → Prop}
    (D : HR g ρ H s.heap) (hT : 1 ≤ s.toks) (ro : VR ρ o co) (rl : VR ρ lo cl) (rh : VR ρ hi ch) (rt : VR ρ st ct) (hQ : PostV g ρ s K Q) :
    wpAny (model g.prog g.w) A (subscriptTail value slice co (.ref s.heap.objs.size)) Q E { s with heap := s.heap.push { cls := .type "slice", data := .fields #[cl, ch, ct] } } := by
  have N1 : Nx g ρ ρ s { s with heap := s.heap.push { cls := .type "slice", data := .fields #[cl, ch, ct] }, toks := s.toks } := Nx.grow D fun b o e => Heap.get?_push_of_some _ e
  have D1 : HR g ρ H (s.heap.push { cls := .type "slice", data := .fields #[cl, ch, ct] }) := D.grow fun b o e => Heap.get?_push_of_some _ e
  unfold sliW at h
  split at h
  · rename_i x l u h1 h2 h3
    obtain ⟨t, rfl⟩ := ro
    obtain ⟨ql, rfl, rfl⟩ := partW_sound h1 rl
    obtain ⟨qh, rfl, rfl⟩ := partW_sound h2 rh
    obtain ⟨qt, rfl, hqt⟩ := partW_sound h3 rt
    have hqt : qt = none := by cases qt with
      | none => rfl
      | some q => cases hqt
    subst hqt
    refine sub_tail (T := "str") (typeIs_str _ _ _) PySem.F.slot_str_getitem.lookup ?_
    refine wpAny_getItem_str_slice (l := ql) (u := qh) (st := none) ⟨_, Heap.get?_push_size _ rfl, rfl, rfl⟩ rfl ?_
    have hle := Txt.slice_le x (ql.map (·.1)) (qh.map (·.1))
    have hsz : (1000000 : Nat) ≤ sizeLine := by decide
    unfold sliceMade
    have hk := h.2
    unfold Txt.slice at hk hle
    split
    · rename_i hc
      have hc' : ((1 : Int) == 1 && (Builtin.Str.strSliceIndices (ql.map (·.1)) (qh.map (·.1)) 1 x.length).length == x.length) = true := hc
      rw [if_pos hc'] at hk
      exact hQ _ _ _ _ _ hk ⟨_, rfl⟩ N1 D1 hT
    · rename_i hc
      have hc' : ¬ ((1 : Int) == 1 && (Builtin.Str.strSliceIndices (ql.map (·.1)) (qh.map (·.1)) 1 x.length).length == x.length) = true := hc
      rw [if_neg hc'] at hk hle
      exact ⟨Nat.le_trans hle (Nat.le_trans h.1 hsz), hQ _ _ _ _ _ hk ⟨_, rfl⟩ (N1.trans Nx.toks) D1 (Nat.le_succ_of_le hT)⟩
  · rename_i n l u st' h1 h2 h3
    split at h
    · rename_i xs hn
      obtain ⟨⟨h0, h4⟩, h⟩ := h
      obtain ⟨a, vs, z, rfl, e1, e2, e3⟩ := D1.lst hn ro
      have hsz : (1000000 : Nat) ≤ sizeLine := by decide
      refine sub_tail (T := "list") ⟨_, e2, rfl⟩ list_getitem_lookup ?_
      refine wpAny_getItem_list_slice (items := vs) ⟨_, e2, rfl, z, rfl⟩ (Heap.IsSliceOf.new ..) (isPart_of h1 rl) (isPart_of h2 rh) (isPart_of h3 rt) h4 ?_ (by rw [e3.sizeA]; exact Nat.le_trans h0 hsz)
      refine post_push (s := { s with heap := s.heap.push { cls := .type "slice", data := .fields #[cl, ch, ct] } }) (t := s.toks) (Q := Q) (fun v H' cv s' ρ' k r N D T => hQ v H' cv s' ρ' k r (N1.trans N) D T) D1 h rfl ⟨_, _, rfl, ?_⟩ hT
      unfold slicePick
      rw [e3.sizeA]
      exact (e3.picks _).mono (List.prefix_append _ _)
    · rename_i xs pp hn
      obtain ⟨⟨h0, h4⟩, h⟩ := h
      obtain ⟨a, vs, z, rfl, e1, e2, e3⟩ := D1.cst hn ro
      have hsz : (1000000 : Nat) ≤ sizeLine := by decide
      refine sub_tail (T := "list") ⟨_, e2, rfl⟩ list_getitem_lookup ?_
      refine wpAny_getItem_list_slice (items := vs) ⟨_, e2, rfl, z, rfl⟩ (Heap.IsSliceOf.new ..) (isPart_of h1 rl) (isPart_of h2 rh) (isPart_of h3 rt) h4 ?_ (by rw [e3.sizeA]; exact Nat.le_trans h0 hsz)
      refine post_push (s := { s with heap := s.heap.push { cls := .type "slice", data := .fields #[cl, ch, ct] } }) (t := s.toks) (Q := Q) (fun v H' cv s' ρ' k r N D T => hQ v H' cv s' ρ' k r (N1.trans N) D T) D1 h rfl ⟨_, _, rfl, ?_⟩ hT
      unfold slicePick
      rw [e3.sizeA]
      exact (e3.picks _).mono (List.prefix_append _ _)
    · exact h.elim
  · exact h.elim

theorem mapSeq_plain {xs : Array Value} {n : Nat} {f : Array Value → Array Value} : ∃ n', Obj.mapSeq f { cls := .type "list", data := .seq xs n } = { cls := .type "list", data := .seq (f xs) n' } := ⟨_, rfl⟩

theorem appW_sound {d : Nat} {v : AV} {H : AH} {K : AH → Prop} (h : appW d v H K) {ρ : List Addr} {s : Shared} {ad : Addr} {cv : Value} {A : Around} {Q E : Value → Shared → Prop}
    (D : HR g ρ H s.heap) (hT : 1 ≤ s.toks) (rd : ρ[d]? = some ad) (r : VR ρ v cv) (hQ : ∀ H' s', K H' → Nx g ρ ρ s s' → HR g ρ H' s'.heap → 1 ≤ s'.toks → Q .none s') : wpAny (model g.prog g.w) A (call (.builtin "list.append") [.ref ad, cv]) Q E s := by
  unfold appW at h
  split at h
  · rename_i xs hd
    obtain ⟨a, vs, z, e0, e1, e2, e3⟩ := D.lst hd ⟨ad, rd, rfl⟩
    cases e0
    have hsz : (1000000 : Nat) ≤ sizeLine := by decide
    refine wpAny_list_append_plain (items := vs) ⟨z, e2⟩ (fun h' hp hs => ?_) (by rw [e3.sizeA]; exact Nat.le_trans h.1 hsz)
    obtain ⟨z', hp⟩ := hp
    refine hQ _ _ h.2 (Nx.put (t := s.toks) D (List.mem_of_getElem? rd) hs ⟨_, hp⟩) (D.put rd hs hp ⟨_, _, rfl, ?_⟩) hT
    rw [Array.toList_push]
    exact e3.append ⟨cv, [], rfl, r, rfl⟩
  · exact h.elim

theorem unW_sound {op : UnaryOp} {a : AV} {H : AH} {K : Kv} (h : unW op a H K) {ρ : List Addr} {s : Shared} {ca : Value} {A : Around} {Q E : Value → Shared → Prop}
    (D : HR g ρ H s.heap) (hT : 1 ≤ s.toks) (ra : VR ρ a ca) (hQ : PostV g ρ s K Q) : wpAny (model g.prog g.w) A (unaryOp op ca) Q E s := by
  refine wpAny_with_toks hT ?_
  unfold unW at h
  split at h
  · obtain ⟨t, rfl⟩ := ra; exact P.neg_int (Q := Tk Q) (post_int hQ D h)
  · obtain ⟨t, rfl⟩ := ra; exact invert_int (Q := Tk Q) (post_int hQ D h)
  · exact h.elim
theorem inplW_sound {op : Operator} {a b : AV} {H : AH} {K : Kv} (h : inplW op a b H K) {ρ : List Addr} {s : Shared} {ca cb : Value} {A : Around} {Q E : Value → Shared → Prop}
    (D : HR g ρ H s.heap) (hT : 1 ≤ s.toks) (ra : VR ρ a ca) (rb : VR ρ b cb) (hQ : PostV g ρ s K Q) : wpAny (model g.prog g.w) A (inplaceOp op ca cb) Q E s := by
  refine wpAny_with_toks hT ?_
  unfold inplW at h
  split at h
  · obtain ⟨t, rfl⟩ := ra; obtain ⟨u, rfl⟩ := rb; exact P.iadd_int (Q := Tk Q) (post_int hQ D h)
  · obtain ⟨t, rfl⟩ := ra; obtain ⟨u, rfl⟩ := rb; exact P.isub_int (Q := Tk Q) (post_int hQ D h)
  · exact h.elim

theorem setW_sound {o i v : AV} {H : AH} {K : AH → Prop} (h : setW o i v H K) {ρ : List Addr} {s : Shared} {co ci cv : Value} {A : Around} {Q : Unit → Shared → Prop} {E : Value → Shared → Prop}
    (D : HR g ρ H s.heap) (hT : 1 ≤ s.toks) (ro : VR ρ o co) (ri : VR ρ i ci) (rv : VR ρ v cv) (hQ : ∀ H' s', K H' → Nx g ρ ρ s s' → HR g ρ H' s'.heap → 1 ≤ s'.toks → Q () s') : wpAny (model g.prog g.w) A (setItem co ci cv) Q E s := by
  unfold setW at h
  split at h
  · rename_i n k
    obtain ⟨t, rfl⟩ := ri
    split at h
    · rename_i xs hn
      obtain ⟨h0, h1, h2, h3⟩ := h
      obtain ⟨l, vs, z, rfl, e1, e2, e3⟩ := D.lst hn ro
      have hTl : s.TypeIs (.ref l) "list" := ⟨_, e2, rfl⟩
      have hfit := fitsIndex_of h0 h1
      clear h1
      unfold setItem
      refine wpAny_holding (wpAny_bind (wpAny_sequenceKey hTl (by decide) (wpAny_bind (wpAny_callSpecial?_slot (name := Str.ofString "__setitem__") hTl slot_list_setitem
        (wpAny_call_entry slot_list_setitem hTl entry_list_setitem ?_ (args_list_setitem _ _ _))))))
      show wpAny _ _ (Builtin.List.listSubscript? (.int k t) >>= _) _ _ s
      refine wpAny_bind (wpAny_listSubscript_int hfit ?_)
      clear hfit
      obtain ⟨j, rfl⟩ := Int.eq_ofNat_of_zero_le h0
      have hj : j < vs.size := by rw [e3.sizeA]; omega
      have hfin : (s.heap.update l (Obj.mapSeq (·.setIfInBounds j cv))).get? l = some (Obj.mapSeq (·.setIfInBounds j cv) { cls := .type "list", data := .seq vs z }) := Heap.get?_update_self _ e2 rfl
      have hend : Q () { s with heap := s.heap.update l (Obj.mapSeq (·.setIfInBounds j cv)) } := by
        refine hQ _ _ h3 (Nx.put (t := s.toks) D (List.mem_of_getElem? e1) (Heap.SameBut.update ..) ⟨_, hfin⟩) (D.put e1 (Heap.SameBut.update ..) hfin ⟨_, _, rfl, ?_⟩) hT
        have : (vs.setIfInBounds j cv).toList = vs.toList.set j cv := by simp
        rw [this]
        exact e3.set j rv
      show wpAny _ _ ((seqItemAt l j >>= fun r => pure (r.map (j, ·))) >>= _) _ _ s
      refine wpAny_bind (wpAny_bind (wpAny_seqItemAt e2 rfl (wpAny_pure ?_)))
      rw [Array.getElem?_eq_getElem hj]
      show wpAny _ _ (setSeqItemAt l j cv >>= _) _ _ s
      refine wpAny_bind (wpAny_setSeqItemAt e2 rfl ?_)
      first
        | exact wpAny_bind (wpAny_pure (wpAny_pure ⟨.none, rfl, wpAny_pure hend⟩))
        | exact wpAny_pure ⟨.none, rfl, wpAny_pure hend⟩
    · exact h.elim
  · exact h.elim

/-- what is said of a called method -/
theorem methW_sound {d : Nat} {sy : Bool} {c : PC} {loc : Lc} {name : Str} {o : AV} {es : List PySem.Expr} {H₀ : AH} {K : Kv} {pos : Pos}
    (hst : noStar es = true) (hok : methOk name o H₀ = true) (hl : ElsOk g d c loc es H₀ fun vs H => methW sy name o vs H K) {env : Env} {ρ : List Addr} {s : Shared} {co : Value} {A : Around} {Q E : Value → Shared → Prop}
    (hA : AOk d A) (F : FR g env c ρ loc s.heap) (D : HR g ρ H₀ s.heap) (hT : 1 ≤ s.toks) (ro : VR ρ o co)
    (hQ : PostV g ρ s K Q) : MethodOn g.prog g.w A name pos co (backTo pos (starEach es env)) Q E s := by
  have args : ∀ id : String, (∀ cvs s' ρ' vs H', methW sy name o vs H' K → VRs ρ' vs cvs → Nx g ρ ρ' s s' → HR g ρ' H' s'.heap → 1 ≤ s'.toks → wpAny (model g.prog g.w) A (call (.builtin id) (co :: cvs)) Q E s') →
      wpAny (model g.prog g.w) A (callWith pos (.builtin id) [co] (backTo pos (starEach es env)) []) Q E s := by
    intro id h
    refine callWith_gen (backTo_any (noStar_any hst)) (evalArgs_gen (backTo_any (noStar_any hst)) ?_)
    refine hl env ρ s A pos _ E hA F D hT fun vs H' cvs s' ρ' k r _ N D' T' => ?_
    exact keeper_builtin (h cvs s' ρ' vs H' k r N D' T')
  unfold methOk at hok
  split at hok
  · rename_i n
    split at hok
    · rename_i xs₀ hn₀
      obtain ⟨l, vs₀, z₀, rfl, e1, e2, e3⟩ := D.lst hn₀ ro
      have hTy : s.TypeIs (.ref l) "list" := ⟨_, e2, rfl⟩
      have hdn : ∀ a, Value.ref l = .ref a → ∃ ob, s.heap.get? a = some ob ∧ ob.dict = none := fun a ha => by cases ha; exact ⟨_, e2, rfl⟩
      have hname : name = "append" ∨ name = "reverse" ∨ name = "index" := by simpa [or_assoc] using hok
      have hbig : (1000000 : Nat) ≤ sizeLine := by decide
      rcases hname with rfl | rfl | rfl
      · refine ⟨"list", "list.append", PySem.F.plainAttrs_list, PySem.F.slot_list_append, PySem.F.type_list_append, hTy, hdn, args _ fun cvs s' ρ' vs H' k r N D' T' => ?_⟩
        unfold methW at k
        dsimp only at k
        split at k
        · rename_i xs hn
          obtain ⟨l', ws, z, e0, f1, f2, f3⟩ := D'.lst hn (ro.mono N.pre)
          cases e0
          rw [if_pos rfl] at k
          split at k
          · rename_i v
            obtain ⟨cv, q, rfl, p1, p2⟩ := r
            cases p2
            have k : xs.length ≤ 1000000 ∧ K .none (H'.set n (.lst (xs ++ [v]))) := by
              cases sy with
              | true => exact k
              | false =>
                dsimp only at k
                split at k
                · rename_i hsz; exact ⟨Nat.le_of_ble_eq_true hsz, k⟩
                · exact k.elim
            refine appW_sound (d := n) (v := v) (K := fun H => K .none H) ?_ D' T' f1 p1 fun H'' s'' k'' N'' D'' T'' => hQ _ _ _ _ _ k'' rfl (N.trans N'') D'' T''
            unfold appW
            rw [hn]
            exact k
          · exact k.elim
        · exact k.elim
      · refine ⟨"list", "list.reverse", PySem.F.plainAttrs_list, PySem.F.slot_list_reverse, PySem.F.type_list_reverse, hTy, hdn, args _ fun cvs s' ρ' vs H' k r N D' T' => ?_⟩
        unfold methW at k
        dsimp only at k
        split at k
        · rename_i xs hn
          obtain ⟨l', ws, z, e0, f1, f2, f3⟩ := D'.lst hn (ro.mono N.pre)
          cases e0
          rw [if_neg (by decide), if_pos rfl] at k
          split at k
          · cases r
            refine call_meets PySem.F.slot_list_reverse ⟨_, f2, rfl⟩ PySem.F.entry_list_reverse (PySem.F.args_list_reverse_1 _) (AutoSeq1.list_reverse_list_0 l ws z ?_) ⟨f2, ?_⟩
            · rw [f3.sizeA]; exact Nat.le_trans k.1 hbig
            · have hfin : (s'.heap.update l (Obj.mapSeq fun x => x.reverse)).get? l = some (Obj.mapSeq (fun x => x.reverse) { cls := .type "list", data := .seq ws z }) := Heap.get?_update_self _ f2 rfl
              refine hQ _ _ _ _ _ k.2 rfl (N.trans (Nx.put (t := s'.toks) D' (List.mem_of_getElem? f1) (Heap.SameBut.update ..) ⟨_, hfin⟩)) (D'.put f1 (Heap.SameBut.update ..) hfin ⟨_, _, rfl, ?_⟩) T'
              rw [Array.toList_reverse]; exact f3.reverse
          · exact k.elim
        · exact k.elim
      · refine ⟨"list", "list.index", PySem.F.plainAttrs_list, PySem.F.slot_list_index, PySem.F.type_list_index, hTy, hdn, args _ fun cvs s' ρ' vs H' k r N D' T' => ?_⟩
        unfold methW at k
        dsimp only at k
        split at k
        · rename_i xs hn
          obtain ⟨l', ws, z, e0, f1, f2, f3⟩ := D'.lst hn (ro.mono N.pre)
          cases e0
          rw [if_neg (by decide), if_neg (by decide), if_pos rfl] at k
          have fin : ∀ (kk : AV) (ck : Value), VR ρ' kk ck → ((∃ i, kk = .int i) ∨ (∃ i, kk = .str i)) → anyEq kk xs = some true → (xs.length ≤ 1000000 ∧ K (.int (xs.findIdx fun x => eqS x kk == some true)) H') → wpAny (model g.prog g.w) A (call (.builtin "list.index") [.ref l, ck]) Q E s' := by
            intro kk ck rk hkk hh kf
            obtain ⟨h1, h2, h3⟩ := anyEq_sound rk hkk (g.nb _ D'.base) hh f3
            have hlt : ws.toList.findIdx (valE kk) < ws.toList.length := by
              rw [List.any_eq_true] at h2
              obtain ⟨x, hx1, hx2⟩ := h2
              exact List.findIdx_lt_length_of_exists ⟨x, hx1, hx2⟩
            have hlt' : ws.toList.findIdx (valE kk) < ws.size := by simpa using hlt
            have hsz := f3.sizeA
            have hle := kf.1
            refine call_meets PySem.F.slot_list_index ⟨_, f2, rfl⟩ PySem.F.entry_list_index (PySem.F.args_list_index_2 _ _) (SeqAt.list_indexAt l ws z none #[] ck (valE kk) (ws.toList.findIdx (valE kk)) hlt' (by omega) ?_ ?_) ⟨f2, fun y hy => h1 _ y (by simpa using hy), ?_⟩
            · have := List.findIdx_getElem (w := hlt)
              simpa using this
            · intro m hm hmlt
              have := List.not_of_lt_findIdx hmlt
              simpa using this
            · have := kf.2
              rw [h3] at this
              exact hQ _ _ _ _ _ this ⟨_, rfl⟩ (N.trans Nx.toks) D' (Nat.le_succ_of_le T')
          split at k
          · rename_i i
            obtain ⟨cv, q, rfl, p1, p2⟩ := r
            cases p2
            split at k
            · rename_i hh; exact fin _ _ p1 (.inl ⟨_, rfl⟩) hh k
            · exact k.elim
          · rename_i i
            obtain ⟨cv, q, rfl, p1, p2⟩ := r
            cases p2
            split at k
            · rename_i hh; exact fin _ _ p1 (.inr ⟨_, rfl⟩) hh k
            · exact k.elim
          · exact k.elim
        · exact k.elim
    · cases hok
  · rename_i x
    obtain ⟨t, rfl⟩ := ro
    have hname : name = "index" := by simpa using hok
    subst hname
    refine ⟨"str", "str.index", PySem.F.plainAttrs_str, PySem.F.slot_str_index, PySem.F.type_str_index, typeIs_str _ _ _, (fun a ha => nomatch ha), args _ fun cvs s' ρ' vs H' k r N D' T' => ?_⟩
    unfold methW at k
    dsimp only at k
    rw [if_pos rfl] at k
    split at k
    · rename_i y
      obtain ⟨cv, q, rfl, ⟨u, rfl⟩, p2⟩ := r
      cases p2
      refine index_or hA.hd (fun _ hc => by rw [k.1] at hc; cases hc) fun _ _ => ?_
      exact hQ _ _ _ _ _ k.2 ⟨_, rfl⟩ (N.trans Nx.toks) D' (Nat.le_succ_of_le T')
    · exact k.elim
  · rename_i x
    obtain ⟨t, rfl⟩ := ro
    have hname : name = "bit_length" := by simpa using hok
    subst hname
    refine ⟨"int", "int.bit_length", PySem.F.plainAttrs_int, PySem.F.slot_int_bit_length, PySem.F.type_int_bit_length, typeIs_int _ _ _, (fun a ha => nomatch ha), args _ fun cvs s' ρ' vs H' k r N D' T' => ?_⟩
    unfold methW at k
    dsimp only at k
    rw [if_pos rfl] at k
    split at k
    · cases r
      refine call_gives PySem.F.slot_int_bit_length (typeIs_int _ _ _) PySem.F.entry_int_bit_length (PySem.F.args_int_bit_length_1 _) (AutoIntG2.int_bit_length_int_0 x t) ?_
      exact hQ _ _ _ _ _ k ⟨_, rfl⟩ (N.trans Nx.toks) D' (Nat.le_succ_of_le T')
    · exact k.elim
  · cases hok
end Py

end
section
open PySem PySem.W PyProof.Rows
set_option maxRecDepth 10000
set_option autoImplicit false
set_option linter.unusedVariables false
namespace Py
variable {g : G}

theorem isTrue_gen {M : Model} {A : Around} {E : Value → Shared → Prop} {s : Shared} {env : Env} {e : PySem.Expr} {Q : Bool → Shared → Prop}
    (he : ∀ w, isTrue e env w = (do let v ← w; standAt e.pos; holding [v] (truthy v)))
    (h : wpAny M A (eval e env) (fun v s' => wpAny M A (truthy v) Q E s') E s) : wpAny M A (isTrue e env (eval e env)) Q E s := by
  rw [he]
  exact wpAny_bind (wpAny_mono h (fun v s' h' => wpAny_bind (wpAny_standAt (wpAny_holding h'))) fun _ _ x => x)

theorem iteW_elim {c : PC} {pos : Pos} {b : Bool} {X Y : Prop} (h : iteW c pos b X Y) : (if b = true then X else Y) := by
  unfold iteW at h
  split at h
  · cases b with
    | true => exact h.1 rfl
    | false => exact h.2 rfl
  · rw [h.1]; exact h.2
  · rw [h.1]; exact h.2
  · cases b with
    | true => exact h
    | false => exact h

theorem starEach_cons {e : PySem.Expr} {es : List PySem.Expr} {env : Env} (h : ∀ x p, e ≠ .Starred x p) : starEach (e :: es) env = (false, eval e env) :: starEach es env := by
  cases e <;> first | rfl | exact absurd rfl (h _ _)



theorem PostF.nx {env : Env} {c : PC} {ρ ρ' : List Addr} {s s' : Shared} {K : Fl → Lc → AH → Prop} {Q : Flow → Shared → Prop} (h : PostF g env c ρ s K Q) (N : Nx g ρ ρ' s s') : PostF g env c ρ' s' K Q :=
  fun f loc' H' cf s₂ ρ₂ k r N₂ F D T => h f loc' H' cf s₂ ρ₂ k r (N.l.trans N₂) F D T
theorem PostF.nl {env : Env} {c : PC} {ρ ρ' : List Addr} {s s' : Shared} {K : Fl → Lc → AH → Prop} {Q : Flow → Shared → Prop} (h : PostF g env c ρ s K Q) (N : NxL g env.locals ρ ρ' s s') : PostF g env c ρ' s' K Q :=
  fun f loc' H' cf s₂ ρ₂ k r N₂ F D T => h f loc' H' cf s₂ ρ₂ k r (N.trans N₂) F D T

theorem sound_l {d : Nat} {c : PC} {n : Nat} (S : Sound g d c n) (loc : Lc) (es : List PySem.Expr) (H : AH) (K : List AV → AH → Prop) (h : awl (n + 1) c loc es H K) : ElsOk g d c loc es H K := by
  intro env ρ s A pos Q E hA F D T hQ
  unfold awl at h
  split at h
  · exact Calls.spliced_nil (hQ _ _ _ _ _ h rfl rfl (Nx.refl _ _) D T)
  · rename_i e es
    have hs : ∀ x p, e ≠ .Starred x p := by
      rintro x p rfl
      cases n with
      | zero => exact False.elim h
      | succ n => exact False.elim h
    rw [starEach_cons hs]
    refine Calls.spliced_cons (S.e _ _ _ _ h env ρ s A _ E hA F D T fun v H₁ cv s₁ ρ₁ k r N D₁ T₁ => ?_)
    refine (S.l _ _ _ _ k env ρ₁ s₁ A pos _ E hA (F.nx N) D₁ T₁ fun vs H₂ cvs s₂ ρ₂ k₂ r₂ hl N₂ D₂ T₂ => ?_)
    exact hQ _ _ _ _ _ k₂ ⟨cv, cvs, rfl, r.mono N₂.pre, r₂⟩ (by rw [List.length_cons, hl]; rfl) (N.trans N₂) D₂ T₂

theorem sound_p {d : Nat} {c : PC} {n : Nat} (S : Sound g d c n) (loc : Lc) (e : Option PySem.Expr) (H : AH) (K : Kv) (h : awp (n + 1) c loc e H K) : PaOk g d c loc e H K := by
  intro env ρ s A Q E hA F D T hQ
  unfold awp at h
  split at h
  · exact wpAny_evalPart_none (hQ _ _ _ _ _ h rfl (Nx.refl _ _) D T)
  · exact wpAny_evalPart_some (S.e _ _ _ _ h env ρ s A Q E hA F D T hQ)

theorem sound_t {d : Nat} {c : PC} {n : Nat} (S : Sound g d c n) (loc : Lc) (e : PySem.Expr) (H : AH) (K : Bool → AH → Prop) (h : awt (n + 1) c loc e H K) : TrOk g d c loc e H K := by
  intro env ρ s A Q E hA F D T hQ
  have hu : A.units < cLine := Nat.lt_of_le_of_lt (Nat.le_add_right _ _) hA.un
  unfold awt at h
  split at h
  · refine wpAny_isTrue_Not (S.t _ _ _ _ h env ρ s A _ E hA F D T fun b H₁ s₁ ρ₁ k N D₁ T₁ => ?_)
    exact hQ _ _ _ _ k N D₁ T₁
  · split at h
    · exact h.elim
    · rename_i hm
      refine wpAny_isTrue_Compare1 (S.e _ _ _ _ h env ρ s A _ E hA F D T fun a H₁ ca s₁ ρ₁ k ra N D₁ T₁ => ?_) hm
      refine S.e _ _ _ _ k env ρ₁ s₁ A _ E hA (F.nx N) D₁ T₁ fun b H₂ cb s₂ ρ₂ k₂ rb N₂ D₂ T₂ => ?_
      refine cmpW_sound k₂ hu D₂ T₂ (ra.mono N₂.pre) rb fun v H₃ cv s₃ ρ₃ k₃ r₃ N₃ D₃ T₃ => ?_
      exact truW_sound k₃ D₃ T₃ r₃ fun b s₄ hb N₄ D₄ T₄ => hQ _ _ _ _ hb (((N.trans N₂).trans N₃).trans N₄) D₄ T₄
  · refine wpAny_isTrue_BoolOp (S.b _ _ _ _ _ h env ρ s A _ E hA F D T hQ)
  · rename_i t b o pos
    show wpAny _ A (do if ← isTrue t env (eval t env) then isTrue b env (eval b env) else isTrue o env (eval o env)) Q E s
    refine wpAny_bind (S.t _ _ _ _ h env ρ s A _ E hA F D T fun v H₁ s₁ ρ₁ k N D₁ T₁ => ?_)
    cases v with
    | true => exact S.t _ _ _ _ k env ρ₁ s₁ A _ E hA (F.nx N) D₁ T₁ fun b' H₂ s₂ ρ₂ k₂ N₂ D₂ T₂ => hQ _ _ _ _ k₂ (N.trans N₂) D₂ T₂
    | false => exact S.t _ _ _ _ k env ρ₁ s₁ A _ E hA (F.nx N) D₁ T₁ fun b' H₂ s₂ ρ₂ k₂ N₂ D₂ T₂ => hQ _ _ _ _ k₂ (N.trans N₂) D₂ T₂
  · exact h.elim
  · exact h.elim
  · rename_i h1 h2 h3 h4 h5 h6
    refine isTrue_gen (fun w => ?_) (S.e _ _ _ _ h env ρ s A _ E hA F D T fun a H₁ ca s₁ ρ₁ k ra N D₁ T₁ => truW_sound k D₁ T₁ ra fun b s₄ hb N₄ D₄ T₄ => hQ _ _ _ _ hb (N.trans N₄) D₄ T₄)
    cases e with
    | UnaryOp op x p => exact absurd rfl (h6 _ _ _)
    | Compare l o r p => exact absurd rfl (h5 _ _ _ _)
    | BoolOp o es p => exact absurd rfl (h3 _ _ _)
    | IfExp t b o p => exact absurd rfl (h4 _ _ _ _)
    | _ => rfl

theorem sound_b {d : Nat} {c : PC} {n : Nat} (S : Sound g d c n) (loc : Lc) (op : BoolOp) (es : List PySem.Expr) (H : AH) (K : Bool → AH → Prop) (h : awb (n + 1) c loc op es H K) : AlOk g d c loc op es H K := by
  intro env ρ s A Q E hA F D T hQ
  unfold awb at h
  split at h
  · show wpAny _ A (pure (op == .And)) Q E s
    cases op with
    | And => exact wpAny_pure (hQ _ _ _ _ h (Nx.refl _ _) D T)
    | Or => exact wpAny_pure (hQ _ _ _ _ h (Nx.refl _ _) D T)
  · rename_i e es
    show wpAny _ A (do match op, ← isTrue e env (eval e env) with | .And, false => pure false | .Or, true => pure true | _, _ => allTrue op es env) Q E s
    refine wpAny_bind (S.t _ _ _ _ h env ρ s A _ E hA F D T fun v H₁ s₁ ρ₁ k N D₁ T₁ => ?_)
    have hQ' : ∀ b H' s' ρ', K b H' → Nx g ρ₁ ρ' s₁ s' → HR g ρ' H' s'.heap → 1 ≤ s'.toks → Q b s' := fun b H' s' ρ' k N' D' T' => hQ b H' s' ρ' k (N.trans N') D' T'
    cases op
    · have k := iteW_elim k
      cases v
      · exact wpAny_pure (hQ' _ _ _ _ k (Nx.refl _ _) D₁ T₁)
      · exact S.b _ _ _ _ _ k env ρ₁ s₁ A _ E hA (F.nx N) D₁ T₁ hQ'
    · have k := iteW_elim k
      cases v
      · exact S.b _ _ _ _ _ k env ρ₁ s₁ A _ E hA (F.nx N) D₁ T₁ hQ'
      · exact wpAny_pure (hQ' _ _ _ _ k (Nx.refl _ _) D₁ T₁)

theorem sound_s {d : Nat} {c : PC} {n : Nat} (S : Sound g d c n) (loc : Lc) (ss : List Stmt) (H : AH) (K : Fl → Lc → AH → Prop) (h : aws (n + 1) c loc ss H K) : ExsOk g d c loc ss H K := by
  intro env ρ s A Q E hA F D T hQ
  unfold aws at h
  split at h
  · exact wpAny_execs_nil (hQ _ _ _ _ _ _ h .next NxL.refl F D T)
  · refine wpAny_execs_cons (S.s1 _ _ _ _ h env ρ s A _ E hA F D T fun f loc₁ H₁ cf s₁ ρ₁ k r N F₁ D₁ T₁ => ?_)
    cases r with
    | next => exact S.s _ _ _ _ k env ρ₁ s₁ A _ E hA F₁ D₁ T₁ (hQ.nl N)
    | brk => exact hQ _ _ _ _ _ _ k .brk N F₁ D₁ T₁
    | cont => exact hQ _ _ _ _ _ _ k .cont N F₁ D₁ T₁
    | ret r => exact hQ _ _ _ _ _ _ k (.ret r) N F₁ D₁ T₁

theorem noStar_each {env : Env} : ∀ {ts : List PySem.Expr}, noStar ts = true → (assignEach ts env) = ts.map fun t => (false, assign t env)
  | [], _ => rfl
  | e :: es, h => by
    have h2 : noStar es = true := by cases e <;> first | exact h | cases h
    have h3 : assignEach (e :: es) env = (false, assign e env) :: assignEach es env := by cases e <;> first | rfl | cases h
    rw [h3, noStar_each h2]; rfl

theorem sound_a {d : Nat} {c : PC} (C : COk g d c) {n : Nat} (S : Sound g d c n) (loc : Lc) (t : PySem.Expr) (v : AV) (H : AH) (K : Lc → AH → Prop) (h : awa (n + 1) c loc t v H K) : AssOk g d c loc t v H K := by
  intro env ρ s A cv Q E hA F D T r hQ
  unfold awa at h
  split at h
  · refine wpAny_assign_Name (store_sound h F D T r fun loc' H' s' k N F' D' T' => hQ _ _ _ _ k N F' D' T')
  · rename_i ts tk tp
    split at h
    · rename_i vs hst hseq
      split at h
      · rename_i hlen
        unfold seqOf at hseq
        split at hseq
        · rename_i n'
          split at hseq
          · rename_i xs hn
            cases hseq
            obtain ⟨a, ws, z, rfl, e1, e2, e3⟩ := D.tup hn r
            have hlen' : ts.length = vs.length := by simpa using hlen
            have hmap : (assignEach ts env).map (·.2) = (assignEach ts env).map (·.2) := rfl
            refine wpAny_assign_Tuple (items := ws) hA.hd ⟨_, e2, rfl, z, rfl⟩ ?_ ?_ fun h' hs => ?_
            · rw [noStar_each hst, List.length_map, hlen', e3.sizeA]
            · rw [noStar_each hst]
              simp [List.findIdx?_eq_none_iff]
            · have hk : ∀ b o, s.heap.get? b = some o → h'.get? b = some o := fun b o e => hs b o (by rintro rfl; rw [get_size] at e; cases e) e
              have N : Nx g ρ ρ s { s with heap := h', toks := s.toks } := Nx.grow D hk
              exact S.z _ _ _ _ _ h env ρ { s with heap := h' } A ws.toList Q E hA (F.nx N) (D.grow hk) T e3 fun loc' H' s' ρ' k N' F' D' T' => hQ _ _ _ _ k (N.l.trans N') F' D' T'
          · cases hseq
        · cases hseq
      · exact h.elim
    · exact h.elim
  · rename_i o i p
    split at h
    · exact h.elim
    · rw [arm_assign_Subscript]
      refine wpAny_bind (wpAny_holding (S.e _ _ _ _ h env ρ s A _ E hA F D T fun ov H₁ co s₁ ρ₁ k ro N₁ D₁ T₁ => ?_))
      refine wpAny_bind (wpAny_holding (S.e _ _ _ _ k env ρ₁ s₁ A _ E hA (F.nx N₁) D₁ T₁ fun iv H₂ ci s₂ ρ₂ k₂ ri N₂ D₂ T₂ => ?_))
      refine wpAny_bind (wpAny_standAt (wpAny_bind (wpAny_holding (setW_sound k₂ D₂ T₂ (ro.mono N₂.pre) ri ((r.mono N₁.pre).mono N₂.pre) fun H₃ s₃ k₃ N₃ D₃ T₃ => ?_))))
      have N := (N₁.trans N₂).trans N₃
      exact wpAny_release (hQ _ _ _ _ k₃ N.l (F.nx N) D₃ T₃)
  · exact h.elim

theorem sound_z {d : Nat} {c : PC} {n : Nat} (S : Sound g d c n) (loc : Lc) (ts : List PySem.Expr) (vs : List AV) (H : AH) (K : Lc → AH → Prop) (h : awz (n + 1) c loc ts vs H K) : AszOk g d c loc ts vs H K := by
  intro env ρ s A cvs Q E hA F D T r hQ
  unfold awz at h
  split at h
  · exact wpAny_pure (hQ _ _ _ _ h NxL.refl F D T)
  · rename_i t ts v vs
    obtain ⟨cv, r', rfl, p, q⟩ := r
    have hst : (assignEach (t :: ts) env).map (·.2) = assign t env :: (assignEach ts env).map (·.2) := by
      cases t <;> first | rfl | (cases n <;> (unfold awa at h; exact h.elim))
    rw [hst]
    refine wpAny_bind (wpAny_holding (S.a _ _ _ _ _ h env ρ s A cv _ E hA F D T p fun loc₁ H₁ s₁ ρ₁ k N F₁ D₁ T₁ => ?_))
    exact S.z _ _ _ _ _ k env ρ₁ s₁ A r' Q E hA F₁ D₁ T₁ (q.mono N.pre) fun loc' H' s' ρ' k' N' F' D' T' => hQ _ _ _ _ k' (N.trans N') F' D' T'
  · exact h.elim

theorem isSetD_folded {e : PySem.Expr} (h : isSetD e = false) (env : Env) (x : Value) : foldedSetIterable e env x = pure x := by
  cases e <;> first | rfl | cases h

theorem go_sound {tgt : PySem.Expr} {a : Addr} {cv : Value} {s : Shared} {A : Around} {Q : Unit → Shared → Prop} {E : Value → Shared → Prop} (ho : ∃ o, s.heap.get? a = some o)
    (hc : ∀ o, s.heap.get? a = some o → (∃ T, o.cls = .type T ∧ T ≠ "enumerate" ∧ ["enumerate", "zip", "dict_itemiterator", "dict_reverseitemiterator", "odict_iterator", "itertools.zip_longest", "itertools.pairwise"].contains T = false)) (h : Q () s) :
    wpAny (model g.prog g.w) A (letOwnedTupleGo tgt (.ref a) cv) Q E s := by
  obtain ⟨o, ho⟩ := ho
  obtain ⟨T, hT, _, hT2⟩ := hc o ho
  cases tgt with
  | Tuple es k p =>
    cases cv with
    | ref b =>
      show wpAny _ A (load a >>= _) Q E s
      refine wpAny_bind (wpAny_load ho ?_)
      rw [hT]
      cases o.data <;> first | exact wpAny_pure h | (dsimp only; rw [hT2]; exact wpAny_pure h)
    | _ => exact wpAny_pure h
  | List es p =>
    cases cv with
    | ref b =>
      show wpAny _ A (load a >>= _) Q E s
      refine wpAny_bind (wpAny_load ho ?_)
      rw [hT]
      cases o.data <;> first | exact wpAny_pure h | (dsimp only; rw [hT2]; exact wpAny_pure h)
    | _ => exact wpAny_pure h
  | _ => exact wpAny_pure h

/-- a for's loop -/
theorem sound_f {d : Nat} {c : PC} {tgt : PySem.Expr} {body : List Stmt} {m : Nat} {K : Fl → Lc → AH → Prop} : ∀ (n : Nat), (∀ k, k < n → Sound g d c k) → ∀ {loc : Lc} {H : AH}, awf n c loc tgt body m H K →
    ∀ {env : Env} {ρ : List Addr} {s : Shared} {A : Around} {R : Result → Shared → Prop} {a : Addr}, AOk d A → FR g env c ρ loc s.heap → HR g ρ H s.heap → 1 ≤ s.toks → ρ[m]? = some a →
    PostF g env c ρ s K (fun f s' => R (.ok f) s') → codeAny (model g.prog g.w) A (.forLoop tgt (.ref a) body [] env) R s := by
  intro n S loc H h env ρ s A R a hA F D T ha hQ
  refine codeAny_forLoop_any (fun k s' => k ≤ n ∧ ∃ loc' H' ρ', awf k c loc' tgt body m H' K ∧ NxL g env.locals ρ ρ' s s' ∧ FR g env c ρ' loc' s'.heap ∧ HR g ρ' H' s'.heap ∧ 1 ≤ s'.toks)
    (fun k s₁ hI => ?_) n ⟨Nat.le_refl _, loc, H, ρ, h, NxL.refl, F, D, T⟩
  obtain ⟨hk, loc₁, H₁, ρ₁, h₁, N₁, F₁, D₁, T₁⟩ := hI
  cases k with
  | zero => unfold awf at h₁; exact h₁.elim
  | succ k =>
    unfold awf at h₁
    have Sk := S k (Nat.lt_of_lt_of_le (Nat.lt_succ_self k) hk)
    refine nextW_sound h₁ hA.hd D₁ T₁ (prefix_get N₁.pre ha) (fun H₂ s₂ k₂ N₂ D₂ T₂ => ?_) fun v H₂ cv s₂ k₂ r N₂ D₂ T₂ hcls => ?_
    · exact wpAny_execs_nil (hQ _ _ _ _ _ _ k₂ .next (N₁.trans N₂.l) (F₁.nx N₂) D₂ T₂)
    · refine go_sound (D₂.has (List.mem_of_getElem? (prefix_get N₁.pre ha))) hcls ?_
      refine Sk.a _ _ _ _ _ k₂ env ρ₁ s₂ A cv _ _ hA (F₁.nx N₂) D₂ T₂ r fun loc₃ H₃ s₃ ρ₃ k₃ N₃ F₃ D₃ T₃ => ?_
      refine Sk.s _ _ _ _ k₃ env ρ₃ s₃ A _ _ hA F₃ D₃ T₃ fun f loc₄ H₄ cf s₄ ρ₄ k₄ rf N₄ F₄ D₄ T₄ => ?_
      have N := ((N₁.trans N₂.l).trans N₃).trans N₄
      cases rf with
      | next => exact ⟨k, Nat.lt_succ_self k, Nat.le_of_succ_le hk, loc₄, H₄, ρ₄, k₄, N, F₄, D₄, T₄⟩
      | cont => exact ⟨k, Nat.lt_succ_self k, Nat.le_of_succ_le hk, loc₄, H₄, ρ₄, k₄, N, F₄, D₄, T₄⟩
      | brk => exact hQ _ _ _ _ _ _ k₄ .next N F₄ D₄ T₄
      | ret rv => exact hQ _ _ _ _ _ _ k₄ (.ret rv) N F₄ D₄ T₄

theorem sound_w {d : Nat} {c : PC} {t : PySem.Expr} {body : List Stmt} {K : Fl → Lc → AH → Prop} : ∀ (n : Nat), (∀ k, k < n → Sound g d c k) → ∀ {loc : Lc} {H : AH}, aww n c loc t body H K →
    ∀ {env : Env} {ρ : List Addr} {s : Shared} {A : Around} {R : Result → Shared → Prop}, AOk d A → FR g env c ρ loc s.heap → HR g ρ H s.heap → 1 ≤ s.toks →
    PostF g env c ρ s K (fun f s' => R (.ok f) s') → codeAny (model g.prog g.w) A (.whileLoop t body [] env) R s := by
  intro n S loc H h env ρ s A R hA F D T hQ
  refine codeAny_whileLoop (fun k s' => k ≤ n ∧ ∃ loc' H' ρ', aww k c loc' t body H' K ∧ NxL g env.locals ρ ρ' s s' ∧ FR g env c ρ' loc' s'.heap ∧ HR g ρ' H' s'.heap ∧ 1 ≤ s'.toks)
    (fun k s₁ hI => ?_) n ⟨Nat.le_refl _, loc, H, ρ, h, NxL.refl, F, D, T⟩
  obtain ⟨hk, loc₁, H₁, ρ₁, h₁, N₁, F₁, D₁, T₁⟩ := hI
  cases k with
  | zero => unfold aww at h₁; exact h₁.elim
  | succ k =>
    unfold aww at h₁
    have Sk := S k (Nat.lt_of_lt_of_le (Nat.lt_succ_self k) hk)
    refine Sk.t _ _ _ _ h₁ env ρ₁ s₁ A _ _ hA F₁ D₁ T₁ fun b H₂ s₂ ρ₂ k₂ N₂ D₂ T₂ => ?_
    have k₂ := iteW_elim k₂
    have N₂' := N₁.trans N₂.l
    cases b with
    | false => exact wpAny_execs_nil (hQ _ _ _ _ _ _ k₂ .next N₂' (F₁.nx N₂) D₂ T₂)
    | true =>
      refine Sk.s _ _ _ _ k₂ env ρ₂ s₂ A _ _ hA (F₁.nx N₂) D₂ T₂ fun f loc₄ H₄ cf s₄ ρ₄ k₄ rf N₄ F₄ D₄ T₄ => ?_
      have N := N₂'.trans N₄
      cases rf with
      | next => exact ⟨k, Nat.lt_succ_self k, Nat.le_of_succ_le hk, loc₄, H₄, ρ₄, k₄, N, F₄, D₄, T₄⟩
      | cont => exact ⟨k, Nat.lt_succ_self k, Nat.le_of_succ_le hk, loc₄, H₄, ρ₄, k₄, N, F₄, D₄, T₄⟩
      | brk => exact hQ _ _ _ _ _ _ k₄ .next N F₄ D₄ T₄
      | ret rv => exact hQ _ _ _ _ _ _ k₄ (.ret rv) N F₄ D₄ T₄
end Py

end
section
open PySem PySem.W PyProof.Rows
set_option maxRecDepth 10000
set_option autoImplicit false
set_option linter.unusedVariables false
namespace Py
variable {g : G}

section
variable {prog : Program} {w : World} {A : Around} {E : Value → Shared → Prop} {s : Shared}
/-- one item of a tuple's iterator, asked by another iterator -/
theorem of_tup_item {it t : Addr} {i : Nat} {items : Array Value} {x : Value} {Q : Value → Shared → Prop} (hit : s.heap.IsTupleIter it t i) (ht : s.heap.IsTuple t items) (hx : items[i]? = some x)
    (hQ : ∀ h', h'.IsTupleIter it t (i + 1) → Heap.SameBut it s.heap h' → Q x { s with heap := h' }) : wpAny (model prog w) A (Builtin.SmallTypes.nextOf (.ref it)) Q E s := by
  obtain ⟨o, ho, hc, hd⟩ := id hit
  obtain ⟨ol, hol, _, nl, hdl⟩ := ht
  unfold Builtin.SmallTypes.nextOf
  refine wpAny_bind (wpAny_callSpecial?_slot (name := Str.ofString "__next__") hit.typeIs F.slot_tuple_iterator_next (wpAny_call_entry F.slot_tuple_iterator_next hit.typeIs F.entry_tuple_iterator_next ?_ (F.args_tuple_iterator_next_1 _)))
  show wpAny _ _ (field (.ref it) 0 >>= _) _ _ s
  refine wpAny_bind (wpAny_field ho hd (x := .ref t) rfl ?_)
  show wpAny _ _ (if (Value.ref t == Value.none) = true then _ else _) _ _ s
  rw [if_neg (show ¬ ((Value.ref t == Value.none) = true) from Bool.false_ne_true)]
  show wpAny _ _ (field (.ref it) 1 >>= _) _ _ s
  refine wpAny_bind (wpAny_field ho hd (x := .int i 0) rfl ?_)
  show wpAny _ _ (seqItems? (.ref t) >>= _) _ _ s
  refine wpAny_bind (wpAny_seqItems hol hdl ?_)
  simp only [Int.toNat_natCast, hx]
  refine wpAny_bind (wpAny_setField ho hd (by simp) (wpAny_pure ⟨x, rfl, wpAny_pure (hQ _ ?_ (Heap.SameBut.update ..))⟩))
  exact ⟨_, Heap.get?_update_self _ ho (Obj.isFreed_of_fields (Obj.data_mapFields hd _)), (Obj.cls_mapFields ..).trans hc, by rw [Obj.data_mapFields hd]; simp [rawInt]⟩

theorem of_tup_end {it t : Addr} {i : Nat} {items : Array Value} {Q : Value → Shared → Prop} (hh : A.handled = none) (hit : s.heap.IsTupleIter it t i) (ht : s.heap.IsTuple t items) (hx : items[i]? = none)
    (hE : ∀ h' e, Heap.ExtBut it s.heap h' → (∃ o, h'.get? it = some o) → (∃ o, h'.get? e = some o ∧ o.cls = .type "StopIteration") → E (.ref e) { s with heap := h' }) :
    wpAny (model prog w) A (Builtin.SmallTypes.nextOf (.ref it)) Q E s := by
  obtain ⟨o, ho, hc, hd⟩ := id hit
  obtain ⟨ol, hol, _, nl, hdl⟩ := ht
  unfold Builtin.SmallTypes.nextOf
  refine wpAny_bind (wpAny_callSpecial?_slot (name := Str.ofString "__next__") hit.typeIs F.slot_tuple_iterator_next (wpAny_call_entry F.slot_tuple_iterator_next hit.typeIs F.entry_tuple_iterator_next ?_ (F.args_tuple_iterator_next_1 _)))
  show wpAny _ _ (field (.ref it) 0 >>= _) _ _ s
  refine wpAny_bind (wpAny_field ho hd (x := .ref t) rfl ?_)
  show wpAny _ _ (if (Value.ref t == Value.none) = true then _ else _) _ _ s
  rw [if_neg (show ¬ ((Value.ref t == Value.none) = true) from Bool.false_ne_true)]
  show wpAny _ _ (field (.ref it) 1 >>= _) _ _ s
  refine wpAny_bind (wpAny_field ho hd (x := .int i 0) rfl ?_)
  show wpAny _ _ (seqItems? (.ref t) >>= _) _ _ s
  refine wpAny_bind (wpAny_seqItems hol hdl ?_)
  simp only [Int.toNat_natCast, hx]
  refine wpAny_bind (wpAny_rule (wpAny_bind (wpAny_setField ho hd (by simp) ?_)))
  show wpAny _ _ (newExc (.type "StopIteration") [] >>= _) _ _ _
  refine wpAny_bind ?_
  simp only [newExc, newTuple]
  refine wpAny_bind (wpAny_newObj_type ?_ (by size_fits))
  refine wpAny_bind (m := firstArgMember _ _) (wpAny_of_eq (a := Value.none) (by first | rfl | (simp only [firstArgMember]; rfl)) ?_)
  refine wpAny_newObj_type ?_ (by size_fits)
  simp only [raiseNew]
  refine wpAny_bind (wpAny_handled ?_)
  first | rw [show A.in1.handled = none from hh] | rw [hh]
  refine wpAny_bind (wpAny_pure (wpAny_throw ?_))
  exact hE _ _ (((Heap.SameBut.update ..).extBut.push _).push _) ⟨_, Heap.get?_push_of_some _ (Heap.get?_push_of_some _ (Heap.get?_update_self _ ho (Obj.isFreed_of_fields (Obj.data_mapFields hd _))))⟩ ⟨_, Heap.get?_push_size _ rfl, rfl⟩

theorem enum_tup_item {e it l : Addr} {i : Nat} {items : Array Value} {x old : Value} {Q : Option Value → Shared → Prop}
    (he : IsEnum s.heap e it i old) (hit : s.heap.IsTupleIter it l i) (hl : s.heap.IsTuple l items) (hx : items[i]? = some x) (hne : e ≠ it)
    (hQ : ∀ h', IsEnumOut h' e it ((i : Int) + 1) x s.heap.objs.size → h'.IsTupleIter it l (i + 1) →
      h'.get? s.heap.objs.size = some { cls := .type "tuple", data := .seq #[.int i s.toks, x] } →
      (∀ b o, b ≠ e → b ≠ it → s.heap.get? b = some o → h'.get? b = some o) → Q (some (.ref s.heap.objs.size)) { s with heap := h', toks := s.toks + 1 }) :
    wpAny (model prog w) A (pyNext (.ref e)) Q E s := by
  have hT : s.TypeIs (.ref e) "enumerate" := ⟨_, he, rfl⟩
  unfold pyNext
  refine wpAny_bind (wpAny_attempt (wpAny_callSpecial?_slot (name := Str.ofString "__next__") hT F.slot_enumerate_next (wpAny_call_entry F.slot_enumerate_next hT F.entry_enumerate_next ?_ (F.args_enumerate_next_1 _))))
  obtain ⟨hp, g, d, tk, os⟩ := s
  show wpAny _ _ (field (.ref e) 2 >>= _) _ _ _
  refine wpAny_bind (wpAny_field he rfl (x := .ref it) rfl ?_)
  refine wpAny_bind (of_tup_item hit hl hx fun h₁ hit₁ hs₁ => ?_)
  replace hs₁ : Heap.SameBut it hp h₁ := hs₁
  have he₁ : IsEnum h₁ e it i old := (hs₁.2 e hne).trans he
  show wpAny _ _ (field (.ref e) 3 >>= _) _ _ ⟨h₁, g, d, tk, os⟩
  refine wpAny_bind (wpAny_field he₁ rfl (x := rawInt i) rfl ?_)
  show wpAny _ _ (field (.ref e) 4 >>= _) _ _ ⟨h₁, g, d, tk, os⟩
  refine wpAny_bind (wpAny_field he₁ rfl (x := .none) rfl ?_)
  show wpAny _ _ (mkInt i >>= _) _ _ ⟨h₁, g, d, tk, os⟩
  refine wpAny_bind (wpAny_mkInt ?_)
  show wpAny _ _ (setField (.ref e) 3 (rawInt ((i : Int) + 1)) >>= _) _ _ ⟨h₁, g, d, tk + 1, os⟩
  refine wpAny_bind (wpAny_setField_rec he₁ (by simp) fun h₂ he₂ hs₂ => ?_)
  replace hs₂ : Heap.SameBut e h₁ h₂ := hs₂
  replace he₂ : IsEnum h₂ e it ((i : Int) + 1) old := he₂
  show wpAny _ _ (setField (.ref e) 4 .none >>= _) _ _ ⟨h₂, g, d, tk + 1, os⟩
  refine wpAny_bind (wpAny_setField_rec he₂ (by simp) fun h₃ he₃ hs₃ => ?_)
  replace hs₃ : Heap.SameBut e h₂ h₃ := hs₃
  replace he₃ : IsEnum h₃ e it ((i : Int) + 1) old := he₃
  show wpAny _ _ (newTuple [.int i tk, x] >>= _) _ _ ⟨h₃, g, d, tk + 1, os⟩
  refine wpAny_bind (wpAny_newTuple ?_)
  have he₄ : IsEnum (h₃.push { cls := .type "tuple", data := .seq #[.int i tk, x] }) e it ((i : Int) + 1) old := Heap.get?_push_of_some _ he₃
  generalize hh₄ : h₃.push { cls := .type "tuple", data := .seq #[.int i tk, x] } = h₄ at he₄
  have hsz : h₃.objs.size = hp.objs.size := by rw [hs₃.1, hs₂.1, hs₁.1]
  have hel : e < hp.objs.size := Heap.lt_size he
  have ht₄ : h₄.get? hp.objs.size = some { cls := .type "tuple", data := .seq #[.int i tk, x] } := by rw [← hh₄, ← hsz]; exact Heap.get?_push_size _ rfl
  have hk₄ : ∀ b o, b ≠ e → b ≠ it → hp.get? b = some o → h₄.get? b = some o := fun b o hbe hbi hb => by
    rw [← hh₄]; exact Heap.get?_push_of_some _ (hs₃.extBut b o hbe (hs₂.extBut b o hbe (hs₁.extBut b o hbi hb)))
  have hit₄ : h₄.IsTupleIter it l (i + 1) := by
    rw [← hh₄]; obtain ⟨o, ho, r⟩ := (hit₁.extBut hs₂.extBut (Ne.symm hne)).extBut hs₃.extBut (Ne.symm hne); exact ⟨o, Heap.get?_push_of_some _ ho, r⟩
  show wpAny _ _ (Builtin.SmallTypes.ownedTupleIsFree (.ref e) >>= _) _ _ ⟨h₄, g, d, tk + 1, os⟩
  rw [hsz]
  clear hh₄ he₃ hs₃ he₂ hs₂ he₁ hs₁ hit₁ hsz h₃ h₂ h₁
  refine wpAny_bind ?_
  unfold Builtin.SmallTypes.ownedTupleIsFree
  refine wpAny_bind (wpAny_field he₄ rfl (x := .none) rfl (wpAny_pure ?_))
  simp only [if_true]
  refine wpAny_bind (wpAny_rule ?_)
  refine wpAny_bind (wpAny_field he₄ rfl (x := old) rfl ?_)
  refine wpAny_bind (wpAny_setField_rec he₄ (by simp) fun h₅ he₅ hs₅ => ?_)
  replace hs₅ : Heap.SameBut e h₄ h₅ := hs₅
  replace he₅ : IsEnum h₅ e it ((i : Int) + 1) x := he₅
  show wpAny _ _ (Builtin.SmallTypes.ownedTupleHandOut (.ref e) (.ref hp.objs.size) >>= _) _ _ ⟨h₅, g, d, tk + 1, os⟩
  refine wpAny_bind ?_
  unfold Builtin.SmallTypes.ownedTupleHandOut
  refine wpAny_bind (wpAny_setField_rec he₅ (by simp) fun h₆ he₆ hs₆ => ?_)
  replace hs₆ : Heap.SameBut e h₅ h₆ := hs₆
  replace he₆ : IsEnumOut h₆ e it ((i : Int) + 1) x hp.objs.size := he₆
  refine wpAny_setField_rec he₆ (by simp) fun h₇ he₇ hs₇ => ?_
  replace hs₇ : Heap.SameBut e h₆ h₇ := hs₇
  replace he₇ : IsEnumOut h₇ e it ((i : Int) + 1) x hp.objs.size := he₇
  refine wpAny_bind (wpAny_letGo (wpAny_pure ⟨_, rfl, wpAny_pure (hQ h₇ he₇ ?_ ?_ ?_)⟩))
  · exact ((hit₄.extBut hs₅.extBut (Ne.symm hne)).extBut hs₆.extBut (Ne.symm hne)).extBut hs₇.extBut (Ne.symm hne)
  · exact hs₇.extBut _ _ (Nat.ne_of_gt hel) (hs₆.extBut _ _ (Nat.ne_of_gt hel) (hs₅.extBut _ _ (Nat.ne_of_gt hel) ht₄))
  · exact fun b o hbe hbi hb => hs₇.extBut b o hbe (hs₆.extBut b o hbe (hs₅.extBut b o hbe (hk₄ b o hbe hbi hb)))

theorem enum_tup_end {e it l : Addr} {i : Nat} {items : Array Value} {old : Value} {Q : Option Value → Shared → Prop} (hh : A.handled = none)
    (he : IsEnum s.heap e it i old) (hit : s.heap.IsTupleIter it l i) (hl : s.heap.IsTuple l items) (hx : items[i]? = none)
    (hQ : ∀ h', Heap.ExtBut it s.heap h' → (∃ o, h'.get? it = some o) → Q none { s with heap := h' }) : wpAny (model prog w) A (pyNext (.ref e)) Q E s := by
  have hT : s.TypeIs (.ref e) "enumerate" := ⟨_, he, rfl⟩
  unfold pyNext
  refine wpAny_bind (wpAny_attempt (wpAny_callSpecial?_slot (name := Str.ofString "__next__") hT F.slot_enumerate_next
    (wpAny_call_entry F.slot_enumerate_next hT F.entry_enumerate_next ?_ (F.args_enumerate_next_1 _))))
  show wpAny _ _ (field (.ref e) 2 >>= _) _ _ _
  refine wpAny_bind (wpAny_field he rfl (x := .ref it) rfl ?_)
  refine wpAny_bind (of_tup_end hh hit hl hx fun h' x he' hi' hx' => ?_)
  obtain ⟨o, ho, hc⟩ := hx'
  refine wpAny_bind (wpAny_isInstance (T := "StopIteration") (b := true) ⟨o, ho, hc⟩ isSubtype_stop ?_)
  exact wpAny_pure (hQ _ he' hi')
end

/-- two told objects are changed -/
theorem HR.put2 {ρ : List Addr} {H : AH} {h h' : Heap} (D : HR g ρ H h) {i j : Nat} {a b : Addr} {o p : AO} {oa ob : Obj} (hi : ρ[i]? = some a) (hj : ρ[j]? = some b) (hne : a ≠ b)
    (hs : ∀ c x, c ≠ a → c ≠ b → h.get? c = some x → h'.get? c = some x) (ha : h'.get? a = some oa) (ra : OR g ρ h' o oa) (hb : h'.get? b = some ob) (rb : OR g ρ h' p ob) : HR g ρ ((H.set j p).set i o) h' := by
  have ham := List.mem_of_getElem? hi
  have hbm := List.mem_of_getElem? hj
  have hK := g.keep h h' D.base fun c x hc e => hs c x (fun q => D.off a ham (q ▸ hc)) (fun q => D.off b hbm (q ▸ hc)) e
  refine ⟨hK.1, by simp [D.len], D.nodup, fun c hc q => D.off c hc (hK.2.1 c q), fun k x e => ?_⟩
  rw [List.getElem?_set] at e
  by_cases hik : i = k
  · subst hik
    rw [if_pos rfl] at e
    split at e
    · cases e; exact ⟨a, oa, hi, ha, ra⟩
    · cases e
  rw [if_neg hik, List.getElem?_set] at e
  by_cases hjk : j = k
  · subst hjk
    rw [if_pos rfl] at e
    split at e
    · cases e; exact ⟨b, ob, hj, hb, rb⟩
    · cases e
  rw [if_neg hjk] at e
  obtain ⟨c, oc, e1, e2, e3⟩ := D.obj k x e
  refine ⟨c, oc, e1, hs c oc (fun q => ?_) (fun q => ?_) e2, e3.heap hK.2.2⟩
  · subst q; exact hik ((List.getElem?_inj (List.getElem?_eq_some_iff.mp hi).1 D.nodup).mp (hi.trans e1.symm))
  · subst q; exact hjk ((List.getElem?_inj (List.getElem?_eq_some_iff.mp hj).1 D.nodup).mp (hj.trans e1.symm))
theorem Nx.put2 {ρ : List Addr} {H : AH} {s : Shared} {h' : Heap} {tk : Nat} (D : HR g ρ H s.heap) {a b : Addr} (ham : a ∈ ρ) (hbm : b ∈ ρ)
    (hs : ∀ c x, c ≠ a → c ≠ b → s.heap.get? c = some x → h'.get? c = some x) (ha : ∃ o, h'.get? a = some o) (hb : ∃ o, h'.get? b = some o) : Nx g ρ ρ s { s with heap := h', toks := tk } := by
  have hK := g.keep s.heap h' D.base fun c x hc e => hs c x (fun q => D.off a ham (q ▸ hc)) (fun q => D.off b hbm (q ▸ hc)) e
  refine ⟨List.prefix_refl _, fun _ q => .inl q, fun c x e => ?_, fun c x e n => .inl (hs c x (fun q => n (q ▸ ham)) (fun q => n (q ▸ hbm)) e), fun c q => .inl (hK.2.1 c q), hK.2.2, rfl, rfl, rfl⟩
  by_cases h1 : c = a
  · subst h1; exact ha
  · by_cases h2 : c = b
    · subst h2; exact hb
    · exact ⟨x, hs c x h1 h2 e⟩
/-- a thing that stands is told -/
theorem HR.tellN {ρ : List Addr} {H : AH} {h : Heap} (D : HR g ρ H h) {o : AO} {ob : Obj} {a : Addr} (hn : a ∉ ρ) (hb : ¬ g.bs h a) (ha : h.get? a = some ob) (r : OR g (ρ ++ [a]) h o ob) : HR g (ρ ++ [a]) (H ++ [o]) h where
  base := D.base
  len := by simp [D.len]
  nodup := by
    refine List.nodup_append.mpr ⟨D.nodup, by simp, fun b hbm c hc => ?_⟩
    simp at hc
    subst hc
    rintro rfl
    exact hn hbm
  off := fun b q => by
    rcases List.mem_append.mp q with q | q
    · exact D.off b q
    · simp at q; subst q; exact hb
  obj := fun i o' e => by
    by_cases hi : i < H.length
    · rw [List.getElem?_append_left hi] at e
      obtain ⟨b, ob', e1, e2, e3⟩ := D.obj i o' e
      exact ⟨b, ob', by rw [List.getElem?_append_left (by rw [D.len]; exact hi)]; exact e1, e2, e3.mono (List.prefix_append _ _)⟩
    · rw [List.getElem?_append_right (Nat.le_of_not_lt hi)] at e
      have : i - H.length = 0 := by
        have := (List.getElem?_eq_some_iff.mp e).1
        simp at this; omega
      rw [this] at e
      simp at e
      subst e
      refine ⟨a, ob, ?_, ha, r⟩
      rw [List.getElem?_append_right (by rw [D.len]; omega), D.len, this]; rfl

theorem nextE_sound {tgt : PySem.Expr} {m : Nat} {H : AH} {K : Option AV → AH → Prop} (h : nextE tgt m H K) {ρ : List Addr} {s : Shared} {a : Addr} {A : Around} {Q0 : Shared → Prop} {Q1 : Value → Shared → Prop} {E : Value → Shared → Prop}
    (hA : A.handled = none) (D : HR g ρ H s.heap) (hT : 1 ≤ s.toks) (hm : ρ[m]? = some a)
    (hQ0 : ∀ H' s', K none H' → Nx g ρ ρ s s' → HR g ρ H' s'.heap → 1 ≤ s'.toks → Q0 s')
    (hQ1 : ∀ v H' cv s' ρ', K (some v) H' → VR ρ' v cv → Nx g ρ ρ' s s' → HR g ρ' H' s'.heap → 1 ≤ s'.toks → Q1 cv s') :
    wpAny (model g.prog g.w) A (pyNext (.ref a)) (fun r s₁ => match r with | none => Q0 s₁ | some v => wpAny (model g.prog g.w) A (letOwnedTupleGo tgt (.ref a) v) (fun _ s' => Q1 v s') E s₁) E s := by
  have plain : nextW m H K → wpAny (model g.prog g.w) A (pyNext (.ref a)) (fun r s₁ => match r with | none => Q0 s₁ | some v => wpAny (model g.prog g.w) A (letOwnedTupleGo tgt (.ref a) v) (fun _ s' => Q1 v s') E s₁) E s := fun h =>
    nextW_sound h hA D hT hm hQ0 fun v H' cv s' k r N D' T' hcls => go_sound (D'.has (List.mem_of_getElem? hm)) hcls (hQ1 v H' cv s' ρ k r N D' T')
  unfold nextE at h
  split at h
  · rename_i m' i hmm
    split at h
    · rename_i es kk pp
      split at h
      · rename_i n j hmi
        split at h
        · rename_i xs hn hij hmm'
          obtain ⟨a', oe, e1, e2, it, r, old, e3, e4, e5⟩ := D.obj m _ hmm
          rw [hm] at e1; cases e1
          subst e5
          obtain ⟨b, ob, f1, f2, l, f3, f4, f5⟩ := D.obj m' _ hmi
          rw [e3] at f1; cases f1
          obtain ⟨l', vs, k, f6, f7, f8, f9⟩ := D.tup hn ⟨l, f3, rfl⟩
          cases f6
          have hi : i = (j : Int) := by simpa using hij
          subst hi
          have he : IsEnum s.heap a it (j : Int) old := by rw [IsEnum, e2, e4]
          have hne : a ≠ it := fun q => by
            subst q
            have := (List.getElem?_inj (List.getElem?_eq_some_iff.mp hm).1 D.nodup).mp (hm.trans e3.symm)
            subst this; simp at hmm'
          have hit : s.heap.IsTupleIter it l j := ⟨ob, f2, f4, f5⟩
          have hl : s.heap.IsTuple l vs := ⟨_, f8, rfl, k, rfl⟩
          have ham := List.mem_of_getElem? hm
          have hbm := List.mem_of_getElem? e3
          split at h
          · rename_i x hx
            obtain ⟨cx, g1, g2⟩ := f9.getA hx
            refine enum_tup_item he hit hl g1 hne fun h' x1 x2 x3 x4 => ?_
            refine wpAny_letOwnedTupleGo_enum x1 fun h'' y1 y2 => ?_
            have y2 : Heap.SameBut a h' h'' := y2
            have hsz : s.heap.get? s.heap.objs.size = none := get_size _
            have hza : s.heap.objs.size ≠ a := fun q => by rw [q, e2] at hsz; cases hsz
            have hzi : s.heap.objs.size ≠ it := fun q => by rw [q, f2] at hsz; cases hsz
            have hk : ∀ c o, c ≠ a → c ≠ it → s.heap.get? c = some o → h''.get? c = some o := fun c o h1 h2 e => (y2.2 c h1).trans (x4 c o h1 h2 e)
            obtain ⟨oi, z1, z2, z3⟩ := x2
            have z1' := (y2.2 it hne.symm).trans z1
            have tp := (y2.2 _ hza).trans x3
            have D' : HR g ρ ((H.set m' (.itT n (j + 1))).set m (.itE m' ((j + 1 : Nat) : Int))) h'' := D.put2 hm e3 hne hk y1 ⟨it, .none, _, e3, by push_cast; rfl, rfl⟩ z1' ⟨l, f3, z2, z3⟩
            have N' : Nx g ρ ρ s { s with heap := h'', toks := s.toks + 1 } := Nx.put2 D ham hbm hk ⟨_, y1⟩ ⟨_, z1'⟩
            have hb : ¬ g.bs h'' s.heap.objs.size := fun q => by
              rcases N'.bsn _ q with q | q
              · obtain ⟨o, e⟩ := g.lt _ _ D.base q
                rw [hsz] at e; cases e
              · exact D.top.elim (by
                  have := g.keep s.heap h'' D.base fun c x hc e => hk c x (fun q => D.off a ham (q ▸ hc)) (fun q => D.off it hbm (q ▸ hc)) e
                  obtain ⟨o, e⟩ := g.lt _ _ D.base (this.2.1 _ ‹_›)
                  rw [hsz] at e; cases e)
            have D'' := D'.tellN (o := .tup [.int (j : Int), x]) D.top hb tp ⟨_, _, rfl, ⟨_, _, rfl, ⟨_, rfl⟩, _, _, rfl, g2.mono (List.prefix_append _ _), rfl⟩⟩
            refine hQ1 _ _ _ _ (ρ ++ [s.heap.objs.size]) h ⟨s.heap.objs.size, get_last D _, rfl⟩ ⟨List.prefix_append _ _, fun c hc => ?_, N'.live, N'.keep, N'.bsn, N'.cdm, N'.gens, N'.os, N'.drawn⟩ D'' (Nat.le_succ_of_le hT)
            rcases List.mem_append.mp hc with q | q
            · exact .inl q
            · simp at q; subst q; exact .inr hsz
          · rename_i hx
            refine enum_tup_end hA he hit hl (f9.noneA hx) fun h' x1 x2 => ?_
            have hk : ∀ c o, c ≠ a → c ≠ it → s.heap.get? c = some o → h'.get? c = some o := fun c o h1 h2 e => x1 c o h2 e
            obtain ⟨oi, x2⟩ := x2
            have y1 := x1 a _ hne e2
            exact hQ0 _ _ h (Nx.put2 (tk := s.toks) D ham hbm hk ⟨_, y1⟩ ⟨_, x2⟩) (D.put2 hm e3 hne hk y1 trivial x2 trivial) hT
        · exact h.elim
      · exact h.elim
    · exact h.elim
  · exact plain h
end Py

end
section
open PySem PySem.W PyProof.Rows
set_option maxRecDepth 10000
set_option autoImplicit false
set_option linter.unusedVariables false
namespace Py
variable {g : G}

theorem relabel_relS {scope : Scope} {env : Env} {c : PC} (h : env.scope = c.scope) : relabel scope env = relS scope c.scope := by
  unfold relabel relS Env.kindOf
  rw [h]

theorem cloOf_sound {cells : List (Str × Nat)} {env : Env} {ρ : List Addr} (hc : ∀ x i, cells.lookup x = some i → ∃ a, env.cells.lookup x = some a ∧ ρ[i]? = some a) :
    ∀ {names : List (Str × NameKind)} {acc res : List (Str × Nat)} {cacc : List (Str × Addr)}, cloOf cells names acc = some res → CR ρ acc cacc →
    ∃ cl, CR ρ res cl ∧ forIn names cacc (fun (x : Str × NameKind) cs => if (x.2 == NameKind.free) = true then do let a ← cellOf env x.1; pure (ForInStep.yield ((x.1, a) :: cs)) else pure (ForInStep.yield cs)) = (pure cl : Sem (List (Str × Addr)))
  | [], acc, res, cacc, h, r => by unfold cloOf at h; cases h; exact ⟨cacc, r, by rw [List.forIn_nil]⟩
  | (x, k) :: names, acc, res, cacc, h, r => by
    unfold cloOf at h
    split at h
    · rename_i hk
      split at h
      · rename_i i hi
        obtain ⟨a, e1, e2⟩ := hc x i hi
        obtain ⟨cl, h1, h2⟩ := cloOf_sound hc (cacc := (x, a) :: cacc) h ⟨a, cacc, rfl, e2, r⟩
        refine ⟨cl, h1, ?_⟩
        rw [List.forIn_cons]
        simp only [hk, if_true]
        have : cellOf env x = pure a := by unfold cellOf; rw [e1]
        rw [this]
        exact h2
      · cases h
    · rename_i hk
      obtain ⟨cl, h1, h2⟩ := cloOf_sound hc h r
      refine ⟨cl, h1, ?_⟩
      rw [List.forIn_cons]
      simp only [hk, Bool.false_eq_true, if_false]
      exact h2
theorem CR.lookup {ρ : List Addr} : ∀ {xs : List (Str × Nat)} {l : List (Str × Addr)} {x : Str} {i : Nat}, CR ρ xs l → xs.lookup x = some i → ∃ a, l.lookup x = some a ∧ ρ[i]? = some a
  | [], _, _, _, _, h => by simp at h
  | (y, j) :: r, l, x, i, ⟨a, q, e, p, cr⟩, h => by
    rw [List.lookup_cons] at h
    subst e
    rw [List.lookup_cons]
    cases hx : x == y with
    | true => rw [hx] at h; cases h; exact ⟨a, rfl, p⟩
    | false => rw [hx] at h; exact cr.lookup h

theorem Nx.of_l {ρ ρ₁ ρ' : List Addr} {s s₁ s' : Shared} {C : Addr} (x : Nx g ρ ρ₁ s s₁) (y : NxL g C ρ₁ ρ' s₁ s') (hC : s.heap.get? C = none) : Nx g ρ ρ' s s' where
  pre := x.pre.trans y.pre
  fresh := fun a h => (y.fresh a h).elim (x.fresh a) fun e => .inr (none_of_live x.live e)
  live := fun b o e => let ⟨o', e'⟩ := x.live b o e; y.live b o' e'
  keep := fun b o e n => (x.keep b o e n).trans fun o' e' => y.keep b o' e' (fun q => (x.fresh b q).elim n fun z => by rw [e] at z; cases z) (by rintro rfl; rw [hC] at e; cases e)
  bsn := fun b e => (y.bsn b e).elim (x.bsn b) fun e => .inr (none_of_live x.live e)
  cdm := fun c q e => y.cdm c q (x.cdm c q e)
  gens := y.gens.trans x.gens
  os := y.os.trans x.os
  drawn := y.drawn.trans x.drawn

theorem compLoop_go {prog : Program} {w : World} {A : Around} {R : Result → Shared → Prop} {s : Shared} {elt target iter : PySem.Expr} {ifs : List PySem.Expr} {scope : Scope} {pos : Pos} {it acc : Value} {env : Env} (I : Nat → Shared → Prop)
    (turn : ∀ n s, I n s → ∀ E : Value → Shared → Prop, wpAny (model prog w) A (pyNext it) (fun r s₁ => match r with
      | none => R (.ok .next) s₁
      | some v => wpAny (model prog w) A (letOwnedTupleGo target it v) (fun _ s₁' => wpAny (model prog w) A (assign target env v) (fun _ s₂ =>
          wpAny (model prog w) A (forIn ifs true fun c r => if r = true then do let ok ← isTrue c env (eval c env); pure (ForInStep.yield ok) else pure (ForInStep.yield r)) (fun ok s₃ =>
            if ok = true then wpAny (model prog w) A (eval elt env) (fun x s₄ =>
              wpAny (model prog w) A (call (.builtin "list.append") [acc, x]) (fun _ s₅ => ∃ m, m < n ∧ I m s₅) E s₄) E s₃
            else ∃ m, m < n ∧ I m s₃) E s₂) E s₁') E s₁) E s)
    (n : Nat) (h : I n s) : codeAny (model prog w) A (.compLoop (.ListComp elt [⟨target, iter, ifs, 0⟩] scope pos) 0 it acc env) R s := by
  refine codeAny_loop rfl I (fun n s hI => ?_) n h
  show wpAny _ A ((compTurn (.ListComp elt [⟨target, iter, ifs, 0⟩] scope pos) 0 it acc env).onRaise (fun x => do noteFrame x env; theTreesLotGoes x)) _ _ s
  refine wpAny_noted ?_
  rw [compTurn_list]
  refine wpAny_bind (wpAny_standAt (wpAny_bind (wpAny_mono (turn n s hI _) (fun r s₁ h₁ => ?_) fun _ _ x => x)))
  cases r with
  | none => exact wpAny_pure h₁
  | some v =>
    refine wpAny_bind (wpAny_mono h₁ (fun _ s₁' h₁' => wpAny_bind (wpAny_mono h₁' (fun _ s₂ h₂ => wpAny_bind (wpAny_mono h₂ (fun ok s₃ h₃ => ?_) fun _ _ x => x)) fun _ _ x => x)) fun _ _ x => x)
    cases ok with
    | false =>
      rw [if_neg Bool.false_ne_true] at h₃
      rw [if_neg Bool.false_ne_true]
      exact wpAny_pure ⟨rfl, h₃⟩
    | true =>
      rw [if_pos rfl] at h₃
      rw [if_pos rfl]
      exact wpAny_bind (wpAny_bind (wpAny_mono h₃ (fun x s₄ h₄ => wpAny_bind (wpAny_mono h₄ (fun _ s₅ h₅ => wpAny_pure (wpAny_pure ⟨rfl, h₅⟩)) fun _ _ x => x)) fun _ _ x => x))

theorem sound_q {d : Nat} {c : PC} {elt tgt iter : PySem.Expr} {ifs : List PySem.Expr} {scope : Scope} {pos : Pos} {m dd : Nat} {K : AH → Prop} : ∀ (n : Nat), (∀ k, k < n → Sound g d c k) → ∀ {loc : Lc} {H : AH}, awq n c loc elt tgt ifs m dd H K →
    ∀ {env : Env} {ρ : List Addr} {s : Shared} {A : Around} {R : Result → Shared → Prop} {a ad : Addr}, AOk d A → FR g env c ρ loc s.heap → HR g ρ H s.heap → 1 ≤ s.toks → ρ[m]? = some a → ρ[dd]? = some ad →
    (∀ loc' H' s' ρ', K H' → NxL g env.locals ρ ρ' s s' → FR g env c ρ' loc' s'.heap → HR g ρ' H' s'.heap → 1 ≤ s'.toks → R (.ok .next) s') →
    codeAny (model g.prog g.w) A (.compLoop (.ListComp elt [⟨tgt, iter, ifs, 0⟩] scope pos) 0 (.ref a) (.ref ad) env) R s := by
  intro n S loc H h env ρ s A R a ad hA F D T ha had hQ
  refine compLoop_go (fun k s' => k ≤ n ∧ ∃ loc' H' ρ', awq k c loc' elt tgt ifs m dd H' K ∧ NxL g env.locals ρ ρ' s s' ∧ FR g env c ρ' loc' s'.heap ∧ HR g ρ' H' s'.heap ∧ 1 ≤ s'.toks)
    (fun k s₁ hI E => ?_) n ⟨Nat.le_refl _, loc, H, ρ, h, NxL.refl, F, D, T⟩
  obtain ⟨hk, loc₁, H₁, ρ₁, h₁, N₁, F₁, D₁, T₁⟩ := hI
  cases k with
  | zero => unfold awq at h₁; exact h₁.elim
  | succ k =>
    unfold awq at h₁
    have Sk := S k (Nat.lt_of_lt_of_le (Nat.lt_succ_self k) hk)
    refine nextE_sound h₁ hA.hd D₁ T₁ (prefix_get N₁.pre ha) (fun H₂ s₂ k₂ N₂ D₂ T₂ => ?_) fun v H₂ cv s₂ ρ₂ k₂ r N₂ D₂ T₂ => ?_
    · exact hQ _ _ _ _ k₂ (N₁.trans N₂.l) (F₁.nx N₂) D₂ T₂
    · refine Sk.a _ _ _ _ _ k₂ env ρ₂ s₂ A cv _ _ hA (F₁.nx N₂) D₂ T₂ r fun loc₃ H₃ s₃ ρ₃ k₃ N₃ F₃ D₃ T₃ => ?_
      have N := (N₁.trans N₂.l).trans N₃
      have emit : ∀ {H₄ : AH} {s₄ : Shared} {ρ₄ : List Addr}, (awe k c loc₃ elt H₄ fun x H => appW dd x H fun H => awq k c loc₃ elt tgt ifs m dd H K) → Nx g ρ₃ ρ₄ s₃ s₄ → HR g ρ₄ H₄ s₄.heap → 1 ≤ s₄.toks →
          wpAny (model g.prog g.w) A (eval elt env) (fun x s₄ => wpAny (model g.prog g.w) A (call (.builtin "list.append") [.ref ad, x]) (fun _ s₅ => ∃ m', m' < k + 1 ∧ (m' ≤ n ∧ ∃ loc' H' ρ', awq m' c loc' elt tgt ifs m dd H' K ∧ NxL g env.locals ρ ρ' s s₅ ∧ FR g env c ρ' loc' s₅.heap ∧ HR g ρ' H' s₅.heap ∧ 1 ≤ s₅.toks)) E s₄) E s₄ := by
        intro H₄ s₄ ρ₄ k₄ N₄ D₄ T₄
        refine Sk.e _ _ _ _ k₄ env ρ₄ s₄ A _ _ hA (F₃.nx N₄) D₄ T₄ fun x H₅ cx s₅ ρ₅ k₅ rx N₅ D₅ T₅ => ?_
        have N' := N₄.trans N₅
        refine appW_sound k₅ D₅ T₅ (prefix_get (N.pre.trans N'.pre) had) rx fun H₆ s₆ k₆ N₆ D₆ T₆ => ?_
        have N'' := N'.trans N₆
        exact ⟨k, Nat.lt_succ_self k, Nat.le_of_succ_le hk, loc₃, H₆, ρ₅, k₆, N.trans N''.l, F₃.nx N'', D₆, T₆⟩
      split at k₃
      · refine wpAny_tests_nil ?_
        rw [if_pos rfl]
        exact emit k₃ (Nx.refl _ _) D₃ T₃
      · refine wpAny_tests_one (Sk.t _ _ _ _ k₃ env ρ₃ s₃ A _ _ hA F₃ D₃ T₃ fun b H₄ s₄ ρ₄ k₄ N₄ D₄ T₄ => ?_)
        have k₄ := iteW_elim k₄
        cases b with
        | true => rw [if_pos rfl]; exact emit k₄ N₄ D₄ T₄
        | false =>
          rw [if_neg Bool.false_ne_true]
          exact ⟨k, Nat.lt_succ_self k, Nat.le_of_succ_le hk, loc₃, H₄, ρ₄, k₄, N.trans N₄.l, F₃.nx N₄, D₄, T₄⟩
      · exact k₃.elim

theorem compPC_scope {c c' : PC} {scope : Scope} (h : compPC c scope = some c') :
    scope.kind = .function ∧ (∀ x ∈ scope.names, (x.1 == ("__debug__" : Str)) = false ∧ (x.1 == ("__classdict__" : Str)) = false ∧ x.2 ≠ .cell ∧ (x.2 = .local → scope.names.lookup x.1 = some .local)) ∧
    ∃ cl, cloOf c.cells scope.names [] = some cl ∧ c' = { c with scope := relS scope c.scope, cells := cl, hk := fun _ => none } := by
  unfold compPC at h
  split at h
  · rename_i cl hk ha hc
    cases h
    refine ⟨hk, fun x hx => ?_, cl, hc, rfl⟩
    have := List.all_eq_true.mp ha x hx
    simp only [Bool.and_eq_true, Bool.or_eq_true, bne_iff_ne, ne_eq, beq_iff_eq] at this
    obtain ⟨⟨⟨h1, h2⟩, h3⟩, h4⟩ := this
    refine ⟨by simpa using h1, by simpa using h2, h3, fun hl => ?_⟩
    rcases h4 with h4 | h4
    · exact absurd hl h4
    · exact h4
  · cases h

theorem relS_lookup {outer : Scope} : ∀ {names : List (Str × NameKind)} {x : Str} {k : NameKind},
    (names.map fun (n, k) => if (k == .free && outer.kind == .function && outer.names.lookup n == some .cell) then (n, .cell) else (n, k)).lookup x = some k → ∃ k', (x, k') ∈ names
  | [], _, _, h => by simp at h
  | (y, k₀) :: r, x, k, h => by
    rw [List.map_cons, List.lookup_cons] at h
    by_cases hx : x = y
    · subst hx; exact ⟨k₀, List.mem_cons_self⟩
    · have e : ∀ p : Str × NameKind, p.1 = y → (x == p.1) = false := fun p hp => by rw [hp]; simpa using hx
      have hfst : (if (k₀ == NameKind.free && outer.kind == .function && outer.names.lookup y == some NameKind.cell) = true then (y, NameKind.cell) else (y, k₀)).1 = y := by split <;> rfl
      rw [e _ hfst] at h
      obtain ⟨k', hk'⟩ := relS_lookup h
      exact ⟨k', List.mem_cons_of_mem _ hk'⟩

theorem compPC_ok {d : Nat} {c c' : PC} {scope : Scope} (C : COk g d c) (h : compPC c scope = some c') : COk g d c' := by
  obtain ⟨_, h2, cl, _, rfl⟩ := compPC_scope h
  refine ⟨C.sp, C.gl, fun x k hx => ?_, (fun _ _ _ _ _ _ e => nomatch e), C.kf⟩
  obtain ⟨k', hk'⟩ := relS_lookup hx
  exact ⟨(h2 _ hk').1, (h2 _ hk').2.1⟩

noncomputable def isItO : AO → Bool
  | .itL .. => true
  | .itT .. => true
  | .itR .. => true
  | .itV .. => true
  | .itE .. => true
  | _ => false
theorem iter_self {m : Nat} {H : AH} {K : Nat → AH → Prop} (h : ∃ o, H[m]? = some o ∧ isItO o = true) (k : K m H) : iterW (.ref m) H K := by
  obtain ⟨o, e, h⟩ := h
  unfold iterW
  dsimp only
  rw [e]
  cases o <;> first | exact k | cases h
theorem iterW_it {v : AV} {H : AH} {K : Nat → AH → Prop} (h : iterW v H K) : iterW v H fun m H' => K m H' ∧ ∃ o, H'[m]? = some o ∧ isItO o = true := by
  unfold iterW at h ⊢
  split at h
  · rename_i n
    dsimp only
    split at h
    · exact ⟨h, .itL n 0, by simp, rfl⟩
    · exact ⟨h, .itT n 0, by simp, rfl⟩
    · rename_i a b c _
      split at h
      · exact ⟨h, .itR a (Builtin.Range.rangeSize a b c) c, by simp, rfl⟩
      · exact h.elim
    · rename_i e; exact ⟨h, _, e, rfl⟩
    · rename_i e; exact ⟨h, _, e, rfl⟩
    · rename_i e; exact ⟨h, _, e, rfl⟩
    · rename_i e; exact ⟨h, _, e, rfl⟩
    · rename_i e; exact ⟨h, _, e, rfl⟩
    · exact h.elim
  · exact h.elim

noncomputable abbrev cEnv (scope : Scope) (C : Addr) (cl : List (Str × Addr)) (env : Env) : Env := { newEnv scope C env.globals cl env.qual none .none (some env) builtinsNs with scope := relabel scope env }

theorem comp_gen {d : Nat} {c : PC} (C : COk g d c) {n : Nat} (S : ∀ k, k ≤ n → ∀ c', COk g d c' → Sound g d c' k) {loc : Lc} {H : AH} {K : Kv} {elt tgt it : PySem.Expr} {ifs : List PySem.Expr} {scope : Scope} {pos : Pos}
    (h : match isSetD it, compPC c scope with
      | false, some c' => awe n c loc it H fun v H => iterW v H fun m H => newW (.lst []) H fun acc H => match acc with
        | .ref d => awq n c' [] elt tgt ifs m d H (K (.ref d))
        | _ => False
      | _, _ => False)
    {env : Env} {ρ : List Addr} {s : Shared} {A : Around} {Q E : Value → Shared → Prop} {use : Option (Value → Sem Unit)} (hA : AOk d A) (F : FR g env c ρ loc s.heap) (D : HR g ρ H s.heap) (T : 1 ≤ s.toks)
    (hu : ∀ ad H' s' ρ' Cx mm dI, K (.ref dI) H' → ρ'[dI]? = some ad → Nx g ρ ρ' s s' → HR g ρ' H' s'.heap → 1 ≤ s'.toks → s.heap.get? Cx = none → Cx ∉ ρ' → ¬ g.bs s'.heap Cx → s'.heap.Ns Cx mm →
      compPost (model g.prog g.w) A E use Q (.ref ad) Cx (.ok .next) s') :
    wpAny (model g.prog g.w) A (comprehension (.ListComp elt [⟨tgt, it, ifs, 0⟩] scope pos) scope env (firstIterPos [⟨tgt, it, ifs, 0⟩] pos) (newList []) (firstAsync [⟨tgt, it, ifs, 0⟩]) (firstIter [⟨tgt, it, ifs, 0⟩] env) use) Q E s := by
  split at h
  · rename_i c' hset hpc
    obtain ⟨hkind, hnm, cl, hcl, hc'⟩ := compPC_scope hpc
    have C' := compPC_ok C hpc
    obtain ⟨ccl, hcr, hclos⟩ := cloOf_sound (cells := c.cells) (env := env) (ρ := ρ) F.cl (cacc := []) hcl rfl
    have hclos' : closureFor scope env = pure ccl := by
      show (do let cs ← forIn scope.names [] _; pure cs) = _
      rw [← hclos]
      show (forIn scope.names [] _ >>= pure) = _
      rw [bind_pure]
    refine wpAny_comprehension_free (cl := ccl) rfl (isSetD_folded hset env) hclos' hkind (fun x hx hl => (hnm x hx).2.2.2 hl) ?_
    refine (S n (Nat.le_refl _) c C).e _ _ _ _ h env ρ s A _ _ hA F D T fun v H₁ cv s₁ ρ₁ k₁ r₁ N₁ D₁ T₁ => ?_
    refine iterW_sound (iterW_it k₁) D₁ T₁ r₁ fun m H₂ a s₂ ρ₂ k₂ ha N₂ D₂ T₂ => ?_
    obtain ⟨k₂, hit⟩ := k₂
    refine newW_lst (K := fun v H => (match v with | .ref d => awq n c' [] elt tgt ifs m d H (K (.ref d)) | _ => False) ∧ ∃ o, H[m]? = some o ∧ isItO o = true) ⟨k₂, ?_⟩ D₂ T₂ (show VRs ρ₂ [] [] from rfl) (by decide) fun v₃ H₃ cv₃ s₃ ρ₃ k₃ r₃ N₃ D₃ T₃ => ?_
    · obtain ⟨o, e1, e2⟩ := hit
      exact ⟨o, by rw [List.getElem?_append_left (List.getElem?_eq_some_iff.mp e1).1]; exact e1, e2⟩
    obtain ⟨k₃, hit₃⟩ := k₃
    cases v₃ <;> first | (exact k₃.elim) | skip
    rename_i dI
    obtain ⟨ad, had, rfl⟩ := r₃
    dsimp only at k₃
    refine wpAny_newFunctionEnv (fun x hx => (hnm x hx).2.2.1) (by intro x hx; simp at hx) (fun h' hns hsb => ?_) hkind
    have hold : ∀ b o, s₃.heap.get? b = some o → h'.get? b = some o := fun b o e => hsb.extBut b o (by rintro rfl; rw [get_size] at e; cases e) (Heap.get?_push_of_some _ e)
    have N₀ : Nx g ρ ρ₃ s s₃ := (N₁.trans N₂).trans N₃
    have N₄ : Nx g ρ₃ ρ₃ s₃ { s₃ with heap := h', toks := s₃.toks + ([] : List (Str × Value)).length } := Nx.grow D₃ hold
    have D₄ : HR g ρ₃ H₃ h' := D₃.grow hold
    have htop : s₃.heap.objs.size ∉ ρ₃ := D₃.top
    have hCs : s.heap.get? s₃.heap.objs.size = none := none_of_live N₀.live (get_size _)
    have hbs : ¬ g.bs h' s₃.heap.objs.size := fun q => by
      obtain ⟨o, e⟩ := g.lt _ _ D₃.base ((g.keep _ _ D₃.base fun b o _ e => hold b o e).2.1 _ q)
      rw [get_size] at e; cases e
    have htb : ¬ g.tb s₃.heap.objs.size := fun q => by
      obtain ⟨o, e⟩ := g.lt _ _ D₃.base (g.tbb _ _ D₃.base q)
      rw [get_size] at e; cases e
    have F₄ : FR g (cEnv scope s₃.heap.objs.size ccl env) c' ρ₃ [] h' := by
      subst hc'
      refine ⟨relabel_relS F.sc, hkind, F.gl, F.bl, htop, hbs, htb, F.cd, F.qn, ⟨_, hns, fun x v e => by simp at e⟩, fun x i e => ?_⟩
      exact CR.lookup (hcr.mono N₀.pre) e
    have T₄ : 1 ≤ ({ s₃ with heap := h', toks := s₃.toks + ([] : List (Str × Value)).length } : Shared).toks := T₃
    have loop : ∀ s₅, Nx g ρ₃ ρ₃ { s₃ with heap := h', toks := s₃.toks + ([] : List (Str × Value)).length } s₅ → HR g ρ₃ H₃ s₅.heap → 1 ≤ s₅.toks →
        codeAny (model g.prog g.w) A (.compLoop (.ListComp elt [⟨tgt, it, ifs, 0⟩] scope pos) 0 (.ref a) (.ref ad) (cEnv scope s₃.heap.objs.size ccl env)) (compPost (model g.prog g.w) A E use Q (.ref ad) s₃.heap.objs.size) s₅ := by
      intro s₅ N₅ D₅ T₅
      refine sound_q n (fun k hk => S k (Nat.le_of_lt hk) c' C') k₃ hA (F₄.nx N₅) D₅ T₅ (prefix_get N₃.pre ha) had fun loc' H' s' ρ' k' N' F' D' T' => ?_
      obtain ⟨mm, hmm, _⟩ := F'.ns
      exact hu ad H' s' ρ' s₃.heap.objs.size mm dI k' (prefix_get N'.pre had) (Nx.of_l (N₀.trans (N₄.trans N₅)) N' hCs) D' T' hCs F'.off F'.nbs hmm
    refine codeAny_compStart_list (loop _ (Nx.refl _ _) D₄ T₄) ?_
    refine iterW_sound (iter_self hit₃ (K := fun m' H' => m' = m ∧ H' = H₃) ⟨rfl, rfl⟩) D₄ T₄ ⟨a, prefix_get N₃.pre ha, rfl⟩ fun m' H' a' s' ρ' k' ha' N' D' T' => ?_
    obtain ⟨rfl, rfl⟩ := k'
    have hρ : ρ' = ρ₃ := by
      obtain ⟨t, ht⟩ := N'.pre
      have hl : ρ'.length = ρ₃.length := by rw [D'.len, D₃.len]
      rw [← ht, List.length_append] at hl
      have : t = [] := List.eq_nil_of_length_eq_zero (by omega)
      rw [← ht, this, List.append_nil]
    subst hρ
    have : a' = a := by
      have := prefix_get N₃.pre ha
      rw [ha'] at this; cases this; rfl
    subst this
    exact loop _ N' D' T'
  · exact h.elim
end Py

end
section
open PySem PySem.W PyProof.Rows
set_option maxRecDepth 10000
set_option autoImplicit false
set_option linter.unusedVariables false
namespace Py
variable {g : G}

theorem noStar_all {pos : Pos} {env : Env} {es : List PySem.Expr} (h : noStar es = true) : ((backTo pos (starEach es env)).all fun x => !x.fst) = true := by
  have := backTo_any (pos := pos) (noStar_any (env := env) h)
  rw [List.any_eq_false] at this
  rw [List.all_eq_true]
  intro x hx
  have := this x hx
  simpa using this

theorem HR.other {ρ : List Addr} {H : AH} {h h' : Heap} {C : Addr} (D : HR g ρ H h) (hC : C ∉ ρ) (hb : ¬ g.bs h C) (hs : Heap.SameBut C h h') : HR g ρ H h' :=
  have hK := g.keep _ _ D.base fun b o q e => (hs.2 b (by rintro rfl; exact hb q)).trans e
  ⟨hK.1, D.len, D.nodup, fun b hb z => D.off b hb (hK.2.1 b z), fun i o e => by
    obtain ⟨a, ob, e1, e2, e3⟩ := D.obj i o e
    exact ⟨a, ob, e1, (hs.2 a (by rintro rfl; exact hC (List.mem_of_getElem? e1))).trans e2, e3.heap hK.2.2⟩⟩
theorem Nx.other {ρ ρ' : List Addr} {s s' : Shared} {h' : Heap} {C : Addr} (N : Nx g ρ ρ' s s') (hC : s.heap.get? C = none) (hs : Heap.SameBut C s'.heap h') (hb : ∀ b, g.bs h' b → g.bs s'.heap b) (hcd : ∀ c q, g.cdk s'.heap c q → g.cdk h' c q) (ht : ∃ o, s'.heap.get? C = some o) : Nx g ρ ρ' s { s' with heap := h' } where
  pre := N.pre
  fresh := N.fresh
  live := fun b o e => by
    obtain ⟨o', e'⟩ := N.live b o e
    exact ⟨o', (hs.2 b (by rintro rfl; rw [hC] at e; cases e)).trans e'⟩
  keep := fun b o e n => (N.keep b o e n).trans fun o' e' => .inl ((hs.2 b (by rintro rfl; rw [hC] at e; cases e)).trans e')
  bsn := fun b e => N.bsn b (hb b e)
  cdm := fun c q e => hcd c q (N.cdm c q e)
  gens := N.gens
  os := N.os
  drawn := N.drawn
theorem awe_comp {n : Nat} {c : PC} {loc : Lc} {elt : PySem.Expr} {gens : List Comprehension} {scope : Scope} {pos : Pos} {H : AH} {K : Kv} (h : awe (n + 1) c loc (.ListComp elt gens scope pos) H K) :
    ∃ tgt it ifs, gens = [⟨tgt, it, ifs, 0⟩] ∧ (match isSetD it, compPC c scope with
      | false, some c' => awe n c loc it H fun v H => iterW v H fun m H => newW (.lst []) H fun acc H => match acc with
        | .ref d => awq n c' [] elt tgt ifs m d H (K (.ref d))
        | _ => False
      | _, _ => False) := by
  cases gens with
  | nil => exact False.elim h
  | cons g r =>
    obtain ⟨tgt, it, ifs, a⟩ := g
    cases a with
    | negSucc k => exact False.elim h
    | ofNat k =>
      cases k with
      | succ k => exact False.elim h
      | zero =>
        cases r with
        | nil => exact ⟨tgt, it, ifs, rfl, h⟩
        | cons _ _ => exact False.elim h

theorem sound_e {d : Nat} {c : PC} (C : COk g d c) {n : Nat} (S : ∀ k, k ≤ n → ∀ c', COk g d c' → Sound g d c' k) (loc : Lc) (e : PySem.Expr) (H : AH) (K : Kv) (h : awe (n + 1) c loc e H K) : EvOk g d c loc e H K := by
  intro env ρ s A Q E hA F D T hQ
  have hu : A.units < cLine := Nat.lt_of_le_of_lt (Nat.le_add_right _ _) hA.un
  have S' := S n (Nat.le_refl _) c C
  cases e
  case Constant => exact constW_sound h D T hQ
  case Name => exact nameW_sound C h F D T hQ
  case BinOp l op r p =>
    refine wpAny_BinOp (S'.e _ _ _ _ h env ρ s A _ E hA F D T fun a H₁ ca s₁ ρ₁ k ra N D₁ T₁ => ?_)
    refine S'.e _ _ _ _ k env ρ₁ s₁ A _ E hA (F.nx N) D₁ T₁ fun b H₂ cb s₂ ρ₂ k₂ rb N₂ D₂ T₂ => ?_
    exact binW_sound k₂ hA.hd D₂ T₂ (ra.mono N₂.pre) rb ((hQ.nx N).nx N₂)
  case Compare l ops rs p =>
    cases ops with
    | nil => exact False.elim h
    | cons op t =>
    cases t with
    | cons _ _ => exact False.elim h
    | nil =>
    cases rs with
    | nil => exact False.elim h
    | cons r t =>
    cases t with
    | cons _ _ => exact False.elim h
    | nil =>
    replace h : (match (generalizing := false) behindInMarks op r with | true => False | false => awe n c loc l H fun a H => awe n c loc r H fun b H => cmpW op a b H K) := h
    split at h
    · exact h.elim
    · rename_i hm
      refine wpAny_Compare1 (S'.e _ _ _ _ h env ρ s A _ E hA F D T fun a H₁ ca s₁ ρ₁ k ra N D₁ T₁ => ?_) hm
      refine S'.e _ _ _ _ k env ρ₁ s₁ A _ E hA (F.nx N) D₁ T₁ fun b H₂ cb s₂ ρ₂ k₂ rb N₂ D₂ T₂ => ?_
      exact cmpW_sound k₂ hu D₂ T₂ (ra.mono N₂.pre) rb ((hQ.nx N).nx N₂)
  case IfExp t b o pos =>
    refine wpAny_IfExp (S'.t _ _ _ _ h env ρ s A _ E hA F D T fun b H₁ s₁ ρ₁ k N D₁ T₁ => ?_)
    have k := iteW_elim k
    cases b with
    | true => exact S'.e _ _ _ _ k env ρ₁ s₁ A _ E hA (F.nx N) D₁ T₁ (hQ.nx N)
    | false => exact S'.e _ _ _ _ k env ρ₁ s₁ A _ E hA (F.nx N) D₁ T₁ (hQ.nx N)
  case Call f args kws pos =>
    cases f
    case Name f fp =>
      cases kws with
      | cons _ _ => exact False.elim h
      | nil =>
      replace h : (match (generalizing := false) noStar args with | false => False | true => nameW c loc f H fun f H => awl n c loc args H fun vs H => match isCallee c f H with | true => c.sp f vs H K | false => False) := h
      split at h
      · exact h.elim
      · rename_i hst
        refine wpAny_Call_NameR (nameW_sound C h F D T fun f H₁ cf s₁ ρ₁ k rf N D₁ T₁ => ?_)
        exact call_sound C hst (S'.l _ _ _ _ k) hA (F.nx N) D₁ T₁ rf (hQ.nx N)
    case Attribute o name apos =>
      cases kws with
      | cons _ _ => exact False.elim h
      | nil =>
      replace h : (match (generalizing := false) noStar args, args.length.ble 20, apos.endLine == pos.line, o with
        | true, true, true, .Name x _ => nameW c loc x H fun ov H => match methOk name ov H with | true => awl n c loc args H fun vs H => methW c.sym name ov vs H K | false => False
        | true, true, true, .Constant (.str x) _ _ => match methOk name (.str x) H with | true => awl n c loc args H fun vs H => methW c.sym name (.str x) vs H K | false => False
        | _, _, _, _ => False) := h
      split at h
      · rename_i hst hlen hline
        refine wpAny_Call_method_late rfl ?_ hline rfl (nameW_sound C h F D T fun ov H₁ co s₁ ρ₁ k ro N D₁ T₁ => ?_)
        · rw [noStar_all hst]
          have := Nat.le_of_ble_eq_true hlen
          simp [keywordEach, backToKw]; omega
        · dsimp only at k
          split at k
          · rename_i hok
            exact methW_sound hst hok (S'.l _ _ _ _ k) hA (F.nx N) D₁ T₁ ro (hQ.nx N)
          · exact k.elim
      · rename_i hst hlen hline
        refine wpAny_Call_method_late rfl ?_ hline rfl (constW_sound (k := .str _) (K := fun v H' => v = .str _ ∧ H' = H) ⟨rfl, rfl⟩ D T fun ov H₁ co s₁ ρ₁ k ro N D₁ T₁ => ?_)
        · rw [noStar_all hst]
          have := Nat.le_of_ble_eq_true hlen
          simp [keywordEach, backToKw]; omega
        · obtain ⟨rfl, rfl⟩ := k
          split at h
          · rename_i hok
            exact methW_sound hst hok (S'.l _ _ _ _ h) hA (F.nx N) D₁ T₁ ro (hQ.nx N)
          · exact h.elim
      · exact h.elim
    all_goals exact False.elim h
  case Tuple es k p =>
    replace h : (match (generalizing := false) es.length.ble 1000 with | true => awl n c loc es H fun vs H => newW (.tup vs) H K | false => False) := h
    split at h
    · rename_i hl
      refine Tuple_ (S'.l _ _ _ _ h env ρ s A _ _ E hA F D T fun vs H₁ cvs s₁ ρ₁ k r hlen N D₁ T₁ => ?_)
      exact newW_tup k D₁ T₁ r (by rw [hlen]; exact Nat.le_trans (Nat.le_of_ble_eq_true hl) sizeLine_big) (hQ.nx N)
    · exact h.elim
  case List es p =>
    replace h : (match (generalizing := false) es.length.ble 1000 with | true => awl n c loc es H fun vs H => newW (.lst vs) H K | false => False) := h
    split at h
    · rename_i hl
      rw [arm_eval_List]
      refine wpAny_bind (wpAny_standAt (wpAny_bind (S'.l _ _ _ _ h env ρ s A _ _ E hA F D T fun vs H₁ cvs s₁ ρ₁ k r hlen N D₁ T₁ => ?_)))
      exact newW_lst k D₁ T₁ r (by rw [hlen]; exact Nat.le_trans (Nat.le_of_ble_eq_true hl) sizeLine_big) (hQ.nx N)
    · exact h.elim
  case UnaryOp op x p =>
    refine wpAny_UnaryOp (S'.e _ _ _ _ h env ρ s A _ E hA F D T fun a H₁ ca s₁ ρ₁ k ra N D₁ T₁ => ?_)
    exact unW_sound k D₁ T₁ ra (hQ.nx N)
  case Subscript o i p =>
    replace h : (match (generalizing := false) i with
      | .Slice lo hi st _ => awe n c loc o H fun o H => awp n c loc lo H fun lo H => awp n c loc hi H fun hi H => awp n c loc st H fun st H => sliW o lo hi st H K
      | i => awe n c loc o H fun o H => awe n c loc i H fun i H => match c.sym with
        | true => getS o i H K
        | false => getW o i H K) := h
    split at h
    · rename_i lo hi st p'
      refine Subscript_ (S'.e _ _ _ _ h env ρ s A _ E hA F D T fun ov H₁ co s₁ ρ₁ k ro N₁ D₁ T₁ => ?_)
      refine wpAny_Slice (S'.p _ _ _ _ k env ρ₁ s₁ A _ E hA (F.nx N₁) D₁ T₁ fun lv H₂ cl s₂ ρ₂ k₂ rl N₂ D₂ T₂ => ?_)
      refine S'.p _ _ _ _ k₂ env ρ₂ s₂ A _ E hA ((F.nx N₁).nx N₂) D₂ T₂ fun hv H₃ ch s₃ ρ₃ k₃ rh N₃ D₃ T₃ => ?_
      refine S'.p _ _ _ _ k₃ env ρ₃ s₃ A _ E hA (((F.nx N₁).nx N₂).nx N₃) D₃ T₃ fun tv H₄ ct s₄ ρ₄ k₄ rt N₄ D₄ T₄ => ?_
      exact sliW_sound k₄ D₄ T₄ (((ro.mono N₂.pre).mono N₃.pre).mono N₄.pre) ((rl.mono N₃.pre).mono N₄.pre) (rh.mono N₄.pre) rt ((((hQ.nx N₁).nx N₂).nx N₃).nx N₄)
    · refine Subscript_ (S'.e _ _ _ _ h env ρ s A _ E hA F D T fun ov H₁ co s₁ ρ₁ k ro N₁ D₁ T₁ => ?_)
      refine S'.e _ _ _ _ k env ρ₁ s₁ A _ E hA (F.nx N₁) D₁ T₁ fun iv H₂ ci s₂ ρ₂ k₂ ri N₂ D₂ T₂ => ?_
      dsimp only at k₂
      split at k₂
      · exact getS_sound k₂ D₂ T₂ (ro.mono N₂.pre) ri ((hQ.nx N₁).nx N₂)
      · exact getW_sound k₂ D₂ T₂ (ro.mono N₂.pre) ri ((hQ.nx N₁).nx N₂)
  case ListComp elt gens scope pos =>
    obtain ⟨tgt, it, ifs, rfl, h⟩ := awe_comp h
    rw [eval_ListComp]
    refine comp_gen C S h hA F D T fun ad H' s' ρ' Cx mm dI k' had N' D' T' hCx hCρ hCb hns => ?_
    refine ⟨mm, hns, fun h' hs => ?_⟩
    have hK := g.keep _ _ D'.base fun b o hb e => (hs.2 b (by rintro rfl; exact hCb hb)).trans e
    have N'' : Nx g ρ ρ' s { s' with heap := h' } := N'.other hCx hs hK.2.1 hK.2.2 (by obtain ⟨o, _, _, e, _⟩ := hns; exact ⟨o, e⟩)
    have D'' : HR g ρ' H' h' := D'.other hCρ hCb hs
    exact hQ _ _ _ _ _ k' ⟨ad, had, rfl⟩ N'' D'' T'
  all_goals exact False.elim h

theorem swaps_false {e : PySem.Expr} {t : Option PySem.Expr} {l : Nat} {env : Env} (h : isComp e = false) : swapsWith e t l env = pure false := by
  cases e <;> first | rfl | cases h

theorem inter_false {env : Env} (h : env.scope.kind = .function) : interactive env = false := by
  unfold interactive; rw [h]; rfl

theorem FR.other {env : Env} {c : PC} {ρ : List Addr} {loc : Lc} {h h' : Heap} {C : Addr} (F : FR g env c ρ loc h) (hC : C ≠ env.locals) (hs : Heap.SameBut C h h') (hb : ∀ b, g.bs h' b → g.bs h b) : FR g env c ρ loc h' := by
  obtain ⟨m, ⟨o, es, ep, ho, r⟩, hm⟩ := F.ns
  exact ⟨F.sc, F.kd, F.gl, F.bl, F.off, fun q => F.nbs (hb _ q), F.ntb, F.cd, F.qn, ⟨m, ⟨o, es, ep, (hs.2 _ (Ne.symm hC)).trans ho, r⟩, hm⟩, F.cl⟩

theorem loadW_sound {c : PC} {loc : Lc} {x : Str} {H : AH} {K : Kv} (hx : c.scope.names.lookup x = some .local) (h : nameW c loc x H K) {env : Env} {ρ : List Addr} {s : Shared} {A : Around} {Q E : Value → Shared → Prop}
    (F : FR g env c ρ loc s.heap) (D : HR g ρ H s.heap) (hT : 1 ≤ s.toks) (hQ : PostV g ρ s K Q) : wpAny (model g.prog g.w) A (loadName env x) Q E s := by
  unfold nameW at h
  rw [hx] at h
  dsimp only at h
  split at h
  · rename_i v hv
    obtain ⟨m, hn, hm⟩ := F.ns
    obtain ⟨cv, e1, e2⟩ := hm x v hv
    exact wpAny_loadName_local F.kind (by show env.scope.names.lookup x = _; rw [F.sc]; exact hx) hn e1 (hQ _ _ _ _ _ h e2 (Nx.refl _ _) D hT)
  · exact h.elim

theorem sound_s1 {d : Nat} {c : PC} (C : COk g d c) {n : Nat} (S : ∀ k, k ≤ n → ∀ c', COk g d c' → Sound g d c' k) (loc : Lc) (st : Stmt) (H : AH) (K : Fl → Lc → AH → Prop) (h : aw1 (n + 1) c loc st H K) : ExOk g d c loc st H K := by
  intro env ρ s A Q E hA F D T hQ
  have S' := S n (Nat.le_refl _) c C
  cases st
  case Return v p =>
    cases v with
    | none => exact wpAny_Return_none (hQ _ _ _ _ _ _ h (.ret rfl) NxL.refl F D T)
    | some e =>
      refine wpAny_Return_some (S'.e _ _ _ _ h env ρ s A _ E hA F D T fun v H₁ cv s₁ ρ₁ k r N D₁ T₁ => ?_)
      exact hQ _ _ _ _ _ _ k (.ret r) N.l (F.nx N) D₁ T₁
  case Assign tl e pos =>
    cases tl with
    | nil => exact False.elim h
    | cons tg tl =>
    cases tg
    case Name x xp =>
      cases tl with
      | cons _ _ => exact False.elim h
      | nil =>
      replace h : (match (generalizing := false) isComp1 e with | true => False | false => awe n c loc e H fun v H => storeW c loc x v H fun loc H => K .next loc H) := h
      split at h
      · exact h.elim
      rename_i hc1
      by_cases hc : isComp e = false
      · refine wpAny_Assign_Name (S'.e _ _ _ _ h env ρ s A _ E hA F D T fun v H₁ cv s₁ ρ₁ k r N D₁ T₁ => ?_) (swaps_false hc)
        exact store_sound k (F.nx N) D₁ T₁ r fun loc' H' s' k' N' F' D' T' => hQ _ _ _ _ _ _ k' .next (N.l.trans N') F' D' T'
      · cases e <;> first | (exact absurd rfl hc) | (cases hc1; done) | skip
        rename_i elt gens scope lpos
        have hsw : ∃ b, swapsWith (.ListComp elt gens scope lpos) (some (.Name x xp)) pos.line env = pure b := ⟨_, rfl⟩
        obtain ⟨b, hsw⟩ := hsw
        cases b with
        | false =>
          refine wpAny_Assign_Name (S'.e _ _ _ _ h env ρ s A _ E hA F D T fun v H₁ cv s₁ ρ₁ k r N D₁ T₁ => ?_) hsw
          exact store_sound k (F.nx N) D₁ T₁ r fun loc' H' s' k' N' F' D' T' => hQ _ _ _ _ _ _ k' .next (N.l.trans N') F' D' T'
        | true =>
          cases n with
          | zero => exact False.elim h
          | succ n =>
            obtain ⟨tgt, it, ifs, rfl, h'⟩ := awe_comp h
            clear h
            have h := h'
            clear h'
            rw [exec_Assign_Name_used _ _ _ _ hsw]
            refine wpAny_bind (wpAny_standAt (wpAny_bind ?_))
            show wpAny _ A (do let _ ← comprehension (.ListComp elt [⟨tgt, it, ifs, 0⟩] scope lpos) scope env (firstIterPos [⟨tgt, it, ifs, 0⟩] lpos) (newList []) (firstAsync [⟨tgt, it, ifs, 0⟩]) (firstIter [⟨tgt, it, ifs, 0⟩] env) (some (assign (.Name x xp) env))) _ _ s
            refine wpAny_bind (wpAny_mono (comp_gen (Q := fun _ s' => Q .next s') (K := fun v H => storeW c loc x v H fun loc H => K Fl.next loc H) C (fun k hk => S k (Nat.le_succ_of_le hk)) h hA F D T fun ad H' s' ρ' Cx mm dI k' had N' D' T' hCx hCρ hCb hns => ?_) (fun _ s' hq => wpAny_pure (wpAny_pure hq)) fun _ _ x => x)
            refine wpAny_assign_Name (store_sound k' (F.nx N') D' T' ⟨ad, had, rfl⟩ fun loc₂ H₂ s₂ k₂ N₂ F₂ D₂ T₂ => ?_)
            have hCL : Cx ≠ env.locals := by
              rintro rfl
              obtain ⟨m, ⟨o, es, ep, ho, r⟩, hm⟩ := F.ns
              rw [hCx] at ho; cases ho
            have hns₂ : s₂.heap.Ns Cx mm := by
              obtain ⟨o, es, ep, ho, r⟩ := hns
              exact ⟨o, es, ep, (N₂.keep _ _ ho hCρ hCL).get (fun q => hCb (g.tbb _ _ D'.base q)), r⟩
            have hCb₂ : ¬ g.bs s₂.heap Cx := fun q => by
              rcases N₂.bsn _ q with q | q
              · exact hCb q
              · obtain ⟨o, es, ep, ho, r⟩ := hns
                rw [ho] at q; cases q
            refine ⟨mm, hns₂, fun h' hs => ?_⟩
            have hK := g.keep _ _ D₂.base fun b o hb e => (hs.2 b (by rintro rfl; exact hCb₂ hb)).trans e
            have N₃ : NxL g env.locals ρ ρ' s { s₂ with heap := h' } := by
              have N₄ := N'.l.trans N₂
              refine ⟨N₄.pre, N₄.fresh, fun b o e => ?_, fun b o e n l => (N₄.keep b o e n l).trans fun o' e' => .inl ((hs.2 b (by rintro rfl; rw [hCx] at e; cases e)).trans e'), fun b e => N₄.bsn b (hK.2.1 b e), fun c q e => hK.2.2 c q (N₄.cdm c q e), N₄.gens, N₄.os, N₄.drawn⟩
              obtain ⟨o', e'⟩ := N₄.live b o e
              exact ⟨o', (hs.2 b (by rintro rfl; rw [hCx] at e; cases e)).trans e'⟩
            exact hQ _ _ _ _ _ _ k₂ .next N₃ (F₂.other hCL hs hK.2.1) (D₂.other hCρ hCb₂ hs) T₂

    case Tuple ts kk tp =>
      cases tl with
      | cons _ _ => exact False.elim h
      | nil =>
      replace h : (match (generalizing := false) isComp e, e with
        | false, .Tuple .. => False
        | false, e => awe n c loc e H fun v H => awa n c loc (.Tuple ts kk tp) v H fun loc H => K .next loc H
        | _, _ => False) := h
      split at h
      · exact h.elim
      · rename_i e' hne hc
        have hs : ∀ l, swapsWithSole [.Tuple ts kk tp] _ l env = pure false := fun l => (swaps_false hc : swapsWith _ (some (.Tuple ts kk tp)) l env = pure false)
        have hw : ∀ e, (∀ a b c, e = PySem.Expr.Tuple a b c → False) → swappedStores [.Tuple ts kk tp] e env = pure none := by
          intro e hne
          cases e <;> first | rfl | (exact (hne _ _ _ rfl).elim)
        refine Assign_Tuple (S'.e _ _ _ _ h env ρ s A _ E hA F D T fun v H₁ cv s₁ ρ₁ k r N D₁ T₁ => ?_) (hs _) (hw _ hne)
        exact S'.a _ _ _ _ _ k env ρ₁ s₁ A cv _ E hA (F.nx N) D₁ T₁ r fun loc' H' s' ρ' k' N' F' D' T' => hQ _ _ _ _ _ _ k' .next (N.l.trans N') F' D' T'
      · exact h.elim
    case Subscript o i p =>
      cases tl with
      | cons _ _ => exact False.elim h
      | nil =>
      replace h : (match (generalizing := false) isComp e with
        | false => awe n c loc e H fun v H => awa n c loc (.Subscript o i p) v H fun loc H => K .next loc H
        | true => False) := h
      split at h
      · rename_i hc
        have hs : swapsWithSole [.Subscript o i p] e pos.line env = pure false := (swaps_false hc : swapsWith e (some (.Subscript o i p)) pos.line env = pure false)
        refine wpAny_Assign_stores (S'.e _ _ _ _ h env ρ s A _ E hA F D T fun v H₁ cv s₁ ρ₁ k r N D₁ T₁ => ?_) hs rfl
        show wpAny _ A (assignAll cv [assign (.Subscript o i p) env]) _ _ _
        exact S'.a _ _ _ _ _ k env ρ₁ s₁ A cv _ E hA (F.nx N) D₁ T₁ r fun loc' H' s' ρ' k' N' F' D' T' => hQ _ _ _ _ _ _ k' .next (N.l.trans N') F' D' T'
      · exact h.elim
    all_goals exact False.elim h
  case If t b o pos =>
    replace h : (match (generalizing := false) c.hk pos.line with
      | some f => f (.If t b o pos) loc H K
      | none => awt n c loc t H fun v H => iteW c pos v (aws n c loc b H K) (aws n c loc o H K)) := h
    split at h
    · rename_i f hf
      exact C.hk _ _ _ _ _ _ hf h env ρ s A Q E hA F D T hQ
    · refine wpAny_If (S'.t _ _ _ _ h env ρ s A _ E hA F D T fun b H₁ s₁ ρ₁ k N D₁ T₁ => ?_)
      have k := iteW_elim k
      cases b with
      | true => exact S'.s _ _ _ _ k env ρ₁ s₁ A _ E hA (F.nx N) D₁ T₁ (hQ.nx N)
      | false => exact S'.s _ _ _ _ k env ρ₁ s₁ A _ E hA (F.nx N) D₁ T₁ (hQ.nx N)
  case AugAssign tg op e pos =>
    cases tg
    case Name x xp =>
      replace h : (match (generalizing := false) c.scope.names.lookup x with
        | some .local => nameW c loc x H fun a H => awe n c loc e H fun b H => inplW op a b H fun v H => storeW c loc x v H fun loc H => K .next loc H
        | _ => False) := h
      split at h <;> first | exact h.elim | skip
      rename_i hx
      have hl : wpAny (model g.prog g.w) A (loadName env x) (fun old s₁ => wpAny (model g.prog g.w) A (eval e env) (fun v s₂ => wpAny (model g.prog g.w) A (inplaceOp op old v)
        (fun r s₃ => wpAny (model g.prog g.w) A (storeName env x r) (fun _ => Q .next) E s₃) E s₂) E s₁) E s := by
        refine loadW_sound hx h F D T fun v H₁ cv s₁ ρ₁ k r N D₁ T₁ => ?_
        refine S'.e _ _ _ _ k env ρ₁ s₁ A _ E hA (F.nx N) D₁ T₁ fun b H₂ cb s₂ ρ₂ k₂ rb N₂ D₂ T₂ => ?_
        refine inplW_sound k₂ D₂ T₂ (r.mono N₂.pre) rb fun v₃ H₃ cv₃ s₃ ρ₃ k₃ r₃ N₃ D₃ T₃ => ?_
        have N' := (N.trans N₂).trans N₃
        exact store_sound k₃ (F.nx N') D₃ T₃ r₃ fun loc' H' s' k' N'' F' D' T' => hQ _ _ _ _ _ _ k' .next (N'.l.trans N'') F' D' T'
      exact wpAny_AugAssign_Name hl
    all_goals exact False.elim h
  case Expr e pos =>
    replace h : (match (generalizing := false) isComp e with
      | false => awe n c loc e H fun v H => match v with
        | .ref _ => False
        | .fn _ => False
        | _ => K .next loc H
      | true => False) := h
    split at h
    · rename_i hc
      refine wpAny_Expr (S'.e _ _ _ _ h env ρ s A _ E hA F D T fun v H₁ cv s₁ ρ₁ k r N D₁ T₁ => ?_) (inter_false F.kind) (swaps_false hc)
      cases v with
      | ref n => exact False.elim k
      | fn a => exact False.elim k
      | none => cases r; exact hQ _ _ _ _ _ _ k .next N.l (F.nx N) D₁ T₁
      | bool b => cases r; exact hQ _ _ _ _ _ _ k .next N.l (F.nx N) D₁ T₁
      | int i => obtain ⟨t, rfl⟩ := r; exact hQ _ _ _ _ _ _ k .next N.l (F.nx N) D₁ T₁
      | flt i => obtain ⟨t, _, rfl⟩ := r; exact hQ _ _ _ _ _ _ k .next N.l (F.nx N) D₁ T₁
      | str i => obtain ⟨t, rfl⟩ := r; exact hQ _ _ _ _ _ _ k .next N.l (F.nx N) D₁ T₁
      | bi i => cases r; exact hQ _ _ _ _ _ _ k .next N.l (F.nx N) D₁ T₁
      | ty i => cases r; exact hQ _ _ _ _ _ _ k .next N.l (F.nx N) D₁ T₁
    · exact h.elim
  case Break => exact wpAny_Break (hQ _ _ _ _ _ _ h .brk NxL.refl F D T)
  case For tgt it body els pos =>
    replace h : (match (generalizing := false) c.hk pos.line with
      | some f => f (.For tgt it body els pos) loc H K
      | none => match (generalizing := false) els, isSetD it with
        | [], false => awe n c loc it H fun v H => iterW v H fun m H => awf n c loc tgt body m H K
        | _, _ => False) := h
    split at h
    · rename_i f hf
      exact C.hk _ _ _ _ _ _ hf h env ρ s A Q E hA F D T hQ
    · split at h
      · rename_i hset
        refine wpAny_For (S'.e _ _ _ _ h env ρ s A _ E hA F D T fun v H₁ cv s₁ ρ₁ k r N D₁ T₁ => ?_) (isSetD_folded hset env)
        refine iterW_sound k D₁ T₁ r fun m H₂ a s₂ ρ₂ k₂ ha N₂ D₂ T₂ => ?_
        have N' := N.trans N₂
        exact sound_f n (fun k hk => S k (Nat.le_of_lt hk) c C) k₂ hA (F.nx N') D₂ T₂ ha (hQ.nx N')
      · exact h.elim
  case While t body els pos =>
    cases els with
    | cons _ _ => exact False.elim h
    | nil => exact wpAny_While (sound_w n (fun k hk => S k (Nat.le_of_lt hk) c C) h hA F D T hQ)
  case Try body hs els fin pos =>
    cases hs with
    | nil => exact False.elim h
    | cons hh hs =>
    replace h : (match (generalizing := false) c.hk pos.line with
      | some f => f (.Try body (hh :: hs) els fin pos) loc H K
      | none => match (generalizing := false) els, fin with
        | [], [] => aws n c loc body H K
        | _, _ => False) := h
    split at h
    · rename_i f hf
      exact C.hk _ _ _ _ _ _ hf h env ρ s A Q E hA F D T hQ
    · split at h
      · refine wpAny_Try_except (S'.s _ _ _ _ h env ρ s A _ _ hA F D T fun f loc₁ H₁ cf s₁ ρ₁ k r N F₁ D₁ T₁ => ?_)
        have fin := hQ _ _ _ _ _ _ k r N F₁ D₁ T₁
        cases r with
        | next => exact wpAny_execs_nil fin
        | brk => exact fin
        | cont => exact fin
        | ret r => exact fin
      · exact h.elim
  case FunctionDef f a b d r ty sc ts bn pos =>
    replace h : (match (generalizing := false) c.hk pos.line with
      | some f' => f' (.FunctionDef f a b d r ty sc ts bn pos) loc H K
      | none => False) := h
    split at h
    · rename_i f hf
      exact C.hk _ _ _ _ _ _ hf h env ρ s A Q E hA F D T hQ
    · exact h.elim
  all_goals exact False.elim h

theorem sound : ∀ n {d : Nat} {c : PC}, COk g d c → Sound g d c n := by
  intro n
  induction n using Nat.strongRecOn with
  | ind n ih =>
    intro d c C
    cases n with
    | zero => exact ⟨fun _ _ _ _ h => False.elim h, fun _ _ _ _ h => False.elim h, fun _ _ _ _ h => False.elim h, fun _ _ _ _ h => False.elim h,
      fun _ _ _ _ _ h => False.elim h, fun _ _ _ _ _ h => False.elim h, fun _ _ _ _ _ h => False.elim h, fun _ _ _ _ h => False.elim h, fun _ _ _ _ h => False.elim h⟩
    | succ n =>
      have S : ∀ k, k ≤ n → ∀ c', COk g d c' → Sound g d c' k := fun k hk c' C' => ih k (Nat.lt_succ_of_le hk) C'
      have S' := S n (Nat.le_refl _) c C
      exact ⟨sound_e C S, sound_l S', sound_p S', sound_t S', sound_b S', sound_a C S', sound_z S', sound_s S', sound_s1 C S⟩
end Py

end
section
open PySem PySem.W PyProof.Rows
set_option maxRecDepth 10000
set_option autoImplicit false
set_option linter.unusedVariables false
namespace Py
variable {g : G}

theorem HR.adds {ρ as : List Addr} {H os : List AO} {h h' : Heap} (D : HR g ρ H h) (k : ∀ b o, h.get? b = some o → h'.get? b = some o) (hn : ∀ a ∈ as, h.get? a = none) (hd : as.Nodup) (hl : as.length = os.length)
    (ho : ∀ (j : Nat) (o : AO), os[j]? = some o → ∃ a ob, as[j]? = some a ∧ h'.get? a = some ob ∧ OR g (ρ ++ as) h' o ob) : HR g (ρ ++ as) (H ++ os) h' where
  base := (g.keep _ _ D.base fun b o' _ e => k _ _ e).1
  len := by simp [D.len, hl]
  nodup := by
    refine List.nodup_append.mpr ⟨D.nodup, hd, fun b hb c hc => ?_⟩
    rintro rfl
    obtain ⟨o, e⟩ := D.has hb
    rw [hn _ hc] at e; cases e
  off := fun b hb z => by
    have z := (g.keep _ _ D.base fun b o' _ e => k _ _ e).2.1 b z
    rcases List.mem_append.mp hb with q | q
    · exact D.off b q z
    · obtain ⟨o, e⟩ := g.lt _ _ D.base z
      rw [hn _ q] at e; cases e
  obj := fun i o' e => by
    by_cases hi : i < H.length
    · rw [List.getElem?_append_left hi] at e
      obtain ⟨b, ob', e1, e2, e3⟩ := D.obj i o' e
      exact ⟨b, ob', by rw [List.getElem?_append_left (by rw [D.len]; exact hi)]; exact e1, k _ _ e2, (e3.mono (List.prefix_append _ _)).heap (g.keep _ _ D.base fun b o' _ e => k _ _ e).2.2⟩
    · rw [List.getElem?_append_right (Nat.le_of_not_lt hi)] at e
      obtain ⟨a, ob, e1, e2, e3⟩ := ho _ _ e
      exact ⟨a, ob, by rw [List.getElem?_append_right (by rw [D.len]; exact Nat.le_of_not_lt hi), D.len]; exact e1, e2, e3⟩
theorem Nx.adds {ρ as : List Addr} {H : List AO} {s : Shared} {h' : Heap} {t : Nat} (D : HR g ρ H s.heap) (hn : ∀ a ∈ as, s.heap.get? a = none) (k : ∀ b o, s.heap.get? b = some o → h'.get? b = some o) : Nx g ρ (ρ ++ as) s { s with heap := h', toks := t } where
  pre := List.prefix_append _ _
  fresh := fun b h => by
    rcases List.mem_append.mp h with q | q
    · exact .inl q
    · exact .inr (hn _ q)
  live := fun b o e => ⟨o, k _ _ e⟩
  keep := fun b o e _ => .inl (k _ _ e)
  bsn := fun b e => .inl ((g.keep _ _ D.base fun b o' _ e => k _ _ e).2.1 b e)
  cdm := (g.keep _ _ D.base fun b o' _ e => k _ _ e).2.2
  gens := rfl
  os := rfl
  drawn := rfl

/-- what a def is -/
structure IsFn (fd : FuncData) (bd : List Stmt) (sc : Scope) (ps : List Str) (q : Str) : Prop where
  body : fd.body = .stmts bd
  scp : fd.scope = sc
  gl : fd.globals = mainGlobals
  bl : fd.builtins = builtinsNs
  kd : sc.kind = .function
  co : sc.isCoroutine = false
  gen : sc.isGenerator = false
  nd : ps.Nodup
  qn : fd.qualname ++ (".<locals>." : Str) = q
  bind : ∀ vals : List Value, vals.length = ps.length → bindArgs fd ⟨vals, []⟩ = pure (ps.zip vals)

/-- the end of a def's body -/
noncomputable abbrev endW (K : Kv) : Fl → Lc → AH → Prop := fun f _ H => match f with
  | .ret v => K v H
  | .next => K .none H
  | _ => False

theorem lookup_rev_of {α : Type} : ∀ {l : List (Str × α)} {x : Str}, (l.map (·.1)).Nodup → l.reverse.lookup x = l.lookup x
  | [], _, _ => rfl
  | (y, v) :: r, x, h => by
    simp only [List.map_cons, List.nodup_cons] at h
    rw [List.reverse_cons, List.lookup_append, lookup_rev_of h.2, List.lookup_cons (as := r), List.lookup_cons (as := [])]
    by_cases hx : x = y
    · subst hx
      have : List.lookup x r = none := by
        rw [List.lookup_eq_none_iff]
        intro p hp
        have : x ≠ p.1 := fun e => h.1 (e ▸ List.mem_map_of_mem hp)
        simpa using this
      rw [this]; simp
    · have e : (x == y) = false := by simpa using hx
      rw [e]
      cases List.lookup x r with
      | none => rfl
      | some w => rfl
theorem zip_nodup {α : Type} : ∀ {ps : List Str} {vs : List α}, ps.Nodup → ((ps.zip vs).map (·.1)).Nodup
  | [], _, _ => by simp
  | _ :: _, [], _ => by simp
  | p :: ps, v :: vs, h => by
    rw [List.zip_cons_cons, List.map_cons, List.nodup_cons]
    rw [List.nodup_cons] at h
    refine ⟨fun q => ?_, zip_nodup h.2⟩
    obtain ⟨x, hx, rfl⟩ := List.mem_map.mp q
    exact h.1 (List.of_mem_zip hx).1
theorem lookup_rev {α : Type} {ps : List Str} {vs : List α} {x : Str} (h : ps.Nodup) : (ps.zip vs).reverse.lookup x = (ps.zip vs).lookup x := lookup_rev_of (zip_nodup h)
theorem zip_lookup {ρ : List Addr} : ∀ {ps : List Str} {args : List AV} {vals : List Value} {x : Str} {v : AV}, VRs ρ args vals → (ps.zip args).lookup x = some v → ∃ cv, (ps.zip vals).lookup x = some cv ∧ VR ρ v cv
  | [], _, _, _, _, _, h => by simp at h
  | _ :: _, [], _, _, _, _, h => by simp at h
  | p :: ps, a :: args, vals, x, v, ⟨cv, r, e, q, qs⟩, h => by
    subst e
    rw [List.zip_cons_cons, List.lookup_cons] at h
    rw [List.zip_cons_cons, List.lookup_cons]
    cases hx : x == p with
    | true => rw [hx] at h; cases h; exact ⟨cv, rfl, q⟩
    | false => rw [hx] at h; exact zip_lookup qs h
theorem zip_lookup_none {ρ : List Addr} : ∀ {ps : List Str} {args : List AV} {vals : List Value} {x : Str}, VRs ρ args vals → (ps.zip args).lookup x = none → (ps.zip vals).lookup x = none
  | [], _, _, _, _, _ => by simp
  | _ :: _, [], _, _, r, _ => by cases r; simp
  | p :: ps, a :: args, vals, x, ⟨cv, r, e, q, qs⟩, h => by
    subst e
    rw [List.zip_cons_cons, List.lookup_cons] at h
    rw [List.zip_cons_cons, List.lookup_cons]
    cases hx : x == p with
    | true => rw [hx] at h; cases h
    | false => rw [hx] at h; exact zip_lookup_none qs h

theorem AOk.deeper {D : Nat} {A : Around} (h : AOk (D + 1) A) (env : Env) : AOk D (A.deeper env) :=
  ⟨h.hd, by have := h.dp; show A.depth + 1 + D < _; omega, by have := h.un; show A.units + 3 + 20 * D < _; omega⟩

/-- a call of a def with no cells of its own -/
theorem call_def {d n : Nat} {c : PC} (C : COk g d c) {fd : FuncData} {body : List Stmt} {ps : List Str} {args : List AV} {H : AH} {K : Kv} (I : IsFn fd body c.scope ps c.qn) (hcdv : fd.code = c.cd) (hlim : ∀ h, g.B h → h.NoLimit)
    (hnc : ∀ x ∈ c.scope.names, x.2 ≠ .cell) (hps : ∀ x ∈ ps, c.scope.names.lookup x = some .local) (hlen : args.length = ps.length)
    (h : aws n c (ps.zip args) body H (endW K)) {ρ : List Addr} {s : Shared} {a : Addr} {cargs : List Value} {A : Around} {Q E : Value → Shared → Prop} (hA : AOk (d + 1) A) (D : HR g ρ H s.heap) (T : 1 ≤ s.toks)
    (ho : ∃ o, s.heap.get? a = some o ∧ o.data = .func fd) (hcd : s.heap.CodeRec fd.code fd.qualname) (hcl : ∀ x i, c.cells.lookup x = some i → ∃ a, fd.closure.lookup x = some a ∧ ρ[i]? = some a)
    (r : VRs ρ args cargs) (hQ : PostV g ρ s K Q) : wpAny (model g.prog g.w) A (call (.ref a) cargs) Q E s := by
  obtain ⟨o, ho, hdat⟩ := ho
  have hl := r.length
  refine wpAny_call (codeAny_call_def (binds := ps.zip cargs) (by have := hA.dp; omega) ho hdat (hlim _ D.base) hcd I.body (BindsTo.of_eq (I.bind _ (by rw [hl, hlen]))) (by rw [I.scp]; exact hnc)
    (fun x hx => by rw [I.scp]; exact hps _ (List.of_mem_zip hx).1) (fun h₀ hns hk => ?_) (by rw [I.scp]; exact I.co) (by rw [I.scp]; exact I.gen) (by rw [I.scp]; exact I.kd))
  have N₀ : Nx g ρ ρ s { s with heap := h₀, toks := s.toks + (ps.zip cargs).length } := Nx.grow D hk
  have D₀ : HR g ρ H h₀ := D.grow hk
  have hnone : s.heap.get? s.heap.objs.size = none := get_size _
  have F : FR g (callEnv fd s.heap.objs.size a) c ρ (ps.zip args) h₀ := by
    refine ⟨I.scp, I.kd, I.gl, I.bl, D.top, fun q => ?_, fun q => ?_, hcdv, I.qn, ⟨_, hns, fun x v e => ?_⟩, hcl⟩
    · obtain ⟨o, e⟩ := g.lt _ _ D.base ((g.keep _ _ D.base fun b o _ e => hk b o e).2.1 _ q)
      cases hnone.symm.trans e
    · obtain ⟨o, e⟩ := g.lt _ _ D.base (g.tbb _ _ D.base q)
      cases hnone.symm.trans e
    · obtain ⟨cv, e1, e2⟩ := zip_lookup r e
      exact ⟨cv, by rw [lookup_rev I.nd]; exact e1, e2⟩
  refine (sound n C).s _ _ _ _ h _ ρ _ _ _ _ (hA.deeper _) F D₀ (Nat.le_trans T (Nat.le_add_right _ _)) fun f loc' H' cf s' ρ' k rf N F' D' T' => ?_
  have N' : Nx g ρ ρ' s s' := Nx.of_l N₀ N hnone
  cases rf with
  | next => exact hQ _ _ _ _ _ k rfl N' D' T'
  | brk => exact k.elim
  | cont => exact k.elim
  | ret rv => exact hQ _ _ _ _ _ k rv N' D' T'

/-- the cells of a def, in their order -/
noncomputable def cellIx (m : Nat) (cn : List Str) : List (Str × Nat) := (cn.zipIdx.map fun p => (p.1, m + p.2)).reverse
noncomputable def cellOs (l : List (Str × AV)) (cn : List Str) : AH := cn.map fun x => .cell (l.lookup x)

theorem zipIdx_lookup {x : Str} : ∀ {cn : List Str} {k m : Nat}, ((cn.zipIdx k).map fun p => (p.1, m + p.2)).lookup x = (cn.findIdx? (· == x)).map (m + k + ·)
  | [], _, _ => by simp
  | y :: cn, k, m => by
    rw [List.zipIdx_cons, List.map_cons, List.lookup_cons, List.findIdx?_cons, zipIdx_lookup]
    by_cases h : x = y
    · subst h; simp
    · have e1 : (x == y) = false := by simpa using h
      have e2 : (y == x) = false := by simpa using (Ne.symm h)
      simp only [e1, e2, Bool.false_eq_true, if_false]
      cases List.findIdx? (fun a => a == x) cn with
      | none => rfl
      | some j => simp; omega
theorem cellIx_lookup {cn : List Str} (h : cn.Nodup) {m : Nat} {x : Str} : (cellIx m cn).lookup x = (cn.findIdx? (· == x)).map (m + ·) := by
  unfold cellIx
  rw [lookup_rev_of, zipIdx_lookup]
  · rfl
  · rw [List.map_map]
    have : ((fun p => p.1) ∘ fun p : Str × Nat => (p.1, m + p.2)) = Prod.fst := rfl
    rw [this, List.zipIdx_map_fst]
    exact h

theorem bindC_lookup {k : Str → Option NameKind} {x : Str} (hx : k x ≠ some .local) : ∀ {l : List (Str × Value)} {cm : Str → Option Value}, bindC k l cm x = (l.reverse.lookup x).or (cm x)
  | [], _ => rfl
  | (n, v) :: r, cm => by
    unfold bindC
    rw [bindC_lookup hx, List.reverse_cons, List.lookup_append, Option.or_assoc]
    congr 1
    by_cases hn : x = n
    · subst hn; rw [if_neg hx]; simp [List.lookup_cons]
    · have e : (x == n) = false := by simpa using hn
      rw [List.lookup_cons, e]
      split
      · rfl
      · simp [hn]
theorem bindL_lookup {k : Str → Option NameKind} {x : Str} (hx : k x = some .local) : ∀ {l : List (Str × Value)} {cm : Str → Option Value}, bindL k l cm x = (l.reverse.lookup x).or (cm x)
  | [], _ => rfl
  | (n, v) :: r, cm => by
    unfold bindL
    rw [bindL_lookup hx, List.reverse_cons, List.lookup_append, Option.or_assoc]
    congr 1
    by_cases hn : x = n
    · subst hn; rw [if_pos hx]; simp [List.lookup_cons]
    · have e : (x == n) = false := by simpa using hn
      rw [List.lookup_cons, e]
      split
      · simp [hn]
      · rfl

/-- the locals among the parameters -/
noncomputable def locsOf (sc : Scope) (l : Lc) : Lc := l.filter fun p => sc.names.lookup p.1 == some .local

theorem filter_lookup {p : Str × AV → Bool} {x : Str} {v : AV} (hp : ∀ a b y, p (y, a) = p (y, b)) : ∀ {l : Lc}, (l.filter p).lookup x = some v → l.lookup x = some v ∧ p (x, v) = true
  | [], h => by simp at h
  | (y, w) :: r, h => by
    rw [List.filter_cons] at h
    by_cases hy : p (y, w) = true
    · rw [if_pos hy, List.lookup_cons] at h
      rw [List.lookup_cons]
      cases hx : x == y with
      | true =>
        rw [hx] at h; cases h
        have : x = y := by simpa using hx
        subst this; exact ⟨rfl, hy⟩
      | false => rw [hx] at h; exact filter_lookup hp h
    · rw [if_neg hy] at h
      obtain ⟨h1, h2⟩ := filter_lookup hp h
      rw [List.lookup_cons]
      cases hx : x == y with
      | true =>
        have : x = y := by simpa using hx
        subst this
        exact absurd (hp v w x ▸ h2) hy
      | false => exact ⟨h1, h2⟩

/-- a call of a def with cells and no closure -/
theorem call_cells {d n : Nat} {c : PC} (C : COk g d c) {fd : FuncData} {body : List Stmt} {ps cn : List Str} {args : List AV} {H : AH} {K : Kv} (I : IsFn fd body c.scope ps c.qn) (hcdv : fd.code = c.cd) (hlim : ∀ h, g.B h → h.NoLimit)
    (hcn : ∀ m, cellsFrom m c.scope.names [] = cellIx m cn) (hcnd : cn.Nodup) (hcells : c.cells = cellIx H.length cn) (hck : ∀ x ∈ cn, c.scope.names.lookup x = some .cell)
    (hps : ∀ x ∈ ps, c.scope.names.lookup x = some .local ∨ x ∈ cn) (hlen : args.length = ps.length)
    (h : aws n c (locsOf c.scope (ps.zip args)) body (H ++ cellOs (ps.zip args) cn) (endW K)) {ρ : List Addr} {s : Shared} {a : Addr} {cargs : List Value} {A : Around} {Q E : Value → Shared → Prop} (hA : AOk (d + 1) A) (D : HR g ρ H s.heap) (T : 1 ≤ s.toks)
    (ho : ∃ o, s.heap.get? a = some o ∧ o.data = .func fd) (hcd : s.heap.CodeRec fd.code fd.qualname) (hclo : fd.closure = [])
    (r : VRs ρ args cargs) (hQ : PostV g ρ s K Q) : wpAny (model g.prog g.w) A (call (.ref a) cargs) Q E s := by
  obtain ⟨o, ho, hdat⟩ := ho
  have hl := r.length
  have hlk : ∀ m x, x ∈ cn → ∃ j, cn[j]? = some x ∧ (cellIx m cn).lookup x = some (m + j) := fun m x hx => by
    rw [cellIx_lookup hcnd]
    cases e : cn.findIdx? (· == x) with
    | none => rw [List.findIdx?_eq_none_iff] at e; have := e x hx; simp at this
    | some j =>
      obtain ⟨h1, h2, _⟩ := List.findIdx?_eq_some_iff_getElem.mp e
      exact ⟨j, by rw [List.getElem?_eq_getElem h1]; simpa using h2, rfl⟩
  have hbind : bindArgs fd ⟨cargs, []⟩ = pure (ps.zip cargs) := I.bind _ (by rw [hl, hlen])
  refine wpAny_call (codeAny_call_function (by have := hA.dp; omega) ho hdat (by rw [I.scp]; exact I.co) (by rw [I.scp]; exact I.gen) I.body hcd ?_)
  rw [hbind, hclo]
  refine wpAny_pure (wpAny_with_toks T (wpAny_newFunctionEnv_cells (by rw [I.scp]; exact I.kd) (fun x hx => ?_) fun env he s₁ X T₁ => ?_))
  · rw [I.scp]
    rcases hps _ (List.of_mem_zip hx).1 with q | q
    · exact .inl q
    · refine .inr ⟨hck _ q, ?_⟩
      obtain ⟨j, _, e⟩ := hlk (s.heap.objs.size + 1) _ q
      rw [hcn, e]; rfl
  subst he
  refine ⟨(hlim _ D.base).keeps X.toInCall.keep, codeAny_func ?_⟩
  have X : InCallC s (callEnvC fd s.heap.objs.size a).locals (bindL (callEnvC fd s.heap.objs.size a).kindOf (ps.zip cargs) fun _ => none) (callEnvC fd s.heap.objs.size a).cells (bindC (callEnvC fd s.heap.objs.size a).kindOf (ps.zip cargs) fun _ => none) s₁ := X
  have hscp : (callEnvC fd s.heap.objs.size a).scope = c.scope := I.scp
  have hkind : ∀ x, (callEnvC fd s.heap.objs.size a).kindOf x = c.scope.names.lookup x := fun x => by unfold Env.kindOf; rw [hscp]
  have hcs : (callEnvC fd s.heap.objs.size a).cells = cellIx (s.heap.objs.size + 1) cn := by
    show cellsFrom (s.heap.objs.size + 1) fd.scope.names [] = _
    rw [I.scp, hcn]
  have hL : (callEnvC fd s.heap.objs.size a).locals = s.heap.objs.size := rfl
  have hnone : s.heap.get? s.heap.objs.size = none := get_size _
  obtain ⟨hb, tk, rfl⟩ := X.toInCall.same
  have hk := X.toInCall.keep
  -- the cells' addresses
  have has : ∀ j, s.heap.get? (s.heap.objs.size + 1 + j) = none := fun j => by
    cases e : s.heap.get? (s.heap.objs.size + 1 + j) with
    | none => rfl
    | some o => exact absurd (Heap.lt_size e) (Nat.not_lt.mpr (Nat.le_trans (Nat.le_succ _) (Nat.le_add_right _ j)))
  have hnc : ∀ a ∈ (List.range cn.length).map (s.heap.objs.size + 1 + ·), s.heap.get? a = none := fun a ha => by
    obtain ⟨j, _, rfl⟩ := List.mem_map.mp ha; exact has j
  have N₀ : Nx g ρ (ρ ++ (List.range cn.length).map (s.heap.objs.size + 1 + ·)) s { s with heap := hb, toks := tk } := Nx.adds D hnc hk
  have D₀ : HR g (ρ ++ (List.range cn.length).map (s.heap.objs.size + 1 + ·)) (H ++ cellOs (ps.zip args) cn) hb := by
    refine D.adds hk hnc ?_ (by simp [cellOs]) fun j o' e => ?_
    · rw [List.nodup_iff_pairwise_ne, List.pairwise_map]
      exact (List.nodup_iff_pairwise_ne.mp List.nodup_range).imp fun hne e => hne (by simpa using e)
    · unfold cellOs at e
      rw [List.getElem?_map] at e
      cases ex : cn[j]? with
      | none => rw [ex] at e; cases e
      | some x =>
        rw [ex] at e; cases e
        have hjl := (List.getElem?_eq_some_iff.mp ex).1
        have hx : x ∈ cn := List.mem_of_getElem? ex
        obtain ⟨j', e1, e2⟩ := hlk (s.heap.objs.size + 1) x hx
        have : j' = j := (List.getElem?_inj (List.getElem?_eq_some_iff.mp e1).1 hcnd).mp (e1.trans ex.symm)
        subst this
        obtain ⟨ob, h1, h2⟩ := X.cell x (s.heap.objs.size + 1 + j') (show (callEnvC fd s.heap.objs.size a).cells.lookup x = _ by rw [hcs]; exact e2)
        rw [bindC_lookup (by rw [hkind, hck x hx]; decide), lookup_rev I.nd] at h2
        refine ⟨s.heap.objs.size + 1 + j', ob, by simp [hjl], h1, ?_⟩
        cases ea : (ps.zip args).lookup x with
        | none =>
          rw [zip_lookup_none r ea] at h2
          show OR g _ _ (.cell ((ps.zip args).lookup x)) ob
          rw [ea]
          exact h2
        | some v =>
          obtain ⟨cv, q1, q2⟩ := zip_lookup r ea
          rw [q1] at h2
          show OR g _ _ (.cell ((ps.zip args).lookup x)) ob
          rw [ea]
          exact ⟨cv, h2, q2.mono (List.prefix_append _ _)⟩
  have F : FR g (callEnvC fd s.heap.objs.size a) c (ρ ++ (List.range cn.length).map (s.heap.objs.size + 1 + ·)) (locsOf c.scope (ps.zip args)) hb := by
    refine ⟨hscp, I.kd, I.gl, I.bl, fun q => ?_, fun q => ?_, fun q => ?_, hcdv, I.qn, ⟨_, X.toInCall.ns, fun x v e => ?_⟩, fun x i e => ?_⟩
    · rcases List.mem_append.mp q with q | q
      · exact D.top q
      · obtain ⟨j, _, e⟩ := List.mem_map.mp q
        have : s.heap.objs.size + 1 + j = s.heap.objs.size := e
        omega
    · obtain ⟨o, e⟩ := g.lt _ _ D.base ((g.keep _ _ D.base fun b o _ e => hk b o e).2.1 _ q)
      cases hnone.symm.trans e
    · obtain ⟨o, e⟩ := g.lt _ _ D.base (g.tbb _ _ D.base q)
      cases hnone.symm.trans e
    · obtain ⟨h1, h2⟩ := filter_lookup (fun _ _ _ => rfl) e
      have h2 : c.scope.names.lookup x = some .local := by simpa using h2
      obtain ⟨cv, q1, q2⟩ := zip_lookup r h1
      refine ⟨cv, ?_, q2.mono (List.prefix_append _ _)⟩
      rw [bindL_lookup (by rw [hkind, h2]), lookup_rev I.nd, q1]; rfl
    · rw [hcells] at e
      have hx : x ∈ cn := by
        rw [cellIx_lookup hcnd] at e
        cases ef : cn.findIdx? (· == x) with
        | none => rw [ef] at e; cases e
        | some j =>
          obtain ⟨h1, h2, _⟩ := List.findIdx?_eq_some_iff_getElem.mp ef
          have : cn[j] = x := by simpa using h2
          exact this ▸ List.getElem_mem h1
      obtain ⟨j, e1, e2⟩ := hlk H.length x hx
      obtain ⟨j', e1', e2'⟩ := hlk (s.heap.objs.size + 1) x hx
      have : j' = j := (List.getElem?_inj (List.getElem?_eq_some_iff.mp e1').1 hcnd).mp (e1'.trans e1.symm)
      subst this
      rw [e2] at e; cases e
      refine ⟨_, by rw [hcs]; exact e2', ?_⟩
      rw [List.getElem?_append_right (by rw [D.len]; omega), D.len]
      have := (List.getElem?_eq_some_iff.mp e1).1
      simp [this]
  refine (sound n C).s _ _ _ _ h _ _ _ _ _ _ (hA.deeper _) F D₀ T₁ fun f loc' H' cf s' ρ' k rf N F' D' T' => ?_
  have N' : Nx g ρ ρ' s s' := Nx.of_l N₀ N hnone
  cases rf with
  | next => exact hQ _ _ _ _ _ k rfl N' D' T'
  | brk => exact k.elim
  | cont => exact k.elim
  | ret rv => exact hQ _ _ _ _ _ k rv N' D' T'
end Py

end
section
open PySem PySem.W PyProof.Rows
set_option maxRecDepth 10000
set_option autoImplicit false
set_option linter.unusedVariables false
namespace Py
variable {g : G}

noncomputable def at3 (a b c : UInt64) (i : Nat) : UInt64 := match i with | 0 => a | 1 => b | _ => c
noncomputable def max3 (a b c : UInt64) : UInt64 := at3 a b c (argBest (fun i j => Float64.cmp (at3 a b c i) (at3 a b c j) == some Ordering.gt) 2)
noncomputable def min3 (a b c : UInt64) : UInt64 := at3 a b c (argBest (fun i j => Float64.cmp (at3 a b c i) (at3 a b c j) == some Ordering.lt) 2)
theorem at3_get {a b c : UInt64} {t u v : Tok} {i : Nat} {x : Value} (ht : t ≠ 0) (hu : u ≠ 0) (hv : v ≠ 0) (h : (#[Value.float a t, .float b u, .float c v] : Array Value)[i]? = some x) : ∃ w, w ≠ 0 ∧ x = .float (at3 a b c i) w := by
  match i, h with
  | 0, h => cases h; exact ⟨t, ht, rfl⟩
  | 1, h => cases h; exact ⟨u, hu, rfl⟩
  | 2, h => cases h; exact ⟨v, hv, rfl⟩
  | k + 3, h => simp at h

theorem three_sound {a b c : UInt64} {t u v : Tok} {ρ : List Addr} {H : AH} {s : Shared} {A : Around} {Q E : Value → Shared → Prop} (hA : A.handled = none) (D : HR g ρ H s.heap) (ht : t ≠ 0) (hu : u ≠ 0) (hv : v ≠ 0) (op : CmpOp) (bt : Nat → Nat → Bool)
    (hcmp : ∀ P : Nat → Value → Prop, (∀ i x, P i x → ∃ w, w ≠ 0 ∧ x = .float (at3 a b c i) w) → CmpOf g.prog g.w A.in1 op P bt)
    (hQ : ∀ x h' tk, (∃ w, w ≠ 0 ∧ x = .float (at3 a b c (argBest bt 2)) w) → (∀ b o, s.heap.get? b = some o → h'.get? b = some o) → Q x { s with heap := h', toks := tk }) :
    wpAny (model g.prog g.w) A.in1 (pyIter (.ref s.heap.objs.size)) (fun it s₂ => ∃ I fp wr n P St bt, it = .ref I ∧ Walks g.prog g.w A.in1 I fp wr n P St ∧ St 0 s₂.heap ∧ (∀ b ∈ fp, b < s₂.heap.objs.size) ∧ 0 < n ∧ CmpOf g.prog g.w A.in1 op P bt ∧
      ∀ v h' tk, P (argBest bt (n - 1)) v → (∀ b o, b ∉ wr → s₂.heap.get? b = some o → h'.get? b = some o) → Q v { s₂ with heap := h', toks := tk }) E
      { s with heap := s.heap.push { cls := .type "tuple", data := .seq #[.float a t, .float b u, .float c v] } } := by
  have hT : (s.heap.push { cls := .type "tuple", data := .seq #[.float a t, .float b u, .float c v] }).IsTuple s.heap.objs.size #[.float a t, .float b u, .float c v] := ⟨_, Heap.get?_push_size _ rfl, rfl, 0, rfl⟩
  refine wpAny_pyIter_tuple hT ?_
  have hsz : (s.heap.push { cls := .type "tuple", data := .seq #[.float a t, .float b u, .float c v] }).objs.size = s.heap.objs.size + 1 := Heap.size_push ..
  refine ⟨_, [_, s.heap.objs.size], [_], 3, _, _, bt, rfl, Walks.tuple (A := A.in1) hA _ s.heap.objs.size (by rw [hsz]; exact Nat.ne_of_lt (Nat.lt_succ_self _)) #[.float a t, .float b u, .float c v],
    ⟨⟨_, Heap.get?_push_size _ rfl, rfl, rfl⟩, hT.push _⟩, fun d hd => ?_, by decide, hcmp _ (fun i x => at3_get ht hu hv), fun x h' tk hP hk => ?_⟩
  · show d < ((s.heap.push _).push _).objs.size
    rw [Heap.size_push, hsz]
    rcases List.mem_cons.mp hd with rfl | hd
    · rw [hsz]; exact Nat.lt_succ_self _
    · rcases List.mem_cons.mp hd with rfl | hd
      · exact Nat.lt_succ_of_lt (Nat.lt_succ_self _)
      · cases hd
  · refine hQ x h' tk (at3_get ht hu hv hP) fun b o e => hk b o (fun q => ?_) (Heap.get?_push_of_some _ (Heap.get?_push_of_some _ e))
    have := Heap.lt_size e
    rcases List.mem_cons.mp q with e1 | q
    · rw [e1, hsz] at this; exact Nat.lt_irrefl _ (Nat.lt_of_succ_lt this)
    · cases q

noncomputable def intsOf : List AV → Option (List Int)
  | [] => some []
  | .int i :: r => match intsOf r with
    | some l => some (i :: l)
    | none => none
  | _ => none
theorem intsOf_sound {ρ : List Addr} : ∀ {xs : List AV} {ns : List Int} {vs : List Value}, intsOf xs = some ns → VRs ρ xs vs → ∃ ps : List (Int × Tok), vs = ps.map (fun p => Value.int p.1 p.2) ∧ ps.map (·.1) = ns
  | [], _, _, h, r => by unfold intsOf at h; cases h; cases r; exact ⟨[], rfl, rfl⟩
  | x :: xs, ns, _, h, ⟨v, r, rfl, p, q⟩ => by
    cases x <;> first | (unfold intsOf at h; cases h; done) | skip
    rename_i i
    unfold intsOf at h
    split at h
    · rename_i l hl
      cases h
      obtain ⟨ps, rfl, h2⟩ := intsOf_sound hl q
      obtain ⟨t, rfl⟩ := p
      exact ⟨(i, t) :: ps, rfl, by simp [h2]⟩
    · cases h
noncomputable def insI (x : Int) : List Int → List Int
  | [] => [x]
  | y :: r => if x ≤ y then x :: y :: r else y :: insI x r
noncomputable def sortI : List Int → List Int
  | [] => []
  | x :: r => insI x (sortI r)
theorem insI_perm (x : Int) : ∀ l, (insI x l).Perm (x :: l)
  | [] => .refl _
  | y :: r => by
    unfold insI
    split
    · exact .refl _
    · exact ((insI_perm x r).cons y).trans (.swap ..)
theorem sortI_perm : ∀ l, (sortI l).Perm l
  | [] => .refl _
  | x :: r => (insI_perm x _).trans ((sortI_perm r).cons x)
theorem insI_sorted (x : Int) : ∀ {l : List Int}, l.Pairwise (· ≤ ·) → (insI x l).Pairwise (· ≤ ·)
  | [], _ => by simp [insI]
  | y :: r, h => by
    unfold insI
    have h' := List.pairwise_cons.mp h
    split
    · rename_i hxy
      refine List.pairwise_cons.mpr ⟨fun z hz => ?_, h⟩
      rcases List.mem_cons.mp hz with rfl | hz
      · exact hxy
      · exact Int.le_trans hxy (h'.1 z hz)
    · rename_i hxy
      refine List.pairwise_cons.mpr ⟨fun z hz => ?_, insI_sorted x h'.2⟩
      rcases List.mem_cons.mp ((insI_perm x r).mem_iff.mp hz) with rfl | hz
      · omega
      · exact h'.1 z hz
theorem sortI_sorted : ∀ l, (sortI l).Pairwise (· ≤ ·)
  | [] => by simp [sortI]
  | x :: r => insI_sorted x (sortI_sorted r)
theorem sorted_unique {l ns : List Int} (hp : l.Perm ns) (hs : l.Pairwise (· ≤ ·)) : l = sortI ns :=
  List.Perm.eq_of_pairwise (le := (· ≤ ·)) (fun a b _ _ h1 h2 => Int.le_antisymm h1 h2) hs (sortI_sorted ns) (hp.trans (sortI_perm ns).symm)
theorem VRs.ints {ρ : List Addr} : ∀ {ps : List (Int × Tok)}, VRs ρ ((ps.map (·.1)).map AV.int) (ps.map fun p => Value.int p.1 p.2)
  | [] => rfl
  | p :: ps => ⟨_, _, rfl, ⟨p.2, rfl⟩, VRs.ints⟩
theorem ints_pairs : ∀ {vs : List Value} {ns : List Int}, IntsAre vs ns → ∃ ps : List (Int × Tok), vs = ps.map (fun p => Value.int p.1 p.2) ∧ ps.map (·.1) = ns
  | _, _, .nil => ⟨[], rfl, rfl⟩
  | _, _, .cons n t r => let ⟨ps, h1, h2⟩ := ints_pairs r; ⟨(n, t) :: ps, by rw [h1]; rfl, by rw [← h2]; rfl⟩
theorem ints_of_pairs : ∀ {ps : List (Int × Tok)}, IntsAre (ps.map fun p => Value.int p.1 p.2) (ps.map (·.1))
  | [] => .nil
  | p :: ps => .cons _ _ ints_of_pairs
section
open AutoSeq1 (wpAny_loadPart')
set_option maxRecDepth 100000
theorem meets_enum_tup (l : Addr) (items : Array Value) (n : Nat) :
    Meets (Builtin.«enumerate.__new__» ⟨[.type "enumerate", .ref l], []⟩) (fun _ R s => s.heap.get? l = some { cls := .type "tuple", data := .seq items n } ∧
      R (.ok (.ret (.ref (s.heap.push { cls := .type "tuple_iterator", data := .fields #[.ref l, .int 0 0] }).objs.size)))
        { s with heap := (s.heap.push { cls := .type "tuple_iterator", data := .fields #[.ref l, .int 0 0] }).push { cls := .type "enumerate", data := .fields #[.none, .bool false, .ref s.heap.objs.size, rawInt 0, .none, .none] } }) :=
  .of_wp fun prog w A R s h => by
    obtain ⟨hp, g, d, tk, os⟩ := s; obtain ⟨hl, h⟩ := h
    have hsub := sub_enumerate
    have hL : Heap.IsTuple (Shared.heap ⟨hp, g, d, tk, os⟩) l items := ⟨_, hl, rfl, n, rfl⟩
    wp_walk using wpAny_loadPart' hl
    refine wpAny_stack_any fun st => wpAny_pure ?_
    split
    · rename_i c _ _ _ _ _
      cases (c == Value.type "enumerate")
      · wp_walk using wpAny_loadPart' hl, wpAny_pyIter_tuple hL
        exact ⟨_, rfl, h⟩
      · wp_walk using wpAny_loadPart' hl, wpAny_pyIter_tuple hL
        exact ⟨_, rfl, h⟩
    · wp_walk using wpAny_loadPart' hl, wpAny_pyIter_tuple hL
      exact ⟨_, rfl, h⟩
theorem call_enum_tup {prog : Program} {w : World} {A : Around} {E : Value → Shared → Prop} {s : Shared} {l : Addr} {items : Array Value} {n : Nat} {Q : Value → Shared → Prop} (hl : s.heap.get? l = some { cls := .type "tuple", data := .seq items n })
    (h : Q (.ref (s.heap.push { cls := .type "tuple_iterator", data := .fields #[.ref l, .int 0 0] }).objs.size) { s with heap := (s.heap.push { cls := .type "tuple_iterator", data := .fields #[.ref l, .int 0 0] }).push { cls := .type "enumerate", data := .fields #[.none, .bool false, .ref s.heap.objs.size, rawInt 0, .none, .none] } }) :
    wpAny (model prog w) A (call (.type "enumerate") [.ref l]) Q E s := by
  refine callType_new F.called_enumerate (by decide) (F.typeCall_enumerate_1 _) (F.newCall_enumerate_1 _) (fun obj => F.args_object_init_2 obj _) F.entry_enumerate_new
    (meets_enum_tup l items n) ⟨hl, ?_⟩
  exact ⟨⟨_, Heap.get?_push_size _ rfl, rfl⟩, h⟩
end
/-- built-in functions -/
noncomputable def stdW (f : AV) (args : List AV) (H : AH) (K : Kv) : Prop :=
  match f with
  | .bi id => match id with
    | .max => a3 args (fun a b c => oF a (fun a => oFF b c (fun b c => K (.flt (max3 a b c)) H) False) False) False
    | .min => a3 args (fun a b c => oF a (fun a => oFF b c (fun b c => K (.flt (min3 a b c)) H) False) False) False
    | .len => a1 args (fun x => oS x (fun x => x.length ≤ 1000000 ∧ K (.int x.length) H) <| oR x (fun n => oLs H[n]? (fun xs => xs.length ≤ 1000000 ∧ K (.int xs.length) H) False) False) False
    | .sum => a1 args (fun x => oR x (fun n => oLs H[n]? (fun xs => oSm (intsOf xs) fun ns => K (.int ns.sum) H) False) False) False
    | .sorted => a1 args (fun x => oR x (fun n => oLs H[n]? (fun xs => oSm (intsOf xs) fun ns => ns.length < 64 ∧ newW (.lst ((sortI ns).map .int)) H K) False) False) False
    | .divmod => a2 args (fun a b => oII a b (fun a b => (b ≠ 0 ∧ Builtin.divisionGoesByPylong a b = false) ∧ newW (.tup [.int (a.fdiv b), .int (a.fmod b)]) H K) False) False
  | .ty t => match t with
    | .int => a1 args (fun x => oF x (fun x => match Float64.decode x with
      | .fin sg m e => K (.int (Float64.truncOf sg m e)) H
      | _ => False) False) False
    | .range => a1 args (fun n => oI n (fun n => newW (.rng 0 n 1) H K) False) <| a2 args (fun a b => oII a b (fun a b => newW (.rng a b 1) H K) False) <|
        a3 args (fun a b c => oI a (fun a => oII b c (fun b c => (c ≠ 0 ∧ Builtin.divisionGoesByPylong (b - a) c = false) ∧ newW (.rng a b c) H K) False) False) False
    | .tuple => a1 args (fun x => oR x (fun n => oLs H[n]? (fun xs => xs.length ≤ 1000000 ∧ newW (.tup xs) H K) False) False) False
    | .reversed => a1 args (fun x => oR x (fun n => oLs H[n]? (fun xs => newW (.itV n xs.length) H K) False) False) False
    | .enumerate => a1 args (fun x => oR x (fun n => oTp H[n]? (fun _ => newW (.itT n 0) H fun v H => oR v (fun k => newW (.itE k 0) H K) False) False) False) False
  | _ => False

theorem std_sound {d : Nat} {f : AV} {args : List AV} {H : AH} {K : Kv} (h : stdW f args H K) : CallOk g d f args H K := by
  intro ρ s cf cargs A Q E hA D T rf r hQ
  refine wpAny_with_toks T ?_
  cases f
  case bi id =>
    cases rf
    cases id
    case max =>
      replace h := no (a3_or h); obtain ⟨a, b, c, rfl, h⟩ := h
      replace h := no (oF_or h); obtain ⟨a, rfl, h⟩ := h
      replace h := no (oFF_or h); obtain ⟨b, c, ⟨rfl, rfl⟩, h⟩ := h
      obtain ⟨_, _, rfl, ⟨t, ht, rfl⟩, _, _, rfl, ⟨u, hu, rfl⟩, _, _, rfl, ⟨v, hv, rfl⟩, rfl⟩ := r
      exact call_max_three (three_sound (Q := Tk Q) hA.hd D ht hu hv .Gt _ (fun P hP i j vi vj s Q E hi hj q => by
        obtain ⟨w, _, rfl⟩ := hP _ _ hi
        obtain ⟨w', _, rfl⟩ := hP _ _ hj
        exact AutoFloatOps.gt_0 q) fun x h' tk hx hk T' => hQ _ _ _ _ _ h hx (Nx.grow D hk) (D.grow hk) T')
    case min =>
      replace h := no (a3_or h); obtain ⟨a, b, c, rfl, h⟩ := h
      replace h := no (oF_or h); obtain ⟨a, rfl, h⟩ := h
      replace h := no (oFF_or h); obtain ⟨b, c, ⟨rfl, rfl⟩, h⟩ := h
      obtain ⟨_, _, rfl, ⟨t, ht, rfl⟩, _, _, rfl, ⟨u, hu, rfl⟩, _, _, rfl, ⟨v, hv, rfl⟩, rfl⟩ := r
      exact call_min_three (three_sound (Q := Tk Q) hA.hd D ht hu hv .Lt _ (fun P hP i j vi vj s Q E hi hj q => by
        obtain ⟨w, _, rfl⟩ := hP _ _ hi
        obtain ⟨w', _, rfl⟩ := hP _ _ hj
        exact AutoFloatOps.lt_0 q) fun x h' tk hx hk T' => hQ _ _ _ _ _ h hx (Nx.grow D hk) (D.grow hk) T')
    case len =>
      replace h := no (a1_or h); obtain ⟨x, rfl, h⟩ := h
      obtain ⟨_, _, rfl, r, rfl⟩ := r
      replace h := oS_or h; obtain ⟨x, rfl, h⟩ | h := h
      · obtain ⟨t, rfl⟩ := r
        refine len_str (Q := Tk Q) (by have := h.1; omega) fun T' => hQ _ _ _ _ _ h.2 ⟨_, rfl⟩ Nx.toks D T'
      replace h := no (oR_or h); obtain ⟨n, rfl, h⟩ := h
      replace h := no (oLs_or h); obtain ⟨xs, hn, h⟩ := h
      obtain ⟨a, vs, k, rfl, e1, e2, e3⟩ := D.lst hn r
      have hz := e3.sizeA
      refine PySem.Calls.call_len_list (Q := Tk Q) (items := vs) ⟨_, e2, rfl, k, rfl⟩ (by rw [hz]; have := h.1; omega) ?_
      rw [hz]
      exact fun T' => hQ _ _ _ _ _ h.2 ⟨_, rfl⟩ Nx.toks D T'
    case sum =>
      replace h := no (a1_or h); obtain ⟨x, rfl, h⟩ := h
      obtain ⟨_, _, rfl, r, rfl⟩ := r
      replace h := no (oR_or h); obtain ⟨n, rfl, h⟩ := h
      replace h := no (oLs_or h); obtain ⟨xs, hn, h⟩ := h
      obtain ⟨a, vs, k, rfl, e1, e2, e3⟩ := D.lst hn r
      obtain ⟨ns, hi, h⟩ := oSm_in h
      obtain ⟨ps, h1, h2⟩ := intsOf_sound hi e3
      have hv : vs = intItems ps.toArray := by
        rw [← Array.toList_inj, h1]; simp [intItems]
      subst hv
      refine sum_intListG (Q := Tk Q) hA.hd ⟨_, e2, rfl, k, rfl⟩ fun h' tk t' hk T' => ?_
      have hsum : preSum (numAt ps.toArray) ps.toArray.size = ns.sum := by
        rw [preSum_eq, List.take_of_length_le (by simp), ← h2]
      rw [hsum]
      exact hQ _ _ _ _ _ h ⟨_, rfl⟩ (Nx.grow D hk) (D.grow hk) T'
    case sorted =>
      replace h := no (a1_or h); obtain ⟨x, rfl, h⟩ := h
      obtain ⟨_, _, rfl, r, rfl⟩ := r
      replace h := no (oR_or h); obtain ⟨n, rfl, h⟩ := h
      replace h := no (oLs_or h); obtain ⟨xs, hn, h⟩ := h
      obtain ⟨a, vs, k, rfl, e1, e2, e3⟩ := D.lst hn r
      obtain ⟨ns, hi, h⟩ := oSm_in h
      obtain ⟨ps, h1, h2⟩ := intsOf_sound hi e3
      have hI : IntsAre vs.toList ns := by rw [h1, ← h2]; exact ints_of_pairs
      have hlen : vs.toList.length < 64 := by
        rw [h1, List.length_map]
        have : ps.length = ns.length := by rw [← h2, List.length_map]
        rw [this]; exact h.1
      refine sorted_ints (Q := Tk Q) (vs := vs.toList) ⟨_, e2, rfl, k, rfl⟩ hI hlen fun out ns' a1 a2 a3 T' => ?_
      have hs := sorted_unique a2 a3
      obtain ⟨e, he⟩ := sortedAll_at s.heap vs.toList out
      obtain ⟨qs, q1, q2⟩ := ints_pairs a1
      have hk : ∀ b o, s.heap.get? b = some o → (sortedAll s.heap vs.toList out).get? b = some o := fun b o e => sortedAll_old e
      have hno : s.heap.get? (s.heap.objs.size + 1) = none := by
        cases e : s.heap.get? (s.heap.objs.size + 1) with
        | none => rfl
        | some o => exact absurd (Heap.lt_size e) (Nat.not_lt.mpr (Nat.le_succ _))
      refine hQ _ _ _ _ _ h.2 ⟨s.heap.objs.size + 1, get_last D _, rfl⟩ (Nx.add (t := s.toks) D hno hk) (D.add hno hk he ⟨_, _, rfl, ?_⟩) T'
      rw [q1, ← hs, ← q2]
      exact VRs.ints
    case divmod =>
      replace h := no (a2_or h); obtain ⟨a, b, rfl, h⟩ := h
      replace h := no (oII_or h); obtain ⟨a, b, ⟨rfl, rfl⟩, h⟩ := h
      obtain ⟨_, _, rfl, ⟨t, rfl⟩, _, _, rfl, ⟨u, rfl⟩, rfl⟩ := r
      refine divmod_int (Q := Tk Q) h.1.1 ?_ (.inl h.1.2)
      exact post_push hQ D h.2 rfl ⟨_, _, rfl, ⟨_, _, rfl, ⟨_, rfl⟩, ⟨_, _, rfl, ⟨_, rfl⟩, rfl⟩⟩⟩
  case ty t =>
    cases rf
    cases t
    case int =>
      replace h := no (a1_or h); obtain ⟨x, rfl, h⟩ := h
      replace h := no (oF_or h); obtain ⟨x, rfl, h⟩ := h
      obtain ⟨_, _, rfl, ⟨t, ht, rfl⟩, rfl⟩ := r
      split at h
      · rename_i sg m e hd
        exact call_int_float (Q := Tk Q) hd fun T' => hQ _ _ _ _ _ h ⟨_, rfl⟩ Nx.toks D T'
      · exact h.elim
    case range =>
      replace h := a1_or h; obtain ⟨n, rfl, h⟩ | h := h
      · replace h := no (oI_or h); obtain ⟨n, rfl, h⟩ := h
        obtain ⟨_, _, rfl, ⟨t, rfl⟩, rfl⟩ := r
        exact call_range_1 (Q := Tk Q) (post_push hQ D h rfl ⟨_, _, _, rfl⟩)
      replace h := a2_or h; obtain ⟨a, b, rfl, h⟩ | h := h
      · replace h := no (oII_or h); obtain ⟨a, b, ⟨rfl, rfl⟩, h⟩ := h
        obtain ⟨_, _, rfl, ⟨t, rfl⟩, _, _, rfl, ⟨u, rfl⟩, rfl⟩ := r
        exact call_range_2 (Q := Tk Q) (post_push hQ D h rfl ⟨_, _, _, rfl⟩)
      replace h := no (a3_or h); obtain ⟨a, b, c, rfl, h⟩ := h
      replace h := no (oI_or h); obtain ⟨a, rfl, h⟩ := h
      replace h := no (oII_or h); obtain ⟨b, c, ⟨rfl, rfl⟩, h⟩ := h
      obtain ⟨_, _, rfl, ⟨t, rfl⟩, _, _, rfl, ⟨u, rfl⟩, _, _, rfl, ⟨v, rfl⟩, rfl⟩ := r
      exact call_range_3 (Q := Tk Q) h.1.1 (post_push (t := s.toks) hQ D h.2 rfl ⟨_, _, _, rfl⟩) (.inl h.1.2)
    case tuple =>
      replace h := no (a1_or h); obtain ⟨x, rfl, h⟩ := h
      replace h := no (oR_or h); obtain ⟨n, rfl, h⟩ := h
      replace h := no (oLs_or h); obtain ⟨xs, hn, h⟩ := h
      obtain ⟨_, _, rfl, r, rfl⟩ := r
      obtain ⟨a, vs, k, rfl, e1, e2, e3⟩ := D.lst hn r
      have hbig : (1000000 : Nat) ≤ sizeLine := by decide
      refine call_tuple_list (Q := Tk Q) (items := vs) ⟨_, e2, rfl, k, rfl⟩ (fun h' hk T' => ?_) (by rw [e3.sizeA]; exact Nat.le_trans h.1 hbig)
      have D' : HR g ρ H h' := D.grow hk
      have N' : Nx g ρ ρ s { s with heap := h', toks := s.toks } := Nx.grow D hk
      exact hQ _ _ _ _ _ h.2 (ref_last D' _) (N'.trans (Nx.push (s := { s with heap := h' }) (t := s.toks) D')) (D'.push rfl ⟨_, _, rfl, e3.ofA _⟩) T'
    case reversed =>
      replace h := no (a1_or h); obtain ⟨x, rfl, h⟩ := h
      replace h := no (oR_or h); obtain ⟨n, rfl, h⟩ := h
      replace h := no (oLs_or h); obtain ⟨xs, hn, h⟩ := h
      obtain ⟨_, _, rfl, r, rfl⟩ := r
      obtain ⟨a, vs, k, rfl, e1, e2, e3⟩ := D.lst hn r
      refine call_reversed_list (Q := Tk Q) (items := vs) ⟨_, e2, rfl, k, rfl⟩ ?_
      exact post_push (t := s.toks) hQ D h rfl ⟨a, prefix_get (List.prefix_append _ _) e1, rfl, by rw [← e3.sizeA]; rfl⟩
    case enumerate =>
      replace h := no (a1_or h); obtain ⟨x, rfl, h⟩ := h
      replace h := no (oR_or h); obtain ⟨n, rfl, h⟩ := h
      replace h := no (oTp_or h); obtain ⟨xs, hn, h⟩ := h
      obtain ⟨_, _, rfl, r, rfl⟩ := r
      obtain ⟨a, vs, k, rfl, e1, e2, e3⟩ := D.tup hn r
      refine call_enum_tup (Q := Tk Q) e2 fun T' => ?_
      have D1 := D.push (o := .itT _ 0) (ob := { cls := .type "tuple_iterator", data := .fields #[.ref a, .int 0 0] }) rfl ⟨a, prefix_get (List.prefix_append _ _) e1, rfl, rfl⟩
      have N1 : Nx g ρ _ s { s with heap := s.heap.push { cls := .type "tuple_iterator", data := .fields #[.ref a, .int 0 0] }, toks := s.toks } := Nx.push D
      have D2 := D1.push (o := .itE H.length 0) (ob := { cls := .type "enumerate", data := .fields #[.none, .bool false, .ref s.heap.objs.size, rawInt 0, .none, .none] }) rfl ⟨s.heap.objs.size, .none, .none, prefix_get (List.prefix_append _ _) (get_last D _), rfl, rfl⟩
      have N2 : Nx g _ _ { s with heap := s.heap.push { cls := .type "tuple_iterator", data := .fields #[.ref a, .int 0 0] }, toks := s.toks } { s with heap := (s.heap.push { cls := .type "tuple_iterator", data := .fields #[.ref a, .int 0 0] }).push { cls := .type "enumerate", data := .fields #[.none, .bool false, .ref s.heap.objs.size, rawInt 0, .none, .none] }, toks := s.toks } := Nx.push D1
      exact hQ _ _ _ _ _ h (ref_last D1 _) (N1.trans N2) D2 T'
  all_goals exact h.elim
end Py

end
section
open PySem PySem.W PyProof.Rows
set_option maxRecDepth 10000
set_option autoImplicit false
set_option linter.unusedVariables false
namespace Py

structure Tab where
  c : Addr
  P : Addr
  ps : Array Value
  line : Nat
  col : Nat
  q : Str

noncomputable def Tab.full (t : Tab) (c' : Addr) : Array Value := t.ps ++ #[rawInt t.line, rawInt t.col, .ref c']
noncomputable def TabOk (tabs : List Tab) (h : Heap) (t : Tab) : Prop :=
  (h.IsCode t.c t.P t.ps ∧ h.TableAt t.c t.P t.ps) ∨ ∃ c', h.IsCode t.c t.P (t.full c') ∧ h.TableAt t.c t.P (t.full c') ∧ h.CodeRec (.ref c') t.q ∧ ∀ u ∈ tabs, c' ≠ u.P

noncomputable def BOf (h₁ : Heap) (N : Nat) (tabs : List Tab) (h : Heap) : Prop :=
  (∀ b o, b < N → (∀ t ∈ tabs, b ≠ t.P) → h₁.get? b = some o → h.get? b = some o) ∧ ∀ t ∈ tabs, TabOk tabs h t
noncomputable def bsOf (h₁ : Heap) (N : Nat) (tabs : List Tab) (h : Heap) (b : Addr) : Prop :=
  (b < N ∧ ∃ o, h₁.get? b = some o) ∨ ∃ t ∈ tabs, h.get? t.P = some { cls := .none, data := .fields (t.full b) }

noncomputable def cdkOf (tabs : List Tab) (h : Heap) (c : Value) (q : Str) : Prop := ∃ t ∈ tabs, ∃ c', c = .ref c' ∧ q = t.q ∧ h.get? t.P = some { cls := .none, data := .fields (t.full c') }

theorem full_inj {t : Tab} {a b : Addr} (h : t.full a = t.full b) : a = b := by
  unfold Tab.full at h
  have := Array.append_right_inj t.ps |>.mp h
  simpa using this
theorem full_ne {t : Tab} {a : Addr} : t.full a ≠ t.ps := fun h => by
  have := congrArg Array.size h
  unfold Tab.full at this
  simp at this

theorem IsCode.at2 {h h' : Heap} {c P : Addr} {ps : Array Value} (x : h.IsCode c P ps) (hc : ∀ o, h.get? c = some o → h'.get? c = some o) (hP : ∀ o, h.get? P = some o → h'.get? P = some o) : h'.IsCode c P ps :=
  x.imp fun o => Exists.imp fun vs => Exists.imp fun file => Exists.imp fun tf => Exists.imp fun flags => Exists.imp fun tg => Exists.imp fun inF => Exists.imp fun text => Exists.imp fun tt => Exists.imp fun op h =>
    ⟨hc _ h.1, h.2.1, h.2.2.1, h.2.2.2.1, h.2.2.2.2.1, h.2.2.2.2.2.1, h.2.2.2.2.2.2.1, hP _ h.2.2.2.2.2.2.2.1, h.2.2.2.2.2.2.2.2⟩
theorem CodeRec.at1 {h h' : Heap} {c : Addr} {q : Str} (x : h.CodeRec (.ref c) q) (hc : ∀ o, h.get? c = some o → h'.get? c = some o) : h'.CodeRec (.ref c) q := by
  obtain ⟨c', o, vs, t, e, g, r⟩ := x
  cases e
  exact ⟨_, o, vs, t, rfl, hc _ g, r⟩

theorem TabOk.there {tabs : List Tab} {h : Heap} {t : Tab} (x : TabOk tabs h t) : ∃ o, h.get? t.P = some o := by
  rcases x with ⟨_, _, e⟩ | ⟨c', _, ⟨_, e⟩, _⟩
  · exact ⟨_, e⟩
  · exact ⟨_, e⟩

structure TabsWf (h₁ : Heap) (N : Nat) (tabs : List Tab) : Prop where
  lt : ∀ t ∈ tabs, t.P < N ∧ t.c < N
  old : ∀ t ∈ tabs, (∃ o, h₁.get? t.P = some o) ∧ ∃ o, h₁.get? t.c = some o
  nb : NoneBooked h₁
  st : cStatics < N ∧ ∀ t ∈ tabs, cStatics ≠ t.P
  inj : ∀ t ∈ tabs, ∀ u ∈ tabs, t.P = u.P → t = u
  cne : ∀ t ∈ tabs, ∀ u ∈ tabs, t.c ≠ u.P

theorem B_keep {h₁ : Heap} {N : Nat} {tabs : List Tab} (W : TabsWf h₁ N tabs) {h h' : Heap} (b : BOf h₁ N tabs h) (k : ∀ a o, bsOf h₁ N tabs h a → h.get? a = some o → h'.get? a = some o) :
    BOf h₁ N tabs h' ∧ (∀ a, bsOf h₁ N tabs h' a → bsOf h₁ N tabs h a) ∧ ∀ c q, cdkOf tabs h c q → cdkOf tabs h' c q := by
  have hP : ∀ t ∈ tabs, ∀ o, h.get? t.P = some o → h'.get? t.P = some o := fun t ht o e => k _ o (.inl ⟨(W.lt t ht).1, (W.old t ht).1⟩) e
  have hc : ∀ t ∈ tabs, ∀ o, h.get? t.c = some o → h'.get? t.c = some o := fun t ht o e => k _ o (.inl ⟨(W.lt t ht).2, (W.old t ht).2⟩) e
  refine ⟨⟨fun a o ha hne e => k a o (.inl ⟨ha, o, e⟩) (b.1 a o ha hne e), fun t ht => ?_⟩, fun a ha => ?_, fun c q ⟨t, ht, c', e1, e2, e3⟩ => ⟨t, ht, c', e1, e2, hP t ht _ e3⟩⟩
  · rcases b.2 t ht with ⟨x1, x2⟩ | ⟨c', x1, x2, x3, x4⟩
    · exact .inl ⟨IsCode.at2 x1 (hc t ht) (hP t ht), x2.at2 (hc t ht) (hP t ht)⟩
    · refine .inr ⟨c', IsCode.at2 x1 (hc t ht) (hP t ht), x2.at2 (hc t ht) (hP t ht), CodeRec.at1 x3 fun o e => k c' o (.inr ⟨t, ht, x2.2⟩) e, x4⟩
  · rcases ha with q | ⟨t, ht, e⟩
    · exact .inl q
    · refine .inr ⟨t, ht, ?_⟩
      obtain ⟨o, e'⟩ := (b.2 t ht).there
      have := hP t ht o e'
      rw [e] at this; cases this
      exact e'
theorem B_lt {h₁ : Heap} {N : Nat} {tabs : List Tab} (W : TabsWf h₁ N tabs) {h : Heap} {a : Addr} (b : BOf h₁ N tabs h) (q : bsOf h₁ N tabs h a) : ∃ o, h.get? a = some o := by
  rcases q with ⟨h1, o, h2⟩ | ⟨t, ht, e⟩
  · by_cases hn : ∀ t ∈ tabs, a ≠ t.P
    · exact ⟨o, b.1 a o h1 hn h2⟩
    · have : ∃ t ∈ tabs, a = t.P := by
        apply Classical.byContradiction
        intro hc
        exact hn fun t ht e => hc ⟨t, ht, e⟩
      obtain ⟨t, ht, rfl⟩ := this
      exact (b.2 t ht).there
  · rcases b.2 t ht with ⟨_, _, e2⟩ | ⟨c', _, ⟨_, e2⟩, ⟨_, o, _, _, e3, e4, _⟩, _⟩
    · rw [e] at e2
      injection e2 with e2; injection e2 with _ _ e2; injection e2 with e2
      exact absurd e2 full_ne
    · rw [e] at e2
      injection e2 with e2; injection e2 with _ _ e2; injection e2 with e2
      have := full_inj e2
      subst this
      cases e3
      exact ⟨o, e4⟩

noncomputable def mkG (prog : Program) (w : World) (h₁ : Heap) (N : Nat) (tabs : List Tab) (W : TabsWf h₁ N tabs) : G where
  prog := prog
  w := w
  B := BOf h₁ N tabs
  bs := bsOf h₁ N tabs
  tb := fun b => ∃ t ∈ tabs, b = t.P
  cdk := cdkOf tabs
  cdr := fun h c q b ⟨t, ht, c', e1, e2, e3⟩ => by
    subst e1; subst e2
    rcases b.2 t ht with ⟨_, _, e4⟩ | ⟨c'', _, ⟨_, e4⟩, x3, _⟩
    · rw [e3] at e4
      injection e4 with e4; injection e4 with _ _ e4; injection e4 with e4
      exact absurd e4 full_ne
    · rw [e3] at e4
      injection e4 with e4; injection e4 with _ _ e4; injection e4 with e4
      rw [full_inj e4]; exact x3
  keep := fun h h' b k => B_keep W b k
  lt := fun h a b q => B_lt W b q
  tbb := fun h a b ⟨t, ht, e⟩ => .inl ⟨e ▸ (W.lt t ht).1, e ▸ (W.old t ht).1⟩
  nb := fun h b => by
    obtain ⟨mc, ⟨o, es, ep, ho, r⟩, hk⟩ := W.nb
    exact ⟨mc, ⟨o, es, ep, b.1 _ _ W.st.1 W.st.2 ho, r⟩, hk⟩

/-- a table's own step -/
theorem B_grow {h₁ : Heap} {N : Nat} {tabs : List Tab} (W : TabsWf h₁ N tabs) {h h' : Heap} (b : BOf h₁ N tabs h) {t : Tab} (ht : t ∈ tabs) (hx : Heap.ExtBut t.P h h') {c' : Addr} (hn : h.get? c' = none)
    (hps : h.get? t.P = some { cls := .none, data := .fields t.ps })
    (x1 : h'.IsCode t.c t.P (t.full c')) (x2 : h'.TableAt t.c t.P (t.full c')) (x3 : h'.CodeRec (.ref c') t.q) : BOf h₁ N tabs h' ∧ (∀ a, bsOf h₁ N tabs h' a → bsOf h₁ N tabs h a ∨ h.get? a = none) ∧ ∀ c q, cdkOf tabs h c q → cdkOf tabs h' c q := by
  have hkeep : ∀ a o, a ≠ t.P → h.get? a = some o → h'.get? a = some o := fun a o q e => hx a o q e
  have hcP : c' ≠ t.P := by
    rintro rfl
    rw [hps] at hn; cases hn
  have hall : ∀ u ∈ tabs, c' ≠ u.P := fun u hu => by
    rintro rfl
    obtain ⟨o, e⟩ := (b.2 u hu).there
    rw [e] at hn; cases hn
  refine ⟨⟨fun a o ha hne e => hkeep a o (hne t ht) (b.1 a o ha hne e), fun u hu => ?_⟩, fun a ha => ?_, fun c q ⟨u, hu, c'', e1, e2, e3⟩ => ⟨u, hu, c'', e1, e2, hkeep _ _ ?_ e3⟩⟩
  · by_cases hut : u = t
    · subst hut; exact .inr ⟨c', x1, x2, x3, hall⟩
    · have hP : u.P ≠ t.P := fun q => hut (W.inj u hu t ht q)
      have hc : u.c ≠ t.P := W.cne u hu t ht
      rcases b.2 u hu with ⟨y1, y2⟩ | ⟨c'', y1, y2, y3, y4⟩
      · exact .inl ⟨IsCode.at2 y1 (fun o e => hkeep _ o hc e) (fun o e => hkeep _ o hP e), y2.at2 (fun o e => hkeep _ o hc e) (fun o e => hkeep _ o hP e)⟩
      · refine .inr ⟨c'', IsCode.at2 y1 (fun o e => hkeep _ o hc e) (fun o e => hkeep _ o hP e), y2.at2 (fun o e => hkeep _ o hc e) (fun o e => hkeep _ o hP e), CodeRec.at1 y3 fun o e => hkeep _ o ?_ e, y4⟩
        exact y4 t ht
  · rcases ha with q | ⟨u, hu, e⟩
    · exact .inl (.inl q)
    · by_cases hut : u = t
      · subst hut
        rw [x2.2] at e
        injection e with e; injection e with _ _ e; injection e with e
        have := full_inj e
        subst this
        exact .inr hn
      · have hP : u.P ≠ t.P := fun q => hut (W.inj u hu t ht q)
        refine .inl (.inr ⟨u, hu, ?_⟩)
        obtain ⟨o, e'⟩ := (b.2 u hu).there
        have := hkeep _ o hP e'
        rw [e] at this; cases this
        exact e'
  · intro q
    rw [q, hps] at e3
    injection e3 with e3; injection e3 with _ _ e3; injection e3 with e3
    have := W.inj u hu t ht q
    subst this
    exact full_ne e3.symm
end Py

end
section
open PySem PySem.W PyProof.Rows
set_option maxRecDepth 10000
set_option autoImplicit false
set_option linter.unusedVariables false
namespace Py
variable {g : G}

/-- what the base says of a code table -/
structure TabG (g : G) (t : Tab) : Prop where
  ok : ∀ h, g.B h → (h.IsCode t.c t.P t.ps ∧ h.TableAt t.c t.P t.ps) ∨ ∃ c', h.IsCode t.c t.P (t.full c') ∧ h.TableAt t.c t.P (t.full c')
  grow : ∀ h h' c', g.B h → Heap.ExtBut t.P h h' → h.get? c' = none → h.get? t.P = some { cls := .none, data := .fields t.ps } → h'.IsCode t.c t.P (t.full c') → h'.TableAt t.c t.P (t.full c') → h'.CodeRec (.ref c') t.q →
    g.B h' ∧ (∀ a, g.bs h' a → g.bs h a ∨ h.get? a = none) ∧ ∀ c q, g.cdk h c q → g.cdk h' c q
  full : ∀ h c', g.B h → h.TableAt t.c t.P (t.full c') → g.cdk h (.ref c') t.q
  tb : g.tb t.P

theorem mkG_tab {prog : Program} {w : World} {h₁ : Heap} {N : Nat} {tabs : List Tab} (W : TabsWf h₁ N tabs) {t : Tab} (ht : t ∈ tabs) : TabG (mkG prog w h₁ N tabs W) t where
  ok := fun h b => (b.2 t ht).imp id fun ⟨c', x1, x2, _⟩ => ⟨c', x1, x2⟩
  grow := fun h h' c' b hx hn hps x1 x2 x3 => B_grow W b ht hx hn hps x1 x2 x3
  full := fun h c' b x => ⟨t, ht, c', rfl, rfl, x.2⟩
  tb := ⟨t, ht, rfl⟩

theorem grow_HR {t : Tab} (X : TabG g t) {ρ : List Addr} {H : AH} {h h' : Heap} (D : HR g ρ H h) (hx : Heap.ExtBut t.P h h') (K : g.B h' ∧ (∀ a, g.bs h' a → g.bs h a ∨ h.get? a = none) ∧ ∀ c q, g.cdk h c q → g.cdk h' c q) : HR g ρ H h' where
  base := K.1
  len := D.len
  nodup := D.nodup
  off := fun a ha q => by
    rcases K.2.1 a q with q | q
    · exact D.off a ha q
    · obtain ⟨o, e⟩ := D.has ha
      rw [q] at e; cases e
  obj := fun i o e => by
    obtain ⟨a, ob, e1, e2, e3⟩ := D.obj i o e
    refine ⟨a, ob, e1, hx a ob ?_ e2, e3.heap K.2.2⟩
    rintro rfl
    exact D.off _ (List.mem_of_getElem? e1) (g.tbb _ _ D.base X.tb)
theorem grow_Nx {t : Tab} (X : TabG g t) {ρ : List Addr} {s : Shared} {h' : Heap} {tk : Nat} (hx : Heap.ExtBut t.P s.heap h') (hP : ∃ o, h'.get? t.P = some o) (K : g.B h' ∧ (∀ a, g.bs h' a → g.bs s.heap a ∨ s.heap.get? a = none) ∧ ∀ c q, g.cdk s.heap c q → g.cdk h' c q) :
    Nx g ρ ρ s { s with heap := h', toks := tk } where
  pre := List.prefix_refl _
  fresh := fun _ h => .inl h
  live := fun b o e => by
    by_cases q : b = t.P
    · subst q; exact hP
    · exact ⟨o, hx b o q e⟩
  keep := fun b o e _ => by
    by_cases q : b = t.P
    · subst q; exact .inr ⟨X.tb, hP⟩
    · exact .inl (hx b o q e)
  bsn := K.2.1
  cdm := K.2.2
  gens := rfl
  os := rfl
  drawn := rfl

/-- the module's built-ins, as a def's making asks -/
noncomputable def BuiltinsOk (h : Heap) : Prop := ∃ m bm o, h.Ns mainGlobals m ∧ m "__builtins__" = some (.ref bm) ∧ bm ≠ builtinsNs ∧ h.get? bm = some o ∧ o.cls = .type "module" ∧ o.dict = some builtinsNs ∧ o.data = .plain

theorem code_sound {t : Tab} (X : TabG g t) {env : Env} {pos : Pos} {firstLine : Nat} {name qual : Str} {p : Arguments} {scope : Scope} {body : FuncBody} {ρ : List Addr} {H : AH} {s : Shared} {A : Around} {Q E : Value → Shared → Prop}
    (hc : env.code = .ref t.c) (hq : qual = t.q) (hpos : pos.line = t.line ∧ pos.col = t.col) (hnf : codeAmong pos t.ps.toList = none) (hf : ∀ c', codeAmong pos (t.full c').toList = some (.ref c')) (D : HR g ρ H s.heap) (T : 1 ≤ s.toks)
    (hQ : ∀ c' s', g.cdk s'.heap (.ref c') t.q → Nx g ρ ρ s s' → HR g ρ H s'.heap → 1 ≤ s'.toks → Q (.ref c') s') : wpAny (model g.prog g.w) A (functionCode env pos firstLine name qual p scope body) Q E s := by
  refine wpAny_with_toks T ?_
  rcases X.ok _ D.base with ⟨x1, x2⟩ | ⟨c', x1, x2⟩
  · refine wpAny_functionCodeX hc x1 x2 hnf fun c' h' tk hx hge hlt y1 y2 y3 _ T' => ?_
    have e : t.ps ++ #[rawInt pos.line, rawInt pos.col, .ref c'] = t.full c' := by rw [hpos.1, hpos.2]; rfl
    rw [e] at y1 y3
    have hn : s.heap.get? c' = none := by
      cases e : s.heap.get? c' with
      | none => rfl
      | some o => exact absurd (Heap.lt_size e) (Nat.not_lt.mpr hge)
    have K := X.grow _ _ c' D.base hx hn x2.2 y1 y3 (hq ▸ y2)
    exact hQ c' _ (X.full _ _ K.1 y3) (grow_Nx X hx ⟨_, y3.2⟩ K) (grow_HR X D hx K) T'
  · exact wpAny_functionCode_hit hc x1 (hf c') fun T' => hQ c' _ (X.full _ _ D.base x2) (Nx.refl _ _) D T'

/-- a def in a def -/
theorem def_sound {d : Nat} {c : PC} {t : Tab} (X : TabG g t) (hb : ∀ h, g.B h → BuiltinsOk h) {name : Str} {params : Arguments} {body : List Stmt} {scope : Scope} {pos : Pos} {loc : Lc} {H : AH} {cl : List (Str × Nat)} {K : Fl → Lc → AH → Prop}
    (hexec : PlainDefTree name params body scope pos) (hdoc : docOf body = none) (hcd : c.cd = .ref t.c) (hq : c.qn ++ name = t.q) (hpos : pos.line = t.line ∧ pos.col = t.col) (hnf : codeAmong pos t.ps.toList = none) (hf : ∀ c', codeAmong pos (t.full c').toList = some (.ref c'))
    (hnm : (c.scope.names.lookup name == some .globalExplicit) = false) (hcl : cloOf c.cells scope.names [] = some cl) (hne : cl ≠ [])
    (h : storeW c loc name (.ref H.length) (H ++ [.clo cl fun fd => fd.qualname = t.q ∧ fd.body = .stmts body ∧ fd.params = params ∧ fd.scope = scope ∧ fd.globals = mainGlobals ∧ fd.builtins = builtinsNs ∧ fd.defaults = .none ∧ fd.name = name]) fun loc H => K .next loc H)
    : HkOk g d c loc (.FunctionDef name params body [] none [] scope none name pos) H K := by
  intro env ρ s A Q E hA F D T hQ
  have hqn : qualnameIn env name name = t.q := by
    unfold qualnameIn Env.kindOf
    rw [F.sc, hnm, F.qn]
    exact hq
  obtain ⟨ccl, hcr, hclos⟩ := cloOf_sound (cells := c.cells) (env := env) (ρ := ρ) F.cl (cacc := []) hcl rfl
  have hclos' : closureFor scope env = pure ccl := by
    show (do let cs ← forIn scope.names [] _; pure cs) = _
    rw [← hclos]
    show (forIn scope.names [] _ >>= pure) = _
    rw [bind_pure]
  have hnec : ccl.isEmpty = false := by
    cases cl with
    | nil => exact absurd rfl hne
    | cons x r => obtain ⟨a, q, e, _⟩ := hcr; rw [e]; rfl
  rw [hexec, hqn]
  refine wpAny_bind (wpAny_standAt (wpAny_bind (wpAny_holding ?_)))
  simp only [makeFunction, List.zip_nil_right, List.filterMap_nil, List.isEmpty_nil, if_true, pure_bind, hclos', hdoc, hnec, Bool.false_eq_true, if_false]
  refine wpAny_bind (wpAny_newTextTuple ?_)
  have hk1 : ∀ {v : Array Value} b o, s.heap.get? b = some o → (s.heap.push { cls := .type "tuple", data := .seq v }).get? b = some o := fun b o e => Heap.get?_push_of_some _ e
  refine wpAny_bind (code_sound X (H := H) (ρ := ρ) (F.cd.trans hcd) rfl hpos hnf hf (D.grow hk1) T fun c' s' hcdk N₁ D₁ T₁ => ?_)
  have N₀ := Nx.trans (Nx.grow (t := s.toks) D (hk1 (v := _))) N₁
  obtain ⟨m, bm, o, hm, hbm, hne0, hbo, hcls, hdict, hdata⟩ := hb _ D₁.base
  have hm' : s'.heap.Ns env.globals m := by rw [F.gl]; exact hm
  refine wpAny_bind (wpAny_builtinsFor hm' hbm hne0 hbo hcls hdict hdata ?_)
  refine wpAny_bind (wpAny_nsGet hm' ?_)
  simp only [newObj]
  refine wpAny_bind (wpAny_alloc (wpAny_pure ?_))
  refine wpAny_bind (wpAny_standAt (wpAny_bind (wpAny_bindName ?_)))
  have D₂ := D₁.push (o := .clo cl fun fd => fd.qualname = t.q ∧ fd.body = .stmts body ∧ fd.params = params ∧ fd.scope = scope ∧ fd.globals = mainGlobals ∧ fd.builtins = builtinsNs ∧ fd.defaults = .none ∧ fd.name = name)
    (ob := { cls := .type "function", data := .func { name := name, qualname := t.q, params := params, body := .stmts body, scope := scope, globals := env.globals, closure := ccl, defaults := .none, kwdefaults := .none, doc := .none, pyModule := (m "__name__").getD .none, annotations := none, code := .ref c', closureTuple := .ref s.heap.objs.size, builtins := builtinsNs } }) rfl
    ⟨_, rfl, ⟨rfl, rfl, rfl, rfl, F.gl, rfl, rfl, rfl⟩, hcr.mono (List.prefix_append _ _), (g.keep _ _ D₁.base fun b o' _ e => Heap.get?_push_of_some _ e).2.2 _ _ hcdk⟩
  have N₂ := N₀.trans (Nx.push (ob := { cls := .type "function", data := .func { name := name, qualname := t.q, params := params, body := .stmts body, scope := scope, globals := env.globals, closure := ccl, defaults := .none, kwdefaults := .none, doc := .none, pyModule := (m "__name__").getD .none, annotations := none, code := .ref c', closureTuple := .ref s.heap.objs.size, builtins := builtinsNs } }) (t := s'.toks) D₁)
  exact store_sound h (F.nx N₂) D₂ T₁ (ref_last D₁ _) fun loc' H' s'' k N F' D' T' => wpAny_pure (hQ _ _ _ _ _ _ k .next (N₂.l.trans N) F' D' T')
end Py

end
section
open PySem PySem.W PyProof.Rows
set_option maxRecDepth 10000
set_option autoImplicit false
set_option linter.unusedVariables false
namespace Py
variable {g : G}

/-- a def of the top, in its place -/
noncomputable def FnAt (h : Heap) (a : Addr) (bd : List Stmt) (sc : Scope) (ps : List Str) (q : Str) (cd : Value) : Prop :=
  ∃ o fd, h.get? a = some o ∧ o.data = .func fd ∧ IsFn fd bd sc ps q ∧ fd.code = cd ∧ fd.closure = [] ∧ h.CodeRec fd.code fd.qualname

theorem fn_call {d n : Nat} {c : PC} (C : COk g d c) {a : Addr} {body : List Stmt} {ps : List Str} {args : List AV} {H : AH} {K : Kv} (hF : ∀ h, g.B h → FnAt h a body c.scope ps c.qn c.cd) (hlim : ∀ h, g.B h → h.NoLimit)
    (hcl : c.cells = []) (hnc : c.scope.names.all (fun x => x.2 != .cell) = true) (hps : ps.all (fun x => c.scope.names.lookup x == some .local) = true) (hlen : args.length = ps.length)
    (h : aws n c (ps.zip args) body H (endW K)) : CallOk g (d + 1) (.fn a) args H K := by
  intro ρ s cf cargs A Q E hA D T rf r hQ
  cases rf
  obtain ⟨o, fd, h1, h2, I, h3, h4, h5⟩ := hF _ D.base
  exact call_def C I h3 hlim (fun x hx => by simpa using List.all_eq_true.mp hnc x hx) (fun x hx => by simpa using List.all_eq_true.mp hps x hx) hlen h hA D T ⟨o, h1, h2⟩ h5 (fun x i e => by rw [hcl] at e; simp at e) r hQ

theorem fn_cells {d n : Nat} {c : PC} (C : COk g d c) {a : Addr} {body : List Stmt} {ps cn : List Str} {args : List AV} {H : AH} {K : Kv} (hF : ∀ h, g.B h → FnAt h a body c.scope ps c.qn c.cd) (hlim : ∀ h, g.B h → h.NoLimit)
    (hcn : ∀ m, cellsFrom m c.scope.names [] = cellIx m cn) (hcnd : cn.Nodup) (hcells : c.cells = cellIx H.length cn) (hck : cn.all (fun x => c.scope.names.lookup x == some .cell) = true)
    (hps : ps.all (fun x => c.scope.names.lookup x == some .local || cn.contains x) = true) (hlen : args.length = ps.length)
    (h : aws n c (locsOf c.scope (ps.zip args)) body (H ++ cellOs (ps.zip args) cn) (endW K)) : CallOk g (d + 1) (.fn a) args H K := by
  intro ρ s cf cargs A Q E hA D T rf r hQ
  cases rf
  obtain ⟨o, fd, h1, h2, I, h3, h4, h5⟩ := hF _ D.base
  exact call_cells C I h3 hlim hcn hcnd hcells (fun x hx => by simpa using List.all_eq_true.mp hck x hx) (fun x hx => by simpa using List.all_eq_true.mp hps x hx) hlen h hA D T ⟨o, h1, h2⟩ h5 h4 r hQ

/-- a call of a def made in a def -/
theorem clo_call {d n : Nat} {c : Value → PC} (C : ∀ v, COk g d (c v)) {sc : Scope} {q : Str} {cl : List (Str × Nat)} (hc : ∀ v, (c v).scope = sc ∧ (c v).qn = q ∧ (c v).cells = cl ∧ (c v).cd = v) {m : Nat} {k : FuncData → Prop} {body : List Stmt} {ps : List Str} {args : List AV} {H : AH} {K : Kv}
    (hm : H[m]? = some (.clo cl k)) (hk : ∀ fd, k fd → IsFn fd body sc ps q) (hlim : ∀ h, g.B h → h.NoLimit)
    (hnc : sc.names.all (fun x => x.2 != .cell) = true) (hps : ps.all (fun x => sc.names.lookup x == some .local) = true) (hlen : args.length = ps.length)
    (h : ∀ v, aws n (c v) (ps.zip args) body H (endW K)) : CallOk g (d + 1) (.ref m) args H K := by
  intro ρ s cf cargs A Q E hA D T rf r hQ
  obtain ⟨a, ha, rfl⟩ := rf
  obtain ⟨a', ob, e1, e2, fd, e3, e4, e5, e6⟩ := D.obj m _ hm
  rw [ha] at e1; cases e1
  obtain ⟨c1, c2, c3, c4⟩ := hc fd.code
  refine call_def (C fd.code) (by rw [c1, c2]; exact hk fd e4) c4.symm hlim (fun x hx => by rw [c1] at hx; simpa using List.all_eq_true.mp hnc x hx) (fun x hx => by rw [c1]; simpa using List.all_eq_true.mp hps x hx) hlen (h fd.code) hA D T ⟨ob, e2, e3⟩ (g.cdr _ _ _ D.base e6) (fun x i e => ?_) r hQ
  rw [c3] at e
  exact CR.lookup e5 e

/-- a call by scalars alone, with a plain answer, asks nothing of the heap -/
theorem HR.nil {ρ : List Addr} {H : AH} {h : Heap} (D : HR g ρ H h) : HR g [] [] h := ⟨D.base, rfl, List.nodup_nil, (fun _ h => nomatch h), fun i o e => by simp at e⟩
noncomputable def isSc : AV → Bool
  | .ref _ => false
  | _ => true
theorem VRs.sc {ρ ρ' : List Addr} : ∀ {xs : List AV} {vs : List Value}, xs.all isSc = true → VRs ρ xs vs → VRs ρ' xs vs
  | [], _, _, r => r
  | x :: xs, _, h, ⟨v, r, e, p, q⟩ => by
    rw [List.all_cons, Bool.and_eq_true] at h
    refine ⟨v, r, e, ?_, q.sc h.2⟩
    cases x <;> first | exact p | cases h.1
theorem VR.sc {ρ ρ' : List Addr} {x : AV} {v : Value} (h : isSc x = true) (p : VR ρ x v) : VR ρ' x v := by
  cases x <;> first | exact p | cases h
theorem Nx.nil {ρ ρ' : List Addr} {H : AH} {s s' : Shared} (D : HR g ρ H s.heap) (N : Nx g [] ρ' s s') : Nx g ρ ρ s s' := ⟨List.prefix_refl _, fun _ h => .inl h, N.live, fun b o e _ => N.keep b o e (fun h => nomatch h), N.bsn, N.cdm, N.gens, N.os, N.drawn⟩

/-- a thing that stands is told -/
theorem HR.tell {ρ : List Addr} {H : AH} {h : Heap} (D : HR g ρ H h) {o : AO} {ob : Obj} {a : Addr} (hn : a ∉ ρ) (hb : ¬ g.bs h a) (ha : h.get? a = some ob) (r : OR g (ρ ++ [a]) h o ob) : HR g (ρ ++ [a]) (H ++ [o]) h where
  base := D.base
  len := by simp [D.len]
  nodup := by
    refine List.nodup_append.mpr ⟨D.nodup, by simp, fun b hbm c hc => ?_⟩
    simp at hc
    subst hc
    rintro rfl
    exact hn hbm
  off := fun b q => by
    rcases List.mem_append.mp q with q | q
    · exact D.off b q
    · simp at q; subst q; exact hb
  obj := fun i o' e => by
    by_cases hi : i < H.length
    · rw [List.getElem?_append_left hi] at e
      obtain ⟨b, ob', e1, e2, e3⟩ := D.obj i o' e
      exact ⟨b, ob', by rw [List.getElem?_append_left (by rw [D.len]; exact hi)]; exact e1, e2, e3.mono (List.prefix_append _ _)⟩
    · rw [List.getElem?_append_right (Nat.le_of_not_lt hi)] at e
      have : i - H.length = 0 := by
        have := (List.getElem?_eq_some_iff.mp e).1
        simp at this; omega
      rw [this] at e
      simp at e
      subst e
      refine ⟨a, ob, ?_, ha, r⟩
      rw [List.getElem?_append_right (by rw [D.len]; omega), D.len, this]; rfl
/-- told things stand through a step that was told nothing -/
theorem HR.thru {ρ ρ' : List Addr} {H H' : AH} {s s' : Shared} (D : HR g ρ H s.heap) (N : Nx g [] ρ' s s') (D' : HR g ρ' H' s'.heap) : HR g ρ H s'.heap where
  base := D'.base
  len := D.len
  nodup := D.nodup
  off := fun a ha q => by
    rcases N.bsn a q with q | q
    · exact D.off a ha q
    · obtain ⟨o, e⟩ := D.has ha
      rw [q] at e; cases e
  obj := fun i o e => by
    obtain ⟨a, ob, e1, e2, e3⟩ := D.obj i o e
    refine ⟨a, ob, e1, (N.keep a ob e2 (fun h => nomatch h)).get fun q => ?_, e3.heap N.cdm⟩
    exact D.off _ (List.mem_of_getElem? e1) (g.tbb _ _ D.base q)

theorem lift_sc {d : Nat} {f : AV} {args : List AV} {out : AV} (hout : isSc out = true) (hf : isSc f = true) (ha : args.all isSc = true)
    (h : CallOk g d f args [] fun v _ => v = out) {H : AH} {K : Kv} (k : K out H) : CallOk g d f args H K := by
  intro ρ s cf cargs A Q E hA D T rf r hQ
  refine h [] s cf cargs A Q E hA D.nil T (rf.sc hf) (r.sc ha) fun v H' cv s' ρ' hv rv N D' T' => ?_
  subst hv
  exact hQ _ _ _ _ _ k (rv.sc hout) (N.nil D) (D.thru N D') T'

/-- the same with a new tuple of scalars -/
theorem lift_tup {d : Nat} {f : AV} {args xs : List AV} (hout : xs.all isSc = true) (hf : isSc f = true) (ha : args.all isSc = true)
    (h : CallOk g d f args [] fun v H' => ∃ n, v = .ref n ∧ H'[n]? = some (.tup xs)) {H : AH} {K : Kv} (k : newW (.tup xs) H K) : CallOk g d f args H K := by
  intro ρ s cf cargs A Q E hA D T rf r hQ
  refine h [] s cf cargs A Q E hA D.nil T (rf.sc hf) (r.sc ha) fun v H' cv s' ρ' hv rv N D' T' => ?_
  obtain ⟨n, rfl, hn⟩ := hv
  obtain ⟨a, vs, z, rfl, e1, e2, e3⟩ := D'.tup hn rv
  have hfresh : s.heap.get? a = none := (N.fresh a (List.mem_of_getElem? e1)).elim (fun h => nomatch h) id
  have D₁ := D.thru N D'
  have N₁ := N.nil D (ρ := ρ)
  have hna : a ∉ ρ := fun q => by obtain ⟨o, e⟩ := D.has q; rw [hfresh] at e; cases e
  have hnb : ¬ g.bs s'.heap a := D'.off a (List.mem_of_getElem? e1)
  refine hQ _ _ _ _ (ρ ++ [a]) k ⟨a, get_last D a, rfl⟩ ⟨List.prefix_append _ _, fun b hb => ?_, N₁.live, N₁.keep, N₁.bsn, N₁.cdm, N₁.gens, N₁.os, N₁.drawn⟩ ?_ T'
  · rcases List.mem_append.mp hb with q | q
    · exact .inl q
    · simp at q; subst q; exact .inr hfresh
  · exact D₁.tell hna hnb e2 ⟨_, _, rfl, (e3.sc hout)⟩
theorem lift_lst {d : Nat} {f : AV} {args xs : List AV} (hout : xs.all isSc = true) (hf : isSc f = true) (ha : args.all isSc = true)
    (h : CallOk g d f args [] fun v H' => ∃ n, v = .ref n ∧ H'[n]? = some (.lst xs)) {H : AH} {K : Kv} (k : newW (.lst xs) H K) : CallOk g d f args H K := by
  intro ρ s cf cargs A Q E hA D T rf r hQ
  refine h [] s cf cargs A Q E hA D.nil T (rf.sc hf) (r.sc ha) fun v H' cv s' ρ' hv rv N D' T' => ?_
  obtain ⟨n, rfl, hn⟩ := hv
  obtain ⟨a, vs, z, rfl, e1, e2, e3⟩ := D'.lst hn rv
  have hfresh : s.heap.get? a = none := (N.fresh a (List.mem_of_getElem? e1)).elim (fun h => nomatch h) id
  have D₁ := D.thru N D'
  have N₁ := N.nil D (ρ := ρ)
  have hna : a ∉ ρ := fun q => by obtain ⟨o, e⟩ := D.has q; rw [hfresh] at e; cases e
  have hnb : ¬ g.bs s'.heap a := D'.off a (List.mem_of_getElem? e1)
  refine hQ _ _ _ _ (ρ ++ [a]) k ⟨a, get_last D a, rfl⟩ ⟨List.prefix_append _ _, fun b hb => ?_, N₁.live, N₁.keep, N₁.bsn, N₁.cdm, N₁.gens, N₁.os, N₁.drawn⟩ ?_ T'
  · rcases List.mem_append.mp hb with q | q
    · exact .inl q
    · simp at q; subst q; exact .inr hfresh
  · exact D₁.tell hna hnb e2 ⟨_, _, rfl, (e3.sc hout)⟩
/-- a contract over one list serves every heap that has it -/
theorem lift_one {d : Nat} {f : AV} {args : List AV} {xs : List AV} {out : AV} {j : Nat} (hxs : xs.all isSc = true) (hout : isSc out = true) (hf : isSc f = true) (ha : args.all isSc = true) {H : AH} (hj : H[j]? = some (.lst xs))
    (h : CallOk g d f (.ref 0 :: args) [.lst xs] fun v H' => v = out ∧ H'[0]? = some (.lst xs)) {K : Kv} (k : K out H) : CallOk g d f (.ref j :: args) H K := by
  intro ρ s cf cargs A Q E hA D T rf r hQ
  obtain ⟨cv, cr, rfl, r1, r2⟩ := r
  obtain ⟨a, vs, z, rfl, e1, e2, e3⟩ := D.lst hj r1
  have hav := List.mem_of_getElem? e1
  have D1 : HR g [a] [.lst xs] s.heap := by
    refine ⟨D.base, rfl, by simp, fun b hb => by simp at hb; subst hb; exact D.off _ hav, fun i o e => ?_⟩
    cases i with
    | zero => simp at e; subst e; exact ⟨a, _, rfl, e2, _, _, rfl, e3.sc hxs⟩
    | succ i => simp at e
  refine h [a] s cf (.ref a :: cr) A Q E hA D1 T (rf.sc hf) ⟨.ref a, cr, rfl, ⟨a, rfl, rfl⟩, r2.sc ha⟩ fun v H' cv s' ρ' hv rv N D' T' => ?_
  obtain ⟨rfl, hv0⟩ := hv
  have ha0 : ρ'[0]? = some a := prefix_get N.pre rfl
  have Dn : HR g ρ H s'.heap := by
    refine ⟨D'.base, D.len, D.nodup, fun b hb q => ?_, fun i o e => ?_⟩
    · rcases N.bsn b q with q | q
      · exact D.off b hb q
      · obtain ⟨o, e⟩ := D.has hb
        rw [q] at e; cases e
    · obtain ⟨b, ob, f1, f2, f3⟩ := D.obj i o e
      by_cases hb : b = a
      · subst hb
        have : i = j := (List.getElem?_inj (List.getElem?_eq_some_iff.mp f1).1 D.nodup).mp (f1.trans e1.symm)
        subst this
        rw [hj] at e; cases e
        obtain ⟨b', ob', g1, g2, ws, w, g3, g4⟩ := D'.obj 0 _ hv0
        rw [ha0] at g1; cases g1
        exact ⟨b, ob', f1, g2, ws, w, g3, g4.sc hxs⟩
      · refine ⟨b, ob, f1, (N.keep b ob f2 (by simpa using hb)).get fun q => ?_, f3.heap N.cdm⟩
        exact D.off _ (List.mem_of_getElem? f1) (g.tbb _ _ D.base q)
  have Nn : Nx g ρ ρ s s' := by
    refine ⟨List.prefix_refl _, fun _ h => .inl h, N.live, fun b o e n => N.keep b o e ?_, N.bsn, N.cdm, N.gens, N.os, N.drawn⟩
    intro q
    simp at q; subst q
    exact n hav
  exact hQ _ _ _ _ _ k (rv.sc hout) Nn Dn T'
end Py

end
section
open PySem PySem.W PyProof.Rows
set_option maxRecDepth 10000
set_option autoImplicit false
set_option linter.unusedVariables false
namespace Py
variable {g : G}

/-- refs stay below k -/
noncomputable def below (k : Nat) : AV → Bool
  | .ref n => decide (n < k)
  | _ => true
noncomputable def belowO (k : Nat) : AO → Bool
  | .tup xs => xs.all (below k)
  | .lst xs => xs.all (below k)
  | .cell (some v) => below k v
  | .cell none => true
  | .rng .. => true
  | .slc a b c => below k a && below k b && below k c
  | .clo cells _ => cells.all fun p => decide (p.2 < k)
  | .itL n _ => decide (n < k)
  | .itT n _ => decide (n < k)
  | .itR .. => true
  | .itE m _ => decide (m < k)
  | .itV n _ => decide (n < k)
  | .dead => true
  | .raw _ => true
  | .cst xs _ => xs.all (below k)
theorem take_get {ρ : List Addr} {k n : Nat} (h : n < k) : (ρ.take k)[n]? = ρ[n]? := List.getElem?_take_of_lt h
theorem VR.take {ρ : List Addr} {k : Nat} {x : AV} {v : Value} (h : below k x = true) (r : VR ρ x v) : VR (ρ.take k) x v := by
  cases x <;> first | exact r | skip
  obtain ⟨a, e, rfl⟩ := r
  exact ⟨a, by rw [take_get (of_decide_eq_true h)]; exact e, rfl⟩
theorem VRs.take {ρ : List Addr} {k : Nat} : ∀ {xs : List AV} {vs : List Value}, xs.all (below k) = true → VRs ρ xs vs → VRs (ρ.take k) xs vs
  | [], _, _, r => r
  | _ :: _, _, h, ⟨v, r, e, p, q⟩ => by
    rw [List.all_cons, Bool.and_eq_true] at h
    exact ⟨v, r, e, p.take h.1, q.take h.2⟩
theorem CR.take {ρ : List Addr} {k : Nat} : ∀ {xs : List (Str × Nat)} {l : List (Str × Addr)}, xs.all (fun p => decide (p.2 < k)) = true → CR ρ xs l → CR (ρ.take k) xs l
  | [], _, _, r => r
  | _ :: _, _, h, ⟨a, q, e, p, r⟩ => by
    rw [List.all_cons, Bool.and_eq_true] at h
    exact ⟨a, q, e, by rw [take_get (of_decide_eq_true h.1)]; exact p, r.take h.2⟩
theorem OR.take {ρ : List Addr} {k : Nat} {h : Heap} {o : AO} {ob : Obj} (hb : belowO k o = true) (r : OR g ρ h o ob) : OR g (ρ.take k) h o ob := by
  cases o with
  | tup xs => obtain ⟨vs, n, b, c⟩ := r; exact ⟨vs, n, b, c.take hb⟩
  | lst xs => obtain ⟨vs, n, b, c⟩ := r; exact ⟨vs, n, b, c.take hb⟩
  | cell v => cases v with
    | none => exact r
    | some x => obtain ⟨v, a, b⟩ := r; exact ⟨v, a, b.take hb⟩
  | rng => exact r
  | slc =>
    obtain ⟨x, y, z, b, c, d, e⟩ := r
    unfold belowO at hb
    rw [Bool.and_eq_true, Bool.and_eq_true] at hb
    exact ⟨x, y, z, b, c.take hb.1.1, d.take hb.1.2, e.take hb.2⟩
  | clo => obtain ⟨fd, a, b, c, d⟩ := r; exact ⟨fd, a, b, c.take hb, d⟩
  | itL => obtain ⟨l, a, b⟩ := r; exact ⟨l, by rw [take_get (of_decide_eq_true hb)]; exact a, b⟩
  | itT => obtain ⟨l, a, b⟩ := r; exact ⟨l, by rw [take_get (of_decide_eq_true hb)]; exact a, b⟩
  | itR => exact r
  | itE => obtain ⟨l, x, y, a, b⟩ := r; exact ⟨l, x, y, by rw [take_get (of_decide_eq_true hb)]; exact a, b⟩
  | itV => obtain ⟨l, a, b⟩ := r; exact ⟨l, by rw [take_get (of_decide_eq_true hb)]; exact a, b⟩
  | dead => trivial
  | raw => exact r
  | cst xs p => obtain ⟨a, vs, n, b, c⟩ := r; exact ⟨a, vs, n, b, c.take hb⟩
theorem HR.take {ρ : List Addr} {H : AH} {h : Heap} (D : HR g ρ H h) (k : Nat) (hb : (H.take k).all (belowO k) = true) : HR g (ρ.take k) (H.take k) h where
  base := D.base
  len := by rw [List.length_take, List.length_take, D.len]
  nodup := D.nodup.sublist (List.take_sublist _ _)
  off := fun a ha => D.off a (List.mem_of_mem_take ha)
  obj := fun i o e => by
    have hi : i < k := by
      have := (List.getElem?_eq_some_iff.mp e).1
      rw [List.length_take] at this; omega
    have hm := List.all_eq_true.mp hb _ (List.mem_of_getElem? e)
    rw [List.getElem?_take_of_lt hi] at e
    obtain ⟨a, ob, e1, e2, e3⟩ := D.obj i o e
    exact ⟨a, ob, by rw [take_get hi]; exact e1, e2, e3.take hm⟩
theorem prefix_take {ρ ρ' : List Addr} (h : ρ <+: ρ') {k : Nat} (hk : ρ.length ≤ k) : ρ <+: ρ'.take k := by
  obtain ⟨t, rfl⟩ := h
  rw [List.take_append]
  exact ⟨t.take (k - ρ.length), by rw [List.take_of_length_le hk]⟩
theorem Nx.take {ρ ρ' : List Addr} {s s' : Shared} (N : Nx g ρ ρ' s s') {k : Nat} (hk : ρ.length ≤ k) : Nx g ρ (ρ'.take k) s s' :=
  ⟨prefix_take N.pre hk, fun a h => N.fresh a (List.mem_of_mem_take h), N.live, N.keep, N.bsn, N.cdm, N.gens, N.os, N.drawn⟩
theorem NxL.take {L : Addr} {ρ ρ' : List Addr} {s s' : Shared} (N : NxL g L ρ ρ' s s') {k : Nat} (hk : ρ.length ≤ k) : NxL g L ρ (ρ'.take k) s s' :=
  ⟨prefix_take N.pre hk, fun a h => N.fresh a (List.mem_of_mem_take h), N.live, N.keep, N.bsn, N.cdm, N.gens, N.os, N.drawn⟩
theorem FR.take {env : Env} {c : PC} {ρ : List Addr} {loc loc' : Lc} {h : Heap} (F : FR g env c ρ loc h) (k : Nat) (hl : ∀ x v, loc'.lookup x = some v → loc.lookup x = some v ∧ below k v = true) (hc : ∀ x i, c.cells.lookup x = some i → i < k) : FR g env c (ρ.take k) loc' h := by
  obtain ⟨m, hn, hm⟩ := F.ns
  refine ⟨F.sc, F.kd, F.gl, F.bl, fun q => F.off (List.mem_of_mem_take q), F.nbs, F.ntb, F.cd, F.qn, ⟨m, hn, fun x v e => ?_⟩, fun x i e => ?_⟩
  · obtain ⟨h1, h2⟩ := hl x v e
    obtain ⟨cv, h3, h4⟩ := hm x v h1
    exact ⟨cv, h3, h4.take h2⟩
  · obtain ⟨a, h1, h2⟩ := F.cl x i e
    exact ⟨a, h1, by rw [take_get (hc x i e)]; exact h2⟩
end Py

end
section
open PySem PySem.W PyProof.Rows
set_option maxRecDepth 10000
set_option autoImplicit false
set_option linter.unusedVariables false
namespace Py
variable {g : G}

/-- with what is no longer asked for forgotten -/
noncomputable def Fg (T : Nat) (c : PC) (P : Lc → AH → Prop) (loc : Lc) (H : AH) : Prop :=
  ∃ loc' t, T ≤ t ∧ (H.take t).all (belowO t) = true ∧ (∀ x v, loc'.lookup x = some v → loc.lookup x = some v ∧ below t v = true) ∧ (∀ x i, c.cells.lookup x = some i → i < t) ∧ P loc' (H.take t)

theorem Fg.use {T : Nat} {c : PC} {P : Lc → AH → Prop} {loc : Lc} {H : AH} (h : Fg T c P loc H) {env : Env} {ρ ρ' : List Addr} {s s' : Shared} (F : FR g env c ρ' loc s'.heap) (D : HR g ρ' H s'.heap) (N : NxL g env.locals ρ ρ' s s') (hρ : ρ.length ≤ T) :
    ∃ loc' H' ρ'', P loc' H' ∧ FR g env c ρ'' loc' s'.heap ∧ HR g ρ'' H' s'.heap ∧ NxL g env.locals ρ ρ'' s s' := by
  obtain ⟨loc', t, h1, h2, h3, h4, h5⟩ := h
  exact ⟨loc', H.take t, ρ'.take t, h5, F.take t h3 h4, D.take t h2, N.take (Nat.le_trans hρ h1)⟩

/-- a for's loop by an invariant -/
theorem loop_sound {d : Nat} {c : PC} (C : COk g d c) {n : Nat} {tgt : PySem.Expr} {body : List Stmt} {m T : Nat} {K : Fl → Lc → AH → Prop} (I : Nat → Lc → AH → Prop)
    (turn : ∀ k loc H, I k loc H → nextW m H fun o H => match o with
      | none => Fg T c (fun loc H => K .next loc H) loc H
      | some v => awa n c loc tgt v H fun loc H => aws n c loc body H fun f loc H => match f with
        | .next => Fg T c (fun loc H => ∃ j, j < k ∧ I j loc H) loc H
        | .cont => Fg T c (fun loc H => ∃ j, j < k ∧ I j loc H) loc H
        | .brk => Fg T c (fun loc H => K .next loc H) loc H
        | .ret v => K (.ret v) loc H)
    {loc : Lc} {H : AH} {k : Nat} (h : I k loc H) {env : Env} {ρ₀ ρ : List Addr} {s₀ s : Shared} {A : Around} {R : Result → Shared → Prop} {a : Addr} (hA : AOk d A) (N₀ : NxL g env.locals ρ₀ ρ s₀ s) (hρ : ρ₀.length ≤ T) (hm : m < T) (F : FR g env c ρ loc s.heap) (D : HR g ρ H s.heap) (hT : 1 ≤ s.toks) (ha : ρ[m]? = some a)
    (hml : ρ₀.length ≤ m) (hQ : PostF g env c ρ₀ s₀ K (fun f s' => R (.ok f) s')) : codeAny (model g.prog g.w) A (.forLoop tgt (.ref a) body [] env) R s := by
  have S := sound (g := g) n C
  refine codeAny_forLoop_any (fun k s' => ∃ loc' H' ρ', I k loc' H' ∧ NxL g env.locals ρ₀ ρ' s₀ s' ∧ ρ'[m]? = some a ∧ FR g env c ρ' loc' s'.heap ∧ HR g ρ' H' s'.heap ∧ 1 ≤ s'.toks) (fun k s₁ hI => ?_) k ⟨loc, H, ρ, h, N₀, ha, F, D, hT⟩
  obtain ⟨loc₁, H₁, ρ₁, h₁, N₁, ha₁, F₁, D₁, T₁⟩ := hI
  refine nextW_sound (turn k loc₁ H₁ h₁) hA.hd D₁ T₁ ha₁ (fun H₂ s₂ k₂ N₂ D₂ T₂ => ?_) fun v H₂ cv s₂ k₂ r N₂ D₂ T₂ hcls => ?_
  · obtain ⟨loc', H', ρ'', p, F', D', N'⟩ := k₂.use (F₁.nx N₂) D₂ (N₁.trans N₂.l) hρ
    exact wpAny_execs_nil (hQ _ _ _ _ _ _ p .next N' F' D' T₂)
  · refine go_sound (D₂.has (List.mem_of_getElem? ha₁)) hcls ?_
    refine S.a _ _ _ _ _ k₂ env ρ₁ s₂ A cv _ _ hA (F₁.nx N₂) D₂ T₂ r fun loc₃ H₃ s₃ ρ₃ k₃ N₃ F₃ D₃ T₃ => ?_
    refine S.s _ _ _ _ k₃ env ρ₃ s₃ A _ _ hA F₃ D₃ T₃ fun f loc₄ H₄ cf s₄ ρ₄ k₄ rf N₄ F₄ D₄ T₄ => ?_
    have N := ((N₁.trans N₂.l).trans N₃).trans N₄
    have ha₄ : ρ₄[m]? = some a := prefix_get (N₃.pre.trans N₄.pre) ha₁
    have again : Fg T c (fun loc H => ∃ j, j < k ∧ I j loc H) loc₄ H₄ → ∃ j, j < k ∧ ∃ loc' H' ρ', I j loc' H' ∧ NxL g env.locals ρ₀ ρ' s₀ s₄ ∧ ρ'[m]? = some a ∧ FR g env c ρ' loc' s₄.heap ∧ HR g ρ' H' s₄.heap ∧ 1 ≤ s₄.toks := by
      rintro ⟨loc', t, h1, h2, h3, h4, j, hj, hI⟩
      exact ⟨j, hj, loc', H₄.take t, ρ₄.take t, hI, N.take (Nat.le_trans hρ h1), by rw [take_get (Nat.lt_of_lt_of_le hm h1)]; exact ha₄, F₄.take t h3 h4, D₄.take t h2, T₄⟩
    cases rf with
    | next => exact again k₄
    | cont => exact again k₄
    | brk =>
      obtain ⟨loc', H', ρ'', p, F', D', N'⟩ := k₄.use F₄ D₄ N hρ
      exact hQ _ _ _ _ _ _ p .next N' F' D' T₄
    | ret rv => exact hQ _ _ _ _ _ _ k₄ (.ret rv) N F₄ D₄ T₄

theorem for_hook {d : Nat} {c : PC} (C : COk g d c) {n : Nat} {tgt it : PySem.Expr} {body : List Stmt} {pos : Pos} {m T : Nat} {loc : Lc} {H : AH} {K : Fl → Lc → AH → Prop} (I : Nat → Lc → AH → Prop) (hset : isSetD it = false) (hHm : H.length ≤ m) (hm : m < T)
    (h : awe n c loc it H fun v H => iterW v H fun m' H => m' = m ∧ Fg T c (fun loc H => ∃ k, I k loc H) loc H)
    (turn : ∀ k loc H, I k loc H → nextW m H fun o H => match o with
      | none => Fg T c (fun loc H => K .next loc H) loc H
      | some v => awa n c loc tgt v H fun loc H => aws n c loc body H fun f loc H => match f with
        | .next => Fg T c (fun loc H => ∃ j, j < k ∧ I j loc H) loc H
        | .cont => Fg T c (fun loc H => ∃ j, j < k ∧ I j loc H) loc H
        | .brk => Fg T c (fun loc H => K .next loc H) loc H
        | .ret v => K (.ret v) loc H) : HkOk g d c loc (.For tgt it body [] pos) H K := by
  intro env ρ s A Q E hA F D hT hQ
  refine wpAny_For ((sound (g := g) n C).e _ _ _ _ h env ρ s A _ E hA F D hT fun v H₁ cv s₁ ρ₁ k₁ r N D₁ T₁ => ?_) (isSetD_folded hset env)
  refine iterW_sound k₁ D₁ T₁ r fun m' H₂ a s₂ ρ₂ k₂ ha N₂ D₂ T₂ => ?_
  obtain ⟨rfl, loc', t, h1, h2, h3, h4, k, hI⟩ := k₂
  have N' := N.trans N₂
  exact loop_sound C I turn hI hA (N'.l.take (by rw [D.len]; omega)) (by rw [D.len]; omega) hm ((F.nx N').take t h3 h4) (D₂.take t h2) T₂ (by rw [take_get (Nat.lt_of_lt_of_le hm h1)]; exact ha) (by rw [D.len]; exact hHm) hQ
theorem FR.cg {c c' : PC} (h1 : c.scope = c'.scope) (h2 : c.cells = c'.cells) (h3 : c.cd = c'.cd) (h4 : c.qn = c'.qn) {env : Env} {ρ : List Addr} {loc : Lc} {h : Heap} (F : FR g env c ρ loc h) : FR g env c' ρ loc h :=
  ⟨F.sc.trans h1, h1 ▸ F.kd, F.gl, F.bl, F.off, F.nbs, F.ntb, F.cd.trans h3, F.qn.trans h4, F.ns, h2 ▸ F.cl⟩
theorem HkOk.cg {d : Nat} {c c' : PC} (h1 : c.scope = c'.scope) (h2 : c.cells = c'.cells) (h3 : c.cd = c'.cd) (h4 : c.qn = c'.qn) {loc : Lc} {st : Stmt} {H : AH} {K : Fl → Lc → AH → Prop} (k : HkOk g d c loc st H K) : HkOk g d c' loc st H K :=
  fun env ρ s A Q E hA F D T hQ => k env ρ s A Q E hA (F.cg h1.symm h2.symm h3.symm h4.symm) D T fun f loc' H' cf s' ρ' k r N F' D' T' => hQ f loc' H' cf s' ρ' k r N (F'.cg h1 h2 h3 h4) D' T'
end Py

end
section
open PySem PySem.W PyProof.Rows
set_option maxRecDepth 10000
set_option autoImplicit false
set_option linter.unusedVariables false
namespace Py
variable {g : G}

/-- x = x.replace('y', 'z') -/
theorem rep_assign {d : Nat} {c : PC} (C : COk g d c) {x : Str} {t y z : Str} {p0 p1 p2 p3 p4 pos : Pos} {k1 k2 : Nat} {loc : Lc} {H : AH} {K : Fl → Lc → AH → Prop} (hx : c.scope.names.lookup x = some .local) (hl : loc.lookup x = some (.str t)) (hd : (x == ("__debug__" : Str)) = false)
    (hline : (p2.endLine == pos.line) = true) (hyz : (y == z) = false) (hb : t.length + (t.length + 1) * z.length ≤ 16777216) {pos' : Pos}
    (h : storeW c loc x (.str (Txt.replace t y z)) H fun loc H => K .next loc H) :
    HkOk g d c loc (.Assign [.Name x p0] (.Call (.Attribute (.Name x p1) "replace" p2) [.Constant (.str y) k1 p3, .Constant (.str z) k2 p4] [] pos) pos') H K := by
  intro env ρ s A Q E hA F D hT hQ
  refine wpAny_Assign_Name ?_ (swaps_false rfl)
  refine wpAny_Call_method_late rfl rfl hline rfl ?_
  refine nameW_sound C (K := fun v H' => v = .str t ∧ H' = H) (by unfold nameW; rw [hx]; dsimp only; rw [hl]; exact ⟨rfl, rfl⟩) F D hT fun ov H₁ co s₁ ρ₁ k ro N D₁ T₁ => ?_
  obtain ⟨rfl, rfl⟩ := k
  obtain ⟨t1, rfl⟩ := ro
  refine ⟨"str", "str.replace", PySem.F.plainAttrs_str, PySem.F.slot_str_replace, PySem.F.type_str_replace, typeIs_str _ _ _, (fun a ha => nomatch ha), ?_⟩
  refine callWith_gen (by rfl) (evalArgs_gen (by rfl) ?_)
  have hs1 : ∀ a b, PySem.Expr.Constant (.str y) k1 p3 ≠ .Starred a b := by intro a b q; cases q
  have hs2 : ∀ a b, PySem.Expr.Constant (.str z) k2 p4 ≠ .Starred a b := by intro a b q; cases q
  rw [starEach_cons hs1]
  refine Calls.spliced_cons (wpAny_Constant_str (k := k1) (pos := p3) ?_)
  refine Calls.spliced_cons (wpAny_Constant_str (k := k2) (pos := p4) ?_)
  refine Calls.spliced_nil ?_
  refine keeper_builtin ?_
  refine wpAny_with_toks (n := 1) (Nat.le_trans T₁ (Nat.le_add_right _ 2)) (SC.replace (Nat.ne_of_gt T₁) (Nat.succ_ne_zero _) (Nat.ne_of_lt (Nat.lt_succ_self _)) hyz hb fun t' k T' => ?_)
  exact store_sound h (F.nx (N.trans Nx.toks)) D₁ T' ⟨t', rfl⟩ fun loc' H' s' k' N' F' D' T'' => hQ _ _ _ _ _ _ k' .next ((N.trans Nx.toks).l.trans N') F' D' T''

/-- every sign c put as z -/
noncomputable def put (c : Nat) (z : List Nat) (l : List Nat) : List Nat := l.flatMap fun d => if d = c then z else [d]
theorem put_free (c : Nat) (z : List Nat) : ∀ l : List Nat, c ∉ l → put c z l = l
  | [], _ => rfl
  | k :: r, h => by
    have h1 : ¬ k = c := fun e => h (e ▸ List.mem_cons_self ..)
    unfold put
    rw [List.flatMap_cons, if_neg h1]
    show k :: put c z r = _
    rw [put_free c z r fun m => h (List.mem_cons_of_mem _ m)]
theorem put_app (c : Nat) (z a b : List Nat) : put c z (a ++ b) = put c z a ++ put c z b := List.flatMap_append
theorem put_join (c : Nat) (z : Str) : ∀ parts : List Str, (∀ p ∈ parts, c ∉ p.cps.toList) → put c z.cps.toList (Str.join ⟨#[c]⟩ parts).cps.toList = (Str.join z parts).cps.toList
  | [], _ => rfl
  | [p], h => put_free c _ _ (h p (List.mem_singleton.mpr rfl))
  | p :: q :: r, h => by
    have ih := put_join c z (q :: r) fun a ha => h a (List.mem_cons_of_mem _ ha)
    show put c z.cps.toList (p ++ ⟨#[c]⟩ ++ Str.join ⟨#[c]⟩ (q :: r)).cps.toList = (p ++ z ++ Str.join z (q :: r)).cps.toList
    simp only [Str.cps_append, Array.toList_append]
    rw [put_app, put_app, ih, put_free c _ _ (h p (List.mem_cons_self ..))]
    have : put c z.cps.toList [c] = z.cps.toList := by simp [put]
    show p.cps.toList ++ put c z.cps.toList [c] ++ _ = _
    rw [this]
theorem rep_put (x z : Str) (c : Nat) : (Txt.replace x ⟨#[c]⟩ z).cps.toList = put c z.cps.toList x.cps.toList := by
  rw [StrLaws.replace_one, ← put_join c z _ (StrLaws.split_free x c), StrLaws.join_split]
theorem str_ext {a b : Str} (h : a.cps.toList = b.cps.toList) : a = b := by
  obtain ⟨⟨l⟩⟩ := a
  obtain ⟨⟨m⟩⟩ := b
  simp at h
  rw [h]
theorem rep_none {t : Str} {c : Nat} (z : Str) (h : Txt.contains t ⟨#[c]⟩ = false) : Txt.replace t ⟨#[c]⟩ z = t := by
  apply str_ext
  rw [rep_put]
  refine put_free c _ _ fun hm => ?_
  have := StrLaws.found_one t c
  unfold Txt.contains at h
  rw [h] at this
  simp at this
  exact this (by simpa using hm)

/-- if 'y' in x: x = x.replace('y', 'z') -/
theorem rep_if {d n : Nat} {c : PC} (C : COk g d c) {x : Str} {t y z : Str} {tst : PySem.Expr} {asg : Stmt} {posi : Pos} {loc : Lc} {H : AH} {K : Fl → Lc → AH → Prop}
    (ht : awt n c loc tst H fun b H' => b = Txt.contains t y ∧ H' = H) (ha : Txt.contains t y = true → HkOk g d c loc asg H K) (hn : Txt.contains t y = false → K .next loc H) :
    HkOk g d c loc (.If tst [asg] [] posi) H K := by
  intro env ρ s A Q E hA F D hT hQ
  refine wpAny_If ((sound (g := g) n C).t _ _ _ _ ht env ρ s A _ E hA F D hT fun b H₁ s₁ ρ₁ k N D₁ T₁ => ?_)
  obtain ⟨rfl, rfl⟩ := k
  cases hc : Txt.contains t y with
  | true =>
    refine wpAny_execs_cons (ha hc env ρ₁ s₁ A _ E hA (F.nx N) D₁ T₁ fun f loc' H' cf s' ρ' k r N' F' D' T' => ?_)
    have fin := hQ _ _ _ _ _ _ k r (N.l.trans N') F' D' T'
    cases r with
    | next => exact wpAny_execs_nil fin
    | brk => exact fin
    | cont => exact fin
    | ret r => exact fin
  | false => exact wpAny_execs_nil (hQ _ _ _ _ _ _ (hn hc) .next N.l (F.nx N) D₁ T₁)
end Py

end
section
open PySem PySem.W PyProof.Rows
set_option maxRecDepth 10000
set_option autoImplicit false
set_option linter.unusedVariables false
namespace Py
variable {g : G}

/-- refs renamed -/
noncomputable def ren (f : Nat → Nat) : AV → AV
  | .ref n => .ref (f n)
  | x => x
noncomputable def renO (f : Nat → Nat) : AO → AO
  | .tup xs => .tup (xs.map (ren f))
  | .lst xs => .lst (xs.map (ren f))
  | .cst xs p => .cst (xs.map (ren f)) p
  | .cell (some v) => .cell (some (ren f v))
  | .slc a b c => .slc (ren f a) (ren f b) (ren f c)
  | .clo cells k => .clo (cells.map fun p => (p.1, f p.2)) k
  | .itL n i => .itL (f n) i
  | .itT n i => .itT (f n) i
  | .itE m i => .itE (f m) i
  | .itV n i => .itV (f n) i
  | o => o
noncomputable def Ren (f : Nat → Nat) (ρ ρ' : List Addr) : Prop := ∀ i a, ρ[i]? = some a → ρ'[f i]? = some a
theorem VR.ren {f : Nat → Nat} {ρ ρ' : List Addr} (h : Ren f ρ ρ') {x : AV} {v : Value} (r : VR ρ x v) : VR ρ' (ren f x) v := by
  cases x <;> first | exact r | skip
  obtain ⟨a, e, rfl⟩ := r
  exact ⟨a, h _ _ e, rfl⟩
theorem VRs.ren {f : Nat → Nat} {ρ ρ' : List Addr} (h : Ren f ρ ρ') : ∀ {xs : List AV} {vs : List Value}, VRs ρ xs vs → VRs ρ' (xs.map (ren f)) vs
  | [], _, r => r
  | _ :: _, _, ⟨v, r, e, p, q⟩ => ⟨v, r, e, p.ren h, q.ren h⟩
theorem CR.ren {f : Nat → Nat} {ρ ρ' : List Addr} (h : Ren f ρ ρ') : ∀ {xs : List (Str × Nat)} {l : List (Str × Addr)}, CR ρ xs l → CR ρ' (xs.map fun p => (p.1, f p.2)) l
  | [], _, r => r
  | _ :: _, _, ⟨a, q, e, p, r⟩ => ⟨a, q, e, h _ _ p, r.ren h⟩
theorem OR.ren {f : Nat → Nat} {ρ ρ' : List Addr} (h : Ren f ρ ρ') {hp : Heap} {o : AO} {ob : Obj} (r : OR g ρ hp o ob) : OR g ρ' hp (renO f o) ob := by
  cases o with
  | tup xs => obtain ⟨vs, n, b, c⟩ := r; exact ⟨vs, n, b, c.ren h⟩
  | lst xs => obtain ⟨vs, n, b, c⟩ := r; exact ⟨vs, n, b, c.ren h⟩
  | cell v => cases v with
    | none => exact r
    | some x => obtain ⟨v, a, b⟩ := r; exact ⟨v, a, b.ren h⟩
  | rng => exact r
  | slc => obtain ⟨x, y, z, b, c, d, e⟩ := r; exact ⟨x, y, z, b, c.ren h, d.ren h, e.ren h⟩
  | clo => obtain ⟨fd, a, b, c, d⟩ := r; exact ⟨fd, a, b, c.ren h, d⟩
  | itL => obtain ⟨l, a, b⟩ := r; exact ⟨l, h _ _ a, b⟩
  | itT => obtain ⟨l, a, b⟩ := r; exact ⟨l, h _ _ a, b⟩
  | itR => exact r
  | itE => obtain ⟨l, x, y, a, b⟩ := r; exact ⟨l, x, y, h _ _ a, b⟩
  | itV => obtain ⟨l, a, b⟩ := r; exact ⟨l, h _ _ a, b⟩
  | dead => trivial
  | raw => exact r
  | cst xs p => obtain ⟨a, vs, n, b, c⟩ := r; exact ⟨a, vs, n, b, c.ren h⟩

/-- the way back, for refs below k -/
noncomputable def Unr (f : Nat → Nat) (k : Nat) (ρ ρ₀ : List Addr) : Prop := ∀ i a, i < k → ρ[f i]? = some a → ρ₀[i]? = some a
theorem VR.unren {f : Nat → Nat} {k : Nat} {ρ ρ₀ : List Addr} (h : Unr f k ρ ρ₀) {x : AV} {v : Value} (hb : below k x = true) (r : VR ρ (Py.ren f x) v) : VR ρ₀ x v := by
  cases x <;> first | exact r | skip
  obtain ⟨a, e, rfl⟩ := r
  exact ⟨a, h _ _ (of_decide_eq_true hb) e, rfl⟩
theorem VRs.unren {f : Nat → Nat} {k : Nat} {ρ ρ₀ : List Addr} (h : Unr f k ρ ρ₀) : ∀ {xs : List AV} {vs : List Value}, xs.all (below k) = true → VRs ρ (xs.map (Py.ren f)) vs → VRs ρ₀ xs vs
  | [], _, _, r => r
  | _ :: _, _, hb, ⟨v, r, e, p, q⟩ => by
    rw [List.all_cons, Bool.and_eq_true] at hb
    exact ⟨v, r, e, p.unren h hb.1, VRs.unren h hb.2 q⟩
/-- lists and tuples are enough for what a def is given -/
noncomputable def isSeq : AO → Bool
  | .tup _ => true
  | .lst _ => true
  | _ => false
theorem OR.unren {f : Nat → Nat} {k : Nat} {ρ ρ₀ : List Addr} (h : Unr f k ρ ρ₀) {hp : Heap} {o : AO} {ob : Obj} (hs : isSeq o = true) (hb : belowO k o = true) (r : OR g ρ hp (renO f o) ob) : OR g ρ₀ hp o ob := by
  cases o with
  | tup xs => obtain ⟨vs, n, b, c⟩ := r; exact ⟨vs, n, b, c.unren h hb⟩
  | lst xs => obtain ⟨vs, n, b, c⟩ := r; exact ⟨vs, n, b, c.unren h hb⟩
  | _ => cases hs
end Py

end
section
open PySem PySem.W PyProof.Rows
set_option maxRecDepth 10000
set_option autoImplicit false
set_option linter.unusedVariables false
namespace Py
variable {g : G}

noncomputable def pk (ix : List Nat) (i : Nat) : Nat := ix.getD i 0
noncomputable def pk' (ix : List Nat) (m i : Nat) : Nat := if i < ix.length then ix.getD i 0 else m + (i - ix.length)
theorem pk_get {ix : List Nat} {i : Nat} (h : i < ix.length) : pk ix i = ix[i] := by
  unfold pk; rw [List.getD_eq_getElem?_getD, List.getElem?_eq_getElem h]; rfl

theorem ren_congr {f f' : Nat → Nat} {k : Nat} (h : ∀ i, i < k → f i = f' i) {x : AV} (hb : below k x = true) : ren f x = ren f' x := by
  cases x <;> first | rfl | skip
  show AV.ref _ = AV.ref _
  rw [h _ (of_decide_eq_true hb)]
theorem renO_congr {f f' : Nat → Nat} {k : Nat} (h : ∀ i, i < k → f i = f' i) {o : AO} (hs : isSeq o = true) (hb : belowO k o = true) : renO f o = renO f' o := by
  have key : ∀ xs : List AV, xs.all (below k) = true → xs.map (ren f) = xs.map (ren f') := fun xs hx => List.map_congr_left fun x hm => ren_congr h (List.all_eq_true.mp hx x hm)
  cases o with
  | tup xs => show AO.tup _ = AO.tup _; rw [key xs hb]
  | lst xs => show AO.lst _ = AO.lst _; rw [key xs hb]
  | _ => cases hs

/-- a contract at a small heap serves every heap that has its objects -/
theorem lift_gen {d : Nat} {f : AV} {args₀ : List AV} {ix : List Nat} {H₀ H : AH} {K : Kv} (hnd : ix.Nodup) (hlen : H₀.length = ix.length)
    (hobj : ∀ i o, H₀[i]? = some o → isSeq o = true ∧ belowO ix.length o = true ∧ H[pk ix i]? = some (renO (pk ix) o)) (hf : isSc f = true) (ha : args₀.all (below ix.length) = true)
    (h : CallOk g d f args₀ H₀ fun v H₁ => H₁.take ix.length = H₀ ∧ K (ren (pk' ix H.length) v) (H ++ (H₁.drop ix.length).map (renO (pk' ix H.length)))) :
    CallOk g d f (args₀.map (ren (pk ix))) H K := by
  intro ρ s cf cargs A Q E hA D T rf r hQ
  have hix : ∀ i, i < ix.length → ∃ a, ρ[pk ix i]? = some a := fun i hi => by
    obtain ⟨h1, h2, h3⟩ := hobj i _ (List.getElem?_eq_getElem (by omega))
    obtain ⟨a, ob, e, _⟩ := D.obj _ _ h3
    exact ⟨a, e⟩
  let ρ₀ : List Addr := ix.map fun i => (ρ[i]?).getD 0
  have hρ₀ : ∀ i, i < ix.length → ρ₀[i]? = ρ[pk ix i]? := fun i hi => by
    obtain ⟨a, e⟩ := hix i hi
    show (ix.map fun i => (ρ[i]?).getD 0)[i]? = _
    rw [List.getElem?_map, List.getElem?_eq_getElem hi, ← pk_get hi, Option.map_some, e]; rfl
  have hU : Unr (pk ix) ix.length ρ ρ₀ := fun i a hi e => by rw [hρ₀ i hi]; exact e
  have hl₀ : ρ₀.length = ix.length := List.length_map _
  have hsub : ∀ b ∈ ρ₀, b ∈ ρ := fun b hb => by
    obtain ⟨i, hi, rfl⟩ := List.mem_iff_getElem.mp hb
    have := hρ₀ i (by omega)
    rw [List.getElem?_eq_getElem hi] at this
    exact List.mem_of_getElem? this.symm
  have hnd₀ : ρ₀.Nodup := by
    show List.Pairwise _ _
    rw [List.pairwise_iff_getElem]
    intro i j hi hj hij e
    have e : ρ₀[i]? = ρ₀[j]? := by rw [List.getElem?_eq_getElem hi, List.getElem?_eq_getElem hj, e]
    rw [hρ₀ i (by omega), hρ₀ j (by omega)] at e
    obtain ⟨a, ea⟩ := hix i (by omega)
    have h1 : pk ix i = pk ix j := (List.getElem?_inj (List.getElem?_eq_some_iff.mp ea).1 D.nodup).mp e
    rw [pk_get (by omega), pk_get (by omega)] at h1
    have : i = j := (List.getElem?_inj (show i < ix.length by omega) hnd).mp (by rw [List.getElem?_eq_getElem (by omega), List.getElem?_eq_getElem (by omega), h1])
    omega
  have D₀ : HR g ρ₀ H₀ s.heap := by
    refine ⟨D.base, by omega, hnd₀, fun b hb => D.off b (hsub b hb), fun i o e => ?_⟩
    have hi : i < ix.length := by have := (List.getElem?_eq_some_iff.mp e).1; omega
    obtain ⟨h1, h2, h3⟩ := hobj i o e
    obtain ⟨a, ob, f1, f2, f3⟩ := D.obj _ _ h3
    exact ⟨a, ob, by rw [hρ₀ i hi]; exact f1, f2, f3.unren hU h1 h2⟩
  refine h ρ₀ s cf cargs A Q E hA D₀ T (rf.sc hf) (r.unren hU ha) fun v H₁ cv s' ρ' hv rv N D' T' => ?_
  obtain ⟨ht, hK⟩ := hv
  have hpre : ∀ i, i < ix.length → ρ'[i]? = ρ[pk ix i]? := fun i hi => by
    obtain ⟨a, e⟩ := hix i hi
    rw [e]
    exact prefix_get N.pre ((hρ₀ i hi).trans e)
  have hR : Ren (pk' ix H.length) ρ' (ρ ++ ρ'.drop ix.length) := fun i a e => by
    unfold pk'
    by_cases hi : i < ix.length
    · rw [if_pos hi]
      rw [hpre i hi] at e
      exact prefix_get (List.prefix_append _ _) e
    · rw [if_neg hi, ← D.len, List.getElem?_append_right (Nat.le_add_right _ _), Nat.add_sub_cancel_left, List.getElem?_drop, show ix.length + (i - ix.length) = i by omega]
      exact e
  have hnew : ∀ a ∈ ρ'.drop ix.length, s.heap.get? a = none := fun a hm => by
    obtain ⟨j, hj, rfl⟩ := List.mem_iff_getElem.mp hm
    rcases N.fresh _ (List.mem_of_mem_drop hm) with q | q
    · exfalso
      obtain ⟨i, hi, e⟩ := List.mem_iff_getElem.mp q
      have e1 : ρ'[i]? = some (ρ'.drop ix.length)[j] := by
        have := prefix_get N.pre (List.getElem?_eq_getElem hi)
        rw [this, e]
      have e2 : ρ'[ix.length + j]? = some (ρ'.drop ix.length)[j] := by rw [← List.getElem?_drop]; exact List.getElem?_eq_getElem hj
      have := (List.getElem?_inj (List.getElem?_eq_some_iff.mp e1).1 D'.nodup).mp (e1.trans e2.symm)
      omega
    · exact q
  refine hQ _ _ _ _ (ρ ++ ρ'.drop ix.length) hK (rv.ren hR) ?_ ?_ T'
  · refine ⟨List.prefix_append _ _, fun a hm => ?_, N.live, fun b o e n => N.keep b o e fun q => n (hsub b q), N.bsn, N.cdm, N.gens, N.os, N.drawn⟩
    rcases List.mem_append.mp hm with q | q
    · exact .inl q
    · exact .inr (hnew a q)
  · refine ⟨D'.base, ?_, ?_, fun a hm => ?_, fun i o e => ?_⟩
    · rw [List.length_append, List.length_append, List.length_map, List.length_drop, List.length_drop, D.len, D'.len]
    · refine List.nodup_append.mpr ⟨D.nodup, D'.nodup.sublist (List.drop_sublist _ _), fun a h1 b h2 e => ?_⟩
      subst e
      obtain ⟨o, e⟩ := D.has h1
      rw [hnew a h2] at e; cases e
    · rcases List.mem_append.mp hm with q | q
      · intro z
        rcases N.bsn a z with z | z
        · exact D.off a q z
        · obtain ⟨o, e⟩ := D.has q
          rw [z] at e; cases e
      · exact D'.off a (List.mem_of_mem_drop q)
    · by_cases hi : i < H.length
      · rw [List.getElem?_append_left hi] at e
        obtain ⟨a, ob, f1, f2, f3⟩ := D.obj i o e
        by_cases hm : a ∈ ρ₀
        · obtain ⟨j, hj, rfl⟩ := List.mem_iff_getElem.mp hm
          have hj' : j < ix.length := by omega
          have hpj := hρ₀ j hj'
          rw [List.getElem?_eq_getElem hj] at hpj
          have hij : i = pk ix j := (List.getElem?_inj (List.getElem?_eq_some_iff.mp f1).1 D.nodup).mp (f1.trans hpj)
          have hj0 : H₀[j]? = some H₀[j] := List.getElem?_eq_getElem (by omega)
          obtain ⟨h1, h2, h3⟩ := hobj j _ hj0
          rw [hij, h3] at e
          cases e
          have hH1 : H₁[j]? = some H₀[j] := by rw [← hj0, ← ht, List.getElem?_take_of_lt hj']
          obtain ⟨a', ob', g1, g2, g3⟩ := D'.obj j _ hH1
          rw [hpre j hj', ← hpj] at g1
          cases g1
          refine ⟨_, ob', prefix_get (List.prefix_append _ _) f1, g2, ?_⟩
          rw [renO_congr (f := pk ix) (f' := pk' ix H.length) (fun i hi => by unfold pk pk'; rw [if_pos hi]) h1 h2]
          exact g3.ren hR
        · refine ⟨a, ob, prefix_get (List.prefix_append _ _) f1, (N.keep a ob f2 hm).get fun q => ?_, (f3.mono (List.prefix_append _ _)).heap N.cdm⟩
          exact D.off _ (List.mem_of_getElem? f1) (g.tbb _ _ D.base q)
      · rw [List.getElem?_append_right (by omega), List.getElem?_map, List.getElem?_drop] at e
        obtain ⟨o', e', rfl⟩ := Option.map_eq_some_iff.mp e
        obtain ⟨a, ob, f1, f2, f3⟩ := D'.obj _ o' e'
        refine ⟨a, ob, ?_, f2, f3.ren hR⟩
        rw [List.getElem?_append_right (by rw [D.len]; omega), List.getElem?_drop, D.len]
        exact f1
end Py

end
section
open PySem PySem.W PyProof.Rows
set_option maxRecDepth 10000
set_option autoImplicit false
set_option linter.unusedVariables false
namespace Py

/-- the names of a frame outside: its slots may turn -/
noncomputable def lax (g : G) (N : Addr) (m : Str → Option Value) : G where
  prog := g.prog
  w := g.w
  B := fun h => g.B h ∧ h.Ns N m
  bs := fun h b => g.bs h b ∨ b = N
  tb := fun b => g.tb b ∨ b = N
  cdk := g.cdk
  keep := fun h h' b k => by
    have hK := g.keep h h' b.1 fun a o ha e => k a o (.inl ha) e
    refine ⟨⟨hK.1, ?_⟩, fun a ha => ha.imp (hK.2.1 a) id, hK.2.2⟩
    obtain ⟨o, es, ep, ho, r⟩ := b.2
    exact ⟨o, es, ep, k _ _ (.inr rfl) ho, r⟩
  cdr := fun h c q b => g.cdr h c q b.1
  lt := fun h b hb q => by
    rcases q with q | rfl
    · exact g.lt h b hb.1 q
    · obtain ⟨o, es, ep, ho, r⟩ := hb.2; exact ⟨o, ho⟩
  tbb := fun h b hb q => q.imp (g.tbb h b hb.1) id
  nb := fun h b => g.nb h b.1

theorem lax_tab {g : G} {N : Addr} {m : Str → Option Value} {t : Tab} (X : TabG g t) (hN : ∀ h, g.B h → h.Ns N m → ¬ g.bs h N) : TabG (lax g N m) t where
  ok := fun h b => X.ok h b.1
  grow := fun h h' c' b hx hn hps x1 x2 x3 => by
    obtain ⟨h1, h2, h3⟩ := X.grow h h' c' b.1 hx hn hps x1 x2 x3
    have hne : N ≠ t.P := fun q => hN h b.1 b.2 (q ▸ g.tbb h _ b.1 X.tb)
    refine ⟨⟨h1, ?_⟩, fun a ha => ?_, h3⟩
    · obtain ⟨o, es, ep, ho, r⟩ := b.2
      exact ⟨o, es, ep, hx _ _ hne ho, r⟩
    · rcases ha with q | q
      · exact (h2 a q).imp .inl id
      · exact .inl (.inr q)
  full := fun h c' b => X.full h c' b.1
  tb := .inl X.tb

theorem lax_OR {g : G} {N : Addr} {m : Str → Option Value} {ρ : List Addr} {h : Heap} {o : AO} {ob : Obj} : OR (lax g N m) ρ h o ob ↔ OR g ρ h o ob := by
  cases o with
  | cell v => cases v <;> exact Iff.rfl
  | _ => exact Iff.rfl
theorem lax_HR {g : G} {N : Addr} {m : Str → Option Value} {ρ : List Addr} {H : AH} {h : Heap} (D : HR g ρ H h) (hm : h.Ns N m) (hN : N ∉ ρ) : HR (lax g N m) ρ H h :=
  ⟨⟨D.base, hm⟩, D.len, D.nodup, fun a ha q => q.elim (D.off a ha) fun e => hN (e ▸ ha), fun i o e => let ⟨a, ob, h1, h2, h3⟩ := D.obj i o e; ⟨a, ob, h1, h2, lax_OR.mpr h3⟩⟩
theorem unlax_HR {g : G} {N : Addr} {m : Str → Option Value} {ρ : List Addr} {H : AH} {h : Heap} (D : HR (lax g N m) ρ H h) : HR g ρ H h :=
  ⟨D.base.1, D.len, D.nodup, fun a ha q => D.off a ha (.inl q), fun i o e => let ⟨a, ob, h1, h2, h3⟩ := D.obj i o e; ⟨a, ob, h1, h2, lax_OR.mp h3⟩⟩
theorem unlax_Nx {g : G} {N : Addr} {m : Str → Option Value} {ρ ρ' : List Addr} {s s' : Shared} (x : Nx (lax g N m) ρ ρ' s s') (hb : ¬ g.bs s'.heap N) : NxL g N ρ ρ' s s' := by
  refine ⟨x.pre, x.fresh, x.live, fun b o e n l => ?_, fun b q => ?_, x.cdm, x.gens, x.os, x.drawn⟩
  · rcases x.keep b o e n with k | ⟨k, r⟩
    · exact .inl k
    · exact .inr ⟨k.resolve_right l, r⟩
  · rcases x.bsn b (.inl q) with k | k
    · rcases k with k | k
      · exact .inl k
      · subst k; exact absurd q hb
    · exact .inr k

variable {g : G}
/-- statements, run in a frame that stands upon known ones -/
noncomputable abbrev LxOk (g : G) (out : List Env) (D : Nat) (c : PC) (loc : Lc) (ss : List Stmt) (H : AH) (K : Fl → Lc → AH → Prop) : Prop :=
  ∀ (env : Env) (ρ : List Addr) (s : Shared) (A : Around) (Q : Flow → Shared → Prop) (E : Value → Shared → Prop), AOk D A → A.frames = some (env :: out) → env.frame = some env.locals → FR g env c ρ loc s.heap → HR g ρ H s.heap → 1 ≤ s.toks → PostF g env c ρ s K Q → wpAny (model g.prog g.w) A (execs ss env) Q E s
noncomputable abbrev Lx1Ok (g : G) (out : List Env) (D : Nat) (c : PC) (loc : Lc) (st : Stmt) (H : AH) (K : Fl → Lc → AH → Prop) : Prop :=
  ∀ (env : Env) (ρ : List Addr) (s : Shared) (A : Around) (Q : Flow → Shared → Prop) (E : Value → Shared → Prop), AOk D A → A.frames = some (env :: out) → env.frame = some env.locals → FR g env c ρ loc s.heap → HR g ρ H s.heap → 1 ≤ s.toks → PostF g env c ρ s K Q → wpAny (model g.prog g.w) A (exec st env) Q E s

theorem lx_of {out : List Env} {d : Nat} {c : PC} (C : COk g d c) {n : Nat} {loc : Lc} {ss : List Stmt} {H : AH} {K : Fl → Lc → AH → Prop} (h : aws n c loc ss H K) : LxOk g out d c loc ss H K :=
  fun env ρ s A Q E hA _ _ F D T hQ => (sound (g := g) n C).s _ _ _ _ h env ρ s A Q E hA F D T hQ
theorem lx1_of {out : List Env} {d : Nat} {c : PC} (C : COk g d c) {n : Nat} {loc : Lc} {st : Stmt} {H : AH} {K : Fl → Lc → AH → Prop} (h : aw1 n c loc st H K) : Lx1Ok g out d c loc st H K :=
  fun env ρ s A Q E hA _ _ F D T hQ => (sound (g := g) n C).s1 _ _ _ _ h env ρ s A Q E hA F D T hQ
theorem lx_nil {out : List Env} {d : Nat} {c : PC} {loc : Lc} {H : AH} {K : Fl → Lc → AH → Prop} (h : K .next loc H) : LxOk g out d c loc [] H K :=
  fun env ρ s A Q E hA _ _ F D T hQ => wpAny_execs_nil (hQ _ _ _ _ _ _ h .next NxL.refl F D T)
theorem lx_cons {out : List Env} {d : Nat} {c : PC} {loc : Lc} {st : Stmt} {ss : List Stmt} {H : AH} {K : Fl → Lc → AH → Prop}
    (h : Lx1Ok g out d c loc st H fun f loc H => match f with | .next => LxOk g out d c loc ss H K | f => K f loc H) : LxOk g out d c loc (st :: ss) H K := by
  intro env ρ s A Q E hA hf hl F D T hQ
  refine wpAny_execs_cons (h env ρ s A _ E hA hf hl F D T fun f loc₁ H₁ cf s₁ ρ₁ k r N F₁ D₁ T₁ => ?_)
  cases r with
  | next => exact k env ρ₁ s₁ A _ E hA hf hl F₁ D₁ T₁ (hQ.nl N)
  | brk => exact hQ _ _ _ _ _ _ k .brk N F₁ D₁ T₁
  | cont => exact hQ _ _ _ _ _ _ k .cont N F₁ D₁ T₁
  | ret r => exact hQ _ _ _ _ _ _ k (.ret r) N F₁ D₁ T₁
/-- a run of plain statements, then the rest -/
theorem lx_app {out : List Env} {d : Nat} {c : PC} (C : COk g d c) {n : Nat} {loc : Lc} : ∀ {ss ss' : List Stmt} {H : AH} {K : Fl → Lc → AH → Prop}
    (h : aws n c loc ss H fun f loc H => match f with | .next => LxOk g out d c loc ss' H K | f => K f loc H), LxOk g out d c loc (ss ++ ss') H K := by
  induction n generalizing loc with
  | zero => intro ss ss' H K h; unfold aws at h; exact h.elim
  | succ n ih =>
    intro ss ss' H K h
    unfold aws at h
    split at h
    · exact h
    · rename_i st ss
      refine lx_cons fun env ρ s A Q E hA hf hl F D T hQ => ?_
      refine (sound (g := g) n C).s1 _ _ _ _ h env ρ s A Q E hA F D T fun f loc₁ H₁ cf s₁ ρ₁ k r N F₁ D₁ T₁ => ?_
      cases r with
      | next => exact hQ _ _ _ _ _ _ (ih k) .next N F₁ D₁ T₁
      | brk => exact hQ _ _ _ _ _ _ k .brk N F₁ D₁ T₁
      | cont => exact hQ _ _ _ _ _ _ k .cont N F₁ D₁ T₁
      | ret r => exact hQ _ _ _ _ _ _ k (.ret r) N F₁ D₁ T₁

theorem lx_loop {out : List Env} {d : Nat} {c : PC} (C : COk g d c) {n : Nat} {tgt : PySem.Expr} {body : List Stmt} {m T : Nat} {K : Fl → Lc → AH → Prop} (I : Nat → Lc → AH → Prop)
    (turn : ∀ k loc H, I k loc H → nextW m H fun o H => match o with
      | none => Fg T c (fun loc H => K .next loc H) loc H
      | some v => awa n c loc tgt v H fun loc H => LxOk g out d c loc body H fun f loc H => match f with
        | .next => Fg T c (fun loc H => ∃ j, j < k ∧ I j loc H) loc H
        | .cont => Fg T c (fun loc H => ∃ j, j < k ∧ I j loc H) loc H
        | .brk => Fg T c (fun loc H => K .next loc H) loc H
        | .ret v => K (.ret v) loc H)
    {loc : Lc} {H : AH} {k : Nat} (h : I k loc H) {env : Env} {ρ₀ ρ : List Addr} {s₀ s : Shared} {A : Around} {R : Result → Shared → Prop} {a : Addr} (hA : AOk d A) (hfr : A.frames = some (env :: out)) (hfl : env.frame = some env.locals) (N₀ : NxL g env.locals ρ₀ ρ s₀ s) (hρ : ρ₀.length ≤ T) (hm : m < T) (F : FR g env c ρ loc s.heap) (D : HR g ρ H s.heap) (hT : 1 ≤ s.toks) (ha : ρ[m]? = some a)
    (hml : ρ₀.length ≤ m) (hQ : PostF g env c ρ₀ s₀ K (fun f s' => R (.ok f) s')) : codeAny (model g.prog g.w) A (.forLoop tgt (.ref a) body [] env) R s := by
  have S := sound (g := g) n C
  refine codeAny_forLoop_any (fun k s' => ∃ loc' H' ρ', I k loc' H' ∧ NxL g env.locals ρ₀ ρ' s₀ s' ∧ ρ'[m]? = some a ∧ FR g env c ρ' loc' s'.heap ∧ HR g ρ' H' s'.heap ∧ 1 ≤ s'.toks) (fun k s₁ hI => ?_) k ⟨loc, H, ρ, h, N₀, ha, F, D, hT⟩
  obtain ⟨loc₁, H₁, ρ₁, h₁, N₁, ha₁, F₁, D₁, T₁⟩ := hI
  refine nextW_sound (turn k loc₁ H₁ h₁) hA.hd D₁ T₁ ha₁ (fun H₂ s₂ k₂ N₂ D₂ T₂ => ?_) fun v H₂ cv s₂ k₂ r N₂ D₂ T₂ hcls => ?_
  · obtain ⟨loc', H', ρ'', p, F', D', N'⟩ := k₂.use (F₁.nx N₂) D₂ (N₁.trans N₂.l) hρ
    exact wpAny_execs_nil (hQ _ _ _ _ _ _ p .next N' F' D' T₂)
  · refine go_sound (D₂.has (List.mem_of_getElem? ha₁)) hcls ?_
    refine S.a _ _ _ _ _ k₂ env ρ₁ s₂ A cv _ _ hA (F₁.nx N₂) D₂ T₂ r fun loc₃ H₃ s₃ ρ₃ k₃ N₃ F₃ D₃ T₃ => ?_
    refine k₃ env ρ₃ s₃ A _ _ hA hfr hfl F₃ D₃ T₃ fun f loc₄ H₄ cf s₄ ρ₄ k₄ rf N₄ F₄ D₄ T₄ => ?_
    have N := ((N₁.trans N₂.l).trans N₃).trans N₄
    have ha₄ : ρ₄[m]? = some a := prefix_get (N₃.pre.trans N₄.pre) ha₁
    have again : Fg T c (fun loc H => ∃ j, j < k ∧ I j loc H) loc₄ H₄ → ∃ j, j < k ∧ ∃ loc' H' ρ', I j loc' H' ∧ NxL g env.locals ρ₀ ρ' s₀ s₄ ∧ ρ'[m]? = some a ∧ FR g env c ρ' loc' s₄.heap ∧ HR g ρ' H' s₄.heap ∧ 1 ≤ s₄.toks := by
      rintro ⟨loc', t, h1, h2, h3, h4, j, hj, hI⟩
      exact ⟨j, hj, loc', H₄.take t, ρ₄.take t, hI, N.take (Nat.le_trans hρ h1), by rw [take_get (Nat.lt_of_lt_of_le hm h1)]; exact ha₄, F₄.take t h3 h4, D₄.take t h2, T₄⟩
    cases rf with
    | next => exact again k₄
    | cont => exact again k₄
    | brk =>
      obtain ⟨loc', H', ρ'', p, F', D', N'⟩ := k₄.use F₄ D₄ N hρ
      exact hQ _ _ _ _ _ _ p .next N' F' D' T₄
    | ret rv => exact hQ _ _ _ _ _ _ k₄ (.ret rv) N F₄ D₄ T₄

theorem lx_for {out : List Env} {d : Nat} {c : PC} (C : COk g d c) {n : Nat} {tgt it : PySem.Expr} {body : List Stmt} {pos : Pos} {m T : Nat} {loc : Lc} {H : AH} {K : Fl → Lc → AH → Prop} (I : Nat → Lc → AH → Prop) (hset : isSetD it = false) (hHm : H.length ≤ m) (hm : m < T)
    (h : awe n c loc it H fun v H => iterW v H fun m' H => m' = m ∧ Fg T c (fun loc H => ∃ k, I k loc H) loc H)
    (turn : ∀ k loc H, I k loc H → nextW m H fun o H => match o with
      | none => Fg T c (fun loc H => K .next loc H) loc H
      | some v => awa n c loc tgt v H fun loc H => LxOk g out d c loc body H fun f loc H => match f with
        | .next => Fg T c (fun loc H => ∃ j, j < k ∧ I j loc H) loc H
        | .cont => Fg T c (fun loc H => ∃ j, j < k ∧ I j loc H) loc H
        | .brk => Fg T c (fun loc H => K .next loc H) loc H
        | .ret v => K (.ret v) loc H) : Lx1Ok g out d c loc (.For tgt it body [] pos) H K := by
  intro env ρ s A Q E hA hfr hfl F D hT hQ
  refine wpAny_For ((sound (g := g) n C).e _ _ _ _ h env ρ s A _ E hA F D hT fun v H₁ cv s₁ ρ₁ k₁ r N D₁ T₁ => ?_) (isSetD_folded hset env)
  refine iterW_sound k₁ D₁ T₁ r fun m' H₂ a s₂ ρ₂ k₂ ha N₂ D₂ T₂ => ?_
  obtain ⟨rfl, loc', t, h1, h2, h3, h4, k, hI⟩ := k₂
  have N' := N.trans N₂
  exact lx_loop C I turn hI hA hfr hfl (N'.l.take (by rw [D.len]; omega)) (by rw [D.len]; omega) hm ((F.nx N').take t h3 h4) (D₂.take t h2) T₂ (by rw [take_get (Nat.lt_of_lt_of_le hm h1)]; exact ha) (by rw [D.len]; exact hHm) hQ
end Py

end
section
open PySem PySem.W PyProof.Rows
set_option maxRecDepth 10000
set_option autoImplicit false
set_option linter.unusedVariables false
namespace Py

noncomputable def ZdF (h : Heap) : Prop := ∃ mg mb, h.Ns mainGlobals mg ∧ h.Ns builtinsNs mb ∧ mg "ZeroDivisionError" = none ∧ mb "ZeroDivisionError" = some (.type "ZeroDivisionError")

section
variable {prog : Program} {w : World} {A : Around} {E : Value → Shared → Prop} {s : Shared}
theorem zde_name {env : Env} {p : Pos} {Q : Value → Shared → Prop} (hk : env.scope.kind = .function) (hg : env.globals = mainGlobals) (hbl : env.builtins = builtinsNs) (hx : env.scope.names.lookup ("ZeroDivisionError" : Str) = some .globalImplicit) (hz : ZdF s.heap)
    (h : Q (.type "ZeroDivisionError") s) : wpAny (model prog w) A (eval (.Name "ZeroDivisionError" p) env) Q E s := by
  obtain ⟨mg, mb, h1, h2, h3, h4⟩ := hz
  exact Calls.Name_function_global hk hx (Calls.loadGlobal_builtin (by rw [hg]; exact h1) h3 (by rw [hbl]; exact h2) h4 h) (by decide +kernel)

theorem ZdF.keeps {h h' : Heap} (z : ZdF h) (k : ∀ b o, h.get? b = some o → h'.get? b = some o) : ZdF h' := by
  obtain ⟨mg, mb, ⟨o1, es1, ep1, e1, r1⟩, ⟨o2, es2, ep2, e2, r2⟩, h3, h4⟩ := z
  exact ⟨mg, mb, ⟨o1, es1, ep1, k _ _ e1, r1⟩, ⟨o2, es2, ep2, k _ _ e2, r2⟩, h3, h4⟩

theorem zde_call {a : Addr} {rest els : List Stmt} {x q : Str} {xp zp ip tp cp rp : Pos} {ck : Nat} {scope : Scope} {cd : Value} {ps : List Str} {args : List AV}
    (hF : FnAt s.heap a (.If (.Compare (.Name x xp) [.Eq] [.Constant (.int 0) ck cp] tp) [.Raise (some (.Name "ZeroDivisionError" zp)) none rp] els ip :: rest) scope ps q cd) (hlim : s.heap.NoLimit) (hz : ZdF s.heap)
    (hnc : scope.names.all (fun x => x.2 != .cell) = true) (hps : ps.all (fun x => scope.names.lookup x == some .local) = true) (hlen : args.length = ps.length) (hzn : scope.names.lookup ("ZeroDivisionError" : Str) = some .globalImplicit) (hxd : (x == ("__debug__" : Str)) = false)
    {ρ : List Addr} {cargs : List Value} (r : VRs ρ args cargs) (hx : (ps.zip args).lookup x = some (.int 0)) (hxl : scope.names.lookup x = some .local)
    (hd : A.handled = none) (dp : A.depth < recursionLimit) {l : List Env} (hfr : A.frames = some l) {base : Heap} (hb : base.StaysIn s.heap) (hl : s.heap.FunFrames base l) {Q : Value → Shared → Prop}
    (h : ∀ h' e a0 tk, base.FlyingW l e (.type "ZeroDivisionError") a0 h' → s.heap.UpToSlots h' → s.toks ≤ tk → E (.ref e) { s with heap := h', toks := tk }) : wpAny (model prog w) A (call (.ref a) cargs) Q E s := by
  obtain ⟨o, fd, h1, h2, I, h3, h4, h5⟩ := hF
  have hln := r.length
  have hnc' : ∀ x ∈ scope.names, x.2 ≠ .cell := fun x hx => by simpa using List.all_eq_true.mp hnc x hx
  have hps' : ∀ x ∈ ps, scope.names.lookup x = some .local := fun x hx => by simpa using List.all_eq_true.mp hps x hx
  refine wpAny_call (codeAny_call_def (binds := ps.zip cargs) dp h1 h2 hlim h5 I.body (BindsTo.of_eq (I.bind _ (by rw [hln, hlen]))) (by rw [I.scp]; exact hnc')
    (fun x hx => by rw [I.scp]; exact hps' _ (List.of_mem_zip hx).1) (fun h₀ hns hk => ?_) (by rw [I.scp]; exact I.co) (by rw [I.scp]; exact I.gen) (by rw [I.scp]; exact I.kd))
  obtain ⟨cv, e1, t, rfl⟩ := zip_lookup r hx
  have hsc : (callEnv fd s.heap.objs.size a).scope = scope := I.scp
  have hkd : (callEnv fd s.heap.objs.size a).scope.kind = .function := by rw [hsc]; exact I.kd
  have hfrm : (callEnv fd s.heap.objs.size a).frame = some s.heap.objs.size := rfl
  refine wpAny_execs_cons (wpAny_If (wpAny_isTrue_Compare1 (wpAny_Name (wpAny_loadName_local hkd (by show (callEnv fd s.heap.objs.size a).scope.names.lookup x = _; rw [hsc]; exact hxl) hns (by show (ps.zip cargs).reverse.lookup x = _; rw [lookup_rev I.nd]; exact e1) ?_) hxd) rfl))
  refine wpAny_mkInt (P.eq_int ?_)
  refine wpAny_truthy_bool ?_
  rw [if_pos (by simp)]
  refine wpAny_execs_cons (Raise_classB hd excClass_ZeroDivisionError PySem.F.self_ZeroDivisionError (zde_name hkd I.gl I.bl (by rw [hsc]; exact hzn) (hz.keeps hk) ⟨rfl, rfl⟩) fun h' e hn => ?_)
  obtain ⟨ob, t0, he, hcls, hdat⟩ := hn.there
  have hkeep : ∀ b o, s.heap.get? b = some o → h'.get? b = some o := fun b o e => hn.keeps b o (hk b o e)
  have hfl : h'.FunFrames base (callEnv fd s.heap.objs.size a :: l) := by
    refine ⟨by rw [hkd]; decide, ?_, hl.of_keeps fun b o ho _ => ⟨o, hkeep b o ho, rfl⟩⟩
    obtain ⟨oL, es, ep, ho, hdd, _⟩ := hns
    refine ⟨_, oL, hfrm, hb.fresh, hn.keeps _ _ ho, fun vs q => ?_⟩
    rw [hdd] at q; cases q
  have hen : base.get? e = none := by
    cases q : base.get? e with
    | none => rfl
    | some o => have := hk _ _ (hb _ _ q); rw [hn.new] at this; cases this
  refine wpAny_leaving_firstW (base := base) (outer := l) (L := s.heap.objs.size) (by show A.frames.map _ = _; rw [hfr]; rfl) hfl hfrm he (fun b o q => hkeep b o (hb b o q)) hen hdat rfl rfl fun h'' hL => ?_
  obtain ⟨k1, ⟨_, _, k2⟩, k3, k4⟩ := hL
  rw [hcls] at k3
  refine h h'' e t0 _ ⟨k1, hen, k2, k3⟩ (fun b o ho hnf => k4 b o (hkeep b o ho) hnf) ?_
  exact Nat.le_trans (Nat.le_add_right _ _) (Nat.le_succ _)
end

section
variable {g₀ : G} {N : Addr} {m : Str → Option Value}
/-- behind a raise: all but the frames' slots stands -/
theorem behind {env : Env} {c : PC} {loc : Lc} {ρ : List Addr} {H : AH} {s : Shared} (hN : ∀ h, g₀.B h → h.Ns N m → ¬ g₀.bs h N) (F : FR (lax g₀ N m) env c ρ loc s.heap) (D : HR (lax g₀ N m) ρ H s.heap) {h' : Heap} {tk : Nat}
    (st : (hideAll s.heap [env.locals, N]).StaysIn h') (up : s.heap.UpToSlots h') : FR (lax g₀ N m) env c ρ loc h' ∧ HR (lax g₀ N m) ρ H h' ∧ NxL (lax g₀ N m) env.locals ρ ρ s { s with heap := h', toks := tk } := by
  have keep : ∀ b o, b ≠ env.locals → b ≠ N → s.heap.get? b = some o → h'.get? b = some o := fun b o h1 h2 e => st b o (hideAll_get _ e (by simp [h1, h2]))
  have hK := g₀.keep s.heap h' D.base.1 fun b o hb e => keep b o (fun q => F.nbs (q ▸ .inl hb)) (fun q => hN _ D.base.1 D.base.2 (q ▸ hb)) e
  have hB : (lax g₀ N m).B h' := ⟨hK.1, up.ns D.base.2⟩
  have hbs : ∀ b, (lax g₀ N m).bs h' b → (lax g₀ N m).bs s.heap b := fun b q => q.imp (hK.2.1 b) id
  have alive : ∀ b o, s.heap.get? b = some o → ∃ o', h'.get? b = some o' := fun b o e => by
    by_cases h1 : b = env.locals
    · subst h1
      obtain ⟨mm, hn, _⟩ := F.ns
      obtain ⟨o', _, _, ho', _⟩ := up.ns hn
      exact ⟨o', ho'⟩
    · by_cases h2 : b = N
      · subst h2
        obtain ⟨o', _, _, ho', _⟩ := up.ns D.base.2
        exact ⟨o', ho'⟩
      · exact ⟨o, keep b o h1 h2 e⟩
  refine ⟨?_, ?_, ?_⟩
  · obtain ⟨mm, hn, hm⟩ := F.ns
    exact ⟨F.sc, F.kd, F.gl, F.bl, F.off, fun q => F.nbs (hbs _ q), F.ntb, F.cd, F.qn, ⟨mm, up.ns hn, hm⟩, F.cl⟩
  · refine ⟨hB, D.len, D.nodup, fun a ha q => D.off a ha (hbs a q), fun i o e => ?_⟩
    obtain ⟨a, ob, e1, e2, e3⟩ := D.obj i o e
    have ha := List.mem_of_getElem? e1
    exact ⟨a, ob, e1, keep a ob (fun q => F.off (q ▸ ha)) (fun q => D.off a ha (.inr q)) e2, e3.heap hK.2.2⟩
  · refine ⟨List.prefix_refl _, fun _ q => .inl q, alive, fun b o e _ l => ?_, fun b q => .inl (hbs b q), hK.2.2, rfl, rfl, rfl⟩
    by_cases h2 : b = N
    · exact .inr ⟨.inr h2, alive b o e⟩
    · exact .inl (keep b o l h2 e)

theorem lx_try {d : Nat} {envL : Env} (hkL : envL.scope.kind ≠ .module) (hfL : envL.frame = some N) (hN : ∀ h, g₀.B h → h.Ns N m → ¬ g₀.bs h N) (hz : ∀ h, g₀.B h → ZdF h) (hlim : ∀ h, g₀.B h → h.NoLimit)
    {c : PC} (C : COk (lax g₀ N m) (d + 1) c) {n : Nat} {a : Addr} {rest els : List Stmt} {x q : Str} {xp zp ip tp cp rp : Pos} {ck : Nat} {scope : Scope} {cd : Value} {ps : List Str}
    (hF : ∀ h, g₀.B h → FnAt h a (.If (.Compare (.Name x xp) [.Eq] [.Constant (.int 0) ck cp] tp) [.Raise (some (.Name "ZeroDivisionError" zp)) none rp] els ip :: rest) scope ps q cd)
    (hnc : scope.names.all (fun x => x.2 != .cell) = true) (hps : ps.all (fun x => scope.names.lookup x == some .local) = true) (hzn : scope.names.lookup ("ZeroDivisionError" : Str) = some .globalImplicit) (hxd : (x == ("__debug__" : Str)) = false) (hxl : scope.names.lookup x = some .local)
    (hcz : c.scope.names.lookup ("ZeroDivisionError" : Str) = some .globalImplicit)
    {f tgt : Str} {fp tp1 tp2 ep ap1 ap2 kp zp2 hp pos : Pos} {ck2 : Nat} {args : List PySem.Expr} {loc : Lc} {H : AH} {K : Fl → Lc → AH → Prop} (hst : noStar args = true)
    (h : nameW c loc f H fun fv H => fv = .fn a ∧ awl n c loc args H fun vs H => (vs.length = ps.length ∧ (ps.zip vs).lookup x = some (.int 0)) ∧ storeW c loc tgt .none H fun loc H => K .next loc H) :
    Lx1Ok (lax g₀ N m) [envL] (d + 1) c loc (.Try [.Assign [.Name tgt tp1] (.Call (.Name f fp) args [] ep) ap1] [.ExceptHandler (some (.Name "ZeroDivisionError" zp2)) none [.Assign [.Name tgt tp2] (.Constant .none ck2 kp) ap2] hp] [] [] pos) H K := by
  intro env ρ s A Q E hA hfr hfl F D T hQ
  refine wpAny_Try_except (wpAny_execs_cons (wpAny_Assign_Name (wpAny_Call_NameR (nameW_sound C h F D T fun fv H₁ cf s₁ ρ₁ k rf N₁ D₁ T₁ => ?_)) (swaps_false rfl)))
  obtain ⟨rfl, k⟩ := k
  cases rf
  refine callWith_gen (backTo_any (noStar_any hst)) (evalArgs_gen (backTo_any (noStar_any hst)) ((sound (g := lax g₀ N m) n C).l _ _ _ _ k env ρ₁ s₁ A _ _ _ hA (F.nx N₁) D₁ T₁ fun vs H₂ cvs s₂ ρ₂ k₂ r _ N₂ D₂ T₂ => ?_))
  obtain ⟨⟨hlen, hx⟩, k₂⟩ := k₂
  have hFn := hF _ D₂.base.1
  obtain ⟨o, fd, h1, h2, _⟩ := hFn
  refine keeper_func h1 h2 ?_
  have F₂ := (F.nx N₁).nx N₂
  have hne : env.locals ≠ N := fun q => F₂.nbs (.inr q)
  have hfun : s₂.heap.FunFrames (hideAll s₂.heap [env.locals, N]) [env, envL] := by
    refine ⟨by rw [F.kind]; decide, ?_, hkL, ?_, trivial⟩
    · obtain ⟨mm, ⟨o, es, ep, ho, hdd, _⟩, _⟩ := F₂.ns
      exact ⟨_, o, hfl, hideAll_none _ (by simp), ho, fun vs q => by rw [hdd] at q; cases q⟩
    · obtain ⟨o, es, ep, ho, hdd, _⟩ := D₂.base.2
      exact ⟨_, o, hfL, hideAll_none _ (by simp), ho, fun vs q => by rw [hdd] at q; cases q⟩
  have hst' : (hideAll s₂.heap [env.locals, N]).StaysIn s₂.heap := fun b o e => of_hideAll _ e
  refine zde_call (hF _ D₂.base.1) (hlim _ D₂.base.1) (hz _ D₂.base.1) hnc hps hlen hzn hxd r hx hxl hA.hd (by have := hA.dp; omega) hfr hst' hfun fun h' e a0 tk hfly hup htk => ?_
  refine wpAny_looks_onW hfr hfl hfly fun h₁' hh₁ up₁ => ?_
  refine wpAny_landsW hh₁ fun h₂' hf₂ up₂ => ?_
  have up₂' : s₂.heap.UpToSlots h₂' := (hup.trans up₁).trans up₂
  obtain ⟨F₃, D₃, _⟩ := behind (tk := tk) hN F₂ D₂ hf₂.1 up₂'
  refine wpAny_handleBy_builtin (X := "ZeroDivisionError") (T := "ZeroDivisionError") (b := true) PySem.F.isExc_ZeroDivisionError PySem.F.notTuple_ZeroDivisionError PySem.F.self_ZeroDivisionError (zde_name F.kind F.gl F.bl (by rw [F.sc]; exact hcz) (hz _ D₃.base.1) ⟨rfl, hf₂.there, ?_⟩)
  rw [if_pos rfl]
  refine lands_againW hf₂ fun h₃' hf₃ up₃ => ?_
  obtain ⟨F₄, D₄, N₄⟩ := behind (tk := tk) hN F₂ D₂ hf₃.1 (up₂'.trans up₃)
  have T₄ : 1 ≤ tk := Nat.le_trans T₂ htk
  refine wpAny_execs_cons (wpAny_Assign_Name (wpAny_pure (a := Value.none) ?_) (swaps_false rfl))
  refine store_sound (s := { s₂ with heap := h₃', toks := tk }) k₂ F₄ D₄ T₄ rfl fun loc' H' s' k' N' F' D' T' => ?_
  exact wpAny_execs_nil (hQ _ _ _ _ _ _ k' .next (((N₁.l.trans N₂.l).trans N₄).trans N') F' D' T')
end
end Py

end
section
open PySem PySem.W PyProof.Rows
set_option maxRecDepth 10000
set_option autoImplicit false
set_option linter.unusedVariables false
namespace Py
variable {g : G}

/-- a frame's names are no part of the base -/
noncomputable def FrBs (g : G) : Prop := ∀ h h' N m, g.B h → ¬ g.bs h N → g.B h' → h'.Ns N m → ¬ g.bs h' N

/-- a def is called from a known frame -/
theorem lx_call {d : Nat} {c cL : PC} {envL : Env} (hfs : FrBs g) {a : Addr} {body : List Stmt} {ps : List Str} {args : List AV} {loc : Lc} {H : AH} {K : Kv} (hF : ∀ h, g.B h → FnAt h a body c.scope ps c.qn c.cd) (hlim : ∀ h, g.B h → h.NoLimit)
    (hcl : c.cells = []) (hnc : c.scope.names.all (fun x => x.2 != .cell) = true) (hps : ps.all (fun x => c.scope.names.lookup x == some .local) = true) (hlen : args.length = ps.length)
    (h : ∀ (N : Addr) (m : Str → Option Value) (env : Env), env.scope.kind ≠ .module → env.frame = some N → (∀ h, g.B h → h.Ns N m → ¬ g.bs h N) → LxOk (lax g N m) [env] d c (ps.zip args) body H (endW K))
    {ρ : List Addr} {s : Shared} {cargs : List Value} {A : Around} {Q E : Value → Shared → Prop} (hA : AOk (d + 1) A) (hfr : A.frames = some [envL]) (hfl : envL.frame = some envL.locals) (F : FR g envL cL ρ loc s.heap) (D : HR g ρ H s.heap) (T : 1 ≤ s.toks) (r : VRs ρ args cargs)
    (hQ : ∀ v H' cv s' ρ', K v H' → VR ρ' v cv → NxL g envL.locals ρ ρ' s s' → FR g envL cL ρ' loc s'.heap → HR g ρ' H' s'.heap → 1 ≤ s'.toks → Q cv s') : wpAny (model g.prog g.w) A (call (.ref a) cargs) Q E s := by
  obtain ⟨o, fd, h1, h2, I, h3, h4, h5⟩ := hF _ D.base
  obtain ⟨m, hm, hv⟩ := F.ns
  have hN : ∀ h, g.B h → h.Ns envL.locals m → ¬ g.bs h envL.locals := fun h' b q => hfs _ _ _ _ D.base F.nbs b q
  have hl := r.length
  refine wpAny_call (codeAny_call_def (binds := ps.zip cargs) (by have := hA.dp; omega) h1 h2 (hlim _ D.base) h5 I.body (BindsTo.of_eq (I.bind _ (by rw [hl, hlen]))) (by rw [I.scp]; exact fun x hx => by simpa using List.all_eq_true.mp hnc x hx)
    (fun x hx => by rw [I.scp]; simpa using List.all_eq_true.mp hps _ (List.of_mem_zip hx).1) (fun h₀ hns hk => ?_) (by rw [I.scp]; exact I.co) (by rw [I.scp]; exact I.gen) (by rw [I.scp]; exact I.kd))
  have hnone : s.heap.get? s.heap.objs.size = none := get_size _
  have DL : HR (lax g envL.locals m) ρ H s.heap := lax_HR D hm F.off
  have N₀ : Nx (lax g envL.locals m) ρ ρ s { s with heap := h₀, toks := s.toks + (ps.zip cargs).length } := Nx.grow DL hk
  have D₀ : HR (lax g envL.locals m) ρ H h₀ := DL.grow hk
  have hbs : ¬ (lax g envL.locals m).bs h₀ s.heap.objs.size := fun q => by
    obtain ⟨o, e⟩ := (lax g envL.locals m).lt _ _ DL.base (((lax g envL.locals m).keep _ _ DL.base fun b o _ e => hk b o e).2.1 _ q)
    cases hnone.symm.trans e
  have F₀ : FR (lax g envL.locals m) (callEnv fd s.heap.objs.size a) c ρ (ps.zip args) h₀ := by
    refine ⟨I.scp, I.kd, I.gl, I.bl, D.top, hbs, fun q => hbs ((lax g envL.locals m).tbb _ _ D₀.base q), h3, I.qn, ⟨_, hns, fun x v e => ?_⟩, fun x i e => by rw [hcl] at e; simp at e⟩
    obtain ⟨cv, e1, e2⟩ := zip_lookup r e
    exact ⟨cv, by rw [lookup_rev I.nd]; exact e1, e2⟩
  refine h envL.locals m envL (by rw [F.kind]; decide) hfl hN _ ρ _ _ _ _ (hA.deeper _) (by show A.frames.map _ = _; rw [hfr]; rfl) rfl F₀ D₀ (Nat.le_trans T (Nat.le_add_right _ _)) fun f loc' H' cf s' ρ' k rf N F' D' T' => ?_
  have hb' : ¬ g.bs s'.heap envL.locals := hN _ D'.base.1 D'.base.2
  have N' : NxL g envL.locals ρ ρ' s s' := unlax_Nx (Nx.of_l N₀ N hnone) hb'
  have F' : FR g envL cL ρ' loc s'.heap := ⟨F.sc, F.kd, F.gl, F.bl, fun q => D'.off _ q (.inr rfl), hb', F.ntb, F.cd, F.qn, ⟨m, D'.base.2, fun x v e => let ⟨cv, q1, q2⟩ := hv x v e; ⟨cv, q1, q2.mono N'.pre⟩⟩, fun x i e => let ⟨a, q1, q2⟩ := F.cl x i e; ⟨a, q1, prefix_get N'.pre q2⟩⟩
  cases rf with
  | next => exact hQ _ _ _ _ _ k rfl N' F' (unlax_HR D') T'
  | brk => exact k.elim
  | cont => exact k.elim
  | ret rv => exact hQ _ _ _ _ _ k rv N' F' (unlax_HR D') T'

/-- a test by such a call -/
theorem lx_if_call {d : Nat} {c cL : PC} (hfs : FrBs g) (CL : COk g (d + 1) cL) {n : Nat} {a : Addr} {body : List Stmt} {ps : List Str} {loc : Lc} {H : AH} {K : Fl → Lc → AH → Prop} (hF : ∀ h, g.B h → FnAt h a body c.scope ps c.qn c.cd) (hlim : ∀ h, g.B h → h.NoLimit)
    (hcl : c.cells = []) (hnc : c.scope.names.all (fun x => x.2 != .cell) = true) (hps : ps.all (fun x => c.scope.names.lookup x == some .local) = true)
    {f : Str} {fp cp up ip : Pos} {args : List PySem.Expr} {thn : List Stmt} (hst : noStar args = true)
    (h : nameW cL loc f H fun fv H => fv = .fn a ∧ awl n cL loc args H fun vs H => vs.length = ps.length ∧
      ∀ (N : Addr) (m : Str → Option Value) (env : Env), env.scope.kind ≠ .module → env.frame = some N → (∀ h, g.B h → h.Ns N m → ¬ g.bs h N) → LxOk (lax g N m) [env] d c (ps.zip vs) body H (endW fun v H => v = .bool true ∧ K .next loc H)) :
    Lx1Ok g [] (d + 1) cL loc (.If (.UnaryOp .Not (.Call (.Name f fp) args [] cp) up) thn [] ip) H K := by
  intro env ρ s A Q E hA hfr hfl F D T hQ
  refine wpAny_If (wpAny_isTrue_Not (isTrue_gen (fun _ => rfl) (wpAny_Call_NameR (nameW_sound CL h F D T fun fv H₁ cf s₁ ρ₁ k rf N₁ D₁ T₁ => ?_))))
  obtain ⟨rfl, k⟩ := k
  cases rf
  refine callWith_gen (backTo_any (noStar_any hst)) (evalArgs_gen (backTo_any (noStar_any hst)) ((sound (g := g) n CL).l _ _ _ _ k env ρ₁ s₁ A _ _ _ hA (F.nx N₁) D₁ T₁ fun vs H₂ cvs s₂ ρ₂ k₂ r _ N₂ D₂ T₂ => ?_))
  obtain ⟨hlen, k₂⟩ := k₂
  obtain ⟨o, fd, h1, h2, _⟩ := hF _ D₂.base
  refine keeper_func h1 h2 ?_
  refine lx_call hfs hF hlim hcl hnc hps hlen k₂ hA hfr hfl ((F.nx N₁).nx N₂) D₂ T₂ r fun v H₃ cv s₃ ρ₃ k₃ rv N₃ F₃ D₃ T₃ => ?_
  obtain ⟨rfl, k₃⟩ := k₃
  cases rv
  refine wpAny_truthy_bool ?_
  rw [if_neg (by decide)]
  exact wpAny_execs_nil (hQ _ _ _ _ _ _ k₃ .next ((N₁.l.trans N₂.l).trans N₃) F₃ D₃ T₃)
end Py

end
section
open PySem PySem.W PyProof.Rows
set_option maxRecDepth 10000
set_option autoImplicit false
set_option linter.unusedVariables false
namespace Py
variable {g : G}

/-- a statement, then the rest, what is no longer asked for forgotten -/
theorem lx_cut {out : List Env} {d : Nat} {c : PC} {loc : Lc} {st : Stmt} {ss : List Stmt} {H : AH} {K : Fl → Lc → AH → Prop} {T : Nat} (hT : H.length ≤ T)
    (h : Lx1Ok g out d c loc st H fun f loc H => match f with | .next => Fg T c (fun loc H => LxOk g out d c loc ss H K) loc H | f => K f loc H) : LxOk g out d c loc (st :: ss) H K := by
  intro env ρ s A Q E hA hf hl F D T hQ
  refine wpAny_execs_cons (h env ρ s A _ E hA hf hl F D T fun f loc₁ H₁ cf s₁ ρ₁ k r N F₁ D₁ T₁ => ?_)
  cases r with
  | next =>
    obtain ⟨loc₂, H₂, ρ₂, k₂, F₂, D₂, N₂⟩ := k.use F₁ D₁ N (by rw [D.len]; exact hT)
    exact k₂ env ρ₂ s₁ A _ E hA hf hl F₂ D₂ T₁ (hQ.nl N₂)
  | brk => exact hQ _ _ _ _ _ _ k .brk N F₁ D₁ T₁
  | cont => exact hQ _ _ _ _ _ _ k .cont N F₁ D₁ T₁
  | ret r => exact hQ _ _ _ _ _ _ k (.ret r) N F₁ D₁ T₁
theorem lx1_mono {out : List Env} {d : Nat} {c : PC} {loc : Lc} {st : Stmt} {H : AH} {K K' : Fl → Lc → AH → Prop} (h : Lx1Ok g out d c loc st H K) (hK : ∀ f loc H, K f loc H → K' f loc H) : Lx1Ok g out d c loc st H K' :=
  fun env ρ s A Q E hA hf hl F D T hQ => h env ρ s A Q E hA hf hl F D T fun f loc' H' cf s' ρ' k => hQ f loc' H' cf s' ρ' (hK _ _ _ k)
theorem lx_mono {out : List Env} {d : Nat} {c : PC} {loc : Lc} {ss : List Stmt} {H : AH} {K K' : Fl → Lc → AH → Prop} (h : LxOk g out d c loc ss H K) (hK : ∀ f loc H, K f loc H → K' f loc H) : LxOk g out d c loc ss H K' :=
  fun env ρ s A Q E hA hf hl F D T hQ => h env ρ s A Q E hA hf hl F D T fun f loc' H' cf s' ρ' k => hQ f loc' H' cf s' ρ' (hK _ _ _ k)

theorem lx_cg {out : List Env} {d : Nat} {c c' : PC} (h1 : c.scope = c'.scope) (h2 : c.cells = c'.cells) (h3 : c.cd = c'.cd) (h4 : c.qn = c'.qn) {loc : Lc} {ss : List Stmt} {H : AH} {K : Fl → Lc → AH → Prop} (k : LxOk g out d c loc ss H K) : LxOk g out d c' loc ss H K :=
  fun env ρ s A Q E hA hf hl F D T hQ => k env ρ s A Q E hA hf hl (F.cg h1.symm h2.symm h3.symm h4.symm) D T fun f loc' H' cf s' ρ' k r N F' D' T' => hQ f loc' H' cf s' ρ' k r N (F'.cg h1 h2 h3 h4) D' T'
theorem lx1_cg {out : List Env} {d : Nat} {c c' : PC} (h1 : c.scope = c'.scope) (h2 : c.cells = c'.cells) (h3 : c.cd = c'.cd) (h4 : c.qn = c'.qn) {loc : Lc} {st : Stmt} {H : AH} {K : Fl → Lc → AH → Prop} (k : Lx1Ok g out d c loc st H K) : Lx1Ok g out d c' loc st H K :=
  fun env ρ s A Q E hA hf hl F D T hQ => k env ρ s A Q E hA hf hl (F.cg h1.symm h2.symm h3.symm h4.symm) D T fun f loc' H' cf s' ρ' k r N F' D' T' => hQ f loc' H' cf s' ρ' k r N (F'.cg h1 h2 h3 h4) D' T'
end Py

end
section
open PySem PySem.W PyProof.Rows
set_option maxRecDepth 10000
set_option autoImplicit false
set_option linter.unusedVariables false
namespace Py
variable {g : G}

/-- told things stand behind a contract over some of them -/
theorem HR.cut {ρ ρ' : List Addr} {H X : AH} {h h' : Heap} (D : HR g ρ H h) (pre : ρ <+: ρ') (D' : HR g ρ' (H ++ X) h') : HR g ρ H h' where
  base := D'.base
  len := D.len
  nodup := D.nodup
  off := fun a ha => D'.off a (pre.subset ha)
  obj := fun i o e => by
    obtain ⟨a, ob, e1, e2, e3⟩ := D'.obj i o (by rw [List.getElem?_append_left (List.getElem?_eq_some_iff.mp e).1]; exact e)
    obtain ⟨a₀, ob₀, f1, f2, f3⟩ := D.obj i o e
    have : a = a₀ := by have := prefix_get pre f1; rw [e1] at this; exact Option.some.inj this
    subst this
    have back : ∀ {n : Nat} {b b₀ : Addr}, ρ[n]? = some b₀ → ρ'[n]? = some b → ρ[n]? = some b := fun q1 q2 => by
      have := prefix_get pre q1; rw [q2] at this; cases this; exact q1
    have bv : ∀ {x : AV} {v v₀ : Value}, VR ρ x v₀ → VR ρ' x v → VR ρ x v := fun {x v v₀} q1 q2 => by
      cases x <;> first | exact q2 | skip
      obtain ⟨b₀, p1, _⟩ := q1
      obtain ⟨b, p2, rfl⟩ := q2
      exact ⟨b, back p1 p2, rfl⟩
    have bvs : ∀ {xs : List AV} {vs v₀ : List Value}, VRs ρ xs v₀ → VRs ρ' xs vs → VRs ρ xs vs := fun {xs} => by
      induction xs with
      | nil => exact fun _ q => q
      | cons x xs ih =>
        rintro vs v₀ ⟨w₀, r₀, _, p₀, q₀⟩ ⟨w, r, e, p, q⟩
        exact ⟨w, r, e, bv p₀ p, ih q₀ q⟩
    have bc : ∀ {xs : List (Str × Nat)} {l l₀ : List (Str × Addr)}, CR ρ xs l₀ → CR ρ' xs l → CR ρ xs l := fun {xs} => by
      induction xs with
      | nil => exact fun _ q => q
      | cons x xs ih =>
        obtain ⟨x, i⟩ := x
        rintro l l₀ ⟨w₀, r₀, _, p₀, q₀⟩ ⟨w, r, e, p, q⟩
        exact ⟨w, r, e, back p₀ p, ih q₀ q⟩
    refine ⟨a, ob, f1, e2, ?_⟩
    cases o with
    | tup xs => obtain ⟨vs, n, b, c⟩ := e3; obtain ⟨_, _, _, c₀⟩ := f3; exact ⟨vs, n, b, bvs c₀ c⟩
    | lst xs => obtain ⟨vs, n, b, c⟩ := e3; obtain ⟨_, _, _, c₀⟩ := f3; exact ⟨vs, n, b, bvs c₀ c⟩
    | cell v => cases v with
      | none => exact e3
      | some x => obtain ⟨v, a, b⟩ := e3; obtain ⟨_, _, b₀⟩ := f3; exact ⟨v, a, bv b₀ b⟩
    | rng => exact e3
    | slc => obtain ⟨x, y, z, b, c, d, e⟩ := e3; obtain ⟨_, _, _, _, c₀, d₀, e₀⟩ := f3; exact ⟨x, y, z, b, bv c₀ c, bv d₀ d, bv e₀ e⟩
    | clo => obtain ⟨fd, a, b, c, d⟩ := e3; obtain ⟨_, _, _, c₀, _⟩ := f3; exact ⟨fd, a, b, bc c₀ c, d⟩
    | itL => obtain ⟨l, a, b⟩ := e3; obtain ⟨_, a₀, _⟩ := f3; exact ⟨l, back a₀ a, b⟩
    | itT => obtain ⟨l, a, b⟩ := e3; obtain ⟨_, a₀, _⟩ := f3; exact ⟨l, back a₀ a, b⟩
    | itR => exact e3
    | itE => obtain ⟨l, x, y, a, b⟩ := e3; obtain ⟨_, _, _, a₀, _⟩ := f3; exact ⟨l, x, y, back a₀ a, b⟩
    | itV => obtain ⟨l, a, b⟩ := e3; obtain ⟨_, a₀, _⟩ := f3; exact ⟨l, back a₀ a, b⟩
    | dead => trivial
    | raw => exact e3
    | cst xs p => obtain ⟨z, vs, n, b, c⟩ := e3; obtain ⟨_, _, _, _, c₀⟩ := f3; exact ⟨z, vs, n, b, bvs c₀ c⟩
theorem Nx.cut {ρ ρ' : List Addr} {s s' : Shared} (N : Nx g ρ ρ' s s') : Nx g ρ ρ s s' := ⟨List.prefix_refl _, fun _ h => .inl h, N.live, N.keep, N.bsn, N.cdm, N.gens, N.os, N.drawn⟩

/-- what a contract over some told things gives: a plain value -/
theorem lift_scg {d : Nat} {f : AV} {args₀ : List AV} {ix : List Nat} {H₀ H : AH} {K : Kv} {out : AV} (hnd : ix.Nodup) (hlen : H₀.length = ix.length)
    (hobj : ∀ i o, H₀[i]? = some o → isSeq o = true ∧ belowO ix.length o = true ∧ H[pk ix i]? = some (renO (pk ix) o)) (hf : isSc f = true) (ha : args₀.all (below ix.length) = true) (hout : isSc out = true)
    (h : CallOk g d f args₀ H₀ fun v H₁ => v = out ∧ H₁.take ix.length = H₀) (k : K out H) : CallOk g d f (args₀.map (ren (pk ix))) H K := by
  have h' : CallOk g d f (args₀.map (ren (pk ix))) H fun v H' => v = out ∧ ∃ X, H' = H ++ X := lift_gen hnd hlen hobj hf ha fun ρ s cf cargs A Q E hA D T rf r hQ =>
    h ρ s cf cargs A Q E hA D T rf r fun v H₁ cv s' ρ' hv rv N D' T' => hQ v H₁ cv s' ρ' ⟨hv.2, ⟨(by obtain ⟨rfl, _⟩ := hv; cases v <;> first | rfl | (cases hout)), _, rfl⟩⟩ rv N D' T'
  intro ρ s cf cargs A Q E hA D T rf r hQ
  refine h' ρ s cf cargs A Q E hA D T rf r fun v H' cv s' ρ' hv rv N D' T' => ?_
  obtain ⟨rfl, X, rfl⟩ := hv
  exact hQ _ _ _ _ ρ k (rv.sc hout) N.cut (D.cut N.pre D') T'
/-- a new list of plain values -/
theorem lift_lstg {d : Nat} {f : AV} {args₀ : List AV} {ix : List Nat} {H₀ H : AH} {K : Kv} {xs : List AV} (hnd : ix.Nodup) (hlen : H₀.length = ix.length)
    (hobj : ∀ i o, H₀[i]? = some o → isSeq o = true ∧ belowO ix.length o = true ∧ H[pk ix i]? = some (renO (pk ix) o)) (hf : isSc f = true) (ha : args₀.all (below ix.length) = true) (hout : xs.all isSc = true)
    (h : CallOk g d f args₀ H₀ fun v H₁ => (∃ n, v = .ref n ∧ ix.length ≤ n ∧ H₁[n]? = some (.lst xs)) ∧ H₁.take ix.length = H₀) (k : newW (.lst xs) H K) : CallOk g d f (args₀.map (ren (pk ix))) H K := by
  have hren : ∀ (f : Nat → Nat) {xs : List AV}, xs.all isSc = true → xs.map (ren f) = xs := fun f {xs} => by
    induction xs with
    | nil => exact fun _ => rfl
    | cons x xs ih =>
      intro hx
      rw [List.all_cons, Bool.and_eq_true] at hx
      rw [List.map_cons, ih hx.2]
      cases x <;> first | rfl | cases hx.1
  have h' : CallOk g d f (args₀.map (ren (pk ix))) H fun v H' => (∃ n, v = .ref n ∧ H.length ≤ n ∧ H'[n]? = some (.lst xs)) ∧ ∃ X, H' = H ++ X := lift_gen hnd hlen hobj hf ha fun ρ s cf cargs A Q E hA D T rf r hQ =>
    h ρ s cf cargs A Q E hA D T rf r fun v H₁ cv s' ρ' hv rv N D' T' => hQ v H₁ cv s' ρ' ⟨hv.2, by
      obtain ⟨⟨n, rfl, hn, e⟩, _⟩ := hv
      refine ⟨⟨pk' ix H.length n, rfl, ?_, ?_⟩, _, rfl⟩
      · unfold pk'; rw [if_neg (by omega)]; omega
      · unfold pk'
        rw [if_neg (by omega), List.getElem?_append_right (by omega), Nat.add_sub_cancel_left, List.getElem?_map, List.getElem?_drop, show ix.length + (n - ix.length) = n by omega, e]
        show some (AO.lst (xs.map _)) = _
        rw [hren _ hout]⟩ rv N D' T'
  intro ρ s cf cargs A Q E hA D T rf r hQ
  refine h' ρ s cf cargs A Q E hA D T rf r fun v H' cv s' ρ' hv rv N D' T' => ?_
  obtain ⟨⟨n, rfl, hge, hn⟩, X, rfl⟩ := hv
  obtain ⟨a, vs, z, rfl, e1, e2, e3⟩ := D'.lst hn rv
  have hna : a ∉ ρ := fun q => by
    obtain ⟨i, hi, e⟩ := List.mem_iff_getElem.mp q
    have e4 : ρ'[i]? = some a := prefix_get N.pre (by rw [List.getElem?_eq_getElem hi, e])
    have := (List.getElem?_inj (List.getElem?_eq_some_iff.mp e4).1 D'.nodup).mp (e4.trans e1.symm)
    have := D.len
    omega
  have hfresh : s.heap.get? a = none := (N.fresh a (List.mem_of_getElem? e1)).resolve_left hna
  have D₁ := D.cut N.pre D'
  have N₁ := N.cut
  refine hQ _ _ _ _ (ρ ++ [a]) k ⟨a, get_last D a, rfl⟩ ⟨List.prefix_append _ _, fun b hb => ?_, N₁.live, N₁.keep, N₁.bsn, N₁.cdm, N₁.gens, N₁.os, N₁.drawn⟩ ?_ T'
  · rcases List.mem_append.mp hb with q | q
    · exact .inl q
    · simp at q; subst q; exact .inr hfresh
  · exact D₁.tell hna (D'.off a (List.mem_of_getElem? e1)) e2 ⟨_, _, rfl, e3.sc hout⟩
end Py

end
section
open PySem PySem.W PyProof.Rows
set_option maxRecDepth 10000
set_option autoImplicit false
set_option linter.unusedVariables false
namespace Py
/-- part of a text, by places that are not below 0 -/
theorem slice_list (x : Str) (a b : Nat) : (Txt.slice x (some (a : Int)) (some (b : Int))).cps.toList = (x.cps.toList.drop a).take (b - a) := by
  have hl : x.length = x.cps.toList.length := by rw [Array.length_toList]; rfl
  have key : Builtin.Str.strSliceIndices (some (a : Int)) (some (b : Int)) 1 x.length = (List.range (min b x.length - min a x.length)).map fun k => min a x.length + k := by
    unfold Builtin.Str.strSliceIndices sliceRange
    simp only [show (1 : Int) > 0 by decide, if_true, if_neg (show ¬ ((a : Int) < 0) by omega), if_neg (show ¬ ((b : Int) < 0) by omega)]
    have e1 : max 0 (min (a : Int) (x.length : Int)) = ((min a x.length : Nat) : Int) := by omega
    have e2 : max 0 (min (b : Int) (x.length : Int)) = ((min b x.length : Nat) : Int) := by omega
    rw [e1, e2]
    have e3 : (if ((min a x.length : Nat) : Int) < ((min b x.length : Nat) : Int) then (((min b x.length : Nat) : Int) - ((min a x.length : Nat) : Int) + 1 - 1) / 1 else 0).toNat = min b x.length - min a x.length := by
      split
      · rw [Int.ediv_one]; omega
      · have : ¬ (min a x.length < min b x.length) := by omega
        show 0 = _
        omega
    rw [e3]
    refine List.map_congr_left fun k _ => ?_
    rw [Int.one_mul]; omega
  have htk : (x.cps.toList.drop (min a x.length)).take (min b x.length - min a x.length) = (x.cps.toList.drop a).take (b - a) := by
    rw [hl]
    generalize x.cps.toList = l
    by_cases h1 : a ≤ l.length
    · rw [Nat.min_eq_left h1]
      by_cases h2 : b ≤ l.length
      · rw [Nat.min_eq_left h2]
      · rw [Nat.min_eq_right (by omega), List.take_of_length_le (by rw [List.length_drop]; exact Nat.le_refl _), List.take_of_length_le (by rw [List.length_drop]; omega)]
    · rw [Nat.min_eq_right (by omega : l.length ≤ a), List.drop_of_length_le (Nat.le_refl _), List.drop_of_length_le (by omega), List.take_nil, List.take_nil]
  unfold Txt.slice
  rw [key]
  split
  · rename_i hc
    simp only [List.length_map, List.length_range] at hc
    have hc : min b x.length - min a x.length = x.length := by simpa using hc
    rw [← htk, hc]
    by_cases h0 : x.length = 0
    · have : x.cps.toList = [] := List.eq_nil_of_length_eq_zero (by rw [← hl]; exact h0)
      rw [this]; simp
    · rw [show min a x.length = 0 by omega, List.drop_zero, List.take_of_length_le (by rw [← hl]; exact Nat.le_refl _)]
  · show (List.filterMap (fun i => x.cps[i]?) _).toArray.toList = _
    rw [List.toList_toArray]
    have hg : (fun i : Nat => x.cps[i]?) = fun i => x.cps.toList[i]? := by funext i; simp
    rw [hg, StrLaws.picks _ _ _ (by rw [← hl]; omega), htk]
end Py

end
section
open PySem PySem.W PyProof.Rows
set_option maxRecDepth 10000
set_option autoImplicit false
set_option linter.unusedVariables false
namespace Py
variable {g : G}

theorem CR.unren {f : Nat → Nat} {k : Nat} {ρ ρ₀ : List Addr} (h : Unr f k ρ ρ₀) : ∀ {xs : List (Str × Nat)} {l : List (Str × Addr)}, xs.all (fun p => decide (p.2 < k)) = true → CR ρ (xs.map fun p => (p.1, f p.2)) l → CR ρ₀ xs l
  | [], _, _, r => r
  | _ :: _, _, hb, ⟨a, q, e, p, r⟩ => by
    rw [List.all_cons, Bool.and_eq_true] at hb
    exact ⟨a, q, e, h _ _ (of_decide_eq_true hb.1) p, r.unren h hb.2⟩
theorem OR.unrenA {f : Nat → Nat} {k : Nat} {ρ ρ₀ : List Addr} (h : Unr f k ρ ρ₀) {hp : Heap} {o : AO} {ob : Obj} (hb : belowO k o = true) (r : OR g ρ hp (renO f o) ob) : OR g ρ₀ hp o ob := by
  cases o with
  | tup xs => obtain ⟨vs, n, b, c⟩ := r; exact ⟨vs, n, b, c.unren h hb⟩
  | lst xs => obtain ⟨vs, n, b, c⟩ := r; exact ⟨vs, n, b, c.unren h hb⟩
  | cell v => cases v with
    | none => exact r
    | some x => obtain ⟨v, a, b⟩ := r; exact ⟨v, a, b.unren h hb⟩
  | rng => exact r
  | slc =>
    obtain ⟨x, y, z, b, c, d, e⟩ := r
    unfold belowO at hb
    rw [Bool.and_eq_true, Bool.and_eq_true] at hb
    exact ⟨x, y, z, b, c.unren h hb.1.1, d.unren h hb.1.2, e.unren h hb.2⟩
  | clo => obtain ⟨fd, a, b, c, d⟩ := r; exact ⟨fd, a, b, c.unren h hb, d⟩
  | itL => obtain ⟨l, a, b⟩ := r; exact ⟨l, h _ _ (of_decide_eq_true hb) a, b⟩
  | itT => obtain ⟨l, a, b⟩ := r; exact ⟨l, h _ _ (of_decide_eq_true hb) a, b⟩
  | itR => exact r
  | itE => obtain ⟨l, x, y, a, b⟩ := r; exact ⟨l, x, y, h _ _ (of_decide_eq_true hb) a, b⟩
  | itV => obtain ⟨l, a, b⟩ := r; exact ⟨l, h _ _ (of_decide_eq_true hb) a, b⟩
  | dead => trivial
  | raw => exact r
  | cst xs p => obtain ⟨a, vs, n, b, c⟩ := r; exact ⟨a, vs, n, b, c.unren h hb⟩

/-- some of the told things, told anew -/
noncomputable def FgP (T : Nat) (c : PC) (P : Lc → AH → Prop) (loc : Lc) (H : AH) : Prop :=
  ∃ (ix : List Nat) (loc' : Lc) (H' : AH), ix.Nodup ∧ H'.length = ix.length ∧ T ≤ ix.length ∧ (∀ i, i < T → pk ix i = i) ∧ (∀ i o, H'[i]? = some o → belowO ix.length o = true ∧ H[pk ix i]? = some (renO (pk ix) o)) ∧
    (∀ x v, loc'.lookup x = some v → below ix.length v = true ∧ loc.lookup x = some (ren (pk ix) v)) ∧ (∀ x i, c.cells.lookup x = some i → i < T) ∧ P loc' H'

theorem FgP.use {T : Nat} {c : PC} {P : Lc → AH → Prop} {loc : Lc} {H : AH} (h : FgP T c P loc H) {env : Env} {ρ ρ' : List Addr} {s s' : Shared} (F : FR g env c ρ' loc s'.heap) (D : HR g ρ' H s'.heap) (N : NxL g env.locals ρ ρ' s s') (hρ : ρ.length ≤ T) :
    ∃ loc' H' ρ'', P loc' H' ∧ FR g env c ρ'' loc' s'.heap ∧ HR g ρ'' H' s'.heap ∧ NxL g env.locals ρ ρ'' s s' ∧ ∀ i, i < T → ρ''[i]? = ρ'[i]? := by
  obtain ⟨ix, loc', H', hnd, hlen, hT, hid, hobj, hloc, hcl, hP⟩ := h
  have hix : ∀ i, i < ix.length → ∃ a, ρ'[pk ix i]? = some a := fun i hi => by
    obtain ⟨_, h3⟩ := hobj i _ (List.getElem?_eq_getElem (by omega))
    obtain ⟨a, ob, e, _⟩ := D.obj _ _ h3
    exact ⟨a, e⟩
  let ρ₀ : List Addr := ix.map fun i => (ρ'[i]?).getD 0
  have hρ₀ : ∀ i, i < ix.length → ρ₀[i]? = ρ'[pk ix i]? := fun i hi => by
    obtain ⟨a, e⟩ := hix i hi
    show (ix.map fun i => (ρ'[i]?).getD 0)[i]? = _
    rw [List.getElem?_map, List.getElem?_eq_getElem hi, ← pk_get hi, Option.map_some, e]; rfl
  have hU : Unr (pk ix) ix.length ρ' ρ₀ := fun i a hi e => by rw [hρ₀ i hi]; exact e
  have hl₀ : ρ₀.length = ix.length := List.length_map _
  have hsub : ∀ b ∈ ρ₀, b ∈ ρ' := fun b hb => by
    obtain ⟨i, hi, rfl⟩ := List.mem_iff_getElem.mp hb
    have := hρ₀ i (by omega)
    rw [List.getElem?_eq_getElem hi] at this
    exact List.mem_of_getElem? this.symm
  have hnd₀ : ρ₀.Nodup := by
    show List.Pairwise _ _
    rw [List.pairwise_iff_getElem]
    intro i j hi hj hij e
    have e : ρ₀[i]? = ρ₀[j]? := by rw [List.getElem?_eq_getElem hi, List.getElem?_eq_getElem hj, e]
    rw [hρ₀ i (by omega), hρ₀ j (by omega)] at e
    obtain ⟨a, ea⟩ := hix i (by omega)
    have h1 : pk ix i = pk ix j := (List.getElem?_inj (List.getElem?_eq_some_iff.mp ea).1 D.nodup).mp (e)
    rw [pk_get (by omega), pk_get (by omega)] at h1
    have : i = j := (List.getElem?_inj (show i < ix.length by omega) hnd).mp (by rw [List.getElem?_eq_getElem (by omega), List.getElem?_eq_getElem (by omega), h1])
    omega
  have hT' : ∀ i, i < T → ρ₀[i]? = ρ'[i]? := fun i hi => by rw [hρ₀ i (by omega), hid i hi]
  refine ⟨loc', H', ρ₀, hP, ?_, ?_, ?_, hT'⟩
  · obtain ⟨m, hn, hm⟩ := F.ns
    refine ⟨F.sc, F.kd, F.gl, F.bl, fun q => F.off (hsub _ q), F.nbs, F.ntb, F.cd, F.qn, ⟨m, hn, fun x v e => ?_⟩, fun x i e => ?_⟩
    · obtain ⟨h1, h2⟩ := hloc x v e
      obtain ⟨cv, h3, h4⟩ := hm x _ h2
      exact ⟨cv, h3, h4.unren hU h1⟩
    · obtain ⟨a, h1, h2⟩ := F.cl x i e
      exact ⟨a, h1, by rw [hT' i (hcl x i e)]; exact h2⟩
  · refine ⟨D.base, by omega, hnd₀, fun b hb => D.off b (hsub b hb), fun i o e => ?_⟩
    have hi : i < ix.length := by have := (List.getElem?_eq_some_iff.mp e).1; omega
    obtain ⟨h1, h3⟩ := hobj i o e
    obtain ⟨a, ob, f1, f2, f3⟩ := D.obj _ _ h3
    exact ⟨a, ob, by rw [hρ₀ i hi]; exact f1, f2, f3.unrenA hU h1⟩
  · refine ⟨?_, fun a ha => N.fresh a (hsub a ha), N.live, N.keep, N.bsn, N.cdm, N.gens, N.os, N.drawn⟩
    have e : ρ = ρ₀.take ρ.length := by
      apply List.ext_getElem?
      intro i
      by_cases hi : i < ρ.length
      · rw [List.getElem?_take_of_lt hi, hT' i (by omega), List.getElem?_eq_getElem hi]
        exact (prefix_get N.pre (List.getElem?_eq_getElem hi)).symm
      · rw [List.getElem?_eq_none (by omega), List.getElem?_eq_none (by rw [List.length_take]; omega)]
    rw [e]
    exact List.take_prefix _ _

theorem loop_soundP {d : Nat} {c : PC} (C : COk g d c) {n : Nat} {tgt : PySem.Expr} {body : List Stmt} {m T : Nat} {K : Fl → Lc → AH → Prop} (I : Nat → Lc → AH → Prop)
    (turn : ∀ k loc H, I k loc H → nextW m H fun o H => match o with
      | none => FgP T c (fun loc H => K .next loc H) loc H
      | some v => awa n c loc tgt v H fun loc H => aws n c loc body H fun f loc H => match f with
        | .next => FgP T c (fun loc H => ∃ j, j < k ∧ I j loc H) loc H
        | .cont => FgP T c (fun loc H => ∃ j, j < k ∧ I j loc H) loc H
        | .brk => FgP T c (fun loc H => K .next loc H) loc H
        | .ret v => K (.ret v) loc H)
    {loc : Lc} {H : AH} {k : Nat} (h : I k loc H) {env : Env} {ρ₀ ρ : List Addr} {s₀ s : Shared} {A : Around} {R : Result → Shared → Prop} {a : Addr} (hA : AOk d A) (N₀ : NxL g env.locals ρ₀ ρ s₀ s) (hρ : ρ₀.length ≤ T) (hm : m < T) (F : FR g env c ρ loc s.heap) (D : HR g ρ H s.heap) (hT : 1 ≤ s.toks) (ha : ρ[m]? = some a)
    (hQ : PostF g env c ρ₀ s₀ K (fun f s' => R (.ok f) s')) : codeAny (model g.prog g.w) A (.forLoop tgt (.ref a) body [] env) R s := by
  have S := sound (g := g) n C
  refine codeAny_forLoop_any (fun k s' => ∃ loc' H' ρ', I k loc' H' ∧ NxL g env.locals ρ₀ ρ' s₀ s' ∧ ρ'[m]? = some a ∧ FR g env c ρ' loc' s'.heap ∧ HR g ρ' H' s'.heap ∧ 1 ≤ s'.toks) (fun k s₁ hI => ?_) k ⟨loc, H, ρ, h, N₀, ha, F, D, hT⟩
  obtain ⟨loc₁, H₁, ρ₁, h₁, N₁, ha₁, F₁, D₁, T₁⟩ := hI
  refine nextW_sound (turn k loc₁ H₁ h₁) hA.hd D₁ T₁ ha₁ (fun H₂ s₂ k₂ N₂ D₂ T₂ => ?_) fun v H₂ cv s₂ k₂ r N₂ D₂ T₂ hcls => ?_
  · obtain ⟨loc', H', ρ'', p, F', D', N', _⟩ := k₂.use (F₁.nx N₂) D₂ (N₁.trans N₂.l) hρ
    exact wpAny_execs_nil (hQ _ _ _ _ _ _ p .next N' F' D' T₂)
  · refine go_sound (D₂.has (List.mem_of_getElem? ha₁)) hcls ?_
    refine S.a _ _ _ _ _ k₂ env ρ₁ s₂ A cv _ _ hA (F₁.nx N₂) D₂ T₂ r fun loc₃ H₃ s₃ ρ₃ k₃ N₃ F₃ D₃ T₃ => ?_
    refine S.s _ _ _ _ k₃ env ρ₃ s₃ A _ _ hA F₃ D₃ T₃ fun f loc₄ H₄ cf s₄ ρ₄ k₄ rf N₄ F₄ D₄ T₄ => ?_
    have N := ((N₁.trans N₂.l).trans N₃).trans N₄
    have ha₄ : ρ₄[m]? = some a := prefix_get (N₃.pre.trans N₄.pre) ha₁
    have again : FgP T c (fun loc H => ∃ j, j < k ∧ I j loc H) loc₄ H₄ → ∃ j, j < k ∧ ∃ loc' H' ρ', I j loc' H' ∧ NxL g env.locals ρ₀ ρ' s₀ s₄ ∧ ρ'[m]? = some a ∧ FR g env c ρ' loc' s₄.heap ∧ HR g ρ' H' s₄.heap ∧ 1 ≤ s₄.toks := by
      intro q
      obtain ⟨loc', H', ρ'', ⟨j, hj, hI⟩, F', D', N', hid⟩ := q.use F₄ D₄ N hρ
      exact ⟨j, hj, loc', H', ρ'', hI, N', by rw [hid m hm]; exact ha₄, F', D', T₄⟩
    cases rf with
    | next => exact again k₄
    | cont => exact again k₄
    | brk =>
      obtain ⟨loc', H', ρ'', p, F', D', N', _⟩ := k₄.use F₄ D₄ N hρ
      exact hQ _ _ _ _ _ _ p .next N' F' D' T₄
    | ret rv => exact hQ _ _ _ _ _ _ k₄ (.ret rv) N F₄ D₄ T₄

theorem for_hookP {d : Nat} {c : PC} (C : COk g d c) {n : Nat} {tgt it : PySem.Expr} {body : List Stmt} {pos : Pos} {m T : Nat} {loc : Lc} {H : AH} {K : Fl → Lc → AH → Prop} (I : Nat → Lc → AH → Prop) (hset : isSetD it = false) (hHT : H.length ≤ T) (hm : m < T)
    (h : awe n c loc it H fun v H => iterW v H fun m' H => m' = m ∧ FgP T c (fun loc H => ∃ k, I k loc H) loc H)
    (turn : ∀ k loc H, I k loc H → nextW m H fun o H => match o with
      | none => FgP T c (fun loc H => K .next loc H) loc H
      | some v => awa n c loc tgt v H fun loc H => aws n c loc body H fun f loc H => match f with
        | .next => FgP T c (fun loc H => ∃ j, j < k ∧ I j loc H) loc H
        | .cont => FgP T c (fun loc H => ∃ j, j < k ∧ I j loc H) loc H
        | .brk => FgP T c (fun loc H => K .next loc H) loc H
        | .ret v => K (.ret v) loc H) : HkOk g d c loc (.For tgt it body [] pos) H K := by
  intro env ρ s A Q E hA F D hT hQ
  refine wpAny_For ((sound (g := g) n C).e _ _ _ _ h env ρ s A _ E hA F D hT fun v H₁ cv s₁ ρ₁ k₁ r N D₁ T₁ => ?_) (isSetD_folded hset env)
  refine iterW_sound k₁ D₁ T₁ r fun m' H₂ a s₂ ρ₂ k₂ ha N₂ D₂ T₂ => ?_
  obtain ⟨rfl, k₂⟩ := k₂
  have N' := N.trans N₂
  obtain ⟨loc', H', ρ'', ⟨k, hI⟩, F', D', N'', hid⟩ := k₂.use (F.nx N') D₂ N'.l (by rw [D.len]; exact hHT)
  exact loop_soundP C I turn hI hA N'' (by rw [D.len]; exact hHT) hm F' D' T₂ (by rw [hid _ hm]; exact ha) hQ
end Py

end
section
open PySem PySem.W PyProof.Rows
set_option maxRecDepth 10000
set_option autoImplicit false
set_option linter.unusedVariables false
namespace Py
variable {g : G}

/-- the same from no frame at all, by statements in a known frame -/
theorem lx_cells {d : Nat} {c : PC} {fd : FuncData} {body : List Stmt} {ps cn : List Str} {args : List AV} {H : AH} {K : Kv} (I : IsFn fd body c.scope ps c.qn) (hcdv : fd.code = c.cd) (hlim : ∀ h, g.B h → h.NoLimit)
    (hcn : ∀ m, cellsFrom m c.scope.names [] = cellIx m cn) (hcnd : cn.Nodup) (hcells : c.cells = cellIx H.length cn) (hck : ∀ x ∈ cn, c.scope.names.lookup x = some .cell)
    (hps : ∀ x ∈ ps, c.scope.names.lookup x = some .local ∨ x ∈ cn) (hlen : args.length = ps.length)
    (h : LxOk g [] d c (locsOf c.scope (ps.zip args)) body (H ++ cellOs (ps.zip args) cn) (endW K)) {ρ : List Addr} {s : Shared} {a : Addr} {cargs : List Value} {A : Around} {Q E : Value → Shared → Prop} (hA : AOk (d + 1) A) (hfr : A.frames = some []) (D : HR g ρ H s.heap) (T : 1 ≤ s.toks)
    (ho : ∃ o, s.heap.get? a = some o ∧ o.data = .func fd) (hcd : s.heap.CodeRec fd.code fd.qualname) (hclo : fd.closure = [])
    (r : VRs ρ args cargs) (hQ : PostV g ρ s K Q) : wpAny (model g.prog g.w) A (call (.ref a) cargs) Q E s := by
  obtain ⟨o, ho, hdat⟩ := ho
  have hl := r.length
  have hlk : ∀ m x, x ∈ cn → ∃ j, cn[j]? = some x ∧ (cellIx m cn).lookup x = some (m + j) := fun m x hx => by
    rw [cellIx_lookup hcnd]
    cases e : cn.findIdx? (· == x) with
    | none => rw [List.findIdx?_eq_none_iff] at e; have := e x hx; simp at this
    | some j =>
      obtain ⟨h1, h2, _⟩ := List.findIdx?_eq_some_iff_getElem.mp e
      exact ⟨j, by rw [List.getElem?_eq_getElem h1]; simpa using h2, rfl⟩
  have hbind : bindArgs fd ⟨cargs, []⟩ = pure (ps.zip cargs) := I.bind _ (by rw [hl, hlen])
  refine wpAny_call (codeAny_call_function (by have := hA.dp; omega) ho hdat (by rw [I.scp]; exact I.co) (by rw [I.scp]; exact I.gen) I.body hcd ?_)
  rw [hbind, hclo]
  refine wpAny_pure (wpAny_with_toks T (wpAny_newFunctionEnv_cells (by rw [I.scp]; exact I.kd) (fun x hx => ?_) fun env he s₁ X T₁ => ?_))
  · rw [I.scp]
    rcases hps _ (List.of_mem_zip hx).1 with q | q
    · exact .inl q
    · refine .inr ⟨hck _ q, ?_⟩
      obtain ⟨j, _, e⟩ := hlk (s.heap.objs.size + 1) _ q
      rw [hcn, e]; rfl
  subst he
  refine ⟨(hlim _ D.base).keeps X.toInCall.keep, codeAny_func ?_⟩
  have X : InCallC s (callEnvC fd s.heap.objs.size a).locals (bindL (callEnvC fd s.heap.objs.size a).kindOf (ps.zip cargs) fun _ => none) (callEnvC fd s.heap.objs.size a).cells (bindC (callEnvC fd s.heap.objs.size a).kindOf (ps.zip cargs) fun _ => none) s₁ := X
  have hscp : (callEnvC fd s.heap.objs.size a).scope = c.scope := I.scp
  have hkind : ∀ x, (callEnvC fd s.heap.objs.size a).kindOf x = c.scope.names.lookup x := fun x => by unfold Env.kindOf; rw [hscp]
  have hcs : (callEnvC fd s.heap.objs.size a).cells = cellIx (s.heap.objs.size + 1) cn := by
    show cellsFrom (s.heap.objs.size + 1) fd.scope.names [] = _
    rw [I.scp, hcn]
  have hL : (callEnvC fd s.heap.objs.size a).locals = s.heap.objs.size := rfl
  have hnone : s.heap.get? s.heap.objs.size = none := get_size _
  obtain ⟨hb, tk, rfl⟩ := X.toInCall.same
  have hk := X.toInCall.keep
  -- the cells' addresses
  have has : ∀ j, s.heap.get? (s.heap.objs.size + 1 + j) = none := fun j => by
    cases e : s.heap.get? (s.heap.objs.size + 1 + j) with
    | none => rfl
    | some o => exact absurd (Heap.lt_size e) (Nat.not_lt.mpr (Nat.le_trans (Nat.le_succ _) (Nat.le_add_right _ j)))
  have hnc : ∀ a ∈ (List.range cn.length).map (s.heap.objs.size + 1 + ·), s.heap.get? a = none := fun a ha => by
    obtain ⟨j, _, rfl⟩ := List.mem_map.mp ha; exact has j
  have N₀ : Nx g ρ (ρ ++ (List.range cn.length).map (s.heap.objs.size + 1 + ·)) s { s with heap := hb, toks := tk } := Nx.adds D hnc hk
  have D₀ : HR g (ρ ++ (List.range cn.length).map (s.heap.objs.size + 1 + ·)) (H ++ cellOs (ps.zip args) cn) hb := by
    refine D.adds hk hnc ?_ (by simp [cellOs]) fun j o' e => ?_
    · rw [List.nodup_iff_pairwise_ne, List.pairwise_map]
      exact (List.nodup_iff_pairwise_ne.mp List.nodup_range).imp fun hne e => hne (by simpa using e)
    · unfold cellOs at e
      rw [List.getElem?_map] at e
      cases ex : cn[j]? with
      | none => rw [ex] at e; cases e
      | some x =>
        rw [ex] at e; cases e
        have hjl := (List.getElem?_eq_some_iff.mp ex).1
        have hx : x ∈ cn := List.mem_of_getElem? ex
        obtain ⟨j', e1, e2⟩ := hlk (s.heap.objs.size + 1) x hx
        have : j' = j := (List.getElem?_inj (List.getElem?_eq_some_iff.mp e1).1 hcnd).mp (e1.trans ex.symm)
        subst this
        obtain ⟨ob, h1, h2⟩ := X.cell x (s.heap.objs.size + 1 + j') (show (callEnvC fd s.heap.objs.size a).cells.lookup x = _ by rw [hcs]; exact e2)
        rw [bindC_lookup (by rw [hkind, hck x hx]; decide), lookup_rev I.nd] at h2
        refine ⟨s.heap.objs.size + 1 + j', ob, by simp [hjl], h1, ?_⟩
        cases ea : (ps.zip args).lookup x with
        | none =>
          rw [zip_lookup_none r ea] at h2
          show OR g _ _ (.cell ((ps.zip args).lookup x)) ob
          rw [ea]
          exact h2
        | some v =>
          obtain ⟨cv, q1, q2⟩ := zip_lookup r ea
          rw [q1] at h2
          show OR g _ _ (.cell ((ps.zip args).lookup x)) ob
          rw [ea]
          exact ⟨cv, h2, q2.mono (List.prefix_append _ _)⟩
  have F : FR g (callEnvC fd s.heap.objs.size a) c (ρ ++ (List.range cn.length).map (s.heap.objs.size + 1 + ·)) (locsOf c.scope (ps.zip args)) hb := by
    refine ⟨hscp, I.kd, I.gl, I.bl, fun q => ?_, fun q => ?_, fun q => ?_, hcdv, I.qn, ⟨_, X.toInCall.ns, fun x v e => ?_⟩, fun x i e => ?_⟩
    · rcases List.mem_append.mp q with q | q
      · exact D.top q
      · obtain ⟨j, _, e⟩ := List.mem_map.mp q
        have : s.heap.objs.size + 1 + j = s.heap.objs.size := e
        omega
    · obtain ⟨o, e⟩ := g.lt _ _ D.base ((g.keep _ _ D.base fun b o _ e => hk b o e).2.1 _ q)
      cases hnone.symm.trans e
    · obtain ⟨o, e⟩ := g.lt _ _ D.base (g.tbb _ _ D.base q)
      cases hnone.symm.trans e
    · obtain ⟨h1, h2⟩ := filter_lookup (fun _ _ _ => rfl) e
      have h2 : c.scope.names.lookup x = some .local := by simpa using h2
      obtain ⟨cv, q1, q2⟩ := zip_lookup r h1
      refine ⟨cv, ?_, q2.mono (List.prefix_append _ _)⟩
      rw [bindL_lookup (by rw [hkind, h2]), lookup_rev I.nd, q1]; rfl
    · rw [hcells] at e
      have hx : x ∈ cn := by
        rw [cellIx_lookup hcnd] at e
        cases ef : cn.findIdx? (· == x) with
        | none => rw [ef] at e; cases e
        | some j =>
          obtain ⟨h1, h2, _⟩ := List.findIdx?_eq_some_iff_getElem.mp ef
          have : cn[j] = x := by simpa using h2
          exact this ▸ List.getElem_mem h1
      obtain ⟨j, e1, e2⟩ := hlk H.length x hx
      obtain ⟨j', e1', e2'⟩ := hlk (s.heap.objs.size + 1) x hx
      have : j' = j := (List.getElem?_inj (List.getElem?_eq_some_iff.mp e1').1 hcnd).mp (e1'.trans e1.symm)
      subst this
      rw [e2] at e; cases e
      refine ⟨_, by rw [hcs]; exact e2', ?_⟩
      rw [List.getElem?_append_right (by rw [D.len]; omega), D.len]
      have := (List.getElem?_eq_some_iff.mp e1).1
      simp [this]
  refine h _ _ _ _ _ _ (hA.deeper _) (by show A.frames.map _ = _; rw [hfr]; rfl) rfl F D₀ T₁ fun f loc' H' cf s' ρ' k rf N F' D' T' => ?_
  have N' : Nx g ρ ρ' s s' := Nx.of_l N₀ N hnone
  cases rf with
  | next => exact hQ _ _ _ _ _ k rfl N' D' T'
  | brk => exact k.elim
  | cont => exact k.elim
  | ret rv => exact hQ _ _ _ _ _ k rv N' D' T'
end Py

end
section
open PySem PySem.W PyProof.Rows Py
set_option maxRecDepth 100000
set_option autoImplicit false
set_option linter.unusedVariables false
namespace L1
noncomputable abbrev P : Program := PySem.Challenge.pw_rw0065_01
noncomputable def bd (i : Nat) : List Stmt := match P.main.body[i]? with
  | some (.FunctionDef _ _ b ..) => b
  | _ => []
noncomputable def sc (i : Nat) : Scope := match P.main.body[i]? with
  | some (.FunctionDef _ _ _ _ _ _ s ..) => s
  | _ => ⟨.module, [], false, false, []⟩
noncomputable def nm (i : Nat) : Str := match P.main.body[i]? with
  | some (.FunctionDef n ..) => n
  | _ => ""
noncomputable def pa (i : Nat) : Arguments := match P.main.body[i]? with
  | some (.FunctionDef _ a ..) => a
  | _ => ⟨[], [], none, [], [], none, []⟩
noncomputable def ps (i : Nat) : List Str := (pa i).args.map (·.arg)

noncomputable def gls : List (Str × AV) := [("max", .bi .max), ("min", .bi .min), ("int", .ty .int), ("len", .bi .len), ("range", .ty .range), ("sum", .bi .sum), ("sorted", .bi .sorted), ("divmod", .bi .divmod),
  ("tuple", .ty .tuple), ("enumerate", .ty .enumerate), ("reversed", .ty .reversed), ("_DIV_LIMIT", .int 4000),
  ("rgb_to_hsv", .fn 21), ("hsv_to_rgb", .fn 28), ("_div2n1n", .fn 35), ("_int2digits", .fn 49), ("_digits2int", .fn 56), ("_divmod_pos", .fn 63), ("int_divmod", .fn 70),
  ("_escape_attrib", .fn 84), ("_law_table", .fn 91), ("_law_divided", .fn 98), ("_law_walk", .fn 103), ("_law_spelled", .fn 110), ("_law_read", .fn 117)]
noncomputable def fnl : List Addr := [21, 28, 35, 49, 56, 63, 70, 84, 91, 98, 103, 110, 117]
noncomputable def pc (i a : Nat) (sites : List (Nat × Option Bool)) (sp : AV → List AV → AH → Kv → Prop) : PC :=
  { scope := sc i, cells := [], sites := sites, fns := fnl, gl := fun x => gls.lookup x, sp := sp, hk := fun _ => none, cd := .ref (a - 1), qn := nm i ++ (".<locals>." : Str) }

/-- the tables of the two defs that make a def -/
noncomputable def tabs : List Tab := [⟨48, 44, #[], 73, 4, "_int2digits.<locals>.inner"⟩, ⟨55, 51, #[], 88, 4, "_digits2int.<locals>.inner"⟩]
end L1

end
section
open PySem PySem.W PyProof.Rows Py
set_option maxRecDepth 100000
set_option autoImplicit false
set_option linter.unusedVariables false
namespace L1
variable {g : G}

noncomputable def fnp : List (Nat × Addr) := [(1, 21), (2, 28), (5, 35), (7, 49), (8, 56), (9, 63), (10, 70), (13, 84), (15, 91), (16, 98), (17, 103), (18, 110), (19, 117), (20, 122)]
structure Facts (h : Heap) : Prop where
  ns : ∃ mg mb, h.Ns mainGlobals mg ∧ h.Ns builtinsNs mb ∧ ∀ x v, gls.lookup x = some v → ∃ cv, VR [] v cv ∧ (mg x = some cv ∨ (mg x = none ∧ mb x = some cv))
  fn : ∀ p ∈ fnp, FnAt h p.2 (bd p.1) (sc p.1) (ps p.1) (nm p.1 ++ (".<locals>." : Str)) (.ref (p.2 - 1))
  lim : h.NoLimit
  bo : BuiltinsOk h

noncomputable def namesOk (s : Scope) : Bool := s.names.all fun x => x.1 != ("__debug__" : Str) && x.1 != ("__classdict__" : Str)
theorem lookup_mem {α : Type} : ∀ {l : List (Str × α)} {x : Str} {v : α}, l.lookup x = some v → (x, v) ∈ l
  | [], _, _, h => by simp at h
  | (y, w) :: r, x, v, h => by
    rw [List.lookup_cons] at h
    cases hx : x == y with
    | true =>
      rw [hx] at h; cases h
      have : x = y := by simpa using hx
      subst this; exact List.mem_cons_self
    | false => rw [hx] at h; exact List.mem_cons_of_mem _ (lookup_mem h)

theorem mkC {d : Nat} (hF : ∀ h, g.B h → Facts h) {c : PC} (hsp : ∀ f args H K, c.sp f args H K → CallOk g d f args H K) (hgl : c.gl = fun x => gls.lookup x) (hfn : c.fns = fnl) (hnm : namesOk c.scope = true)
    (hhk : ∀ n f st loc H K, c.hk n = some f → f st loc H K → HkOk g d c loc st H K) : COk g d c where
  sp := hsp
  gl := fun h hb => by rw [hgl]; exact (hF h hb).ns
  nd := fun x k hx => by
    have := List.all_eq_true.mp hnm _ (lookup_mem hx)
    simpa using this
  hk := hhk
  kf := fun h a hb ha => by
    rw [hfn] at ha
    have : ∀ a ∈ fnl, a ∈ fnp.map (·.2) := by decide
    obtain ⟨p, hp, rfl⟩ := List.mem_map.mp (this a (by simpa using ha))
    obtain ⟨o, fd, h1, h2, _⟩ := (hF h hb).fn _ hp
    exact ⟨o, fd, h1, h2⟩

theorem mono {d d' : Nat} (h : d ≤ d') {f : AV} {args : List AV} {H : AH} {K : Kv} (c : CallOk g d f args H K) : CallOk g d' f args H K :=
  fun ρ s cf cargs A Q E hA => c ρ s cf cargs A Q E ⟨hA.hd, by have := hA.dp; omega, by have := hA.un; omega⟩

/-- a def without cells, of scalars, giving a tuple of scalars -/
theorem tup_of {d : Nat} (hF : ∀ h, g.B h → Facts h) {i : Nat} {a : Addr} (hia : (i, a) ∈ fnp) {sites : List (Nat × Option Bool)} {sp : AV → List AV → AH → Kv → Prop} (hsp : ∀ f args H K, sp f args H K → CallOk g d f args H K) (hnm : namesOk (sc i) = true)
    (hnc : (sc i).names.all (fun x => x.2 != .cell) = true) (hps : (ps i).all (fun x => (sc i).names.lookup x == some .local) = true) {args xs : List AV} (hlen : args.length = (ps i).length) (hx : xs.all isSc = true) (ha : args.all isSc = true) (n : Nat)
    (h : ∀ K : Kv, K (.ref 0) [.tup xs] → aws n (pc i a sites sp) ((ps i).zip args) (bd i) [] (endW K)) {H : AH} {K : Kv} (k : newW (.tup xs) H K) : CallOk g (d + 1) (.fn a) args H K := by
  have C : COk g d (pc i a sites sp) := mkC hF hsp rfl rfl hnm (fun _ _ _ _ _ _ e => nomatch e)
  refine lift_tup hx rfl ha ?_ k
  exact fn_call C (fun h hb => (hF h hb).fn _ hia) (fun h hb => (hF h hb).lim) rfl hnc hps hlen (h _ ⟨0, rfl, rfl⟩)

noncomputable def rgbTab : List ((UInt64 × UInt64 × UInt64) × List AV) := [
  ((4593671619917905920, 4598175219545276416, 4603804719079489536), [.flt 4603804719079489536, .flt 4605380978949069210, .flt 4603804719079489536]),
  ((4593671619917905920, 4603804719079489536, 4598175219545276416), [.flt 4600427019358961664, .flt 4605380978949069210, .flt 4603804719079489536]),
  ((4598175219545276416, 4593671619917905920, 4603804719079489536), [.flt 4604555319017384619, .flt 4605380978949069210, .flt 4603804719079489536]),
  ((4598175219545276416, 4603804719079489536, 4593671619917905920), [.flt 4598925819483171499, .flt 4605380978949069210, .flt 4603804719079489536]),
  ((4603804719079489536, 4593671619917905920, 4598175219545276416), [.flt 4606807118831069867, .flt 4605380978949069210, .flt 4603804719079489536]),
  ((4603804719079489536, 4598175219545276416, 4593671619917905920), [.flt 4586165620538955093, .flt 4605380978949069210, .flt 4603804719079489536]),
  ((4598175219545276416, 4598175219545276416, 4598175219545276416), [.flt 0, .flt 0, .flt 4598175219545276416])]

theorem rgb_K (K : Kv) : ∀ p ∈ rgbTab, K (.ref 0) [.tup p.2] → aws 60 (pc 1 21 [] stdW) ((ps 1).zip [.flt p.1.1, .flt p.1.2.1, .flt p.1.2.2]) (bd 1) [] (endW K) := by
  intro p hp h
  simp only [rgbTab, List.mem_cons, List.not_mem_nil, or_false] at hp
  have key : ∀ p : (UInt64 × UInt64 × UInt64) × List AV, aws 60 (pc 1 21 [] stdW) ((ps 1).zip [.flt p.1.1, .flt p.1.2.1, .flt p.1.2.2]) (bd 1) [] (endW K) = K (.ref 0) [.tup p.2] → K (.ref 0) [.tup p.2] → aws 60 (pc 1 21 [] stdW) ((ps 1).zip [.flt p.1.1, .flt p.1.2.1, .flt p.1.2.2]) (bd 1) [] (endW K) := fun p e h => e.mpr h
  rcases hp with rfl | rfl | rfl | rfl | rfl | rfl | rfl <;> exact key _ (by kernel_rfl) h

noncomputable def hsvTab : List ((UInt64 × UInt64 × UInt64) × List AV) := [
  ((4586165620538955093, 4605380978949069210, 4603804719079489536), [.flt 4603804719079489536, .flt 4598175219545276414, .flt 4593671619917905918]),
  ((4598925819483171499, 4605380978949069210, 4603804719079489536), [.flt 4598175219545276414, .flt 4603804719079489536, .flt 4593671619917905918]),
  ((4600427019358961664, 4605380978949069210, 4603804719079489536), [.flt 4593671619917905918, .flt 4603804719079489536, .flt 4598175219545276414]),
  ((4603804719079489536, 4605380978949069210, 4603804719079489536), [.flt 4593671619917905918, .flt 4598175219545276414, .flt 4603804719079489536]),
  ((4604555319017384619, 4605380978949069210, 4603804719079489536), [.flt 4598175219545276414, .flt 4593671619917905918, .flt 4603804719079489536]),
  ((4606807118831069867, 4605380978949069210, 4603804719079489536), [.flt 4603804719079489536, .flt 4593671619917905918, .flt 4598175219545276414]),
  ((0, 0, 4598175219545276416), [.flt 4598175219545276416, .flt 4598175219545276416, .flt 4598175219545276416])]

theorem hsv_K (K : Kv) : ∀ p ∈ hsvTab, K (.ref 0) [.tup p.2] → aws 60 (pc 2 28 [] stdW) ((ps 2).zip [.flt p.1.1, .flt p.1.2.1, .flt p.1.2.2]) (bd 2) [] (endW K) := by
  intro p hp h
  simp only [hsvTab, List.mem_cons, List.not_mem_nil, or_false] at hp
  have key : ∀ p : (UInt64 × UInt64 × UInt64) × List AV, aws 60 (pc 2 28 [] stdW) ((ps 2).zip [.flt p.1.1, .flt p.1.2.1, .flt p.1.2.2]) (bd 2) [] (endW K) = K (.ref 0) [.tup p.2] → K (.ref 0) [.tup p.2] → aws 60 (pc 2 28 [] stdW) ((ps 2).zip [.flt p.1.1, .flt p.1.2.1, .flt p.1.2.2]) (bd 2) [] (endW K) := fun p e h => e.mpr h
  have key6 : ∀ p : (UInt64 × UInt64 × UInt64) × List AV, aws 60 (pc 2 28 [] stdW) ((ps 2).zip [.flt p.1.1, .flt p.1.2.1, .flt p.1.2.2]) (bd 2) [] (endW K) = ((6 : Int) ≠ 0 ∧ K (.ref 0) [.tup p.2]) → K (.ref 0) [.tup p.2] → aws 60 (pc 2 28 [] stdW) ((ps 2).zip [.flt p.1.1, .flt p.1.2.1, .flt p.1.2.2]) (bd 2) [] (endW K) := fun p e h => e.mpr ⟨by decide, h⟩
  rcases hp with rfl | rfl | rfl | rfl | rfl | rfl | rfl
  · exact key6 _ (by kernel_rfl) h
  · exact key6 _ (by kernel_rfl) h
  · exact key6 _ (by kernel_rfl) h
  · exact key6 _ (by kernel_rfl) h
  · exact key6 _ (by kernel_rfl) h
  · exact key6 _ (by kernel_rfl) h
  · exact key _ (by kernel_rfl) h

theorem rgb_call {d : Nat} (hF : ∀ h, g.B h → Facts h) {p : (UInt64 × UInt64 × UInt64) × List AV} (hp : p ∈ rgbTab) {H : AH} {K : Kv} (k : newW (.tup p.2) H K) : CallOk g (d + 1) (.fn 21) [.flt p.1.1, .flt p.1.2.1, .flt p.1.2.2] H K :=
  tup_of hF (by decide) (fun f args H K => std_sound) (by decide +kernel) (by decide +kernel) (by decide +kernel) rfl
    (by have : ∀ p ∈ rgbTab, p.2.all isSc = true := by decide +kernel
        exact this p hp) rfl 60 (fun K => rgb_K K p hp) k
theorem hsv_call {d : Nat} (hF : ∀ h, g.B h → Facts h) {p : (UInt64 × UInt64 × UInt64) × List AV} (hp : p ∈ hsvTab) {H : AH} {K : Kv} (k : newW (.tup p.2) H K) : CallOk g (d + 1) (.fn 28) [.flt p.1.1, .flt p.1.2.1, .flt p.1.2.2] H K :=
  tup_of hF (by decide) (fun f args H K => std_sound) (by decide +kernel) (by decide +kernel) (by decide +kernel) rfl
    (by have : ∀ p ∈ hsvTab, p.2.all isSc = true := by decide +kernel
        exact this p hp) rfl 60 (fun K => hsv_K K p hp) k
end L1

end
section
open PySem PySem.W PyProof.Rows Py
set_option maxRecDepth 100000
set_option autoImplicit false
set_option linter.unusedVariables false
namespace L1
variable {g : G}

theorem d2_K (a b n : Int) (K : Kv) : aws 60 (pc 5 35 [(45, some true)] stdW) ((ps 5).zip [.int a, .int b, .int n]) (bd 5) [] (endW K) = (decide ((Builtin.Int.intBits a : Int) - n ≤ 4000) = true ∧ ((b ≠ 0 ∧ Builtin.divisionGoesByPylong a b = false) ∧ K (.ref 0) [.tup [.int (a.fdiv b), .int (a.fmod b)]])) := by
  kernel_rfl
theorem d2_call {d : Nat} (hF : ∀ h, g.B h → Facts h) {a b n : Int} (h1 : (Builtin.Int.intBits a : Int) - n ≤ 4000) (h2 : b ≠ 0) (h3 : Builtin.divisionGoesByPylong a b = false) {H : AH} {K : Kv} (k : newW (.tup [.int (a.fdiv b), .int (a.fmod b)]) H K) :
    CallOk g (d + 1) (.fn 35) [.int a, .int b, .int n] H K :=
  tup_of (i := 5) hF (by decide) (fun f args H K => std_sound) (by decide +kernel) (by decide +kernel) (by decide +kernel) rfl rfl rfl 60 (fun K h => by rw [d2_K]; exact ⟨decide_eq_true h1, ⟨h2, h3⟩, h⟩) k

/-- the def in a def: its body, its scope -/
noncomputable def inn (i k : Nat) : Stmt := ((bd i)[k]?).getD (.Pass ⟨0, 0, 0, 0⟩)
noncomputable def ibd : Stmt → List Stmt
  | .FunctionDef _ _ b .. => b
  | _ => []
noncomputable def isc : Stmt → Scope
  | .FunctionDef _ _ _ _ _ _ s .. => s
  | _ => ⟨.module, [], false, false, []⟩
noncomputable def ipa : Stmt → Arguments
  | .FunctionDef _ a .. => a
  | _ => ⟨[], [], none, [], [], none, []⟩
noncomputable def ips (s : Stmt) : List Str := (ipa s).args.map (·.arg)
noncomputable def pci (s : Stmt) (cl : List (Str × Nat)) (sites : List (Nat × Option Bool)) (q : Str) (sp : AV → List AV → AH → Kv → Prop) (v : Value) : PC :=
  { scope := isc s, cells := cl, sites := sites, fns := fnl, gl := fun x => gls.lookup x, sp := sp, hk := fun _ => none, cd := v, qn := q }
noncomputable def cl7 : List (Str × Nat) := [("n", 0), ("inner", 2), ("a_digits", 1)]
noncomputable def k7 : FuncData → Prop := fun fd => fd.qualname = ("_int2digits.<locals>.inner" : Str) ∧ fd.body = .stmts (ibd (inn 7 1)) ∧ fd.params = ipa (inn 7 1) ∧ fd.scope = isc (inn 7 1) ∧ fd.globals = mainGlobals ∧ fd.builtins = builtinsNs ∧ fd.defaults = .none ∧ fd.name = ("inner" : Str)
noncomputable def H7 (n : Int) (ds : List Int) : AH := [.cell (some (.int n)), .cell (some (.ref 4)), .cell (some (.ref 5)), .lst [.int 0], .lst (ds.map .int), .clo cl7 k7]
end L1

end
section
open PySem PySem.W PyProof.Rows Py
set_option maxRecDepth 10000
set_option autoImplicit false
set_option linter.unusedVariables false
namespace L1

/-- low digits of a number, base 2 ^ n -/
noncomputable def digs (n : Nat) : Nat → Nat → List Nat
  | 0, _ => []
  | k + 1, x => x % 2 ^ n :: digs n k (x / 2 ^ n)
noncomputable def val (n : Nat) : List Nat → Nat
  | [] => 0
  | d :: r => d + 2 ^ n * val n r
theorem digs_len (n : Nat) : ∀ k x, (digs n k x).length = k
  | 0, _ => rfl
  | k + 1, x => by unfold digs; rw [List.length_cons, digs_len]
theorem digs_lt (n : Nat) : ∀ k x, ∀ d ∈ digs n k x, d < 2 ^ n
  | 0, _, d, h => nomatch h
  | k + 1, x, d, h => by
    unfold digs at h
    rcases List.mem_cons.mp h with rfl | h
    · exact Nat.mod_lt _ (Nat.two_pow_pos n)
    · exact digs_lt n k _ d h
theorem val_digs (n : Nat) : ∀ k x, x < 2 ^ (n * k) → val n (digs n k x) = x
  | 0, x, h => by simp at h; subst h; rfl
  | k + 1, x, h => by
    unfold digs val
    rw [val_digs n k]
    · exact Nat.mod_add_div x (2 ^ n)
    · rw [Nat.div_lt_iff_lt_mul (Nat.two_pow_pos n), ← Nat.pow_add]
      rw [Nat.mul_succ] at h; exact h
theorem digs_app (n : Nat) : ∀ i j x, digs n (i + j) x = digs n i (x % 2 ^ (n * i)) ++ digs n j (x / 2 ^ (n * i))
  | 0, j, x => by simp [digs]
  | i + 1, j, x => by
    rw [show i + 1 + j = (i + j) + 1 by omega]
    show x % 2 ^ n :: digs n (i + j) (x / 2 ^ n) = (x % 2 ^ (n * (i + 1))) % 2 ^ n :: digs n i (x % 2 ^ (n * (i + 1)) / 2 ^ n) ++ digs n j (x / 2 ^ (n * (i + 1)))
    have e : n * (i + 1) = n + n * i := by rw [Nat.mul_succ]; omega
    have hd : 2 ^ n ∣ 2 ^ (n + n * i) := ⟨2 ^ (n * i), by rw [Nat.pow_add]⟩
    rw [e, Nat.mod_mod_of_dvd _ hd, digs_app n i j (x / 2 ^ n), Nat.div_div_eq_div_mul, ← Nat.pow_add]
    have : x % 2 ^ (n + n * i) / 2 ^ n = x / 2 ^ n % 2 ^ (n * i) := by
      rw [Nat.pow_add, Nat.mod_mul_right_div_self]
    rw [this]; rfl
theorem val_app (n : Nat) : ∀ xs ys, val n (xs ++ ys) = val n xs + 2 ^ (n * xs.length) * val n ys
  | [], ys => by simp [val]
  | x :: xs, ys => by
    show x + 2 ^ n * val n (xs ++ ys) = x + 2 ^ n * val n xs + 2 ^ (n * (xs.length + 1)) * val n ys
    rw [val_app n xs ys, Nat.mul_succ, Nat.add_comm (n * xs.length), Nat.pow_add, Nat.mul_add, Nat.mul_assoc]; omega
theorem val_lt (n : Nat) : ∀ xs, (∀ d ∈ xs, d < 2 ^ n) → val n xs < 2 ^ (n * xs.length)
  | [], _ => by simp [val]
  | x :: xs, h => by
    have h1 := h x List.mem_cons_self
    have h2 := val_lt n xs fun d hd => h d (List.mem_cons_of_mem _ hd)
    show x + 2 ^ n * val n xs < 2 ^ (n * (xs.length + 1))
    rw [Nat.mul_succ, Nat.add_comm (n * xs.length), Nat.pow_add]
    have : 2 ^ n * (val n xs + 1) ≤ 2 ^ n * 2 ^ (n * xs.length) := Nat.mul_le_mul_left _ h2
    rw [Nat.mul_add] at this; omega

theorem and_high (X s : Nat) : X &&& (X / 2 ^ s * 2 ^ s) = X / 2 ^ s * 2 ^ s := by
  apply Nat.eq_of_testBit_eq
  intro i
  rw [Nat.testBit_and, Nat.testBit_mul_two_pow]
  by_cases h : s ≤ i
  · simp only [h, decide_true, Bool.true_and]
    rw [Nat.testBit_div_two_pow, Nat.sub_add_cancel h, Bool.and_self]
  · simp [h]
theorem xor_low (X s : Nat) : Builtin.bitXor (X : Int) ((X / 2 ^ s * 2 ^ s : Nat) : Int) = ((X % 2 ^ s : Nat) : Int) := by
  rw [bitXor_and]
  have h : Builtin.bitAnd (X : Int) ((X / 2 ^ s * 2 ^ s : Nat) : Int) = ((X / 2 ^ s * 2 ^ s : Nat) : Int) := by
    unfold Builtin.bitAnd
    rw [show decide (0 ≤ (X : Int)) = true from decide_eq_true (Int.natCast_nonneg _), show decide (0 ≤ ((X / 2 ^ s * 2 ^ s : Nat) : Int)) = true from decide_eq_true (Int.natCast_nonneg _)]
    show (((X : Int).toNat &&& ((X / 2 ^ s * 2 ^ s : Nat) : Int).toNat : Nat) : Int) = _
    rw [Int.toNat_natCast, Int.toNat_natCast, and_high]
  rw [h]
  have := Nat.div_add_mod X (2 ^ s)
  rw [Nat.mul_comm] at this
  omega
end L1

end
section
open PySem PySem.W PyProof.Rows Py
set_option maxRecDepth 100000
set_option autoImplicit false
set_option linter.unusedVariables false
namespace L1
variable {g : G}

/-- the digits of x are laid from L to R -/
noncomputable def wr (n : Int) (xs : List AV) (L R x : Int) : List AV :=
  xs.take L.toNat ++ ((digs n.toNat (R - L).toNat x.toNat).map fun d => AV.int (d : Nat)) ++ xs.drop R.toNat
noncomputable def pre7 (n : Int) (xs : List AV) (L R x : Int) : Prop :=
  1 ≤ n ∧ n ≤ 1000 ∧ 0 ≤ L ∧ L < R ∧ R ≤ xs.length ∧ R ≤ 1001 ∧ 0 ≤ x ∧ x < 2 ^ (n.toNat * (R - L).toNat)
noncomputable def sp7 (m : Nat) (f : AV) (args : List AV) (H : AH) (K : Kv) : Prop :=
  oRf 5 f <| a3 args (fun x L R => oI x (fun x => oII L R (fun L R => aC H (fun o0 H => aC H (fun o1 H => aC H (fun o2 H => aC H (fun l3 H => aC H (fun o4 H => aC H (fun o5 H => a0 H (
    oCe o0 fun n => oI n (fun n => oCe o1 fun r4 => oRf 4 r4 <| oCe o2 fun r5 => oRf 5 r5 <| oLt o4 fun xs => oCl o5 fun cl k =>
    (cl = cl7 ∧ k = k7 ∧ pre7 n xs L R x ∧ R - L ≤ 2 ^ m) ∧ K .none [.cell (some (.int n)), .cell (some (.ref 4)), .cell (some (.ref 5)), l3, .lst (wr n xs L R x), .clo cl k]) False) False) False) False) False) False) False) False) False) False) False
theorem sp7_in {m : Nat} {f : AV} {args : List AV} {H : AH} {K : Kv} (h : sp7 m f args H K) : ∃ x L R n l3 xs cl k, f = .ref 5 ∧ args = [.int x, .int L, .int R] ∧ H = [.cell (some (.int n)), .cell (some (.ref 4)), .cell (some (.ref 5)), l3, .lst xs, .clo cl k] ∧
    (cl = cl7 ∧ k = k7 ∧ pre7 n xs L R x ∧ R - L ≤ 2 ^ m) ∧ K .none [.cell (some (.int n)), .cell (some (.ref 4)), .cell (some (.ref 5)), l3, .lst (wr n xs L R x), .clo cl k] := by
  obtain ⟨rfl, h1⟩ := oRf_in h
  obtain ⟨x, L, R, rfl, h2⟩ := no (a3_or h1)
  obtain ⟨x, rfl, h3⟩ := no (oI_or h2)
  obtain ⟨L, R, ⟨rfl, rfl⟩, h4⟩ := no (oII_or h3)
  clear h h1 h2 h3
  obtain ⟨o0, H, rfl, h⟩ := no (aC_or h4); clear h4
  obtain ⟨o1, H, rfl, h1⟩ := no (aC_or h); clear h
  obtain ⟨o2, H, rfl, h⟩ := no (aC_or h1); clear h1
  obtain ⟨l3, H, rfl, h1⟩ := no (aC_or h); clear h
  obtain ⟨o4, H, rfl, h⟩ := no (aC_or h1); clear h1
  obtain ⟨o5, H, rfl, h1⟩ := no (aC_or h); clear h
  obtain ⟨rfl, h⟩ := no (a0_or h1); clear h1
  obtain ⟨n, rfl, h1⟩ := oCe_in h; clear h
  obtain ⟨n, rfl, h⟩ := no (oI_or h1); clear h1
  obtain ⟨r4, rfl, h1⟩ := oCe_in h; clear h
  obtain ⟨rfl, h⟩ := oRf_in h1; clear h1
  obtain ⟨r5, rfl, h1⟩ := oCe_in h; clear h
  obtain ⟨rfl, h⟩ := oRf_in h1; clear h1
  obtain ⟨xs, rfl, h1⟩ := oLt_in h; clear h
  obtain ⟨cl, k, rfl, h⟩ := oCl_in h1
  exact ⟨x, L, R, n, l3, xs, cl, k, rfl, rfl, rfl, h⟩
noncomputable abbrev HX (n : Int) (l3 : AO) (xs : List AV) : AH := [.cell (some (.int n)), .cell (some (.ref 4)), .cell (some (.ref 5)), l3, .lst xs, .clo cl7 k7]

theorem in7_true (v : Value) (x L R n : Int) (l3 : AO) (xs : List AV) (sp : AV → List AV → AH → Kv → Prop) (K : Kv) :
    aws 60 (pci (inn 7 1) cl7 [(74, some true)] "_int2digits.<locals>.inner.<locals>." sp v) ((ips (inn 7 1)).zip [.int x, .int L, .int R]) (ibd (inn 7 1)) (HX n l3 xs) (endW K) =
    ((L + 1 == R) = true ∧ 0 ≤ L ∧ L < 2 ^ 63 ∧ L < (xs.length : Int) ∧ K .none (HX n l3 (xs.set L.toNat (.int x)))) := by kernel_rfl
noncomputable abbrev md (L R : Int) : Int := (L + R).fdiv (2 ^ (1 : Int).toNat)
noncomputable abbrev sh (n L R : Int) : Int := (md L R - L) * n
noncomputable abbrev up (n L R x : Int) : Int := x.fdiv (2 ^ (sh n L R).toNat)
noncomputable abbrev lo (n L R x : Int) : Int := Builtin.bitXor x (up n L R x * 2 ^ (sh n L R).toNat)
theorem in7_false (v : Value) (x L R n : Int) (l3 : AO) (xs : List AV) (m : Nat) (K : Kv) :
    aws 60 (pci (inn 7 1) cl7 [(74, some false)] "_int2digits.<locals>.inner.<locals>." (sp7 m) v) ((ips (inn 7 1)).zip [.int x, .int L, .int R]) (ibd (inn 7 1)) (HX n l3 xs) (endW K) =
    ((L + 1 == R) = false ∧ (0 : Int) ≤ 1 ∧ IntMulOk (md L R - L) n ∧ 0 ≤ sh n L R ∧ 0 ≤ sh n L R ∧ (Builtin.Int.intBits (up n L R x) : Int) + sh n L R ≤ 2 ^ 27 ∧
      ((cl7 = cl7 ∧ k7 = k7 ∧ pre7 n xs L (md L R) (lo n L R x) ∧ md L R - L ≤ 2 ^ m) ∧ (cl7 = cl7 ∧ k7 = k7 ∧ pre7 n (wr n xs L (md L R) (lo n L R x)) (md L R) R (up n L R x) ∧ R - md L R ≤ 2 ^ m) ∧
        K .none (HX n l3 (wr n (wr n xs L (md L R) (lo n L R x)) (md L R) R (up n L R x))))) := by kernel_rfl
end L1

end
section
open PySem PySem.W PyProof.Rows Py
set_option maxRecDepth 100000
set_option autoImplicit false
set_option linter.unusedVariables false
namespace L1
variable {g : G}

theorem k7_fn (fd : FuncData) (h : k7 fd) : IsFn fd (ibd (inn 7 1)) (isc (inn 7 1)) (ips (inn 7 1)) "_int2digits.<locals>.inner.<locals>." := by
  obtain ⟨name, qual, params, body, scope, gl, clo, df, kd, doc, pm, an, cd, ct, bl⟩ := fd
  obtain ⟨h1, h2, h3, h4, h5, h6, h7, h8⟩ := h
  dsimp only at h1 h2 h3 h4 h5 h6 h7 h8
  subst h1; subst h2; subst h3; subst h4; subst h5; subst h6; subst h7; subst h8
  refine ⟨rfl, rfl, rfl, rfl, by decide +kernel, by decide +kernel, by decide +kernel, by decide +kernel, (show (("_int2digits.<locals>.inner" : Str) ++ (".<locals>." : Str) : Str) = "_int2digits.<locals>.inner.<locals>." by decide +kernel), fun vals hv => ?_⟩
  have hl3 : (ips (inn 7 1)).length = 3 := by decide +kernel
  rw [hl3] at hv
  match vals, hv with
  | [a, b, c], _ => rfl
  | [], h => simp at h
  | [_], h => simp at h
  | [_, _], h => simp at h
  | _ :: _ :: _ :: _ :: _, h => simp at h

theorem md_nat (l r : Nat) : md (l : Int) (r : Int) = ((l + r) / 2 : Nat) := by
  show Int.fdiv ((l : Int) + r) 2 = _
  rw [Int.fdiv_eq_ediv_of_nonneg _ (by decide)]
  omega
theorem fdiv_pow (X s : Nat) : Int.fdiv (X : Int) (2 ^ s) = ((X / 2 ^ s : Nat) : Int) := by
  rw [Int.fdiv_eq_ediv_of_nonneg _ (by exact Int.le_of_lt (Int.pow_pos (by decide)))]
  norm_cast
theorem sh_nat (n l r : Nat) (h : l ≤ (l + r) / 2) : sh (n : Int) (l : Int) (r : Int) = ((n * ((l + r) / 2 - l) : Nat) : Int) := by
  unfold sh
  rw [md_nat, Nat.mul_comm, Int.natCast_mul, Int.natCast_sub h]
theorem up_nat (n l r X : Nat) (h : l ≤ (l + r) / 2) : up (n : Int) (l : Int) (r : Int) (X : Int) = ((X / 2 ^ (n * ((l + r) / 2 - l)) : Nat) : Int) := by
  unfold up
  rw [sh_nat n l r h, Int.toNat_natCast, fdiv_pow]
theorem lo_nat (n l r X : Nat) (h : l ≤ (l + r) / 2) : lo (n : Int) (l : Int) (r : Int) (X : Int) = ((X % 2 ^ (n * ((l + r) / 2 - l)) : Nat) : Int) := by
  unfold lo
  rw [up_nat n l r X h, sh_nat n l r h, Int.toNat_natCast]
  have e : ((X / 2 ^ (n * ((l + r) / 2 - l)) : Nat) : Int) * 2 ^ (n * ((l + r) / 2 - l)) = ((X / 2 ^ (n * ((l + r) / 2 - l)) * 2 ^ (n * ((l + r) / 2 - l)) : Nat) : Int) := by norm_cast
  rw [e, xor_low]

/-- laid digits, in numbers -/
noncomputable def wrn (n : Nat) (xs : List AV) (l r X : Nat) : List AV := xs.take l ++ ((digs n (r - l) X).map fun d => AV.int (d : Nat)) ++ xs.drop r
theorem wr_nat (n : Nat) (xs : List AV) (l r X : Nat) (h : l ≤ r) : wr (n : Int) xs (l : Int) (r : Int) (X : Int) = wrn n xs l r X := by
  unfold wr wrn
  rw [Int.toNat_natCast, Int.toNat_natCast, Int.toNat_natCast, Int.toNat_natCast, show ((r : Int) - l).toNat = r - l by omega]
theorem wrn_one (n : Nat) (xs : List AV) (l X : Nat) (hX : X < 2 ^ n) (hl : l < xs.length) : wrn n xs l (l + 1) X = xs.set l (.int X) := by
  unfold wrn
  rw [show l + 1 - l = 1 by omega]
  show xs.take l ++ [AV.int ((X % 2 ^ n : Nat) : Int)] ++ xs.drop (l + 1) = _
  rw [Nat.mod_eq_of_lt hX, List.set_eq_take_append_cons_drop, if_pos hl, List.append_assoc]; rfl
theorem wrn_len (n : Nat) (xs : List AV) (l r X : Nat) (h : l ≤ r) (hr : r ≤ xs.length) : (wrn n xs l r X).length = xs.length := by
  unfold wrn
  rw [List.length_append, List.length_append, List.length_map, digs_len, List.length_take, List.length_drop]; omega
theorem wrn_two (n : Nat) (xs : List AV) (l m r X : Nat) (h1 : l ≤ m) (h2 : m ≤ r) (hr : r ≤ xs.length) :
    wrn n (wrn n xs l m (X % 2 ^ (n * (m - l)))) m r (X / 2 ^ (n * (m - l))) = wrn n xs l r X := by
  have hl : (xs.take l ++ ((digs n (m - l) (X % 2 ^ (n * (m - l)))).map fun d => AV.int (d : Nat))).length = m := by
    rw [List.length_append, List.length_map, digs_len, List.length_take]; omega
  have e1 : (wrn n xs l m (X % 2 ^ (n * (m - l)))).take m = xs.take l ++ ((digs n (m - l) (X % 2 ^ (n * (m - l)))).map fun d => AV.int (d : Nat)) := by
    unfold wrn
    rw [List.take_append_of_le_length (by rw [hl]; exact Nat.le_refl _), List.take_of_length_le (by rw [hl]; exact Nat.le_refl _)]
  have e2 : (wrn n xs l m (X % 2 ^ (n * (m - l)))).drop r = xs.drop r := by
    unfold wrn
    rw [List.drop_append, hl, List.drop_eq_nil_of_le (by rw [hl]; exact h2), List.nil_append, List.drop_drop, show m + (r - m) = r by omega]
  unfold wrn at e1 e2 ⊢
  rw [e1, e2, List.append_assoc, List.append_assoc, List.append_assoc, ← List.append_assoc (List.map _ _), ← List.map_append, ← digs_app, show m - l + (r - m) = r - l by omega]
end L1

end
section
open PySem PySem.W PyProof.Rows Py
set_option maxRecDepth 100000
set_option autoImplicit false
set_option linter.unusedVariables false
namespace L1
variable {g : G}

theorem mkCi {d : Nat} (hF : ∀ h, g.B h → Facts h) {s : Stmt} {cl : List (Str × Nat)} {sites : List (Nat × Option Bool)} {q : Str} {sp : AV → List AV → AH → Kv → Prop} {v : Value} (hsp : ∀ f args H K, sp f args H K → CallOk g d f args H K) (hnm : namesOk (isc s) = true) : COk g d (pci s cl sites q sp v) :=
  mkC hF hsp rfl rfl hnm (fun _ _ _ _ _ _ e => nomatch e)

theorem bits_of_lt {x n : Nat} (h : x < 2 ^ n) : Builtin.Int.intBits (x : Int) ≤ n := intBits_le_iff.mpr (by simpa using h)

theorem pow_le_mega (a b : Nat) (ha : a ≤ 1000) (hb : b ≤ 1001) : a * b ≤ 1001000 := Nat.le_trans (Nat.mul_le_mul ha hb) (by decide)

theorem cast_lt {a k : Nat} (h : a < 2 ^ k) : ((a : Nat) : Int) < 2 ^ k := by
  rw [show (2 : Int) ^ k = ((2 ^ k : Nat) : Int) from (Int.natCast_pow 2 k).symm]; exact Int.ofNat_lt.mpr h
theorem of_cast_lt {a k : Nat} (h : ((a : Nat) : Int) < 2 ^ k) : a < 2 ^ k := by
  rw [show (2 : Int) ^ k = ((2 ^ k : Nat) : Int) from (Int.natCast_pow 2 k).symm] at h; exact Int.ofNat_lt.mp h
theorem bits_nat {a k : Nat} (h : a < 2 ^ k) : Builtin.Int.intBits (a : Int) ≤ k := intBits_le_iff.mpr (by rw [Int.natAbs_natCast]; exact h)

theorem leaf7 {d : Nat} (hF : ∀ h, g.B h → Facts h) {x L R n : Int} {l3 : AO} {xs : List AV} {K : Kv} (hp : pre7 n xs L R x) (he : L + 1 = R) (hK : K .none (HX n l3 (wr n xs L R x))) : CallOk g (d + 1) (.ref 5) [.int x, .int L, .int R] (HX n l3 xs) K := by
  obtain ⟨hn1, hn2, hL, hLR, hR, hR2, hx, hxl⟩ := hp
  refine clo_call (n := 60) (c := pci (inn 7 1) cl7 [(74, some true)] "_int2digits.<locals>.inner.<locals>." (fun _ _ _ _ => False)) (fun v => mkCi hF (fun _ _ _ _ h => h.elim) (by decide +kernel)) (fun v => ⟨rfl, rfl, rfl, rfl⟩) rfl k7_fn (fun h hb => (hF h hb).lim) (by decide +kernel) (by decide +kernel) (by decide +kernel : 3 = (ips (inn 7 1)).length) fun v => ?_
  rw [in7_true]
  obtain ⟨l, rfl⟩ := Int.eq_ofNat_of_zero_le hL
  obtain ⟨X, rfl⟩ := Int.eq_ofNat_of_zero_le hx
  obtain ⟨n, rfl⟩ := Int.eq_ofNat_of_zero_le (show 0 ≤ n by omega)
  subst he
  have hl : l < xs.length := by omega
  rw [show ((l : Int) + 1) = ((l + 1 : Nat) : Int) by omega, wr_nat n xs l (l + 1) X (by omega), wrn_one n xs l X ?_ hl] at hK
  · refine ⟨by simp, by omega, by omega, by omega, ?_⟩
    rw [Int.toNat_natCast]; exact hK
  · have : ((l : Int) + 1 - l).toNat = 1 := by omega
    rw [this, Int.toNat_natCast, Nat.mul_one] at hxl
    exact of_cast_lt hxl

theorem sp7_sound (hF : ∀ h, g.B h → Facts h) : ∀ m f args H K, sp7 m f args H K → CallOk g (m + 1) f args H K := by
  intro m
  induction m with
  | zero =>
    intro f args H K h
    obtain ⟨x, L, R, n, l3, xs, _, _, rfl, rfl, rfl, ⟨rfl, rfl, hp, hm⟩, hK⟩ := sp7_in h
    have h1 := hp.2.2.2.1
    exact leaf7 hF hp (by rw [show (2 : Int) ^ 0 = 1 from rfl] at hm; omega) hK
  | succ m ih =>
    intro f args H K h
    obtain ⟨x, L, R, n, l3, xs, _, _, rfl, rfl, rfl, ⟨rfl, rfl, hp, hm⟩, hK⟩ := sp7_in h
    by_cases he : L + 1 = R
    · exact leaf7 hF hp he hK
    obtain ⟨hn1, hn2, hL, hLR, hR, hR2, hx, hxl⟩ := hp
    refine clo_call (n := 60) (c := pci (inn 7 1) cl7 [(74, some false)] "_int2digits.<locals>.inner.<locals>." (sp7 m)) (fun v => mkCi hF ih (by decide +kernel)) (fun v => ⟨rfl, rfl, rfl, rfl⟩) rfl k7_fn (fun h hb => (hF h hb).lim) (by decide +kernel) (by decide +kernel) (by decide +kernel : 3 = (ips (inn 7 1)).length) fun v => ?_
    rw [in7_false]
    obtain ⟨l, rfl⟩ := Int.eq_ofNat_of_zero_le hL
    obtain ⟨r, rfl⟩ := Int.eq_ofNat_of_zero_le (show 0 ≤ R by omega)
    obtain ⟨X, rfl⟩ := Int.eq_ofNat_of_zero_le hx
    obtain ⟨n, rfl⟩ := Int.eq_ofNat_of_zero_le (show 0 ≤ n by omega)
    have hlm : l ≤ (l + r) / 2 := by omega
    rw [md_nat, lo_nat n l r X hlm, up_nat n l r X hlm, sh_nat n l r hlm]
    generalize hM : (l + r) / 2 = M at *
    have hX : X < 2 ^ (n * (r - l)) := by
      rw [Int.toNat_natCast, show ((r : Int) - l).toNat = r - l by omega] at hxl
      exact of_cast_lt hxl
    have hs : n * (M - l) ≤ 1001000 := pow_le_mega n (M - l) (by omega) (by omega)
    have hbits : Builtin.Int.intBits (X : Int) ≤ 1001000 := Nat.le_trans (bits_nat hX) (pow_le_mega n (r - l) (by omega) (by omega))
    have hup : Builtin.Int.intBits ((X / 2 ^ (n * (M - l)) : Nat) : Int) ≤ 1001000 := intBits_le_of_natAbs (by rw [Int.natAbs_natCast, Int.natAbs_natCast]; exact Nat.div_le_self _ _) hbits
    rw [wr_nat n _ l M _ (by omega), wr_nat n _ M r _ (by omega)]
    rw [wr_nat n _ l r _ (by omega)] at hK
    rw [wrn_two n xs l M r X hlm (by omega) (by omega)]
    have hpow : (2 : Int) ^ (m + 1) = 2 * 2 ^ m := by rw [Int.pow_succ]; omega
    refine ⟨by simpa using he, by decide, ?_, Int.natCast_nonneg _, Int.natCast_nonneg _, ?_, ⟨rfl, rfl, ⟨by omega, by omega, by omega, by omega, by omega, by omega, Int.natCast_nonneg _, ?_⟩, by omega⟩, ⟨rfl, rfl, ⟨by omega, by omega, by omega, by omega, ?_, by omega, Int.natCast_nonneg _, ?_⟩, by omega⟩, hK⟩
    · rw [show ((M : Nat) : Int) - (l : Int) = ((M - l : Nat) : Int) by omega]
      exact IntMulOk.of_le (m := 20) (n := 20) (bits_nat (by have : M - l ≤ 1001 := by omega
                                                             exact Nat.lt_of_le_of_lt this (by decide))) (bits_nat (by have : n ≤ 1000 := by omega
                                                                                                                       exact Nat.lt_of_le_of_lt this (by decide))) (by decide)
    · have : (2 : Int) ^ 27 = 134217728 := by decide
      rw [this]
      have h1 : ((Builtin.Int.intBits ((X / 2 ^ (n * (M - l)) : Nat) : Int) : Nat) : Int) ≤ 1001000 := Int.ofNat_le.mpr hup
      have h2 : ((n * (M - l) : Nat) : Int) ≤ 1001000 := Int.ofNat_le.mpr hs
      omega
    · rw [Int.toNat_natCast, show ((M : Int) - l).toNat = M - l by omega]
      exact cast_lt (Nat.mod_lt X (Nat.two_pow_pos _))
    · rw [wrn_len n xs l M _ hlm (by omega)]; omega
    · rw [Int.toNat_natCast, show ((r : Int) - M).toNat = r - M by omega]
      have : X / 2 ^ (n * (M - l)) < 2 ^ (n * (r - M)) := by
        rw [Nat.div_lt_iff_lt_mul (Nat.two_pow_pos _), ← Nat.pow_add, ← Nat.mul_add, show r - M + (M - l) = r - l by omega]
        exact hX
      exact cast_lt this
end L1

end
section
open PySem PySem.W PyProof.Rows Py
set_option maxRecDepth 100000
set_option autoImplicit false
set_option linter.unusedVariables false
namespace L1
variable {g : G}

noncomputable def t7 : Tab := ⟨48, 44, #[], 73, 4, "_int2digits.<locals>.inner"⟩
noncomputable def t8 : Tab := ⟨55, 51, #[], 88, 4, "_digits2int.<locals>.inner"⟩
noncomputable def ipo : Stmt → Pos
  | .FunctionDef _ _ _ _ _ _ _ _ _ p => p
  | _ => ⟨0, 0, 0, 0⟩
theorem inn7_eq : inn 7 1 = .FunctionDef "inner" (ipa (inn 7 1)) (ibd (inn 7 1)) [] none [] (isc (inn 7 1)) none "inner" (ipo (inn 7 1)) := by kernel_rfl
theorem inn8_eq : inn 8 0 = .FunctionDef "inner" (ipa (inn 8 0)) (ibd (inn 8 0)) [] none [] (isc (inn 8 0)) none "inner" (ipo (inn 8 0)) := by kernel_rfl

noncomputable def sp7c (m : Nat) (f : AV) (args : List AV) (H : AH) (K : Kv) : Prop := match f with
  | .ref _ => sp7 m f args H K
  | f => stdW f args H K
noncomputable def cn7 : List Str := ["n", "a_digits", "inner"]
noncomputable def pc70 (sites : List (Nat × Option Bool)) (sp : AV → List AV → AH → Kv → Prop) : PC :=
  { scope := sc 7, cells := cellIx 0 cn7, sites := sites, fns := fnl, gl := fun x => gls.lookup x, sp := sp, hk := fun _ => none, cd := .ref 48, qn := "_int2digits.<locals>." }
noncomputable def hk7 (l : Nat) : Option (Stmt → Lc → AH → (Fl → Lc → AH → Prop) → Prop) := match l == 73 with
  | true => some fun st loc H K => st = inn 7 1 ∧ storeW (pc70 [] stdW) loc "inner" (.ref H.length) (H ++ [.clo cl7 k7]) fun loc H => K .next loc H
  | false => none
noncomputable def pc7 (sites : List (Nat × Option Bool)) (sp : AV → List AV → AH → Kv → Prop) : PC := { pc70 sites sp with hk := hk7 }
noncomputable abbrev nd7 (a n : Int) : Int := ((Builtin.Int.intBits a : Int) + n - 1).fdiv n
theorem i7_true (a n : Int) (m : Nat) (K : Kv) : aws 60 (pc7 [(83, some true)] (sp7c m)) (locsOf (sc 7) ((ps 7).zip [.int a, .int n])) (bd 7) ([] ++ cellOs ((ps 7).zip [.int a, .int n]) cn7) (endW K) =
    (n ≠ 0 ∧ Builtin.divisionGoesByPylong ((Builtin.Int.intBits a : Int) + n - 1) n = false ∧ (0 ≤ nd7 a n ∧ nd7 a n ≤ 100000) ∧ inn 7 1 = inn 7 1 ∧ (a != 0) = true ∧ (List.replicate (nd7 a n).toNat (AV.int 0)).length ≤ 1000000 ∧
      ((cl7 = cl7 ∧ k7 = k7 ∧ pre7 n (List.replicate (nd7 a n).toNat (AV.int 0)) 0 ((List.replicate (nd7 a n).toNat (AV.int 0)).length : Nat) a ∧ ((List.replicate (nd7 a n).toNat (AV.int 0)).length : Int) - 0 ≤ 2 ^ m) ∧
        K (.ref 4) (HX n (.lst [.int 0]) (wr n (List.replicate (nd7 a n).toNat (AV.int 0)) 0 ((List.replicate (nd7 a n).toNat (AV.int 0)).length : Nat) a)))) := by kernel_rfl
theorem i7_false (a n : Int) (m : Nat) (K : Kv) : aws 60 (pc7 [(83, some false)] (sp7c m)) (locsOf (sc 7) ((ps 7).zip [.int a, .int n])) (bd 7) ([] ++ cellOs ((ps 7).zip [.int a, .int n]) cn7) (endW K) =
    (n ≠ 0 ∧ Builtin.divisionGoesByPylong ((Builtin.Int.intBits a : Int) + n - 1) n = false ∧ (0 ≤ nd7 a n ∧ nd7 a n ≤ 100000) ∧ inn 7 1 = inn 7 1 ∧ (a != 0) = false ∧
        K (.ref 4) (HX n (.lst [.int 0]) (List.replicate (nd7 a n).toNat (AV.int 0)))) := by kernel_rfl

theorem sp7c_sound (hF : ∀ h, g.B h → Facts h) (m : Nat) (f : AV) (args : List AV) (H : AH) (K : Kv) (h : sp7c m f args H K) : CallOk g (m + 1) f args H K := by
  unfold sp7c at h
  split at h
  · exact sp7_sound hF m _ _ _ _ h
  · exact std_sound h

theorem C7 (hF : ∀ h, g.B h → Facts h) (X : TabG g t7) (sites : List (Nat × Option Bool)) (m : Nat) : COk g (m + 1) (pc7 sites (sp7c m)) := by
  refine mkC hF (sp7c_sound hF m) rfl rfl (show namesOk (sc 7) = true by decide +kernel) fun n f st loc H K e h => ?_
  have e : hk7 n = some f := e
  unfold hk7 at e
  split at e
  · cases e
    obtain ⟨rfl, h⟩ := h
    rw [inn7_eq]
    refine def_sound (cl := cl7) X (fun h hb => (hF h hb).bo) (fun env => rfl) (by decide +kernel) rfl (show ("_int2digits.<locals>." : Str) ++ ("inner" : Str) = t7.q by decide +kernel) ⟨by decide +kernel, by decide +kernel⟩ (by decide +kernel) (fun c' => ?_) (show ((sc 7).names.lookup ("inner" : Str) == some NameKind.globalExplicit) = false by decide +kernel) (show cloOf (cellIx 0 cn7) (isc (inn 7 1)).names [] = some cl7 by decide +kernel) (by decide) h
    rfl
  · cases e

theorem nd7_nat (X n : Nat) (hn : 1 ≤ n) : nd7 (X : Int) (n : Int) = ((Builtin.Int.intBits (X : Int) + n - 1) / n : Nat) := by
  show Int.fdiv _ _ = _
  rw [Int.fdiv_eq_ediv_of_nonneg _ (Int.natCast_nonneg _)]
  rw [show ((Builtin.Int.intBits (X : Int) : Int) + n - 1) = ((Builtin.Int.intBits (X : Int) + n - 1 : Nat) : Int) by omega]
  norm_cast
theorem lt_bits (X : Nat) : X < 2 ^ Builtin.Int.intBits (X : Int) := by
  have := intBits_le_iff.mp (Nat.le_refl (Builtin.Int.intBits (X : Int)))
  rwa [Int.natAbs_natCast] at this
theorem ceil_mul (b n : Nat) (hn : 1 ≤ n) : b ≤ n * ((b + n - 1) / n) := by
  have h1 := Nat.div_add_mod (b + n - 1) n
  have h2 := Nat.mod_lt (b + n - 1) (show n > 0 by omega)
  omega

/-- _int2digits gives the digits -/
theorem i2d_call (hF : ∀ h, g.B h → Facts h) (X7 : TabG g t7) {X n : Nat} (hn1 : 1 ≤ n) (hn2 : n ≤ 1000) (hX : X < 2 ^ 1000) {H : AH} {K : Kv}
    (k : newW (.lst ((digs n ((Builtin.Int.intBits (X : Int) + n - 1) / n) X).map fun d => AV.int (d : Nat))) H K) : CallOk g 12 (.fn 49) [.int X, .int n] H K := by
  have hbits : Builtin.Int.intBits (X : Int) ≤ 1000 := bits_nat hX
  have hk : (Builtin.Int.intBits (X : Int) + n - 1) / n ≤ 1000 := by
    have h1 : (Builtin.Int.intBits (X : Int) + n - 1) / n ≤ (1000 + n - 1) / n := Nat.div_le_div_right (by omega)
    have h2 : (1000 + n - 1) / n ≤ 1000 := by
      rw [Nat.div_le_iff_le_mul_add_pred (by omega)]
      have : 1000 ≤ n * 1000 := Nat.le_mul_of_pos_left _ (by omega)
      omega
    omega
  have hnd := nd7_nat X n hn1
  have hnp : Builtin.divisionGoesByPylong ((Builtin.Int.intBits (X : Int) : Int) + n - 1) n = false := PyProof.noPylong_small (by rw [Int.natAbs_natCast]; omega)
  refine lift_lst (by simp [isSc]) rfl rfl ?_ k
  by_cases h0 : X = 0
  · subst h0
    refine fn_cells (n := 60) (C7 hF X7 [(83, some false)] 10) (fun h hb => (hF h hb).fn (7, 49) (by decide)) (fun h hb => (hF h hb).lim) (cn := cn7) (ps := ps 7) (body := bd 7) (fun m => by rfl) (by decide +kernel) rfl (by decide +kernel) (by decide +kernel) rfl ?_
    show aws 60 (pc7 [(83, some false)] (sp7c 10)) (locsOf (sc 7) ((ps 7).zip [.int (0 : Nat), .int n])) (bd 7) ([] ++ cellOs ((ps 7).zip [.int (0 : Nat), .int n]) cn7) (endW _)
    rw [i7_false]
    rw [hnd]
    have e0 : (Builtin.Int.intBits ((0 : Nat) : Int) + n - 1) / n = 0 := by
      show (0 + n - 1) / n = 0
      exact Nat.div_eq_of_lt (by omega)
    rw [e0]
    exact ⟨by omega, hnp, ⟨by decide, by decide⟩, rfl, by decide, 4, rfl, rfl⟩
  · refine fn_cells (n := 60) (C7 hF X7 [(83, some true)] 10) (fun h hb => (hF h hb).fn (7, 49) (by decide)) (fun h hb => (hF h hb).lim) (cn := cn7) (ps := ps 7) (body := bd 7) (fun m => by rfl) (by decide +kernel) rfl (by decide +kernel) (by decide +kernel) rfl ?_
    show aws 60 (pc7 [(83, some true)] (sp7c 10)) (locsOf (sc 7) ((ps 7).zip [.int X, .int n])) (bd 7) ([] ++ cellOs ((ps 7).zip [.int X, .int n]) cn7) (endW _)
    rw [i7_true, hnd, Int.toNat_natCast, List.length_replicate]
    generalize hk' : (Builtin.Int.intBits (X : Int) + n - 1) / n = k' at *
    have hcm : Builtin.Int.intBits (X : Int) ≤ n * k' := hk' ▸ ceil_mul _ n hn1
    have hX' : X < 2 ^ (n * k') := Nat.lt_of_lt_of_le (lt_bits X) (Nat.pow_le_pow_right (by decide) hcm)
    have hk0 : 0 < k' := by
      rcases Nat.eq_zero_or_pos k' with h | h
      · subst h; rw [Nat.mul_zero] at hX'; omega
      · exact h
    have e : wr (n : Int) (List.replicate k' (AV.int 0)) 0 (k' : Int) (X : Int) = (digs n k' X).map fun d => AV.int (d : Nat) := by
      have := wr_nat n (List.replicate k' (AV.int 0)) 0 k' X (Nat.zero_le _)
      rw [show ((0 : Nat) : Int) = 0 from rfl] at this
      rw [this]
      unfold wrn
      rw [List.take_zero, List.nil_append, Nat.sub_zero, List.drop_of_length_le (by rw [List.length_replicate]; exact Nat.le_refl _), List.append_nil]
    rw [e]
    refine ⟨by omega, hnp, ⟨by omega, by omega⟩, rfl, by simpa using h0, by omega, ⟨rfl, rfl, ⟨by omega, by omega, by omega, by omega, by rw [List.length_replicate]; omega, by omega, by omega, ?_⟩, ?_⟩, 4, rfl, rfl⟩
    · rw [Int.toNat_natCast, show ((k' : Int) - 0).toNat = k' by omega]
      exact cast_lt hX'
    · have : (2 : Int) ^ 10 = 1024 := by decide
      rw [this]; omega
end L1

end
section
open PySem PySem.W PyProof.Rows Py
set_option maxRecDepth 100000
set_option autoImplicit false
set_option linter.unusedVariables false
namespace L1
variable {g : G}

noncomputable def cl8 : List (Str × Nat) := [("n", 2), ("inner", 3), ("digits", 1)]
noncomputable def k8 : FuncData → Prop := fun fd => fd.qualname = ("_digits2int.<locals>.inner" : Str) ∧ fd.body = .stmts (ibd (inn 8 0)) ∧ fd.params = ipa (inn 8 0) ∧ fd.scope = isc (inn 8 0) ∧ fd.globals = mainGlobals ∧ fd.builtins = builtinsNs ∧ fd.defaults = .none ∧ fd.name = ("inner" : Str)
noncomputable def natOf : AV → Nat
  | .int i => i.toNat
  | _ => 0
noncomputable def vl (n : Int) (xs : List AV) (L R : Int) : Int := (val n.toNat (((xs.drop L.toNat).take (R - L).toNat).map natOf) : Nat)
noncomputable def pre8 (n : Int) (xs : List AV) (L R : Int) : Prop :=
  1 ≤ n ∧ n ≤ 1000 ∧ 0 ≤ L ∧ L < R ∧ R ≤ xs.length ∧ R ≤ 1001 ∧ ∀ x ∈ xs, ∃ d : Nat, x = .int d ∧ d < 2 ^ n.toNat
noncomputable def sp8 (m : Nat) (f : AV) (args : List AV) (H : AH) (K : Kv) : Prop :=
  oRf 4 f <| a2 args (fun L R => oII L R (fun L R => aC H (fun o0 H => aC H (fun o1 H => aC H (fun o2 H => aC H (fun o3 H => aC H (fun o4 H => a0 H (
    oLt o0 fun xs => oCe o1 fun r0 => oRf 0 r0 <| oCe o2 fun n => oI n (fun n => oCe o3 fun r4 => oRf 4 r4 <| oCl o4 fun cl k =>
    (cl = cl8 ∧ k = k8 ∧ pre8 n xs L R ∧ R - L ≤ 2 ^ m) ∧ K (.int (vl n xs L R)) [.lst xs, .cell (some (.ref 0)), .cell (some (.int n)), .cell (some (.ref 4)), .clo cl k]) False) False) False) False) False) False) False) False) False
theorem sp8_in {m : Nat} {f : AV} {args : List AV} {H : AH} {K : Kv} (h : sp8 m f args H K) : ∃ L R n xs cl k, f = .ref 4 ∧ args = [.int L, .int R] ∧ H = [.lst xs, .cell (some (.ref 0)), .cell (some (.int n)), .cell (some (.ref 4)), .clo cl k] ∧
    (cl = cl8 ∧ k = k8 ∧ pre8 n xs L R ∧ R - L ≤ 2 ^ m) ∧ K (.int (vl n xs L R)) [.lst xs, .cell (some (.ref 0)), .cell (some (.int n)), .cell (some (.ref 4)), .clo cl k] := by
  obtain ⟨rfl, h1⟩ := oRf_in h
  obtain ⟨L, R, rfl, h2⟩ := no (a2_or h1)
  obtain ⟨L, R, ⟨rfl, rfl⟩, h4⟩ := no (oII_or h2)
  clear h h1 h2
  obtain ⟨o0, H, rfl, h⟩ := no (aC_or h4); clear h4
  obtain ⟨o1, H, rfl, h1⟩ := no (aC_or h); clear h
  obtain ⟨o2, H, rfl, h⟩ := no (aC_or h1); clear h1
  obtain ⟨o3, H, rfl, h1⟩ := no (aC_or h); clear h
  obtain ⟨o4, H, rfl, h⟩ := no (aC_or h1); clear h1
  obtain ⟨rfl, h1⟩ := no (a0_or h); clear h
  obtain ⟨xs, rfl, h⟩ := oLt_in h1; clear h1
  obtain ⟨r0, rfl, h1⟩ := oCe_in h; clear h
  obtain ⟨rfl, h⟩ := oRf_in h1; clear h1
  obtain ⟨n, rfl, h1⟩ := oCe_in h; clear h
  obtain ⟨n, rfl, h⟩ := no (oI_or h1); clear h1
  obtain ⟨r4, rfl, h1⟩ := oCe_in h; clear h
  obtain ⟨rfl, h⟩ := oRf_in h1; clear h1
  obtain ⟨cl, k, rfl, h1⟩ := oCl_in h
  exact ⟨L, R, n, xs, cl, k, rfl, rfl, rfl, h1⟩
noncomputable abbrev HY (n : Int) (xs : List AV) : AH := [.lst xs, .cell (some (.ref 0)), .cell (some (.int n)), .cell (some (.ref 4)), .clo cl8 k8]
noncomputable def pcj (s : Stmt) (cl : List (Str × Nat)) (sites : List (Nat × Option Bool)) (q : Str) (sp : AV → List AV → AH → Kv → Prop) (v : Value) : PC := { pci s cl sites q sp v with sym := true }

theorem in8_true (v : Value) (L R n : Int) (xs : List AV) (sp : AV → List AV → AH → Kv → Prop) (K : Kv) :
    aws 60 (pcj (inn 8 0) cl8 [(89, some true)] "_digits2int.<locals>.inner.<locals>." sp v) ((ips (inn 8 0)).zip [.int L, .int R]) (ibd (inn 8 0)) (HY n xs) (endW K) =
    ((L + 1 == R) = true ∧ (0 ≤ L ∧ L < 2 ^ 63) ∧ ∃ x, xs[L.toNat]? = some x ∧ K x (HY n xs)) := by kernel_rfl
theorem in8_false (v : Value) (L R n : Int) (xs : List AV) (m : Nat) (K : Kv) :
    aws 60 (pcj (inn 8 0) cl8 [(89, some false)] "_digits2int.<locals>.inner.<locals>." (sp8 m) v) ((ips (inn 8 0)).zip [.int L, .int R]) (ibd (inn 8 0)) (HY n xs) (endW K) =
    ((L + 1 == R) = false ∧ (0 : Int) ≤ 1 ∧ IntMulOk (md L R - L) n ∧ (cl8 = cl8 ∧ k8 = k8 ∧ pre8 n xs (md L R) R ∧ R - md L R ≤ 2 ^ m) ∧ 0 ≤ sh n L R ∧ (Builtin.Int.intBits (vl n xs (md L R) R) : Int) + sh n L R ≤ 2 ^ 27 ∧
      (cl8 = cl8 ∧ k8 = k8 ∧ pre8 n xs L (md L R) ∧ md L R - L ≤ 2 ^ m) ∧ K (.int (vl n xs (md L R) R * 2 ^ (sh n L R).toNat + vl n xs L (md L R))) (HY n xs)) := by kernel_rfl

theorem k8_fn (fd : FuncData) (h : k8 fd) : IsFn fd (ibd (inn 8 0)) (isc (inn 8 0)) (ips (inn 8 0)) "_digits2int.<locals>.inner.<locals>." := by
  obtain ⟨name, qual, params, body, scope, gl, clo, df, kd, doc, pm, an, cd, ct, bl⟩ := fd
  obtain ⟨h1, h2, h3, h4, h5, h6, h7, h8⟩ := h
  dsimp only at h1 h2 h3 h4 h5 h6 h7 h8
  subst h1; subst h2; subst h3; subst h4; subst h5; subst h6; subst h7; subst h8
  refine ⟨rfl, rfl, rfl, rfl, by decide +kernel, by decide +kernel, by decide +kernel, by decide +kernel, (show (("_digits2int.<locals>.inner" : Str) ++ (".<locals>." : Str) : Str) = "_digits2int.<locals>.inner.<locals>." by decide +kernel), fun vals hv => ?_⟩
  have hl3 : (ips (inn 8 0)).length = 2 := by decide +kernel
  rw [hl3] at hv
  match vals, hv with
  | [a, b], _ => rfl
  | [], h => simp at h
  | [_], h => simp at h
  | _ :: _ :: _ :: _, h => simp at h

noncomputable def vln (n : Nat) (xs : List AV) (l r : Nat) : Nat := val n (((xs.drop l).take (r - l)).map natOf)
theorem vl_nat (n : Nat) (xs : List AV) (l r : Nat) (h : l ≤ r) : vl (n : Int) xs (l : Int) (r : Int) = (vln n xs l r : Nat) := by
  unfold vl vln
  rw [Int.toNat_natCast, Int.toNat_natCast, show ((r : Int) - l).toNat = r - l by omega]
theorem vln_lt (n : Nat) (xs : List AV) (l r : Nat) (h : ∀ x ∈ xs, ∃ d : Nat, x = .int d ∧ d < 2 ^ n) : vln n xs l r < 2 ^ (n * (r - l)) := by
  have := val_lt n (((xs.drop l).take (r - l)).map natOf) fun d hd => by
    obtain ⟨x, hx, rfl⟩ := List.mem_map.mp hd
    obtain ⟨d, rfl, h2⟩ := h x (List.mem_of_mem_drop (List.mem_of_mem_take hx))
    simpa [natOf] using h2
  refine Nat.lt_of_lt_of_le this (Nat.pow_le_pow_right (by decide) (Nat.mul_le_mul_left _ ?_))
  rw [List.length_map, List.length_take]; omega
theorem vln_one (n : Nat) (xs : List AV) (l d : Nat) (h : xs[l]? = some (.int d)) : vln n xs l (l + 1) = d := by
  unfold vln
  have hl := (List.getElem?_eq_some_iff.mp h).1
  have h' : xs[l] = .int d := by
    rw [List.getElem?_eq_getElem hl] at h; exact Option.some.inj h
  rw [show l + 1 - l = 1 by omega, List.drop_eq_getElem_cons hl, List.take_succ_cons, List.take_zero, h']
  simp [val, natOf]
theorem vln_two (n : Nat) (xs : List AV) (l m r : Nat) (h1 : l ≤ m) (h2 : m ≤ r) (hr : r ≤ xs.length) : vln n xs m r * 2 ^ (n * (m - l)) + vln n xs l m = vln n xs l r := by
  unfold vln
  have e : (xs.drop l).take (r - l) = (xs.drop l).take (m - l) ++ (xs.drop m).take (r - m) := by
    rw [show r - l = (m - l) + (r - m) by omega, List.take_add, List.drop_drop, show l + (m - l) = m by omega]
  rw [e, List.map_append, val_app, List.length_map, List.length_take, List.length_drop, show min (m - l) (xs.length - l) = m - l by omega, Nat.mul_comm]; omega

theorem mkCj {d : Nat} (hF : ∀ h, g.B h → Facts h) {s : Stmt} {cl : List (Str × Nat)} {sites : List (Nat × Option Bool)} {q : Str} {sp : AV → List AV → AH → Kv → Prop} {v : Value} (hsp : ∀ f args H K, sp f args H K → CallOk g d f args H K) (hnm : namesOk (isc s) = true) : COk g d (pcj s cl sites q sp v) :=
  mkC hF hsp rfl rfl hnm (fun _ _ _ _ _ _ e => nomatch e)

theorem leaf8 {d : Nat} (hF : ∀ h, g.B h → Facts h) {L R n : Int} {xs : List AV} {K : Kv} (hp : pre8 n xs L R) (he : L + 1 = R) (hK : K (.int (vl n xs L R)) (HY n xs)) : CallOk g (d + 1) (.ref 4) [.int L, .int R] (HY n xs) K := by
  obtain ⟨hn1, hn2, hL, hLR, hR, hR2, hd⟩ := hp
  refine clo_call (n := 60) (c := pcj (inn 8 0) cl8 [(89, some true)] "_digits2int.<locals>.inner.<locals>." (fun _ _ _ _ => False)) (fun v => mkCj hF (fun _ _ _ _ h => h.elim) (by decide +kernel)) (fun v => ⟨rfl, rfl, rfl, rfl⟩) rfl k8_fn (fun h hb => (hF h hb).lim) (by decide +kernel) (by decide +kernel) (by decide +kernel : 2 = (ips (inn 8 0)).length) fun v => ?_
  rw [in8_true]
  obtain ⟨l, rfl⟩ := Int.eq_ofNat_of_zero_le hL
  obtain ⟨n, rfl⟩ := Int.eq_ofNat_of_zero_le (show 0 ≤ n by omega)
  subst he
  have hl : l < xs.length := by omega
  obtain ⟨dd, h1, h2⟩ := hd _ (List.getElem_mem hl)
  have hg : xs[l]? = some (.int dd) := by rw [List.getElem?_eq_getElem hl, h1]
  rw [show ((l : Int) + 1) = ((l + 1 : Nat) : Int) by omega, vl_nat n xs l (l + 1) (by omega), vln_one n xs l dd hg] at hK
  exact ⟨by simp, ⟨by omega, by omega⟩, .int dd, by rw [Int.toNat_natCast]; exact hg, hK⟩

theorem sp8_sound (hF : ∀ h, g.B h → Facts h) : ∀ m f args H K, sp8 m f args H K → CallOk g (m + 1) f args H K := by
  intro m
  induction m with
  | zero =>
    intro f args H K h
    obtain ⟨L, R, n, xs, _, _, rfl, rfl, rfl, ⟨rfl, rfl, hp, hm⟩, hK⟩ := sp8_in h
    have h1 := hp.2.2.2.1
    exact leaf8 hF hp (by rw [show (2 : Int) ^ 0 = 1 from rfl] at hm; omega) hK
  | succ m ih =>
    intro f args H K h
    obtain ⟨L, R, n, xs, _, _, rfl, rfl, rfl, ⟨rfl, rfl, hp, hm⟩, hK⟩ := sp8_in h
    by_cases he : L + 1 = R
    · exact leaf8 hF hp he hK
    obtain ⟨hn1, hn2, hL, hLR, hR, hR2, hd⟩ := hp
    refine clo_call (n := 60) (c := pcj (inn 8 0) cl8 [(89, some false)] "_digits2int.<locals>.inner.<locals>." (sp8 m)) (fun v => mkCj hF ih (by decide +kernel)) (fun v => ⟨rfl, rfl, rfl, rfl⟩) rfl k8_fn (fun h hb => (hF h hb).lim) (by decide +kernel) (by decide +kernel) (by decide +kernel : 2 = (ips (inn 8 0)).length) fun v => ?_
    rw [in8_false]
    obtain ⟨l, rfl⟩ := Int.eq_ofNat_of_zero_le hL
    obtain ⟨r, rfl⟩ := Int.eq_ofNat_of_zero_le (show 0 ≤ R by omega)
    obtain ⟨n, rfl⟩ := Int.eq_ofNat_of_zero_le (show 0 ≤ n by omega)
    have hlm : l ≤ (l + r) / 2 := by omega
    rw [md_nat, sh_nat n l r hlm]
    generalize hM : (l + r) / 2 = M at *
    rw [vl_nat n xs M r (by omega), vl_nat n xs l M hlm]
    rw [vl_nat n xs l r (by omega)] at hK
    have hs : n * (M - l) ≤ 1001000 := pow_le_mega n (M - l) (by omega) (by omega)
    have hd' : ∀ x ∈ xs, ∃ d : Nat, x = .int d ∧ d < 2 ^ n := by
      rw [Int.toNat_natCast] at hd; exact hd
    have hv := vln_lt n xs M r hd'
    have hbits : Builtin.Int.intBits ((vln n xs M r : Nat) : Int) ≤ 1001000 := Nat.le_trans (bits_nat hv) (pow_le_mega n (r - M) (by omega) (by omega))
    have hpow : (2 : Int) ^ (m + 1) = 2 * 2 ^ m := by rw [Int.pow_succ]; omega
    have hval : ((vln n xs M r : Nat) : Int) * 2 ^ (n * (M - l)) + ((vln n xs l M : Nat) : Int) = ((vln n xs l r : Nat) : Int) := by
      rw [← vln_two n xs l M r hlm (by omega) (by omega)]; push_cast; rfl
    refine ⟨by simpa using he, by decide, ?_, ⟨rfl, rfl, ⟨by omega, by omega, by omega, by omega, by omega, by omega, hd⟩, by omega⟩, Int.natCast_nonneg _, ?_, ⟨rfl, rfl, ⟨by omega, by omega, by omega, by omega, by omega, by omega, hd⟩, by omega⟩, ?_⟩
    · rw [show ((M : Nat) : Int) - (l : Int) = ((M - l : Nat) : Int) by omega]
      exact IntMulOk.of_le (m := 20) (n := 20) (bits_nat (by have : M - l ≤ 1001 := by omega
                                                             exact Nat.lt_of_le_of_lt this (by decide))) (bits_nat (by have : n ≤ 1000 := by omega
                                                                                                                       exact Nat.lt_of_le_of_lt this (by decide))) (by decide)
    · have : (2 : Int) ^ 27 = 134217728 := by decide
      rw [this]
      have h1 : ((Builtin.Int.intBits ((vln n xs M r : Nat) : Int) : Nat) : Int) ≤ 1001000 := Int.ofNat_le.mpr hbits
      have h2 : ((n * (M - l) : Nat) : Int) ≤ 1001000 := Int.ofNat_le.mpr hs
      omega
    · rw [Int.toNat_natCast, hval]; exact hK
end L1

end
section
open PySem PySem.W PyProof.Rows Py
set_option maxRecDepth 100000
set_option autoImplicit false
set_option linter.unusedVariables false
namespace L1
variable {g : G}

noncomputable def sp8c (m : Nat) (f : AV) (args : List AV) (H : AH) (K : Kv) : Prop := match f with
  | .ref _ => sp8 m f args H K
  | f => stdW f args H K
noncomputable def cn8 : List Str := ["digits", "n", "inner"]
noncomputable def pc80 (sites : List (Nat × Option Bool)) (sp : AV → List AV → AH → Kv → Prop) : PC :=
  { scope := sc 8, cells := cellIx 1 cn8, sites := sites, fns := fnl, gl := fun x => gls.lookup x, sp := sp, hk := fun _ => none, cd := .ref 55, qn := "_digits2int.<locals>." }
noncomputable def hk8 (l : Nat) : Option (Stmt → Lc → AH → (Fl → Lc → AH → Prop) → Prop) := match l == 88 with
  | true => some fun st loc H K => st = inn 8 0 ∧ storeW (pc80 [] stdW) loc "inner" (.ref H.length) (H ++ [.clo cl8 k8]) fun loc H => K .next loc H
  | false => none
noncomputable def pc8 (sites : List (Nat × Option Bool)) (sp : AV → List AV → AH → Kv → Prop) : PC := { pc80 sites sp with hk := hk8 }
theorem i8_true (n : Int) (xs : List AV) (m : Nat) (K : Kv) : aws 60 (pc8 [(94, some true)] (sp8c m)) (locsOf (sc 8) ((ps 8).zip [.ref 0, .int n])) (bd 8) ([.lst xs] ++ cellOs ((ps 8).zip [.ref 0, .int n]) cn8) (endW K) =
    (inn 8 0 = inn 8 0 ∧ xs.length ≤ 1000000 ∧ (!xs.isEmpty) = true ∧ xs.length ≤ 1000000 ∧ (cl8 = cl8 ∧ k8 = k8 ∧ pre8 n xs 0 (xs.length : Nat) ∧ (xs.length : Int) - 0 ≤ 2 ^ m) ∧ K (.int (vl n xs 0 (xs.length : Nat))) (HY n xs)) := by kernel_rfl
theorem i8_false (n : Int) (xs : List AV) (m : Nat) (K : Kv) : aws 60 (pc8 [(94, some false)] (sp8c m)) (locsOf (sc 8) ((ps 8).zip [.ref 0, .int n])) (bd 8) ([.lst xs] ++ cellOs ((ps 8).zip [.ref 0, .int n]) cn8) (endW K) =
    (inn 8 0 = inn 8 0 ∧ xs.length ≤ 1000000 ∧ (!xs.isEmpty) = false ∧ K (.int 0) (HY n xs)) := by kernel_rfl

theorem sp8c_sound (hF : ∀ h, g.B h → Facts h) (m : Nat) (f : AV) (args : List AV) (H : AH) (K : Kv) (h : sp8c m f args H K) : CallOk g (m + 1) f args H K := by
  unfold sp8c at h
  split at h
  · exact sp8_sound hF m _ _ _ _ h
  · exact std_sound h
theorem C8 (hF : ∀ h, g.B h → Facts h) (X : TabG g t8) (sites : List (Nat × Option Bool)) (m : Nat) : COk g (m + 1) (pc8 sites (sp8c m)) := by
  refine mkC hF (sp8c_sound hF m) rfl rfl (show namesOk (sc 8) = true by decide +kernel) fun n f st loc H K e h => ?_
  have e : hk8 n = some f := e
  unfold hk8 at e
  split at e
  · cases e
    obtain ⟨rfl, h⟩ := h
    rw [inn8_eq]
    refine def_sound (cl := cl8) X (fun h hb => (hF h hb).bo) (fun env => rfl) (by decide +kernel) rfl (show ("_digits2int.<locals>." : Str) ++ ("inner" : Str) = t8.q by decide +kernel) ⟨by decide +kernel, by decide +kernel⟩ (by decide +kernel) (fun c' => ?_) (show ((sc 8).names.lookup ("inner" : Str) == some NameKind.globalExplicit) = false by decide +kernel) (show cloOf (cellIx 1 cn8) (isc (inn 8 0)).names [] = some cl8 by decide +kernel) (by decide) h
    rfl
  · cases e

/-- _digits2int gives the number -/
theorem d2i_call (hF : ∀ h, g.B h → Facts h) (X8 : TabG g t8) {n : Nat} {ds : List Nat} (hn1 : 1 ≤ n) (hn2 : n ≤ 1000) (hd : ∀ d ∈ ds, d < 2 ^ n) (hl : ds.length ≤ 1000) {H : AH} {j : Nat} (hj : H[j]? = some (.lst (ds.map fun d => AV.int (d : Nat)))) {K : Kv}
    (k : K (.int (val n ds : Nat)) H) : CallOk g 12 (.fn 56) [.ref j, .int n] H K := by
  refine lift_one (args := [.int n]) (by simp [isSc]) rfl rfl rfl hj ?_ k
  generalize hxs : ds.map (fun d => AV.int ((d : Nat) : Int)) = xs
  have hlen : xs.length = ds.length := by rw [← hxs, List.length_map]
  by_cases h0 : ds = []
  · subst h0
    have hx0 : xs = [] := by rw [← hxs]; rfl
    subst hx0
    refine fn_cells (n := 60) (C8 hF X8 [(94, some false)] 10) (fun h hb => (hF h hb).fn (8, 56) (by decide)) (fun h hb => (hF h hb).lim) (cn := cn8) (ps := ps 8) (body := bd 8) (fun m => by rfl) (by decide +kernel) rfl (by decide +kernel) (by decide +kernel) rfl ?_
    show aws 60 (pc8 [(94, some false)] (sp8c 10)) (locsOf (sc 8) ((ps 8).zip [.ref 0, .int n])) (bd 8) ([.lst []] ++ cellOs ((ps 8).zip [.ref 0, .int n]) cn8) (endW _)
    rw [i8_false]
    exact ⟨rfl, by decide, rfl, rfl, rfl⟩
  · have hne : 0 < ds.length := List.length_pos_iff.mpr h0
    refine fn_cells (n := 60) (C8 hF X8 [(94, some true)] 10) (fun h hb => (hF h hb).fn (8, 56) (by decide)) (fun h hb => (hF h hb).lim) (cn := cn8) (ps := ps 8) (body := bd 8) (fun m => by rfl) (by decide +kernel) rfl (by decide +kernel) (by decide +kernel) rfl ?_
    show aws 60 (pc8 [(94, some true)] (sp8c 10)) (locsOf (sc 8) ((ps 8).zip [.ref 0, .int n])) (bd 8) ([.lst xs] ++ cellOs ((ps 8).zip [.ref 0, .int n]) cn8) (endW _)
    rw [i8_true]
    have hv : vl (n : Int) xs 0 (xs.length : Nat) = (val n ds : Nat) := by
      have := vl_nat n xs 0 xs.length (Nat.zero_le _)
      rw [show ((0 : Nat) : Int) = 0 from rfl] at this
      rw [this]
      unfold vln
      rw [List.drop_zero, Nat.sub_zero, List.take_length, ← hxs, List.map_map]
      have : (natOf ∘ fun d : Nat => AV.int (d : Int)) = id := by funext d; rfl
      rw [this, List.map_id]
    have he : xs.isEmpty = false := by
      cases xs with
      | nil => simp at hlen; omega
      | cons => rfl
    refine ⟨rfl, by omega, by rw [he]; rfl, by omega, ⟨rfl, rfl, ⟨by omega, by omega, by omega, by omega, by omega, by omega, ?_⟩, ?_⟩, hv ▸ rfl, rfl⟩
    · intro x hx
      rw [← hxs] at hx
      obtain ⟨d, h1, rfl⟩ := List.mem_map.mp hx
      exact ⟨d, rfl, by rw [Int.toNat_natCast]; exact hd d h1⟩
    · have : (2 : Int) ^ 10 = 1024 := by decide
      rw [this]; omega
end L1

end
section
open PySem PySem.W PyProof.Rows Py
set_option maxRecDepth 100000
set_option autoImplicit false
set_option linter.unusedVariables false
namespace L1
variable {g : G}

/-- the schoolbook division, the high digit first -/
noncomputable def sd (b n : Nat) : List Nat → Nat → List Nat × Nat
  | [], r => ([], r)
  | d :: ds, r => ((r * 2 ^ n + d) / b :: (sd b n ds ((r * 2 ^ n + d) % b)).1, (sd b n ds ((r * 2 ^ n + d) % b)).2)
noncomputable def aI (d : Nat) : AV := .int (d : Int)
noncomputable def sp9 (f : AV) (args : List AV) (H : AH) (K : Kv) : Prop :=
  oFn 49 f (a2 args (fun a n => oII a n (fun a n => (1 ≤ n ∧ n ≤ 1000 ∧ 0 ≤ a ∧ a < 2 ^ 1000) ∧ newW (.lst ((digs n.toNat ((Builtin.Int.intBits a + n.toNat - 1) / n.toNat) a.toNat).map aI)) H K) False) False) <|
  oFn 35 f (a3 args (fun a b n => oI a (fun a => oII b n (fun b n => ((Builtin.Int.intBits a : Int) - n ≤ 4000 ∧ b ≠ 0 ∧ Builtin.divisionGoesByPylong a b = false) ∧ newW (.tup [.int (a.fdiv b), .int (a.fmod b)]) H K) False) False) False) <|
  oFn 56 f (a2 args (fun j n => oR j (fun j => oI n (fun n => oLs H[j]? (fun xs => (1 ≤ n ∧ n ≤ 1000 ∧ (∀ x ∈ xs, ∃ d : Nat, x = aI d ∧ d < 2 ^ n.toNat) ∧ xs.length ≤ 1000) ∧ K (.int (val n.toNat (xs.map natOf) : Nat)) H) False) False) False) False) <|
  stdW f args H K
noncomputable def lk (loc : Lc) (x : Str) : Option AV := loc.lookup x
noncomputable def fs9 : Stmt := ((bd 9)[4]?).getD (.Pass ⟨0, 0, 0, 0⟩)
noncomputable def loc9 (n b r : Int) : Lc := [("n", .int n), ("b", .int b), ("r", .int r), ("q_digits", .ref 1)]
noncomputable def l9 (a b n : Int) : Lc := [("a", .int a), ("b", .int b), ("n", .int n), ("a_digits", .ref 0), ("r", .int 0), ("q_digits", .ref 1)]
noncomputable def hk9 (l : Nat) : Option (Stmt → Lc → AH → (Fl → Lc → AH → Prop) → Prop) := match l == 100 with
  | true => some fun st loc H K => st = fs9 ∧ oSm (lk loc "n") fun n => oI n (fun n => oSm (lk loc "b") fun b => oI b (fun b => aC H (fun o0 H => aC H (fun o1 H => a0 H (oLt o0 fun xs => oLt o1 fun ys => a0 ys (
      (∃ a, loc = l9 a b n) ∧ (1 ≤ n ∧ n ≤ 1000 ∧ 0 < b ∧ b < 2 ^ n.toNat ∧ (∀ x ∈ xs, ∃ d : Nat, x = aI d ∧ d < 2 ^ n.toNat) ∧ xs.length ≤ 1000) ∧
      K .next (loc9 n b ((sd b.toNat n.toNat (xs.map natOf).reverse 0).2 : Nat)) [.lst xs, .lst ((sd b.toNat n.toNat (xs.map natOf).reverse 0).1.map aI), .dead]) False) False) False) False) False) False
  | false => none
noncomputable def pc90 (sp : AV → List AV → AH → Kv → Prop) : PC := { scope := sc 9, cells := [], sites := [], fns := fnl, gl := fun x => gls.lookup x, sp := sp, hk := fun _ => none, cd := .ref 62, qn := nm 9 ++ (".<locals>." : Str), sym := true }
noncomputable def pc9 (sp : AV → List AV → AH → Kv → Prop) : PC := { pc90 sp with hk := hk9 }
noncomputable abbrev d9 (a b : Int) : List AV := (digs (Int.toNat (Builtin.Int.intBits b : Int)) ((Builtin.Int.intBits a + (Int.toNat (Builtin.Int.intBits b : Int)) - 1) / (Int.toNat (Builtin.Int.intBits b : Int))) a.toNat).map aI
noncomputable abbrev q9 (a b : Int) : List Nat × Nat := sd b.toNat (Int.toNat (Builtin.Int.intBits b : Int)) ((d9 a b).map natOf).reverse 0
theorem dp_K (a b : Int) (K : Kv) : aws 60 (pc9 sp9) ((ps 9).zip [.int a, .int b]) (bd 9) [] (endW K) =
    ((1 ≤ (Builtin.Int.intBits b : Int) ∧ (Builtin.Int.intBits b : Int) ≤ 1000 ∧ 0 ≤ a ∧ a < 2 ^ 1000) ∧
      fs9 = fs9 ∧ (∃ a', l9 a b (Builtin.Int.intBits b : Int) = l9 a' b (Builtin.Int.intBits b : Int)) ∧
      (1 ≤ (Builtin.Int.intBits b : Int) ∧ (Builtin.Int.intBits b : Int) ≤ 1000 ∧ 0 < b ∧ b < 2 ^ Int.toNat (Builtin.Int.intBits b : Int) ∧ (∀ x ∈ d9 a b, ∃ d : Nat, x = aI d ∧ d < 2 ^ Int.toNat (Builtin.Int.intBits b : Int)) ∧ (d9 a b).length ≤ 1000) ∧
      ((q9 a b).1.map aI).length ≤ 1000000 ∧
      (1 ≤ (Builtin.Int.intBits b : Int) ∧ (Builtin.Int.intBits b : Int) ≤ 1000 ∧ (∀ x ∈ ((q9 a b).1.map aI).reverse, ∃ d : Nat, x = aI d ∧ d < 2 ^ Int.toNat (Builtin.Int.intBits b : Int)) ∧ ((q9 a b).1.map aI).reverse.length ≤ 1000) ∧
      K (.ref 3) [.lst (d9 a b), .lst ((q9 a b).1.map aI).reverse, .dead, .tup [.int (val (Int.toNat (Builtin.Int.intBits b : Int)) (((q9 a b).1.map aI).reverse.map natOf) : Nat), .int ((q9 a b).2 : Nat)]]) := by kernel_rfl

noncomputable def ftgt : Stmt → PySem.Expr
  | .For t .. => t
  | _ => .Name "" ⟨0, 0, 0, 0⟩
noncomputable def fit : Stmt → PySem.Expr
  | .For _ i .. => i
  | _ => .Name "" ⟨0, 0, 0, 0⟩
noncomputable def fbd : Stmt → List Stmt
  | .For _ _ b .. => b
  | _ => []
noncomputable def fpos : Stmt → Pos
  | .For _ _ _ _ p => p
  | _ => ⟨0, 0, 0, 0⟩
theorem fs9_eq : fs9 = .For (ftgt fs9) (fit fs9) (fbd fs9) [] (fpos fs9) := by kernel_rfl
noncomputable abbrev tt9 (n r d : Int) : Int := r * 2 ^ n.toNat + d
theorem turn9_K (n b r d : Int) (k : Nat) (xs qs : List AV) (Kx : Fl → Lc → AH → Prop) :
    awa 60 (pc90 sp9) (loc9 n b r) (ftgt fs9) (.int d) [.lst xs, .lst qs, .itV 0 k] (fun loc H => aws 60 (pc90 sp9) loc (fbd fs9) H Kx) =
    (0 ≤ n ∧ (Builtin.Int.intBits r : Int) + n ≤ 2 ^ 27 ∧ ((Builtin.Int.intBits (tt9 n r d) : Int) - n ≤ 4000 ∧ b ≠ 0 ∧ Builtin.divisionGoesByPylong (tt9 n r d) b = false) ∧ qs.length ≤ 1000000 ∧
      Kx .next [("n", .int n), ("b", .int b), ("r", .int ((tt9 n r d).fmod b)), ("q_digits", .ref 1), ("a_digit", .int d), ("q_digit", .int ((tt9 n r d).fdiv b))]
        [.lst xs, .lst (qs ++ [.int ((tt9 n r d).fdiv b)]), .itV 0 k, .tup [.int ((tt9 n r d).fdiv b), .int ((tt9 n r d).fmod b)]]) := by kernel_rfl
theorem iter9_K (a n b : Int) (xs : List AV) (Kx : Kv) : awe 60 (pc90 sp9) (l9 a b n) (fit fs9) [.lst xs, .lst []] Kx = Kx (.ref 2) [.lst xs, .lst [], .itV 0 xs.length] := by kernel_rfl

theorem sd_app (b n : Nat) : ∀ xs ys r, sd b n (xs ++ ys) r = ((sd b n xs r).1 ++ (sd b n ys (sd b n xs r).2).1, (sd b n ys (sd b n xs r).2).2)
  | [], ys, r => rfl
  | x :: xs, ys, r => by
    show ((r * 2 ^ n + x) / b :: (sd b n (xs ++ ys) _).1, (sd b n (xs ++ ys) _).2) = _
    rw [sd_app b n xs ys]; rfl
theorem sd_len (b n : Nat) : ∀ xs r, (sd b n xs r).1.length = xs.length
  | [], _ => rfl
  | x :: xs, r => by show (_ :: (sd b n xs _).1).length = _; rw [List.length_cons, sd_len b n xs]; rfl
theorem sd_q_lt {b n : Nat} (hb : 0 < b) : ∀ xs r, r < b → (∀ d ∈ xs, d < 2 ^ n) → (∀ q ∈ (sd b n xs r).1, q < 2 ^ n) ∧ (sd b n xs r).2 < b
  | [], r, hr, _ => ⟨(fun q h => nomatch h), hr⟩
  | x :: xs, r, hr, hd => by
    obtain ⟨h1, h2⟩ := sd_q_lt hb xs ((r * 2 ^ n + x) % b) (Nat.mod_lt _ hb) fun d h => hd d (List.mem_cons_of_mem _ h)
    refine ⟨fun q hq => ?_, h2⟩
    rcases List.mem_cons.mp hq with rfl | hq
    · have hx := hd x List.mem_cons_self
      rw [Nat.div_lt_iff_lt_mul hb]
      have : (r + 1) * 2 ^ n ≤ b * 2 ^ n := Nat.mul_le_mul_right _ hr
      rw [Nat.add_mul, Nat.one_mul] at this
      rw [Nat.mul_comm (2 ^ n) b]; omega
    · exact h1 q hq
theorem sd_val (b n : Nat) : ∀ xs r, val n (sd b n xs r).1.reverse * b + (sd b n xs r).2 = r * 2 ^ (n * xs.length) + val n xs.reverse
  | [], r => by simp [sd, val]
  | x :: xs, r => by
    have ih := sd_val b n xs ((r * 2 ^ n + x) % b)
    show val n ((r * 2 ^ n + x) / b :: (sd b n xs ((r * 2 ^ n + x) % b)).1).reverse * b + (sd b n xs ((r * 2 ^ n + x) % b)).2 = r * 2 ^ (n * (xs.length + 1)) + val n (x :: xs).reverse
    rw [List.reverse_cons, List.reverse_cons, val_app, val_app, List.length_reverse, List.length_reverse, sd_len]
    simp only [val, Nat.mul_zero, Nat.add_zero]
    have h1 := Nat.div_add_mod (r * 2 ^ n + x) b
    rw [Nat.add_mul, Nat.mul_add n, Nat.mul_one, Nat.pow_add]
    generalize hq : (r * 2 ^ n + x) / b = q at *
    generalize hm : (r * 2 ^ n + x) % b = m at *
    generalize val n (sd b n xs m).1.reverse = v at *
    generalize (sd b n xs m).2 = r' at *
    generalize val n xs.reverse = w at *
    generalize 2 ^ (n * xs.length) = P at *
    have e1 : P * q * b = P * (b * q) := by rw [Nat.mul_assoc, Nat.mul_comm q b]
    have e2 : P * (b * q + m) = P * (r * 2 ^ n + x) := by rw [h1]
    rw [Nat.mul_add, Nat.mul_add] at e2
    have e3 : r * (P * 2 ^ n) = P * (r * 2 ^ n) := by rw [← Nat.mul_assoc, Nat.mul_comm r P, Nat.mul_assoc]
    rw [Nat.mul_comm m P] at ih
    rw [e1, e3]; omega
end L1

end
section
open PySem PySem.W PyProof.Rows Py
set_option maxRecDepth 100000
set_option autoImplicit false
set_option linter.unusedVariables false
namespace L1
variable {g : G}

theorem sp9_sound (hF : ∀ h, g.B h → Facts h) (X7 : TabG g t7) (X8 : TabG g t8) (f : AV) (args : List AV) (H : AH) (K : Kv) (h : sp9 f args H K) : CallOk g 12 f args H K := by
  replace h := oFn_or h; obtain ⟨rfl, h⟩ | h := h
  · replace h := no (a2_or h); obtain ⟨a, n, rfl, h⟩ := h
    replace h := no (oII_or h); obtain ⟨a, n, ⟨rfl, rfl⟩, h⟩ := h
    obtain ⟨⟨h1, h2, h3, h4⟩, k⟩ := h
    obtain ⟨X, rfl⟩ := Int.eq_ofNat_of_zero_le h3
    obtain ⟨n, rfl⟩ := Int.eq_ofNat_of_zero_le (show 0 ≤ n by omega)
    rw [Int.toNat_natCast, Int.toNat_natCast] at k
    exact i2d_call hF X7 (by omega) (by omega) (of_cast_lt h4) k
  replace h := oFn_or h; obtain ⟨rfl, h⟩ | h := h
  · replace h := no (a3_or h); obtain ⟨a, b, n, rfl, h⟩ := h
    replace h := no (oI_or h); obtain ⟨a, rfl, h⟩ := h
    replace h := no (oII_or h); obtain ⟨b, n, ⟨rfl, rfl⟩, h⟩ := h
    obtain ⟨⟨h1, h2, h3⟩, k⟩ := h
    exact mono (by decide) (d2_call (d := 0) hF h1 h2 h3 k)
  replace h := oFn_or h; obtain ⟨rfl, h⟩ | h := h
  · replace h := no (a2_or h); obtain ⟨j, n, rfl, h⟩ := h
    replace h := no (oR_or h); obtain ⟨j, rfl, h⟩ := h
    replace h := no (oI_or h); obtain ⟨n, rfl, h⟩ := h
    replace h := no (oLs_or h); obtain ⟨xs, hj, h⟩ := h
    obtain ⟨⟨h1, h2, h3, h4⟩, k⟩ := h
    obtain ⟨n, rfl⟩ := Int.eq_ofNat_of_zero_le (show 0 ≤ n by omega)
    rw [Int.toNat_natCast] at h3 k
    have hx : xs = (xs.map natOf).map fun d => AV.int (d : Nat) := by
      rw [List.map_map]
      conv => lhs; rw [← List.map_id xs]
      refine List.map_congr_left fun x hx => ?_
      obtain ⟨d, rfl, _⟩ := h3 x hx
      simp [natOf, aI]
    rw [hx] at hj
    refine d2i_call hF X8 (by omega) (by omega) (fun d hd => ?_) (by rw [List.length_map]; exact h4) hj k
    obtain ⟨x, hx, rfl⟩ := List.mem_map.mp hd
    obtain ⟨d, rfl, h5⟩ := h3 x hx
    simpa [natOf, aI] using h5
  · exact std_sound h

theorem natOf_map (l : List Nat) : (l.map aI).map natOf = l := by
  rw [List.map_map]
  conv => rhs; rw [← List.map_id l]
  refine List.map_congr_left fun x _ => ?_
  simp [natOf, aI]

theorem fdiv_nat (a b : Nat) : Int.fdiv (a : Int) (b : Int) = ((a / b : Nat) : Int) := by
  rw [Int.fdiv_eq_ediv_of_nonneg _ (Int.natCast_nonneg _)]; norm_cast
theorem fmod_nat (a b : Nat) : Int.fmod (a : Int) (b : Int) = ((a % b : Nat) : Int) := by
  rw [Int.fmod_eq_emod_of_nonneg _ (Int.natCast_nonneg _)]; norm_cast

theorem sub_ok {t : Nat} {loc loc' : Lc} (h : ∀ p ∈ loc', loc.lookup p.1 = some p.2 ∧ below t p.2 = true) (x : Str) (v : AV) (e : loc'.lookup x = some v) : loc.lookup x = some v ∧ below t v = true := h _ (lookup_mem e)
theorem all_aI {t : Nat} {xs : List AV} (h : ∀ x ∈ xs, ∃ d : Nat, x = aI d) : xs.all (below t) = true := List.all_eq_true.mpr fun x hx => by obtain ⟨d, rfl⟩ := h x hx; rfl
theorem all_aI' {t : Nat} (l : List Nat) : (l.map aI).all (below t) = true := all_aI fun x hx => by obtain ⟨d, _, rfl⟩ := List.mem_map.mp hx; exact ⟨d, rfl⟩

noncomputable def I9 (n b : Nat) (xs : List AV) (qs : List Nat × Nat) (k : Nat) (loc : Lc) (H : AH) : Prop :=
  ∃ q r, loc = loc9 n b (r : Nat) ∧ H = [.lst xs, .lst (q.map aI), .itV 0 k] ∧ r < b ∧ k ≤ xs.length ∧ qs = (q ++ (sd b n ((xs.map natOf).take k).reverse r).1, (sd b n ((xs.map natOf).take k).reverse r).2) ∧ q.length + k = xs.length

/-- the loop of _divmod_pos -/
theorem hk9_sound (hF : ∀ h, g.B h → Facts h) (X7 : TabG g t7) (X8 : TabG g t8) : ∀ n f st loc H K, hk9 n = some f → f st loc H K → HkOk g 12 (pc9 sp9) loc st H K := by
  have C : COk g 12 (pc90 sp9) := mkC hF (sp9_sound hF X7 X8) rfl rfl (show namesOk (sc 9) = true by decide +kernel) (fun _ _ _ _ _ _ e => nomatch e)
  intro n f st loc H K e h
  unfold hk9 at e
  split at e
  · cases e
    obtain ⟨rfl, h⟩ := h
    replace h := oSm_in h; obtain ⟨n, ln, h⟩ := h
    replace h := no (oI_or h); obtain ⟨n, rfl, h⟩ := h
    replace h := oSm_in h; obtain ⟨b, lb, h⟩ := h
    replace h := no (oI_or h); obtain ⟨b, rfl, h⟩ := h
    replace h := no (aC_or h); obtain ⟨o0, H, rfl, h⟩ := h
    replace h := no (aC_or h); obtain ⟨o1, H, rfl, h⟩ := h
    replace h := no (a0_or h); obtain ⟨rfl, h⟩ := h
    replace h := oLt_in h; obtain ⟨xs, rfl, h⟩ := h
    replace h := oLt_in h; obtain ⟨ys, rfl, h⟩ := h
    replace h := no (a0_or h); obtain ⟨rfl, h⟩ := h
    clear ln lb
    obtain ⟨⟨a, rfl⟩, ⟨hn1, hn2, hb, hb2, hxs, hlen⟩, hK⟩ := h
    obtain ⟨n, rfl⟩ := Int.eq_ofNat_of_zero_le (show 0 ≤ n by omega)
    obtain ⟨b, rfl⟩ := Int.eq_ofNat_of_zero_le (show 0 ≤ b by omega)
    rw [Int.toNat_natCast] at hb2 hxs hK
    rw [Int.toNat_natCast] at hK
    have hb2 : b < 2 ^ n := of_cast_lt hb2
    refine HkOk.cg (g := g) (d := 12) (c := pc90 sp9) (c' := pc9 sp9) rfl rfl rfl rfl ?_
    rw [fs9_eq]
    refine for_hook C (n := 60) (m := 2) (T := 3) (I9 n b xs (sd b n (xs.map natOf).reverse 0)) (by decide +kernel) (by simp) (by decide) ?_ ?_
    · rw [iter9_K]
      show (2 = 2) ∧ _
      refine ⟨rfl, loc9 n b 0, 3, by decide, ?_, sub_ok ?_, (fun x i e => by cases e), xs.length, [], 0, rfl, rfl, by omega, Nat.le_refl _, ?_, by simp⟩
      · simp only [List.take_succ_cons, List.take_zero, List.all_cons, List.all_nil, belowO, Bool.and_true]
        exact Bool.and_eq_true_iff.mpr ⟨all_aI fun x hx => let ⟨d, h, _⟩ := hxs x hx; ⟨d, h⟩, by decide⟩
      · intro p hp
        simp only [loc9, List.mem_cons, List.not_mem_nil, or_false] at hp
        rcases hp with rfl | rfl | rfl | rfl <;> exact ⟨rfl, rfl⟩
      · rw [List.nil_append, ← List.map_take, List.take_length]
    · rintro k loc H ⟨q, r, rfl, rfl, hr, hk, hqs, hql⟩
      cases k with
      | zero =>
        show Fg 3 (pc90 sp9) _ (loc9 n b r) [.lst xs, .lst (q.map aI), .dead]
        refine ⟨loc9 n b r, 3, by decide, ?_, sub_ok ?_, (fun x i e => by cases e), ?_⟩
        · simp only [List.take_succ_cons, List.take_zero, List.all_cons, List.all_nil, belowO, Bool.and_true]
          exact Bool.and_eq_true_iff.mpr ⟨all_aI fun x hx => let ⟨d, h, _⟩ := hxs x hx; ⟨d, h⟩, all_aI' q⟩
        · intro p hp
          simp only [loc9, List.mem_cons, List.not_mem_nil, or_false] at hp
          rcases hp with rfl | rfl | rfl | rfl <;> exact ⟨rfl, rfl⟩
        · rw [hqs] at hK
          simpa [sd] using hK
      | succ k =>
        obtain ⟨d, hd1, hd2⟩ := hxs _ (List.getElem_mem (show k < xs.length by omega))
        have hg : xs[k]? = some (.int d) := by rw [List.getElem?_eq_getElem (by omega), hd1]; rfl
        show (match xs[k]? with | some x => _ | none => False)
        rw [hg]
        show awa 60 (pc90 sp9) (loc9 n b r) (ftgt fs9) (.int d) [.lst xs, .lst (q.map aI), .itV 0 k] (fun loc H => aws 60 (pc90 sp9) loc (fbd fs9) H _)
        rw [turn9_K]
        have hb3 : b < 2 ^ 1000 := Nat.lt_of_lt_of_le hb2 (Nat.pow_le_pow_right (by decide) (by omega))
        have hr2 : r < 2 ^ n := Nat.lt_trans hr hb2
        have htt : tt9 (n : Int) (r : Int) (d : Int) = ((r * 2 ^ n + d : Nat) : Int) := by
          show (r : Int) * 2 ^ (Int.toNat (n : Int)) + d = _
          rw [Int.toNat_natCast]; push_cast; rfl
        have hlt : r * 2 ^ n + d < 2 ^ (n + n) := by
          have h1 : (r + 1) * 2 ^ n ≤ 2 ^ n * 2 ^ n := Nat.mul_le_mul_right _ hr2
          rw [Nat.add_mul, Nat.one_mul] at h1
          rw [Nat.pow_add]; omega
        have hbt : Builtin.Int.intBits ((r * 2 ^ n + d : Nat) : Int) ≤ n + n := bits_nat hlt
        have hbr : Builtin.Int.intBits (r : Int) ≤ n := bits_nat hr2
        rw [htt, fdiv_nat, fmod_nat]
        have e27 : (2 : Int) ^ 27 = 134217728 := by decide
        refine ⟨Int.natCast_nonneg _, by rw [e27]; omega, ⟨by omega, by omega, PyProof.noPylong_of_log2 ?_⟩, by rw [List.length_map]; omega, ?_⟩
        · rw [Int.natAbs_natCast]
          rcases Nat.eq_zero_or_pos b with h | h
          · subst h; decide
          · exact Nat.lt_trans ((Nat.log2_lt (by omega)).mpr hb3) (by decide)
        · refine ⟨loc9 n b ((r * 2 ^ n + d) % b : Nat), 3, by decide, ?_, sub_ok ?_, (fun x i e => by cases e), k, Nat.lt_succ_self k, q ++ [(r * 2 ^ n + d) / b], (r * 2 ^ n + d) % b, rfl, ?_, Nat.mod_lt _ (by omega), by omega, ?_, ?_⟩
          · simp only [List.take_succ_cons, List.take_zero, List.all_cons, List.all_nil, belowO, Bool.and_true]
            refine Bool.and_eq_true_iff.mpr ⟨all_aI fun x hx => let ⟨d, h, _⟩ := hxs x hx; ⟨d, h⟩, Bool.and_eq_true_iff.mpr ⟨?_, by decide⟩⟩
            rw [List.all_append, all_aI' q]; rfl
          · intro p hp
            simp only [loc9, List.mem_cons, List.not_mem_nil, or_false] at hp
            rcases hp with rfl | rfl | rfl | rfl <;> exact ⟨rfl, rfl⟩
          · rw [List.map_append]; rfl
          · rw [hqs]
            have e : ((xs.map natOf).take (k + 1)).reverse = d :: ((xs.map natOf).take k).reverse := by
              have hk' : k < (xs.map natOf).length := by rw [List.length_map]; omega
              rw [List.take_succ_eq_append_getElem hk', List.reverse_append, List.getElem_map, hd1]; rfl
            rw [e]
            show (q ++ ((r * 2 ^ n + d) / b :: _), _) = _
            rw [List.append_assoc]; rfl
          · rw [List.length_append]
            show q.length + 1 + k = _
            omega
  · cases e
end L1

end
section
open PySem PySem.W PyProof.Rows Py
set_option maxRecDepth 100000
set_option autoImplicit false
set_option linter.unusedVariables false
namespace L1
variable {g : G}

theorem bits_pos {b : Nat} (hb : 0 < b) : 1 ≤ Builtin.Int.intBits (b : Int) := by
  rcases Nat.eq_zero_or_pos (Builtin.Int.intBits (b : Int)) with h | h
  · have := lt_bits b
    rw [h] at this
    simp at this; omega
  · exact h

/-- _divmod_pos gives quotient and remainder -/
theorem dp_call (hF : ∀ h, g.B h → Facts h) (X7 : TabG g t7) (X8 : TabG g t8) {a b : Nat} (ha : a < 2 ^ 1000) (hb0 : 0 < b) (hb : b < 2 ^ 1000) {H : AH} {K : Kv}
    (k : newW (.tup [.int (a / b : Nat), .int (a % b : Nat)]) H K) : CallOk g 13 (.fn 63) [.int a, .int b] H K := by
  refine lift_tup (by simp [isSc]) rfl rfl ?_ k
  have C : COk g 12 (pc9 sp9) := mkC hF (sp9_sound hF X7 X8) rfl rfl (show namesOk (sc 9) = true by decide +kernel) (hk9_sound hF X7 X8)
  refine fn_call (n := 60) C (fun h hb => (hF h hb).fn (9, 63) (by decide)) (fun h hb => (hF h hb).lim) (ps := ps 9) (body := bd 9) rfl (by decide +kernel) (by decide +kernel) rfl ?_
  rw [dp_K]
  have hn1 := bits_pos hb0
  have hn2 : Builtin.Int.intBits (b : Int) ≤ 1000 := bits_nat hb
  have hbn := lt_bits b
  have hba : Builtin.Int.intBits (a : Int) ≤ 1000 := bits_nat ha
  have han := lt_bits a
  have e1 : Int.toNat (Builtin.Int.intBits (b : Int) : Int) = Builtin.Int.intBits (b : Int) := Int.toNat_natCast _
  have hd : d9 (a : Int) (b : Int) = (digs (Builtin.Int.intBits (b : Int)) ((Builtin.Int.intBits (a : Int) + Builtin.Int.intBits (b : Int) - 1) / Builtin.Int.intBits (b : Int)) a).map aI := by
    show (digs _ _ _).map aI = _
    rw [e1, Int.toNat_natCast]
  have hq : q9 (a : Int) (b : Int) = sd b (Builtin.Int.intBits (b : Int)) (digs (Builtin.Int.intBits (b : Int)) ((Builtin.Int.intBits (a : Int) + Builtin.Int.intBits (b : Int) - 1) / Builtin.Int.intBits (b : Int)) a).reverse 0 := by
    show sd _ _ _ _ = _
    rw [hd, natOf_map, e1, Int.toNat_natCast]
  rw [hq, hd, e1]
  generalize hn : Builtin.Int.intBits (b : Int) = n at *
  generalize hk : (Builtin.Int.intBits (a : Int) + n - 1) / n = k' at *
  have hk1 : k' ≤ 1000 := by
    rw [← hk]
    refine Nat.le_of_lt_succ ((Nat.div_lt_iff_lt_mul (by omega)).mpr ?_)
    have : 1000 * 1 ≤ 1000 * n := Nat.mul_le_mul_left _ hn1
    rw [show Nat.succ 1000 * n = 1000 * n + n by rw [Nat.succ_mul]]; omega
  have hcm : Builtin.Int.intBits (a : Int) ≤ n * k' := hk ▸ ceil_mul _ n hn1
  have haX : a < 2 ^ (n * k') := Nat.lt_of_lt_of_le han (Nat.pow_le_pow_right (by decide) hcm)
  have hv := sd_val b n (digs n k' a).reverse 0
  rw [List.reverse_reverse, val_digs n k' a haX, Nat.zero_mul, Nat.zero_add] at hv
  obtain ⟨hql, hr⟩ := sd_q_lt (n := n) hb0 (digs n k' a).reverse 0 hb0 fun d h => digs_lt n k' a d (List.mem_reverse.mp h)
  have hlen := sd_len b n (digs n k' a).reverse 0
  rw [List.length_reverse, digs_len] at hlen
  generalize sd b n (digs n k' a).reverse 0 = s at *
  obtain ⟨q, r⟩ := s
  have hqa : val n q.reverse = a / b ∧ r = a % b := by
    have hv' : val n q.reverse * b + r = a := hv
    have hm : a = r + b * val n q.reverse := by rw [Nat.mul_comm]; omega
    constructor
    · rw [hm, Nat.add_mul_div_left _ _ hb0, Nat.div_eq_of_lt hr, Nat.zero_add]
    · rw [hm, Nat.add_mul_mod_self_left, Nat.mod_eq_of_lt hr]
  refine ⟨⟨by omega, by omega, Int.natCast_nonneg _, ?_⟩, rfl, ⟨_, rfl⟩, ⟨by omega, by omega, by omega, ?_, ?_, ?_⟩, ?_, ⟨by omega, by omega, ?_, ?_⟩, ?_⟩
  · exact cast_lt ha
  · exact cast_lt hbn
  · intro x hx
    obtain ⟨d, hd, rfl⟩ := List.mem_map.mp hx
    exact ⟨d, rfl, digs_lt n k' a d hd⟩
  · rw [List.length_map, digs_len]; exact hk1
  · rw [List.length_map, hlen]; omega
  · intro x hx
    obtain ⟨d, hd, rfl⟩ := List.mem_map.mp (List.mem_reverse.mp hx)
    exact ⟨d, rfl, hql d hd⟩
  · rw [List.length_reverse, List.length_map, hlen]; exact hk1
  · rw [← List.map_reverse, natOf_map, hqa.1, hqa.2]
    exact ⟨3, rfl, rfl⟩
end L1

end
section
open PySem PySem.W PyProof.Rows Py
set_option maxRecDepth 100000
set_option autoImplicit false
set_option linter.unusedVariables false
set_option exponentiation.threshold 2000
namespace L1
variable {g : G}

noncomputable abbrev dm (a b : Int) : List AV := [.int (a.fdiv b), .int (a.fmod b)]
noncomputable def sp10 (P : Int → Int → Prop) (f : AV) (args : List AV) (H : AH) (K : Kv) : Prop :=
  oFn 63 f (a2 args (fun a b => oII a b (fun a b => (0 ≤ a ∧ a < 2 ^ 1000 ∧ 0 < b ∧ b < 2 ^ 1000) ∧ newW (.tup (dm a b)) H K) False) False) <|
  oFn 70 f (a2 args (fun a b => oII a b (fun a b => P a b ∧ newW (.tup (dm a b)) H K) False) False) <| stdW f args H K
theorem idm0_K (P : Int → Int → Prop) (a b : Int) (K : Kv) : aws 60 (pc 10 70 [(107, some false), (109, some false), (112, some false)] (sp10 P)) ((ps 10).zip [AV.int a, .int b]) (bd 10) [] (endW K) =
    ((b == 0) = false ∧ decide (b < 0) = false ∧ decide (a < 0) = false ∧ (0 ≤ a ∧ a < 2 ^ 1000 ∧ 0 < b ∧ b < 2 ^ 1000) ∧ K (.ref 0) [.tup (dm a b)]) := by kernel_rfl
theorem idm1_K (P : Int → Int → Prop) (a b : Int) (K : Kv) : aws 60 (pc 10 70 [(107, some false), (109, some false), (112, some true)] (sp10 P)) ((ps 10).zip [AV.int a, .int b]) (bd 10) [] (endW K) =
    ((b == 0) = false ∧ decide (b < 0) = false ∧ decide (a < 0) = true ∧ P (Builtin.bitNot a) b ∧ K (.ref 1) [.tup (dm (Builtin.bitNot a) b), .tup [.int (Builtin.bitNot ((Builtin.bitNot a).fdiv b)), .int (b + Builtin.bitNot ((Builtin.bitNot a).fmod b))]]) := by kernel_rfl
theorem idm2_K (P : Int → Int → Prop) (a b : Int) (K : Kv) : aws 60 (pc 10 70 [(107, some false), (109, some true), (112, some false)] (sp10 P)) ((ps 10).zip [AV.int a, .int b]) (bd 10) [] (endW K) =
    ((b == 0) = false ∧ decide (b < 0) = true ∧ P (-a) (-b) ∧ K (.ref 1) [.tup (dm (-a) (-b)), .tup [.int ((-a).fdiv (-b)), .int (-(-a).fmod (-b))]]) := by kernel_rfl

/-- as tup_of, the tuple anywhere -/
theorem tup_of' {d : Nat} (hF : ∀ h, g.B h → Facts h) {i : Nat} {a : Addr} (hia : (i, a) ∈ fnp) {sites : List (Nat × Option Bool)} {sp : AV → List AV → AH → Kv → Prop} (hsp : ∀ f args H K, sp f args H K → CallOk g d f args H K) (hnm : namesOk (sc i) = true)
    (hnc : (sc i).names.all (fun x => x.2 != .cell) = true) (hps : (ps i).all (fun x => (sc i).names.lookup x == some .local) = true) {args xs : List AV} (hlen : args.length = (ps i).length) (hx : xs.all isSc = true) (ha : args.all isSc = true) (n : Nat)
    (h : ∀ K : Kv, (∀ n H', H'[n]? = some (.tup xs) → K (.ref n) H') → aws n (pc i a sites sp) ((ps i).zip args) (bd i) [] (endW K)) {H : AH} {K : Kv} (k : newW (.tup xs) H K) : CallOk g (d + 1) (.fn a) args H K := by
  have C : COk g d (pc i a sites sp) := mkC hF hsp rfl rfl hnm (fun _ _ _ _ _ _ e => nomatch e)
  refine lift_tup hx rfl ha ?_ k
  exact fn_call C (fun h hb => (hF h hb).fn _ hia) (fun h hb => (hF h hb).lim) rfl hnc hps hlen (h _ fun n H' e => ⟨n, rfl, e⟩)

theorem sp10_sound (hF : ∀ h, g.B h → Facts h) (X7 : TabG g t7) (X8 : TabG g t8) {d : Nat} (h13 : 13 ≤ d) {P : Int → Int → Prop} (hP : ∀ a b, P a b → ∀ H K, newW (.tup (dm a b)) H K → CallOk g d (.fn 70) [.int a, .int b] H K)
    (f : AV) (args : List AV) (H : AH) (K : Kv) (h : sp10 P f args H K) : CallOk g d f args H K := by
  replace h := oFn_or h; obtain ⟨rfl, h⟩ | h := h
  · replace h := no (a2_or h); obtain ⟨a, b, rfl, h⟩ := h
    replace h := no (oII_or h); obtain ⟨a, b, ⟨rfl, rfl⟩, h⟩ := h
    obtain ⟨⟨h1, h2, h3, h4⟩, k⟩ := h
    obtain ⟨X, rfl⟩ := Int.eq_ofNat_of_zero_le h1
    obtain ⟨Y, rfl⟩ := Int.eq_ofNat_of_zero_le (show 0 ≤ b by omega)
    refine mono h13 (dp_call hF X7 X8 (of_cast_lt h2) (by omega) (of_cast_lt h4) ?_)
    rw [← fdiv_nat, ← fmod_nat]; exact k
  replace h := oFn_or h; obtain ⟨rfl, h⟩ | h := h
  · replace h := no (a2_or h); obtain ⟨a, b, rfl, h⟩ := h
    replace h := no (oII_or h); obtain ⟨a, b, ⟨rfl, rfl⟩, h⟩ := h
    exact hP _ _ h.1 _ _ h.2
  · exact std_sound h

theorem bitNot_eq (a : Int) : Builtin.bitNot a = -a - 1 := by
  first | rfl | (unfold Builtin.bitNot; omega)

theorem idm_pos (hF : ∀ h, g.B h → Facts h) (X7 : TabG g t7) (X8 : TabG g t8) {a b : Int} (ha0 : 0 ≤ a) (ha : a < 2 ^ 1000) (hb0 : 0 < b) (hb : b < 2 ^ 1000) {H : AH} {K : Kv} (k : newW (.tup (dm a b)) H K) :
    CallOk g 14 (.fn 70) [.int a, .int b] H K :=
  tup_of (i := 10) (sites := [(107, some false), (109, some false), (112, some false)]) (sp := sp10 fun _ _ => False) hF (by decide) (sp10_sound hF X7 X8 (Nat.le_refl _) fun _ _ h => h.elim) (by decide +kernel) (by decide +kernel) (by decide +kernel) rfl (by simp [isSc]) rfl 60 (fun K h => by
    rw [idm0_K]; exact ⟨by simp; omega, by simp; omega, by simp; omega, ⟨ha0, ha, hb0, hb⟩, h⟩) k
theorem dm_neg {a b : Int} (ha : a < 0) (hb : 0 < b) : Builtin.bitNot ((Builtin.bitNot a).fdiv b) = a.fdiv b ∧ b + Builtin.bitNot ((Builtin.bitNot a).fmod b) = a.fmod b := by
  simp only [bitNot_eq]
  rw [Int.fdiv_eq_ediv_of_nonneg _ (by omega), Int.fmod_eq_emod_of_nonneg _ (by omega), Int.fdiv_eq_ediv_of_nonneg _ (by omega), Int.fmod_eq_emod_of_nonneg _ (by omega)]
  have h1 := Int.mul_ediv_add_emod a b
  have h2 := Int.mul_ediv_add_emod (-a - 1) b
  have h3 := Int.emod_nonneg a (show b ≠ 0 by omega)
  have h4 := Int.emod_lt_of_pos a hb
  have h5 := Int.emod_nonneg (-a - 1) (show b ≠ 0 by omega)
  have h6 := Int.emod_lt_of_pos (-a - 1) hb
  have key : a / b = -((-a - 1) / b) - 1 := by
    have : b * (a / b + (-a - 1) / b + 1) = b - 1 - a % b - (-a - 1) % b := by rw [Int.mul_add, Int.mul_add]; omega
    have hlt : -b < b * (a / b + (-a - 1) / b + 1) ∧ b * (a / b + (-a - 1) / b + 1) < b := by omega
    generalize hz0 : a / b + (-a - 1) / b + 1 = z at *
    have hz : z = 0 := by
      rcases Int.lt_trichotomy z 0 with h | h | h
      · have := Int.mul_le_mul_of_nonneg_left (show z ≤ -1 by omega) (show 0 ≤ b by omega); omega
      · exact h
      · have := Int.mul_le_mul_of_nonneg_left (show 1 ≤ z by omega) (show 0 ≤ b by omega); omega
    omega
  refine ⟨by omega, ?_⟩
  rw [key] at h1
  rw [Int.mul_sub, Int.mul_neg] at h1
  omega
theorem idm_bpos (hF : ∀ h, g.B h → Facts h) (X7 : TabG g t7) (X8 : TabG g t8) {a b : Int} (ha0 : -2 ^ 1000 ≤ a) (ha : a < 2 ^ 1000) (hb0 : 0 < b) (hb : b < 2 ^ 1000) {H : AH} {K : Kv} (k : newW (.tup (dm a b)) H K) :
    CallOk g 15 (.fn 70) [.int a, .int b] H K := by
  by_cases h0 : 0 ≤ a
  · exact mono (by decide) (idm_pos hF X7 X8 h0 ha hb0 hb k)
  · refine tup_of' (i := 10) (sites := [(107, some false), (109, some false), (112, some true)]) (sp := sp10 fun a b => 0 ≤ a ∧ a < 2 ^ 1000 ∧ 0 < b ∧ b < 2 ^ 1000) hF (by decide) (sp10_sound hF X7 X8 (by decide) fun _ _ h _ _ k => idm_pos hF X7 X8 h.1 h.2.1 h.2.2.1 h.2.2.2 k) (by decide +kernel) (by decide +kernel) (by decide +kernel) rfl (by simp [isSc]) rfl 60 (fun K h => ?_) k
    rw [idm1_K, (dm_neg (by omega) hb0).1, (dm_neg (by omega) hb0).2]
    exact ⟨by simp; omega, by simp; omega, by simp; omega, ⟨by rw [bitNot_eq]; omega, by rw [bitNot_eq]; omega, hb0, hb⟩, h 1 _ rfl⟩

/-- int_divmod, not by 0 -/
theorem idm_call (hF : ∀ h, g.B h → Facts h) (X7 : TabG g t7) (X8 : TabG g t8) {a b : Int} (ha0 : -2 ^ 999 ≤ a) (ha : a ≤ 2 ^ 999) (hb00 : b ≠ 0) (hb0 : -2 ^ 999 ≤ b) (hb : b ≤ 2 ^ 999) {H : AH} {K : Kv} (k : newW (.tup (dm a b)) H K) :
    CallOk g 16 (.fn 70) [.int a, .int b] H K := by
  by_cases h0 : 0 < b
  · exact mono (by decide) (idm_bpos hF X7 X8 (by omega) (by omega) h0 (by omega) k)
  · refine tup_of' (i := 10) (sites := [(107, some false), (109, some true), (112, some false)]) (sp := sp10 fun a b => -2 ^ 1000 ≤ a ∧ a < 2 ^ 1000 ∧ 0 < b ∧ b < 2 ^ 1000) hF (by decide) (sp10_sound hF X7 X8 (by decide) fun _ _ h _ _ k => idm_bpos hF X7 X8 h.1 h.2.1 h.2.2.1 h.2.2.2 k) (by decide +kernel) (by decide +kernel) (by decide +kernel) rfl (by simp [isSc]) rfl 60 (fun K h => ?_) k
    rw [idm2_K]
    rw [Int.neg_fdiv_neg, Int.neg_fmod_neg, Int.neg_neg]
    exact ⟨by simp; omega, by simp; omega, ⟨by omega, by omega, by omega, by omega⟩, h 1 _ rfl⟩
end L1

end
section
open PySem PySem.W PyProof.Rows Py
set_option maxRecDepth 100000
set_option autoImplicit false
set_option linter.unusedVariables false
set_option exponentiation.threshold 2000
namespace L1

/-- a line of the table behind its 1 -/
noncomputable def cn : List Int → Int → Int → List Int
  | [], _, _ => []
  | r :: rs, p, q => (r * q - p) :: cn rs q (r * q - p)
noncomputable def te (row : List Int) (i : Nat) : List Int := List.replicate (i + 1) 0 ++ 1 :: cn (row.drop i) 0 1
noncomputable def tij (row : List Int) (i j : Nat) : Int := (te row i).getD j 0

noncomputable def prs : List (Nat × Nat) := [(0, 3), (0, 4), (0, 5), (1, 4), (1, 5), (2, 5)]
theorem five {row : List Int} (h : row.length = 5) : ∃ a b c d e, row = [a, b, c, d, e] := by
  match row, h with
  | [a, b, c, d, e], _ => exact ⟨a, b, c, d, e, rfl⟩
theorem frieze {row : List Int} (h : row.length = 5) : ∀ p ∈ prs, tij row p.1 p.2 * tij row (p.1 + 1) (p.2 + 1) = tij row (p.1 + 1) p.2 * tij row p.1 (p.2 + 1) + 1 := by
  obtain ⟨a, b, c, d, e, rfl⟩ := five h
  intro p hp
  simp only [prs, List.mem_cons, List.not_mem_nil, or_false] at hp
  rcases hp with rfl | rfl | rfl | rfl | rfl | rfl <;> simp only [tij, te, cn, List.drop, List.replicate, List.getD_eq_getElem?_getD, List.cons_append, List.nil_append, List.getElem?_cons_succ, List.getElem?_cons_zero, Option.getD_some] <;> grind
theorem dm_frieze {s t : Int} (hs : s ≠ 0) : (s * t + 1).fdiv s = t + (1 : Int).fdiv s ∧ (s * t + 1).fmod s = (1 : Int).fmod s := by
  rw [Int.add_comm (s * t) 1]
  refine ⟨?_, ?_⟩
  · rw [Int.add_mul_fdiv_left _ _ hs, Int.add_comm]
  · rw [Int.add_mul_fmod_self_left]
end L1

end
section
open PySem PySem.W PyProof.Rows Py
set_option maxRecDepth 100000
set_option autoImplicit false
set_option linter.unusedVariables false
set_option exponentiation.threshold 2000
namespace L1

theorem cn_le : ∀ (rs : List Int) (p q : Int) (M : Nat), (∀ r ∈ rs, r.natAbs ≤ 99) → p.natAbs ≤ M → q.natAbs ≤ M → ∀ x ∈ cn rs p q, x.natAbs ≤ M * 100 ^ rs.length
  | [], _, _, _, _, _, _, x, hx => nomatch hx
  | r :: rs, p, q, M, hr, hp, hq, x, hx => by
    have h1 : (r * q - p).natAbs ≤ 100 * M := by
      have h2 := hr r List.mem_cons_self
      have h3 : (r * q).natAbs ≤ 99 * M := by rw [Int.natAbs_mul]; exact Nat.mul_le_mul h2 hq
      omega
    have h4 : M * 100 ^ (r :: rs).length = 100 * M * 100 ^ rs.length := by rw [List.length_cons, Nat.pow_succ, Nat.mul_comm 100 M, Nat.mul_assoc, Nat.mul_comm 100]
    rw [h4]
    rcases List.mem_cons.mp hx with rfl | hx
    · exact Nat.le_trans h1 (Nat.le_mul_of_pos_right _ (Nat.pow_pos (by decide)))
    · exact cn_le rs q _ (100 * M) (fun r h => hr r (List.mem_cons_of_mem _ h)) (by omega) h1 x hx
theorem te_le {row : List Int} (h5 : row.length = 5) (hr : ∀ r ∈ row, r.natAbs ≤ 99) (i : Nat) : ∀ x ∈ te row i, x.natAbs ≤ 100 ^ 5 := by
  intro x hx
  rcases List.mem_append.mp hx with hx | hx
  · rw [List.mem_replicate] at hx; rw [hx.2]; decide
  · rcases List.mem_cons.mp hx with rfl | hx
    · decide
    · refine Nat.le_trans (cn_le _ _ _ 1 (fun r h => hr r (List.mem_of_mem_drop h)) (by decide) (by decide) x hx) ?_
      rw [Nat.one_mul, List.length_drop]
      exact Nat.pow_le_pow_right (by decide) (by omega)
theorem tij_le {row : List Int} (h5 : row.length = 5) (hr : ∀ r ∈ row, r.natAbs ≤ 99) (i j : Nat) : (tij row i j).natAbs ≤ 100 ^ 5 := by
  unfold tij
  rw [List.getD_eq_getElem?_getD]
  cases h : (te row i)[j]? with
  | none => decide
  | some x => exact te_le h5 hr i x (List.mem_of_getElem? h)

noncomputable def od (x : Int) : Bool := x % 2 != 0
noncomputable def cnb : List Bool → Bool → Bool → List Bool
  | [], _, _ => []
  | r :: rs, p, q => ((r && q) ^^ p) :: cnb rs q ((r && q) ^^ p)
noncomputable def teb (row : List Bool) (i : Nat) : List Bool := List.replicate (i + 1) false ++ true :: cnb (row.drop i) false true
theorem od_step (r q p : Int) : od (r * q - p) = ((od r && od q) ^^ od p) := by
  have h : (r * q - p) % 2 = (r % 2 * (q % 2) - p % 2) % 2 := by rw [Int.sub_emod, Int.mul_emod, Int.sub_emod (r % 2 * (q % 2)), Int.emod_emod_of_dvd p (by decide)]
  unfold od
  rw [h]
  rcases Int.emod_two_eq r with h1 | h1 <;> rcases Int.emod_two_eq q with h2 | h2 <;> rcases Int.emod_two_eq p with h3 | h3 <;> rw [h1, h2, h3] <;> decide
theorem cn_od : ∀ (rs : List Int) (p q : Int), (cn rs p q).map od = cnb (rs.map od) (od p) (od q)
  | [], _, _ => rfl
  | r :: rs, p, q => by
    show od (r * q - p) :: (cn rs q (r * q - p)).map od = ((od r && od q) ^^ od p) :: cnb (rs.map od) (od q) ((od r && od q) ^^ od p)
    rw [cn_od rs, od_step]
theorem te_od (row : List Int) (i : Nat) : (te row i).map od = teb (row.map od) i := by
  unfold te teb
  rw [List.map_append, List.map_cons, cn_od, List.map_drop, List.map_replicate]; rfl
theorem tij_od (row : List Int) (i j : Nat) : od (tij row i j) = (teb (row.map od) i).getD j false := by
  unfold tij
  rw [← te_od, List.getD_eq_getElem?_getD, List.getD_eq_getElem?_getD, List.getElem?_map]
  cases (te row i)[j]? <;> rfl

end L1

end
section
open PySem PySem.W PyProof.Rows Py
set_option maxRecDepth 100000
set_option autoImplicit false
set_option linter.unusedVariables false
namespace L1

/-- the six lights: 0 (1,2,5), 1 (1,5,2), 2 (2,1,5), 3 (2,5,1), 4 (5,1,2), 5 (5,2,1) -/
noncomputable def lgt : Nat → Nat × Nat × Nat
  | 0 => (1, 2, 5) | 1 => (1, 5, 2) | 2 => (2, 1, 5) | 3 => (2, 5, 1) | 4 => (5, 1, 2) | _ => (5, 2, 1)
noncomputable def lnx : Bool → Nat → Nat
  | false, 0 => 1 | true, 0 => 4 | false, 1 => 0 | true, 1 => 5 | false, 2 => 4 | true, 2 => 1
  | false, 3 => 5 | true, 3 => 0 | false, 4 => 2 | true, 4 => 3 | false, _ => 3 | true, _ => 2
/-- where the 5 stands -/
noncomputable def lpo : Nat → Nat
  | 0 => 2 | 1 => 1 | 2 => 2 | 3 => 1 | 4 => 0 | _ => 0
noncomputable def lwk : List Bool → Nat → List Nat
  | [], _ => []
  | b :: r, l => lpo (lnx b l) :: lwk r (lnx b l)
/-- the seven marks' places -/
noncomputable def tld (r : List Bool) : List Nat := 0 :: 1 :: lwk r 3
theorem five_b {r : List Bool} (h : r.length = 5) : ∃ a b c d e, r = [a, b, c, d, e] := by
  match r, h with
  | [a, b, c, d, e], _ => exact ⟨a, b, c, d, e, rfl⟩
theorem tld_ok {r : List Bool} (h : r.length = 5) : ∀ i ∈ List.range 6, ∀ j ∈ List.range 7, i < j → (!(teb r i).getD j false) = ((tld r).getD i 9 == (tld r).getD j 9) := by
  obtain ⟨a, b, c, d, e, rfl⟩ := five_b h
  revert a b c d e
  decide +kernel
theorem tld_len {r : List Bool} (h : r.length = 5) : (tld r).length = 7 := by
  obtain ⟨a, b, c, d, e, rfl⟩ := five_b h
  rfl
theorem tld_lt {r : List Bool} (h : r.length = 5) : ∀ x ∈ tld r, x < 3 := by
  obtain ⟨a, b, c, d, e, rfl⟩ := five_b h
  revert a b c d e
  decide +kernel
end L1

end
section
open PySem PySem.W PyProof.Rows Py
set_option maxRecDepth 100000
set_option autoImplicit false
set_option linter.unusedVariables false
namespace L1
variable {g : G}

/-- a def without cells, of scalars, giving a scalar -/
theorem sc_of {d : Nat} (hF : ∀ h, g.B h → Facts h) {i : Nat} {a : Addr} (hia : (i, a) ∈ fnp) {sites : List (Nat × Option Bool)} {sp : AV → List AV → AH → Kv → Prop} (hsp : ∀ f args H K, sp f args H K → CallOk g d f args H K) (hnm : namesOk (sc i) = true)
    (hnc : (sc i).names.all (fun x => x.2 != .cell) = true) (hps : (ps i).all (fun x => (sc i).names.lookup x == some .local) = true) {args : List AV} {out : AV} (hlen : args.length = (ps i).length) (hx : isSc out = true) (ha : args.all isSc = true) (n : Nat)
    (h : ∀ K : Kv, (∀ H, K out H) → aws n (pc i a sites sp) ((ps i).zip args) (bd i) [] (endW K)) {H : AH} {K : Kv} (k : K out H) : CallOk g (d + 1) (.fn a) args H K := by
  have C : COk g d (pc i a sites sp) := mkC hF hsp rfl rfl hnm (fun _ _ _ _ _ _ e => nomatch e)
  refine lift_sc hx rfl ha ?_ k
  exact fn_call C (fun h hb => (hF h hb).fn _ hia) (fun h hb => (hF h hb).lim) rfl hnc hps hlen (h _ fun H => rfl)

/-- the seven marks, and their names -/
noncomputable def mks : List (Str × Str) := [("&", "amp;"), ("<", "lt;"), (">", "gt;"), ("\"", "quot;"), ("\r", "#13;"), ("\n", "#10;"), ("\t", "#09;")]
noncomputable def spl (p : Str × Str) (d : Int) : Str := Str.ofString "&" ++ Txt.mul (Str.ofString "amp;") (d - 1) ++ p.2
theorem spl0_K (m : Str) (d : Int) (K : Kv) : aws 60 (pc 18 110 [(192, some true)] stdW) ((ps 18).zip [AV.str m, .int d]) (bd 18) [] (endW K) = ((d == 0) = true ∧ K (.str m) []) := by kernel_rfl
noncomputable def splH : AH := [.tup (mks.map fun p => .str p.2)]
theorem spl_K (K : Kv) (d : Int) : ∀ p ∈ mks, ((d == 0) = false ∧ MulOk (Str.ofString "amp;") (d - 1) ∧ (Str.ofString "&").length + (Txt.mul (Str.ofString "amp;") (d - 1)).length ≤ 1000000 ∧ (Str.ofString "&" ++ Txt.mul (Str.ofString "amp;") (d - 1)).length + p.2.length ≤ 1000000 ∧ K (.str (spl p d)) splH) →
    aws 60 (pc 18 110 [(192, some false)] stdW) ((ps 18).zip [AV.str p.1, .int d]) (bd 18) [] (endW K) := by
  intro p hp h
  have key : ∀ p : Str × Str, (Builtin.Str.occurrences (Str.ofString "&<>\"\r\n\t") p.1 0 (Str.ofString "&<>\"\r\n\t").length 1).isEmpty = false → aws 60 (pc 18 110 [(192, some false)] stdW) ((ps 18).zip [AV.str p.1, .int d]) (bd 18) [] (endW K) =
    ((d == 0) = false ∧ MulOk (Str.ofString "amp;") (d - 1) ∧ (Str.ofString "&").length + (Txt.mul (Str.ofString "amp;") (d - 1)).length ≤ 1000000 ∧ (Builtin.Str.occurrences (Str.ofString "&<>\"\r\n\t") p.1 0 (Str.ofString "&<>\"\r\n\t").length 1).isEmpty = false ∧ (Str.ofString "&" ++ Txt.mul (Str.ofString "amp;") (d - 1)).length + p.2.length ≤ 1000000 ∧ K (.str (spl p d)) splH) →
      ((d == 0) = false ∧ MulOk (Str.ofString "amp;") (d - 1) ∧ (Str.ofString "&").length + (Txt.mul (Str.ofString "amp;") (d - 1)).length ≤ 1000000 ∧ (Str.ofString "&" ++ Txt.mul (Str.ofString "amp;") (d - 1)).length + p.2.length ≤ 1000000 ∧ K (.str (spl p d)) splH) →
      aws 60 (pc 18 110 [(192, some false)] stdW) ((ps 18).zip [AV.str p.1, .int d]) (bd 18) [] (endW K) := fun p ho e h => e.mpr ⟨h.1, h.2.1, h.2.2.1, ho, h.2.2.2.1, h.2.2.2.2⟩
  simp only [mks, List.mem_cons, List.not_mem_nil, or_false] at hp
  rcases hp with rfl | rfl | rfl | rfl | rfl | rfl | rfl <;> exact key _ (by decide +kernel) (by kernel_rfl) h
/-- how a mark is spelled at a depth -/
noncomputable def spw (p : Str × Str) : Nat → Str
  | 0 => p.1
  | d + 1 => spl p ((d + 1 : Nat) : Int)
theorem spl_len : ∀ d ∈ List.range 7, ∀ p ∈ mks, MulOk (Str.ofString "amp;") (((d + 1 : Nat) : Int) - 1) ∧ (Str.ofString "&").length + (Txt.mul (Str.ofString "amp;") (((d + 1 : Nat) : Int) - 1)).length ≤ 1000000 ∧ (Str.ofString "&" ++ Txt.mul (Str.ofString "amp;") (((d + 1 : Nat) : Int) - 1)).length + p.2.length ≤ 1000000 := by
  unfold MulOk
  decide +kernel
/-- _law_spelled -/
theorem spl_call (hF : ∀ h, g.B h → Facts h) {p : Str × Str} (hp : p ∈ mks) {d : Nat} (hd : d ≤ 6) {H : AH} {K : Kv} (k : K (.str (spw p d)) H) : CallOk g 1 (.fn 110) [.str p.1, .int d] H K := by
  cases d with
  | zero =>
    exact sc_of (i := 18) (sites := [(192, some true)]) (sp := stdW) hF (by decide) (fun f args H K => std_sound) (by decide +kernel) (by decide +kernel) (by decide +kernel) rfl rfl rfl 60 (fun K h => by rw [spl0_K]; exact ⟨by decide, h _⟩) k
  | succ d =>
    refine sc_of (i := 18) (sites := [(192, some false)]) (sp := stdW) hF (by decide) (fun f args H K => std_sound) (by decide +kernel) (by decide +kernel) (by decide +kernel) rfl rfl rfl 60 (fun K h => spl_K K _ p hp ?_) k
    obtain ⟨h1, h2, h3⟩ := spl_len d (List.mem_range.mpr (by omega)) p hp
    refine ⟨?_, h1, h2, h3, h _⟩
    simp; omega
end L1

end
section
open PySem PySem.W PyProof.Rows Py
set_option maxRecDepth 100000
set_option autoImplicit false
set_option linter.unusedVariables false
namespace L1
variable {g : G}

/-- the seven signs: line, place, sign, what is put for it -/
noncomputable def escs : List (Nat × Nat × Nat × Str) := [(122, 0, 38, "&amp;"), (124, 1, 60, "&lt;"), (126, 2, 62, "&gt;"), (128, 3, 34, "&quot;"), (130, 4, 13, "&#13;"), (132, 5, 10, "&#10;"), (134, 6, 9, "&#09;")]
noncomputable def escS (k : Nat) : Stmt := match bd 13 with
  | [.Try b ..] => (b[k]?).getD (.Pass ⟨0, 0, 0, 0⟩)
  | _ => .Pass ⟨0, 0, 0, 0⟩
noncomputable def escH (p : Nat × Nat × Str) (st : Stmt) (loc : Lc) (H : AH) (K : Fl → Lc → AH → Prop) : Prop := match loc with
  | [(x, .str t)] => (st = escS p.1 ∧ x = "text" ∧ t.length + (t.length + 1) * p.2.2.length ≤ 16777216) ∧ K .next [("text", .str (Txt.replace t ⟨#[p.2.1]⟩ p.2.2))] H
  | _ => False
noncomputable def hk13 (l : Nat) : Option (Stmt → Lc → AH → (Fl → Lc → AH → Prop) → Prop) := match escs.lookup l with
  | some p => some (escH p)
  | none => none
noncomputable def pc130 : PC := pc 13 84 [] stdW
noncomputable def pc13 : PC := { pc130 with hk := hk13 }
noncomputable def escW (K : Kv) : List (Nat × Nat × Nat × Str) → Str → Prop
  | [], t => K (.str t) []
  | (_, k, c, z) :: r, t => (escS k = escS k ∧ (("text" : Str) = "text") ∧ t.length + (t.length + 1) * z.length ≤ 16777216) ∧ escW K r (Txt.replace t ⟨#[c]⟩ z)
theorem esc_K (t : Str) (K : Kv) : aws 60 pc13 ((ps 13).zip [.str t]) (bd 13) [] (endW K) = escW K escs t := by kernel_rfl
structure Pts where
  tst : PySem.Expr
  p0 : Pos
  p1 : Pos
  p2 : Pos
  p3 : Pos
  p4 : Pos
  pos : Pos
  pos' : Pos
  posi : Pos
  k1 : Nat
  k2 : Nat
  y : Str
  z : Str
noncomputable abbrev z0 : Pos := ⟨0, 0, 0, 0⟩
noncomputable def pts : Stmt → Pts
  | .If tst [.Assign [.Name _ p0] (.Call (.Attribute (.Name _ p1) _ p2) [.Constant (.str y) k1 p3, .Constant (.str z) k2 p4] [] pos) pos'] [] posi => ⟨tst, p0, p1, p2, p3, p4, pos, pos', posi, k1, k2, y, z⟩
  | _ => ⟨.Name "" z0, z0, z0, z0, z0, z0, z0, z0, z0, 0, 0, "", ""⟩
noncomputable def asgP (q : Pts) : Stmt := .Assign [.Name "text" q.p0] (.Call (.Attribute (.Name "text" q.p1) "replace" q.p2) [.Constant (.str q.y) q.k1 q.p3, .Constant (.str q.z) q.k2 q.p4] [] q.pos) q.pos'
theorem esc_shape : ∀ p ∈ escs, escS p.2.1 = .If (pts (escS p.2.1)).tst [asgP (pts (escS p.2.1))] [] (pts (escS p.2.1)).posi ∧ (pts (escS p.2.1)).y = ⟨#[p.2.2.1]⟩ ∧ (pts (escS p.2.1)).z = p.2.2.2 ∧ ((pts (escS p.2.1)).p2.endLine == (pts (escS p.2.1)).pos.line) = true ∧
    ∀ t H K, awt 20 pc130 [("text", .str t)] (pts (escS p.2.1)).tst H K = K (Txt.contains t ⟨#[p.2.2.1]⟩) H := by
  intro p hp
  simp only [escs, List.mem_cons, List.not_mem_nil, or_false] at hp
  rcases hp with rfl | rfl | rfl | rfl | rfl | rfl | rfl <;> exact ⟨by kernel_rfl, by decide +kernel, by decide +kernel, by decide +kernel, fun t H K => by kernel_rfl⟩
theorem esc_ne : ∀ p ∈ escs, ((⟨#[p.2.2.1]⟩ : Str) == p.2.2.2) = false := by decide +kernel
theorem hk13_sound {d : Nat} (hF : ∀ h, g.B h → Facts h) : ∀ n f st loc H K, hk13 n = some f → f st loc H K → HkOk g d pc13 loc st H K := by
  have C : COk g d pc130 := mkC hF (fun f args H K => std_sound) rfl rfl (show namesOk (sc 13) = true by decide +kernel) (fun _ _ _ _ _ _ e => nomatch e)
  intro n f st loc H K e h
  unfold hk13 at e
  split at e
  · rename_i p hp
    cases e
    have hm : (n, p) ∈ escs := by
      have : ∀ {l : List (Nat × Nat × Nat × Str)} {x : Nat} {v}, l.lookup x = some v → (x, v) ∈ l := by
        intro l
        induction l with
        | nil => intro x v h; simp at h
        | cons a r ih =>
          intro x v h
          obtain ⟨y, w⟩ := a
          rw [List.lookup_cons] at h
          cases hx : x == y with
          | true =>
            rw [hx] at h; cases h
            have : x = y := by simpa using hx
            subst this; exact List.mem_cons_self
          | false => rw [hx] at h; exact List.mem_cons_of_mem _ (ih h)
      exact this hp
    obtain ⟨h1, h2, h3, h4, h5⟩ := esc_shape _ hm
    have hne := esc_ne _ hm
    unfold escH at h
    split at h
    · rename_i x t
      obtain ⟨⟨rfl, rfl, hb⟩, hK⟩ := h
      refine HkOk.cg (c := pc130) (c' := pc13) rfl rfl rfl rfl ?_
      rw [h1]
      refine rep_if (n := 20) (x := "text") (z := p.2.2) (t := t) (y := ⟨#[p.2.1]⟩) C ?_ (fun hc => ?_) (fun hc => ?_)
      · rw [h5]; exact ⟨rfl, rfl⟩
      · unfold asgP
        rw [show (pts (escS p.1)).y = ⟨#[p.2.1]⟩ from h2, show (pts (escS p.1)).z = p.2.2 from h3]
        refine rep_assign (t := t) C (by decide +kernel) rfl (by decide +kernel) h4 hne hb ?_
        exact hK
      · rw [rep_none _ hc] at hK
        exact hK
    · exact h.elim
  · cases e

/-- _escape_attrib -/
noncomputable def esc (t : Str) : Str := escs.foldl (fun t p => Txt.replace t ⟨#[p.2.2.1]⟩ p.2.2.2) t
noncomputable def escOk : List (Nat × Nat × Nat × Str) → Str → Prop
  | [], _ => True
  | (_, _, c, z) :: r, t => t.length + (t.length + 1) * z.length ≤ 16777216 ∧ escOk r (Txt.replace t ⟨#[c]⟩ z)
theorem escW_of {K : Kv} : ∀ {l : List (Nat × Nat × Nat × Str)} {t : Str}, escOk l t → K (.str (l.foldl (fun t p => Txt.replace t ⟨#[p.2.2.1]⟩ p.2.2.2) t)) [] → escW K l t
  | [], _, _, h => h
  | (_, _, _, _) :: r, _, h, k => ⟨⟨rfl, rfl, h.1⟩, escW_of h.2 k⟩
theorem esc_call {d : Nat} (hF : ∀ h, g.B h → Facts h) {t : Str} (ht : escOk escs t) {H : AH} {K : Kv} (k : K (.str (esc t)) H) : CallOk g (d + 1) (.fn 84) [.str t] H K := by
  have C : COk g d pc13 := mkC hF (fun f args H K => std_sound) rfl rfl (show namesOk (sc 13) = true by decide +kernel) (hk13_sound hF)
  refine lift_sc (out := .str (esc t)) rfl rfl rfl ?_ k
  refine fn_call (n := 60) C (fun h hb => (hF h hb).fn (13, 84) (by decide)) (fun h hb => (hF h hb).lim) (ps := ps 13) (body := bd 13) rfl (by decide +kernel) (by decide +kernel) rfl ?_
  rw [esc_K]
  exact escW_of ht rfl
end L1

end
section
open PySem PySem.W PyProof.Rows Py
set_option maxRecDepth 100000
set_option autoImplicit false
set_option linter.unusedVariables false
namespace L1
variable {g : G}

/-- the multiplications' side conditions of a line -/
noncomputable def cnOk : List Int → Int → Int → Prop → Prop
  | [], _, _, X => X
  | r :: rs, p, q, X => IntMulOk r q ∧ cnOk rs q (r * q - p) X
noncomputable def linOk (i : Nat) (row : List Int) (X : Prop) : Prop := (0 ≤ (i : Int) + 1 ∧ (i : Int) + 1 ≤ 100000) ∧ (List.replicate (i + 1) (AV.int 0)).length + [AV.int 1].length ≤ 100000 ∧ cnOk (row.drop i) 0 1 X
noncomputable def aLine (row : List Int) (i : Nat) : AO := .lst ((te row i).map .int)
noncomputable def perLine (row : List Int) (i : Nat) : AH := [.lst [.int 0], .lst (List.replicate (i + 1) (.int 0)), .lst [.int 1], aLine row i, .rng ((i : Int) + 1) 6 1, .dead]
noncomputable def tabH (row : List Int) : AH := [.lst (row.map .int), .lst [.ref 7, .ref 13, .ref 19, .ref 25, .ref 31, .ref 37], .rng 0 6 1, .dead] ++ (List.range 6).flatMap (perLine row)
theorem tab_K (a b c d e : Int) (K : Kv) : aws 200 (pc 15 91 [] stdW) ((ps 15).zip [AV.ref 0]) (bd 15) [.lst [.int a, .int b, .int c, .int d, .int e]] (endW K) =
    linOk 0 [a, b, c, d, e] (linOk 1 [a, b, c, d, e] (linOk 2 [a, b, c, d, e] (linOk 3 [a, b, c, d, e] (linOk 4 [a, b, c, d, e] (linOk 5 [a, b, c, d, e] (K (.ref 1) (tabH [a, b, c, d, e]))))))) := by kernel_rfl
end L1

end
section
open PySem PySem.W PyProof.Rows Py
set_option maxRecDepth 100000
set_option autoImplicit false
set_option linter.unusedVariables false
namespace L1
variable {g : G}

noncomputable def tabT (T : Nat) (row : List Int) : AH := [.lst [.ref (T + 6), .ref (T + 12), .ref (T + 18), .ref (T + 24), .ref (T + 30), .ref (T + 36)], .rng 0 6 1, .dead] ++ (List.range 6).flatMap (perLine row)
noncomputable def rowOk (row : List Int) : Prop := row.length = 5 ∧ ∀ r ∈ row, r.natAbs ≤ 99
noncomputable def i5 (l : List AV) : Option (List Int) := intsOf l
noncomputable def spT (f : AV) (args : List AV) (H : AH) (K : Kv) : Prop :=
  oBi .sum f (a1 args (fun x => oR x (fun n => oLs H[n]? (fun xs => ∃ ns : List Int, xs = ns.map .int ∧ K (.int ns.sum) H) False) False) False) <|
  oFn 91 f (a1 args (fun x => oR x (fun n => oLs H[n]? (fun xs => oSm (i5 xs) fun row => rowOk row ∧ K (.ref H.length) (H ++ tabT H.length row)) False) False) False) <| stdW f args H K
/-- law's frame -/
noncomputable def cnL : List Str := ["script", "start"]
noncomputable def pcL (sites : List (Nat × Option Bool)) (sp : AV → List AV → AH → Kv → Prop) : PC :=
  { scope := sc 20, cells := cellIx 1 cnL, sites := sites, fns := fnl, gl := fun x => gls.lookup x, sp := sp, hk := fun _ => none, cd := .ref 121, qn := "law.<locals>." }
end L1

end
section
open PySem PySem.W PyProof.Rows Py
set_option maxRecDepth 100000
set_option autoImplicit false
set_option linter.unusedVariables false
namespace L1
variable {g : G}

/-- law's heap behind the table -/
noncomputable abbrev SX := List AV × (Obj → Prop)
noncomputable def lawH (xs : SX) (st : Option AV) (row : List Int) : AH := [.cst xs.1 xs.2, .cell (some (.ref 0)), .cell st, .tup [.int 101, .int 96, .int 103, .int 104, .int 102], .dead, .dead, .lst (row.map .int)] ++ tabT 7 row
/-- the parts of _law_divided -/
noncomputable def gbd : Stmt → List Stmt
  | .For _ _ b _ _ => b
  | _ => []
noncomputable def git : Stmt → PySem.Expr
  | .For _ i _ _ _ => i
  | _ => .Name "" ⟨0, 0, 0, 0⟩
noncomputable def gtg : Stmt → PySem.Expr
  | .For t _ _ _ _ => t
  | _ => .Name "" ⟨0, 0, 0, 0⟩
noncomputable def gps : Stmt → Pos
  | .For _ _ _ _ p => p
  | _ => ⟨0, 0, 0, 0⟩
noncomputable def st0 (ss : List Stmt) (k : Nat) : Stmt := (ss[k]?).getD (.Pass ⟨0, 0, 0, 0⟩)
noncomputable abbrev dF : Stmt := st0 (bd 16) 0
noncomputable abbrev dG : Stmt := st0 (gbd dF) 0
noncomputable abbrev dB : List Stmt := gbd dG
theorem d_bd : bd 16 = dF :: (bd 16).drop 1 := by kernel_rfl
theorem d_F : dF = .For (gtg dF) (git dF) [dG] [] (gps dF) := by kernel_rfl
theorem d_G : dG = .For (gtg dG) (git dG) dB [] (gps dG) := by kernel_rfl
theorem d_B : dB = dB.take 2 ++ (st0 dB 2 :: dB.drop 3) := by kernel_rfl

/-- int_divmod's contract, where it does not raise -/
noncomputable def okD (a b : Int) : Prop := (-2 ^ 999 ≤ a ∧ a ≤ 2 ^ 999) ∧ b ≠ 0 ∧ -2 ^ 999 ≤ b ∧ b ≤ 2 ^ 999
noncomputable def sp16 (f : AV) (args : List AV) (H : AH) (K : Kv) : Prop :=
  oFn 70 f (a2 args (fun a b => oII a b (fun a b => okD a b ∧ newW (.tup (dm a b)) H K) False) False) <| stdW f args H K
theorem sp16_sound (hF : ∀ h, g.B h → Facts h) (X7 : TabG g t7) (X8 : TabG g t8) (f : AV) (args : List AV) (H : AH) (K : Kv) (h : sp16 f args H K) : CallOk g 16 f args H K := by
  replace h := oFn_or h; obtain ⟨rfl, h⟩ | h := h
  · replace h := no (a2_or h); obtain ⟨a, b, rfl, h⟩ := h
    replace h := no (oII_or h); obtain ⟨a, b, ⟨rfl, rfl⟩, h⟩ := h
    exact idm_call hF X7 X8 h.1.1.1 h.1.1.2 h.1.2.1 h.1.2.2.1 h.1.2.2.2 h.2
  · exact std_sound h
end L1

end
section
open PySem PySem.W PyProof.Rows Py
set_option maxRecDepth 100000
set_option autoImplicit false
set_option linter.unusedVariables false
namespace L1
variable {g : G}

noncomputable abbrev aL (l m : Lc) : Lc := l ++ m
noncomputable abbrev aH (l m : AH) : AH := l ++ m
noncomputable def dvO (xs : SX) (o : Option AV) (row : List Int) (i : Nat) : AH := lawH xs o row ++ [.rng 0 3 1, .itR i (3 - (i : Int)) 1]
noncomputable def dvI (xs : SX) (o : Option AV) (row : List Int) (i j : Nat) : AH := dvO xs o row (i + 1) ++ [.rng ((i : Int) + 3) 6 1, .itR j (6 - (j : Int)) 1]
noncomputable def dvH (xs : SX) (o : Option AV) (row : List Int) (i j : Nat) : AH := dvI xs o row i (j + 1)
noncomputable def dvL (i j : Nat) : Lc := [("table", .ref 7), ("i", .int i), ("j", .int j)]
noncomputable abbrev dsites1 : List (Nat × Option Bool) := [(158, some true), (160, some false)]
noncomputable abbrev dsites0 : List (Nat × Option Bool) := [(158, some false), (160, some false)]
noncomputable abbrev dvX (row : List Int) (i j : Nat) : Int := tij row i j * tij row (i + 1) (j + 1)
theorem dv1_K (xs : SX) (o : Option AV) (a b c d e : Int) (K : Fl → Lc → AH → Prop) : ∀ p ∈ prs, aws 100 (pc 16 98 dsites1 sp16) (dvL p.1 p.2) dB (dvH xs o [a, b, c, d, e] p.1 p.2) K =
    (IntMulOk (tij [a, b, c, d, e] p.1 p.2) (tij [a, b, c, d, e] (p.1 + 1) (p.2 + 1)) ∧ okD (dvX [a, b, c, d, e] p.1 p.2) (tij [a, b, c, d, e] (p.1 + 1) p.2) ∧ (tij [a, b, c, d, e] (p.1 + 1) p.2 != 0) = true ∧
      tij [a, b, c, d, e] (p.1 + 1) p.2 ≠ 0 ∧ Builtin.divisionGoesByPylong 1 (tij [a, b, c, d, e] (p.1 + 1) p.2) = false ∧ tij [a, b, c, d, e] (p.1 + 1) p.2 ≠ 0 ∧
      (!((dvX [a, b, c, d, e] p.1 p.2).fdiv (tij [a, b, c, d, e] (p.1 + 1) p.2) == tij [a, b, c, d, e] p.1 (p.2 + 1) + (1 : Int).fdiv (tij [a, b, c, d, e] (p.1 + 1) p.2) && ((dvX [a, b, c, d, e] p.1 p.2).fmod (tij [a, b, c, d, e] (p.1 + 1) p.2) == (1 : Int).fmod (tij [a, b, c, d, e] (p.1 + 1) p.2) && true))) = false ∧
      K .next (aL (dvL p.1 p.2) [("product", .int (dvX [a, b, c, d, e] p.1 p.2)), ("shared", .int (tij [a, b, c, d, e] (p.1 + 1) p.2)), ("told", .ref 50), ("due", .ref 51)])
        (aH (dvH xs o [a, b, c, d, e] p.1 p.2) [.tup (dm (dvX [a, b, c, d, e] p.1 p.2) (tij [a, b, c, d, e] (p.1 + 1) p.2)), .tup [.int (tij [a, b, c, d, e] p.1 (p.2 + 1) + (1 : Int).fdiv (tij [a, b, c, d, e] (p.1 + 1) p.2)), .int ((1 : Int).fmod (tij [a, b, c, d, e] (p.1 + 1) p.2))]])) := by
  intro p hp
  simp only [prs, List.mem_cons, List.not_mem_nil, or_false] at hp
  rcases hp with rfl | rfl | rfl | rfl | rfl | rfl <;> kernel_rfl
noncomputable def dvL2 (row : List Int) (i j : Nat) : Lc := aL (dvL i j) [("product", .int (dvX row i j)), ("shared", .int (tij row (i + 1) j))]
theorem dv0a_K (xs : SX) (o : Option AV) (a b c d e : Int) (K : Fl → Lc → AH → Prop) : ∀ p ∈ prs, aws 100 (pc 16 98 dsites0 sp16) (dvL p.1 p.2) (dB.take 2) (dvH xs o [a, b, c, d, e] p.1 p.2) K =
    (IntMulOk (tij [a, b, c, d, e] p.1 p.2) (tij [a, b, c, d, e] (p.1 + 1) (p.2 + 1)) ∧ K .next (dvL2 [a, b, c, d, e] p.1 p.2) (dvH xs o [a, b, c, d, e] p.1 p.2)) := by
  intro p hp
  simp only [prs, List.mem_cons, List.not_mem_nil, or_false] at hp
  rcases hp with rfl | rfl | rfl | rfl | rfl | rfl <;> kernel_rfl
theorem dv0c_K (xs : SX) (o : Option AV) (a b c d e : Int) (K : Fl → Lc → AH → Prop) : ∀ p ∈ prs, aws 100 (pc 16 98 dsites0 sp16) (aL (dvL2 [a, b, c, d, e] p.1 p.2) [("told", AV.none)]) (dB.drop 3) (dvH xs o [a, b, c, d, e] p.1 p.2) K =
    ((tij [a, b, c, d, e] (p.1 + 1) p.2 != 0) = false ∧ false = false ∧ K .next (aL (dvL2 [a, b, c, d, e] p.1 p.2) [("told", AV.none), ("due", AV.none)]) (dvH xs o [a, b, c, d, e] p.1 p.2)) := by
  intro p hp
  simp only [prs, List.mem_cons, List.not_mem_nil, or_false] at hp
  rcases hp with rfl | rfl | rfl | rfl | rfl | rfl <;> kernel_rfl
structure Tp where
  x : Str
  f : Str
  args : List PySem.Expr
  p1 : Pos
  p2 : Pos
  p3 : Pos
  p4 : Pos
  p5 : Pos
  p6 : Pos
  p7 : Pos
  p8 : Pos
  p9 : Pos
  k : Nat
noncomputable abbrev zp : Pos := ⟨0, 0, 0, 0⟩
noncomputable def tpOf : Stmt → Tp
  | .Try [.Assign [.Name x p1] (.Call (.Name f p2) args [] p3) p4] [.ExceptHandler (some (.Name _ p5)) none [.Assign [.Name _ p6] (.Constant .none k p7) p8] p9] [] [] p => ⟨x, f, args, p1, p2, p3, p4, p5, p6, p7, p8, p9, k⟩
  | _ => ⟨"", "", [], zp, zp, zp, zp, zp, zp, zp, zp, zp, 0⟩
noncomputable def tpPos : Stmt → Pos
  | .Try _ _ _ _ p => p
  | _ => zp
noncomputable abbrev dT : Tp := tpOf (st0 dB 2)
theorem d_T : st0 dB 2 = .Try [.Assign [.Name dT.x dT.p1] (.Call (.Name dT.f dT.p2) dT.args [] dT.p3) dT.p4] [.ExceptHandler (some (.Name "ZeroDivisionError" dT.p5)) none [.Assign [.Name dT.x dT.p6] (.Constant .none dT.k dT.p7) dT.p8] dT.p9] [] [] (tpPos (st0 dB 2)) := by kernel_rfl
theorem dv0b_K (xs : SX) (o : Option AV) (a b c d e : Int) (K : Lc → AH → Prop) : ∀ p ∈ prs, (nameW (pc 16 98 dsites0 sp16) (dvL2 [a, b, c, d, e] p.1 p.2) dT.f (dvH xs o [a, b, c, d, e] p.1 p.2) fun fv H => fv = .fn 70 ∧ awl 60 (pc 16 98 dsites0 sp16) (dvL2 [a, b, c, d, e] p.1 p.2) dT.args H fun vs H => (vs.length = (ps 10).length ∧ ((ps 10).zip vs).lookup ("b" : Str) = some (AV.int 0)) ∧ storeW (pc 16 98 dsites0 sp16) (dvL2 [a, b, c, d, e] p.1 p.2) dT.x .none H K) =
    (AV.fn 70 = .fn 70 ∧ (2 = 2 ∧ some (AV.int (tij [a, b, c, d, e] (p.1 + 1) p.2)) = some (.int 0)) ∧ K (aL (dvL2 [a, b, c, d, e] p.1 p.2) [("told", AV.none)]) (dvH xs o [a, b, c, d, e] p.1 p.2)) := by
  intro p hp
  simp only [prs, List.mem_cons, List.not_mem_nil, or_false] at hp
  rcases hp with rfl | rfl | rfl | rfl | rfl | rfl <;> kernel_rfl
/-- int_divmod's first statement -/
structure Ip where
  xp : Pos
  k : Nat
  cp : Pos
  tp : Pos
  zp : Pos
  rp : Pos
  els : List Stmt
  ip : Pos
noncomputable def ipOf : List Stmt → Ip
  | .If (.Compare (.Name _ xp) [.Eq] [.Constant (.int 0) k cp] tp) [.Raise (some (.Name _ zp)) none rp] els ip :: _ => ⟨xp, k, cp, tp, zp, rp, els, ip⟩
  | _ => ⟨zp, 0, zp, zp, zp, zp, [], zp⟩
noncomputable abbrev iT : Ip := ipOf (bd 10)
theorem i_T : bd 10 = .If (.Compare (.Name "b" iT.xp) [.Eq] [.Constant (.int 0) iT.k iT.cp] iT.tp) [.Raise (some (.Name "ZeroDivisionError" iT.zp)) none iT.rp] iT.els iT.ip :: (bd 10).drop 1 := by kernel_rfl
end L1

end
section
open PySem PySem.W PyProof.Rows Py
set_option maxRecDepth 100000
set_option autoImplicit false
set_option linter.unusedVariables false
set_option exponentiation.threshold 2000
namespace L1
variable {g : G}

noncomputable abbrev pcD : PC := pc 16 98 dsites0 sp16
noncomputable def dvL1 (i : Nat) : Lc := [("table", .ref 7), ("i", .int i)]
noncomputable def dvL0 : Lc := [("table", .ref 7)]
/-- the sums of ints -/
theorem dv_mul {row : List Int} (h : rowOk row) (i j i' j' : Nat) : IntMulOk (tij row i j) (tij row i' j') := by
  have hb : ∀ i j, Builtin.Int.intBits (tij row i j) ≤ 34 := fun i j => intBits_le_iff.mpr (Nat.lt_of_le_of_lt (tij_le h.1 h.2 i j) (by decide))
  exact IntMulOk.of_le (m := 34) (n := 34) (hb _ _) (hb _ _) (by decide)
theorem pow_big : (100 : Nat) ^ 10 ≤ 2 ^ 999 := by decide +kernel
theorem natAbs_box {x : Int} {n : Nat} (h : x.natAbs ≤ n) : -(n : Int) ≤ x ∧ x ≤ (n : Int) := by omega
theorem dv_okD {row : List Int} (h : rowOk row) {i j i' j' i'' j'' : Nat} (hs : tij row i'' j'' ≠ 0) : okD (tij row i j * tij row i' j') (tij row i'' j'') := by
  have h1 : (tij row i j * tij row i' j').natAbs ≤ 2 ^ 999 := by
    rw [Int.natAbs_mul]
    refine Nat.le_trans (Nat.mul_le_mul (tij_le h.1 h.2 i j) (tij_le h.1 h.2 i' j')) (Nat.le_trans ?_ pow_big)
    decide
  have h2 : (tij row i'' j'').natAbs ≤ 2 ^ 999 := Nat.le_trans (tij_le h.1 h.2 i'' j'') (Nat.le_trans (by decide : 100 ^ 5 ≤ 100 ^ 10) pow_big)
  have e : ((2 ^ 999 : Nat) : Int) = 2 ^ 999 := Int.natCast_pow 2 999
  have b1 := natAbs_box h1
  have b2 := natAbs_box h2
  rw [e] at b1 b2
  exact ⟨b1, hs, b2⟩
theorem pylong1 (s : Int) : Builtin.divisionGoesByPylong 1 s = false := by
  show (decide ((if s == 0 then 0 else s.natAbs.log2 / 30 + 1) > 300) && decide ((1 : Nat) > (if s == 0 then 0 else s.natAbs.log2 / 30 + 1) + 150)) = false
  have : decide ((1 : Nat) > (if s == 0 then 0 else s.natAbs.log2 / 30 + 1) + 150) = false := decide_eq_false (by omega)
  rw [this, Bool.and_false]

section
variable {N : Addr} {m : Str → Option Value} {envL : Env}
/-- one turn of the inner loop -/
theorem dv_turn (hF : ∀ h, g.B h → Facts h) (hz : ∀ h, g.B h → ZdF h) (X7 : TabG g t7) (X8 : TabG g t8) (hkL : envL.scope.kind ≠ .module) (hfL : envL.frame = some N) (hN : ∀ h, g.B h → h.Ns N m → ¬ g.bs h N)
    {xs : SX} {o : Option AV} {a b c d e : Int} (hr : rowOk [a, b, c, d, e]) {p : Nat × Nat} (hp : p ∈ prs) {K : Fl → Lc → AH → Prop}
    (hK : ∀ l X, l.lookup ("table" : Str) = some (.ref 7) → l.lookup ("i" : Str) = some (.int p.1) → K .next l (dvH xs o [a, b, c, d, e] p.1 p.2 ++ X)) :
    LxOk (lax g N m) [envL] 16 pcD (dvL p.1 p.2) dB (dvH xs o [a, b, c, d, e] p.1 p.2) K := by
  have hF' : ∀ h, (lax g N m).B h → Facts h := fun h hb => hF h hb.1
  have C : ∀ s, COk (lax g N m) 16 (pc 16 98 s sp16) := fun s => mkC hF' (sp16_sound hF' (lax_tab X7 hN) (lax_tab X8 hN)) rfl rfl (show namesOk (sc 16) = true by decide +kernel) (fun _ _ _ _ _ _ e => nomatch e)
  have hlk : ∀ i j : Nat, ∀ X : Lc, (dvL i j ++ X).lookup ("table" : Str) = some (.ref 7) ∧ (dvL i j ++ X).lookup ("i" : Str) = some (.int i) := fun i j X => ⟨rfl, rfl⟩
  by_cases hs : tij [a, b, c, d, e] (p.1 + 1) p.2 = 0
  · have hs' : (tij [a, b, c, d, e] (p.1 + 1) p.2 != 0) = false := by simp [hs]
    rw [d_B]
    refine lx_app (C dsites0) (n := 100) ?_
    rw [dv0a_K xs o a b c d e _ p hp]
    refine ⟨dv_mul hr _ _ _ _, ?_⟩
    dsimp only
    refine lx_cons ?_
    rw [d_T]
    refine lx_try (d := 15) hkL hfL hN hz (fun h hb => (hF h hb).lim) (C dsites0) (n := 60) (a := 70) (rest := (bd 10).drop 1) (els := iT.els) (x := "b") (q := nm 10 ++ (".<locals>." : Str)) (scope := sc 10) (cd := .ref 69) (ps := ps 10) (xp := iT.xp) (zp := iT.zp) (ip := iT.ip) (tp := iT.tp) (cp := iT.cp) (rp := iT.rp) (ck := iT.k)
      (fun h hb => ?_) (by decide +kernel) (by decide +kernel) (by decide +kernel) (by decide +kernel) (by decide +kernel) (by decide +kernel) (by decide +kernel) ?_
    · have := (hF h hb).fn (10, 70) (by decide)
      rw [← i_T]
      exact this
    · refine (dv0b_K xs o a b c d e _ p hp).mpr ⟨rfl, ⟨rfl, by rw [hs]⟩, ?_⟩
      refine lx_of (C dsites0) (n := 100) ?_
      rw [dv0c_K xs o a b c d e _ p hp]
      refine ⟨hs', rfl, ?_⟩
      have := hK (aL (dvL2 [a, b, c, d, e] p.1 p.2) [("told", AV.none), ("due", AV.none)]) [] rfl rfl
      rwa [List.append_nil] at this
  · refine lx_cg (g := lax g N m) (out := [envL]) (c := pc 16 98 dsites1 sp16) (c' := pcD) rfl rfl rfl rfl (lx_of (out := [envL]) (C dsites1) (n := 100) ?_)
    rw [dv1_K xs o a b c d e _ p hp]
    have hfz : dvX [a, b, c, d, e] p.1 p.2 = tij [a, b, c, d, e] (p.1 + 1) p.2 * tij [a, b, c, d, e] p.1 (p.2 + 1) + 1 := frieze hr.1 p hp
    obtain ⟨h1, h2⟩ := dm_frieze (t := tij [a, b, c, d, e] p.1 (p.2 + 1)) hs
    refine ⟨dv_mul hr _ _ _ _, dv_okD hr hs, by simpa using hs, hs, pylong1 _, hs, ?_, hK _ _ rfl rfl⟩
    rw [hfz, h1, h2]
    simp
end
end L1

end
section
open PySem PySem.W PyProof.Rows Py
set_option maxRecDepth 100000
set_option autoImplicit false
set_option linter.unusedVariables false
namespace L1
variable {g : G}

theorem dv_below (xs : SX) (row : List Int) (a b c d e : Int) : ∀ i ∈ List.range 3, ∀ j ∈ List.range 7, xs.1.all (below 50) = true → (dvI xs none [a, b, c, d, e] i j).all (belowO 50) = true := by
  have key : ∀ i ∈ List.range 3, ∀ j ∈ List.range 7, (dvI xs none [a, b, c, d, e] i j).all (belowO 50) = (xs.1.all (below 50) && true) := by
    intro i hi j hj
    have h2 : ∀ i j : Int, ∀ x y z w : Int, (lawH xs none [a, b, c, d, e] ++ [.rng 0 3 1, .itR x y 1] ++ [.rng z 6 1, .itR j w 1] : AH).all (belowO 50) = (xs.1.all (below 50) && true) := fun i j x y z w => by kernel_rfl
    exact h2 i j _ _ _ _
  intro i hi j hj h
  rw [key i hi j hj, h]; rfl
theorem dv_belowO (xs : SX) (a b c d e : Int) (i : Nat) (h : xs.1.all (below 48) = true) : (dvO xs none [a, b, c, d, e] i).all (belowO 48) = true := by
  have h2 : ∀ x y : Int, (lawH xs none [a, b, c, d, e] ++ [.rng 0 3 1, .itR x y 1] : AH).all (belowO 48) = (xs.1.all (below 48) && true) := fun x y => by kernel_rfl
  show (lawH xs none [a, b, c, d, e] ++ [.rng 0 3 1, .itR i (3 - (i : Int)) 1] : AH).all (belowO 48) = true
  rw [h2, h]; rfl
theorem dv_belowL (xs : SX) (a b c d e : Int) (h : xs.1.all (below 46) = true) : (lawH xs none [a, b, c, d, e]).all (belowO 46) = true := by
  have h2 : (lawH xs none [a, b, c, d, e]).all (belowO 46) = (xs.1.all (below 46) && true) := by kernel_rfl
  rw [h2, h]; rfl
theorem all_ints (ns : List Int) (k : Nat) : (ns.map AV.int).all (below k) = true := by
  rw [List.all_eq_true]
  intro x hx
  obtain ⟨n, _, rfl⟩ := List.mem_map.mp hx
  rfl

/-- the inner loop's steps -/
theorem dvI_len (xs : SX) (o : Option AV) (a b c d e : Int) (i j : Nat) : (dvI xs o [a, b, c, d, e] i j).length = 50 := by
  have h : ∀ x y z w j : Int, (lawH xs o [a, b, c, d, e] ++ [.rng 0 3 1, .itR x y 1] ++ [.rng z 6 1, .itR j w 1] : AH).length = 50 := fun x y z w j => by kernel_rfl
  exact h _ _ _ _ _
theorem dvO_len (xs : SX) (o : Option AV) (a b c d e : Int) (i : Nat) : (dvO xs o [a, b, c, d, e] i).length = 48 := by
  have h : ∀ x y : Int, (lawH xs o [a, b, c, d, e] ++ [.rng 0 3 1, .itR x y 1] : AH).length = 48 := fun x y => by kernel_rfl
  exact h _ _
theorem lawH_len (xs : SX) (o : Option AV) (a b c d e : Int) : (lawH xs o [a, b, c, d, e]).length = 46 := by kernel_rfl
theorem nxI (xs : SX) (o : Option AV) (a b c d e : Int) (K : Option AV → AH → Prop) : ∀ p ∈ prs, nextW 49 (dvI xs o [a, b, c, d, e] p.1 p.2) K = K (some (.int p.2)) (dvH xs o [a, b, c, d, e] p.1 p.2) := by
  intro p hp
  simp only [prs, List.mem_cons, List.not_mem_nil, or_false] at hp
  rcases hp with rfl | rfl | rfl | rfl | rfl | rfl <;> kernel_rfl
theorem nxI6 (xs : SX) (o : Option AV) (a b c d e : Int) (K : Option AV → AH → Prop) : ∀ i ∈ List.range 3, nextW 49 (dvI xs o [a, b, c, d, e] i 6) K = K none ((dvI xs o [a, b, c, d, e] i 6).set 49 .dead) := by
  intro i hi
  simp only [List.mem_range] at hi
  rcases (by omega : i = 0 ∨ i = 1 ∨ i = 2) with rfl | rfl | rfl <;> kernel_rfl
theorem asI (xs : SX) (o : Option AV) (a b c d e : Int) (s : List (Nat × Option Bool)) (K : Lc → AH → Prop) (i j : Nat) (H : AH) : awa 60 (pc 16 98 s sp16) (dvL1 i) (gtg dG) (.int j) H K = K (dvL i j) H := by kernel_rfl
theorem itI (xs : SX) (o : Option AV) (a b c d e : Int) (P : Nat → AH → Prop) : ∀ i ∈ List.range 3, (awe 60 pcD (dvL1 i) (git dG) (dvO xs o [a, b, c, d, e] (i + 1)) fun v H => iterW v H fun m' H => P m' H) = P 49 (dvI xs o [a, b, c, d, e] i (i + 3)) := by
  intro i hi
  simp only [List.mem_range] at hi
  rcases (by omega : i = 0 ∨ i = 1 ∨ i = 2) with rfl | rfl | rfl <;> kernel_rfl
theorem nxO (xs : SX) (o : Option AV) (a b c d e : Int) (K : Option AV → AH → Prop) : ∀ i ∈ List.range 3, nextW 47 (dvO xs o [a, b, c, d, e] i) K = K (some (.int i)) (dvO xs o [a, b, c, d, e] (i + 1)) := by
  intro i hi
  simp only [List.mem_range] at hi
  rcases (by omega : i = 0 ∨ i = 1 ∨ i = 2) with rfl | rfl | rfl <;> kernel_rfl
theorem nxO3 (xs : SX) (o : Option AV) (a b c d e : Int) (K : Option AV → AH → Prop) : nextW 47 (dvO xs o [a, b, c, d, e] 3) K = K none ((dvO xs o [a, b, c, d, e] 3).set 47 .dead) := by kernel_rfl
theorem asO (K : Lc → AH → Prop) (i : Nat) (H : AH) : awa 60 pcD dvL0 (gtg dF) (.int i) H K = K (dvL1 i) H := by kernel_rfl
theorem itO (xs : SX) (o : Option AV) (a b c d e : Int) (P : Nat → AH → Prop) : (awe 60 pcD dvL0 (git dF) (lawH xs o [a, b, c, d, e]) fun v H => iterW v H fun m' H => P m' H) = P 47 (dvO xs o [a, b, c, d, e] 0) := by kernel_rfl
theorem dvF_set : isSetD (git dF) = false ∧ isSetD (git dG) = false := by decide +kernel
theorem dret (K : Fl → Lc → AH → Prop) (l : Lc) (H : AH) : aws 60 pcD l ((bd 16).drop 1) H K = K (.ret (.bool true)) l H := by kernel_rfl

section
variable {N : Addr} {m : Str → Option Value} {envL : Env}
theorem prs_of {i j : Nat} (hi : i < 3) (h1 : i + 3 ≤ j) (h2 : j < 6) : (i, j) ∈ prs := by
  have : ∀ i ∈ List.range 3, ∀ j ∈ List.range 6, i + 3 ≤ j → (i, j) ∈ prs := by decide
  exact this i (List.mem_range.mpr hi) j (List.mem_range.mpr h2) h1

theorem dv_inner (hF : ∀ h, g.B h → Facts h) (hz : ∀ h, g.B h → ZdF h) (X7 : TabG g t7) (X8 : TabG g t8) (hkL : envL.scope.kind ≠ .module) (hfL : envL.frame = some N) (hN : ∀ h, g.B h → h.Ns N m → ¬ g.bs h N)
    {ns : List Int} {pp : Obj → Prop} {a b c d e : Int} (hr : rowOk [a, b, c, d, e]) {i : Nat} (hi : i < 3) {K : Fl → Lc → AH → Prop} (hK : K .next dvL0 (dvO (ns.map AV.int, pp) none [a, b, c, d, e] (i + 1))) :
    Lx1Ok (lax g N m) [envL] 16 pcD (dvL1 i) dG (dvO (ns.map AV.int, pp) none [a, b, c, d, e] (i + 1)) fun f loc H => match f with | .next => Fg 48 pcD (fun loc H => K .next loc H) loc H | f => K f loc H := by
  have hF' : ∀ h, (lax g N m).B h → Facts h := fun h hb => hF h hb.1
  have C : COk (lax g N m) 16 pcD := mkC hF' (sp16_sound hF' (lax_tab X7 hN) (lax_tab X8 hN)) rfl rfl (show namesOk (sc 16) = true by decide +kernel) (fun _ _ _ _ _ _ e => nomatch e)
  have hir : i ∈ List.range 3 := List.mem_range.mpr hi
  have hcl : ∀ x k, pcD.cells.lookup x = some k → k < 48 ∧ k < 50 := fun x k e => by cases e
  have hend : ∀ l H, H.take 48 = dvO (ns.map AV.int, pp) none [a, b, c, d, e] (i + 1) → l.lookup ("table" : Str) = some (AV.ref 7) → Fg 48 pcD (fun loc H => K .next loc H) l H := fun l H h1 h2 => by
    refine ⟨dvL0, 48, Nat.le_refl _, ?_, fun x v e => ?_, fun x k e => (hcl x k e).1, ?_⟩
    · rw [h1]; exact dv_belowO _ _ _ _ _ _ _ (all_ints _ _)
    · unfold dvL0 at e
      rw [List.lookup_cons] at e
      split at e
      · rename_i hx
        cases e
        have : x = ("table" : Str) := by simpa using hx
        subst this
        exact ⟨h2, rfl⟩
      · cases e
    · rw [h1]; exact hK
  rw [d_G]
  refine lx_for (g := lax g N m) C (n := 60) (m := 49) (T := 50) (fun k loc H => ∃ j, i + 3 ≤ j ∧ j ≤ 6 ∧ k + j = 6 ∧ loc = dvL1 i ∧ H = dvI (ns.map AV.int, pp) none [a, b, c, d, e] i j) dvF_set.2 (by rw [dvO_len]; decide) (by decide) ?_ ?_
  · rw [itI _ _ _ _ _ _ _ _ i hir]
    refine ⟨rfl, dvL1 i, 50, Nat.le_refl _, ?_, fun x v e => ⟨e, ?_⟩, fun x k e => (hcl x k e).2, 6 - (i + 3), i + 3, Nat.le_refl _, by omega, by omega, rfl, ?_⟩
    · rw [List.take_of_length_le (by rw [dvI_len]; exact Nat.le_refl _)]; exact dv_below _ [] _ _ _ _ _ i hir (i + 3) (List.mem_range.mpr (by omega)) (all_ints _ _)
    · unfold dvL1 at e
      rw [List.lookup_cons] at e
      split at e
      · cases e; rfl
      · rw [List.lookup_cons] at e
        split at e
        · cases e; rfl
        · cases e
    · rw [List.take_of_length_le (by rw [dvI_len]; exact Nat.le_refl _)]
  · rintro k loc H ⟨j, h1, h2, h3, rfl, rfl⟩
    by_cases hj : j < 6
    · have hp := prs_of hi h1 hj
      rw [nxI _ _ _ _ _ _ _ _ (i, j) hp]
      dsimp only
      rw [asI (ns.map AV.int, pp) none a b c d e]
      refine dv_turn hF hz X7 X8 hkL hfL hN hr hp fun l X hl1 hl2 => ?_
      have ht : (dvH (ns.map AV.int, pp) none [a, b, c, d, e] i j ++ X).take 50 = dvI (ns.map AV.int, pp) none [a, b, c, d, e] i (j + 1) := by
        rw [List.take_append_of_le_length (by unfold dvH; rw [dvI_len]; exact Nat.le_refl _), List.take_of_length_le (by unfold dvH; rw [dvI_len]; exact Nat.le_refl _)]; rfl
      refine ⟨dvL1 i, 50, Nat.le_refl _, ?_, fun x v e => ?_, fun x k e => (hcl x k e).2, k - 1, by omega, j + 1, by omega, by omega, by omega, rfl, ?_⟩
      · show ((dvH (ns.map AV.int, pp) none [a, b, c, d, e] i j ++ X).take 50).all (belowO 50) = true
        rw [ht]; exact dv_below _ [] _ _ _ _ _ i hir (j + 1) (List.mem_range.mpr (by omega)) (all_ints _ _)
      · unfold dvL1 at e
        rw [List.lookup_cons] at e
        split at e
        · rename_i hx
          cases e
          have : x = ("table" : Str) := by simpa using hx
          subst this
          exact ⟨hl1, rfl⟩
        · rw [List.lookup_cons] at e
          split at e
          · rename_i hx
            cases e
            have : x = ("i" : Str) := by simpa using hx
            subst this
            exact ⟨hl2, rfl⟩
          · cases e
      · exact ht
    · have : j = 6 := by omega
      subst this
      rw [nxI6 _ _ _ _ _ _ _ _ i hir]
      dsimp only
      have hset : ((dvI (ns.map AV.int, pp) none [a, b, c, d, e] i 6).set 49 .dead).take 48 = dvO (ns.map AV.int, pp) none [a, b, c, d, e] (i + 1) := by
        rw [List.take_set_of_le (by decide)]
        unfold dvI
        rw [List.take_append_of_le_length (by rw [dvO_len]; exact Nat.le_refl _), List.take_of_length_le (by rw [dvO_len]; exact Nat.le_refl _)]
      refine ⟨dvL1 i, 50, Nat.le_refl _, ?_, fun x v e => ⟨e, ?_⟩, fun x k e => (hcl x k e).2, ?_⟩
      · have hx : ∀ x y z w j : Int, ((lawH (ns.map AV.int, pp) none [a, b, c, d, e] ++ [.rng 0 3 1, .itR x y 1] ++ [.rng z 6 1, .itR j w 1] : AH).set 49 .dead |>.take 50).all (belowO 50) = ((ns.map AV.int).all (below 50) && true) := fun x y z w j => by kernel_rfl
        exact (hx _ _ _ _ _).trans (by rw [all_ints]; rfl)
      · unfold dvL1 at e
        rw [List.lookup_cons] at e
        split at e
        · cases e; rfl
        · rw [List.lookup_cons] at e
          split at e
          · cases e; rfl
          · cases e
      · refine hend _ _ ?_ rfl
        rw [List.take_take]
        exact hset
end
end L1

end
section
open PySem PySem.W PyProof.Rows Py
set_option maxRecDepth 100000
set_option autoImplicit false
set_option linter.unusedVariables false
namespace L1
variable {g : G} {N : Addr} {m : Str → Option Value} {envL : Env}

/-- _law_divided gives True -/
theorem dv_body (hF : ∀ h, g.B h → Facts h) (hz : ∀ h, g.B h → ZdF h) (X7 : TabG g t7) (X8 : TabG g t8) (hkL : envL.scope.kind ≠ .module) (hfL : envL.frame = some N) (hN : ∀ h, g.B h → h.Ns N m → ¬ g.bs h N)
    {ns : List Int} {pp : Obj → Prop} {a b c d e : Int} (hr : rowOk [a, b, c, d, e]) {K : Kv} (hK : ∀ H, H.take 46 = lawH (ns.map AV.int, pp) none [a, b, c, d, e] → K (.bool true) H) :
    LxOk (lax g N m) [envL] 16 pcD dvL0 (bd 16) (lawH (ns.map AV.int, pp) none [a, b, c, d, e]) (endW K) := by
  have hF' : ∀ h, (lax g N m).B h → Facts h := fun h hb => hF h hb.1
  have C : COk (lax g N m) 16 pcD := mkC hF' (sp16_sound hF' (lax_tab X7 hN) (lax_tab X8 hN)) rfl rfl (show namesOk (sc 16) = true by decide +kernel) (fun _ _ _ _ _ _ e => nomatch e)
  have hcl : ∀ x k, pcD.cells.lookup x = some k → k < 48 := fun x k e => by cases e
  have hl0 : ∀ x v, dvL0.lookup x = some v → below 48 v = true := fun x v e => by
    unfold dvL0 at e
    rw [List.lookup_cons] at e
    split at e
    · cases e; rfl
    · cases e
  have ht : ∀ i X, (dvO (ns.map AV.int, pp) none [a, b, c, d, e] i ++ X).take 48 = dvO (ns.map AV.int, pp) none [a, b, c, d, e] i := fun i X => by
    rw [List.take_append_of_le_length (by rw [dvO_len]; exact Nat.le_refl _), List.take_of_length_le (by rw [dvO_len]; exact Nat.le_refl _)]
  rw [d_bd]
  refine lx_cons ?_
  rw [d_F]
  refine lx_for (g := lax g N m) C (n := 60) (m := 47) (T := 48) (fun k loc H => ∃ i, i ≤ 3 ∧ k + i = 3 ∧ loc = dvL0 ∧ H = dvO (ns.map AV.int, pp) none [a, b, c, d, e] i) dvF_set.1 (by rw [lawH_len]; decide) (by decide) ?_ ?_
  · rw [itO]
    refine ⟨rfl, dvL0, 48, Nat.le_refl _, ?_, fun x v e => ⟨e, hl0 x v e⟩, hcl, 3, 0, by omega, rfl, rfl, ?_⟩
    · rw [List.take_of_length_le (by rw [dvO_len]; exact Nat.le_refl _)]; exact dv_belowO _ _ _ _ _ _ _ (all_ints _ _)
    · rw [List.take_of_length_le (by rw [dvO_len]; exact Nat.le_refl _)]
  · rintro k loc H ⟨i, h1, h2, rfl, rfl⟩
    by_cases hi : i < 3
    · rw [nxO _ _ _ _ _ _ _ _ i (List.mem_range.mpr hi)]
      dsimp only
      rw [asO]
      refine lx_cut (T := 48) (by rw [dvO_len]; exact Nat.le_refl _) (lx1_mono (dv_inner hF hz X7 X8 hkL hfL hN hr hi (K := fun f l H => match f with
        | .next => l = dvL0 ∧ H = dvO (ns.map AV.int, pp) none [a, b, c, d, e] (i + 1)
        | _ => False) ⟨rfl, rfl⟩) fun f l H k' => ?_)
      cases f with
      | next =>
        obtain ⟨loc', t, g1, g2, g3, g4, rfl, g6⟩ := k'
        refine ⟨dvL0, t, g1, g2, g3, g4, ?_⟩
        rw [g6]
        refine lx_nil ⟨dvL0, 48, Nat.le_refl _, ?_, fun x v e => ⟨e, hl0 x v e⟩, hcl, k - 1, by omega, i + 1, by omega, by omega, rfl, ?_⟩
        · rw [List.take_of_length_le (by rw [dvO_len]; exact Nat.le_refl _)]; exact dv_belowO _ _ _ _ _ _ _ (all_ints _ _)
        · rw [List.take_of_length_le (by rw [dvO_len]; exact Nat.le_refl _)]
      | brk => exact k'.elim
      | cont => exact k'.elim
      | ret v => exact k'.elim
    · have : i = 3 := by omega
      subst this
      rw [nxO3]
      dsimp only
      have hset : ((dvO (ns.map AV.int, pp) none [a, b, c, d, e] 3).set 47 .dead).take 46 = lawH (ns.map AV.int, pp) none [a, b, c, d, e] := by
        rw [List.take_set_of_le (by decide)]
        unfold dvO
        rw [List.take_append_of_le_length (by rw [lawH_len]; exact Nat.le_refl _), List.take_of_length_le (by rw [lawH_len]; exact Nat.le_refl _)]
      refine ⟨dvL0, 48, Nat.le_refl _, ?_, fun x v e => ⟨e, hl0 x v e⟩, hcl, ?_⟩
      · have hx : ∀ x y : Int, (((lawH (ns.map AV.int, pp) none [a, b, c, d, e] ++ [.rng 0 3 1, .itR x y 1] : AH).set 47 .dead).take 48).all (belowO 48) = ((ns.map AV.int).all (below 48) && true) := fun x y => by kernel_rfl
        exact (hx _ _).trans (by rw [all_ints]; rfl)
      · refine lx_of C (n := 60) ?_
        rw [dret]
        refine hK _ ?_
        rw [List.take_take]
        exact hset
end L1

end
section
open PySem PySem.W PyProof.Rows Py
set_option maxRecDepth 100000
set_option autoImplicit false
set_option linter.unusedVariables false
namespace L1
variable {g : G}

theorem cn_mul : ∀ (rs : List Int) (p q : Int) (M : Nat), (∀ r ∈ rs, r.natAbs ≤ 99) → p.natAbs ≤ M → q.natAbs ≤ M → M * 100 ^ rs.length ≤ 100 ^ 6 → ∀ {X : Prop}, X → cnOk rs p q X
  | [], _, _, _, _, _, _, _, _, h => h
  | r :: rs, p, q, M, hr, hp, hq, hM, X, h => by
    have hr1 := hr r List.mem_cons_self
    have hle : M ≤ 100 ^ 6 := Nat.le_trans (Nat.le_mul_of_pos_right _ (Nat.pow_pos (by decide))) hM
    refine ⟨IntMulOk.of_le (m := 7) (n := 40) (intBits_le_iff.mpr (Nat.lt_of_le_of_lt hr1 (by decide))) (intBits_le_iff.mpr (Nat.lt_of_le_of_lt (Nat.le_trans hq hle) (by decide))) (by decide), ?_⟩
    have h1 : (r * q - p).natAbs ≤ 100 * M := by
      have h3 : (r * q).natAbs ≤ 99 * M := by rw [Int.natAbs_mul]; exact Nat.mul_le_mul hr1 hq
      omega
    refine cn_mul rs q _ (100 * M) (fun r h => hr r (List.mem_cons_of_mem _ h)) (by omega) h1 ?_ h
    rw [List.length_cons, Nat.pow_succ] at hM
    rw [Nat.mul_comm 100 M, Nat.mul_assoc, Nat.mul_comm 100]; exact hM
theorem lin_ok {row : List Int} (h : rowOk row) {i : Nat} (hi : i ≤ 5) {X : Prop} (x : X) : linOk i row X := by
  refine ⟨⟨by omega, by omega⟩, by rw [List.length_replicate]; show i + 1 + 1 ≤ 100000; omega, ?_⟩
  refine cn_mul _ 0 1 1 (fun r hr => h.2 r (List.mem_of_mem_drop hr)) (by decide) (by decide) ?_ x
  rw [Nat.one_mul, List.length_drop]
  exact Nat.pow_le_pow_right (by decide) (by rw [h.1]; omega)
theorem tab_ren (a b c d e : Int) (n m : Nat) : ((tabH [a, b, c, d, e]).drop 1).map (renO (pk' [n] m)) = tabT m [a, b, c, d, e] := by kernel_rfl

/-- _law_table -/
theorem tab_call {d : Nat} (hF : ∀ h, g.B h → Facts h) {H : AH} {K : Kv} {n : Nat} {row : List Int} (hn : H[n]? = some (.lst (row.map .int))) (hr : rowOk row) (hK : K (.ref H.length) (H ++ tabT H.length row)) : CallOk g (d + 1) (.fn 91) [.ref n] H K := by
  obtain ⟨a, b, c, d', e, rfl⟩ := five hr.1
  have C : COk g d (pc 15 91 [] stdW) := mkC hF (fun f args H K => std_sound) rfl rfl (show namesOk (sc 15) = true by decide +kernel) (fun _ _ _ _ _ _ e => nomatch e)
  refine lift_gen (args₀ := [.ref 0]) (ix := [n]) (H₀ := [.lst ([a, b, c, d', e].map .int)]) (by simp) rfl (fun i o ho => ?_) rfl rfl ?_
  · cases i with
    | zero => cases ho; exact ⟨rfl, rfl, hn⟩
    | succ i => simp at ho
  · refine fn_call (n := 200) C (fun h hb => (hF h hb).fn (15, 91) (by decide)) (fun h hb => (hF h hb).lim) (ps := ps 15) (body := bd 15) rfl (by decide +kernel) (by decide +kernel) rfl ?_
    refine (tab_K a b c d' e _).mpr ?_
    refine lin_ok hr (by decide) (lin_ok hr (by decide) (lin_ok hr (by decide) (lin_ok hr (by decide) (lin_ok hr (by decide) (lin_ok hr (by decide) ⟨rfl, ?_⟩)))))
    have := tab_ren a b c d' e n H.length
    show K _ (H ++ ((tabH [a, b, c, d', e]).drop 1).map (renO (pk' [n] H.length)))
    rw [this]
    exact hK
end L1

end
section
open PySem PySem.W PyProof.Rows Py
set_option maxRecDepth 100000
set_option autoImplicit false
set_option linter.unusedVariables false
namespace L1
variable {g : G}

/-- how a mark's text is spelled -/
noncomputable def spS (m : Str) (d : Int) : Str := if d == 0 then m else spl (m, (mks.lookup m).getD "") d
noncomputable def okS (m : Str) (d : Int) : Prop := ∃ p n, p ∈ mks ∧ n ≤ 6 ∧ m = p.1 ∧ d = (n : Nat)
theorem spS_eq : ∀ p ∈ mks, ∀ n : Nat, spS p.1 n = spw p n := by
  have key : ∀ p ∈ mks, (p.1, (mks.lookup p.1).getD "") = p := by decide +kernel
  intro p hp n
  unfold spS
  cases n with
  | zero => rfl
  | succ n =>
    have : (((n + 1 : Nat) : Int) == 0) = false := by simp; omega
    rw [this, if_neg Bool.false_ne_true, key p hp]; rfl
noncomputable def sp19 (f : AV) (args : List AV) (H : AH) (K : Kv) : Prop :=
  oFn 110 f (a2 args (fun m d => oS m (fun m => oI d (fun d => okS m d ∧ K (.str (spS m d)) H) False) False) False) <| stdW f args H K
theorem sp19_sound (hF : ∀ h, g.B h → Facts h) {d : Nat} (f : AV) (args : List AV) (H : AH) (K : Kv) (h : sp19 f args H K) : CallOk g (d + 1) f args H K := by
  replace h := oFn_or h; obtain ⟨rfl, h⟩ | h := h
  · replace h := no (a2_or h); obtain ⟨m, e, rfl, h⟩ := h
    replace h := no (oS_or h); obtain ⟨m, rfl, h⟩ := h
    replace h := no (oI_or h); obtain ⟨e, rfl, h⟩ := h
    obtain ⟨⟨p, n, hp, hn, rfl, rfl⟩, k⟩ := h
    rw [spS_eq p hp] at k
    exact mono (by omega) (spl_call hF hp hn k)
  · exact std_sound h
noncomputable abbrev rF : Stmt := st0 (bd 19) 2
noncomputable abbrev rB : List Stmt := gbd rF
theorem r_F : rF = .For (gtg rF) (git rF) rB [] (gps rF) := by kernel_rfl
noncomputable def pcR0 : PC := { pc 19 117 [(202, none)] sp19 with sym := true }
end L1

end
section
open PySem PySem.W PyProof.Rows Py
set_option maxRecDepth 100000
set_option autoImplicit false
set_option linter.unusedVariables false
namespace L1
variable {g : G}

noncomputable def rdC (page m : Str) (pl d : Int) : Bool := Txt.slice page (some pl) (some (pl + (spS m d).length)) == spS m d
noncomputable def rdL (page : Str) (pl : Int) : Lc := [("page", .str page), ("marks", .ref 0), ("told", .ref 1), ("place", .int pl)]
noncomputable def rdE (page : Str) (pl d : Int) (m : Str) (x : Int) : Lc := [("page", .str page), ("marks", .ref 0), ("told", .ref 1), ("place", .int x), ("depth", .int d), ("mark", .str m), ("spelled", .str (spS m d))]
noncomputable def rdX (page m : Str) (pl d : Int) (ts : List AV) (H : List AV → Nat → AH) (i : Nat) (K : Fl → Lc → AH → Prop) (Y : Prop) : Prop :=
  okS m d ∧ (spS m d).length ≤ 1000000 ∧ page.length ≤ 1000000 ∧ ((rdC page m pl d = true → ts.length ≤ 1000000 ∧ (spS m d).length ≤ 1000000 ∧ K .next (rdE page pl d m (pl + (spS m d).length)) (H (ts ++ [.str m]) i)) ∧ (rdC page m pl d = false → Y))
noncomputable def rdH (m0 m1 m2 : Str) (R I : AO) (ts : List AV) (i : Nat) : AH := [.lst [.str m0, .str m1, .str m2], .lst ts, R, I, .itL 0 i]
theorem rd_K (page m0 m1 m2 : Str) (pl d : Int) (ts : List AV) (R I : AO) (K : Fl → Lc → AH → Prop) : aws 60 pcR0 [("page", .str page), ("marks", .ref 0), ("told", .ref 1), ("place", .int pl), ("depth", .int d)] rB [.lst [.str m0, .str m1, .str m2], .lst ts, R, I] K =
    rdX page m0 pl d ts (rdH m0 m1 m2 R I) 1 K (rdX page m1 pl d ts (rdH m0 m1 m2 R I) 2 K (rdX page m2 pl d ts (rdH m0 m1 m2 R I) 3 K (K .next (rdE page pl d m2 pl) [.lst [.str m0, .str m1, .str m2], .lst ts, R, I, .dead]))) := by kernel_rfl

/-- what is spelled, one behind the other -/
noncomputable def cat : List (Str × Str) → List Nat
  | [] => []
  | p :: r => (spw p r.length).cps.toList ++ cat r
noncomputable def apart (a b : List Nat) : Bool := (a.zip b).any fun x => x.1 != x.2
theorem apart_take : ∀ {a b r : List Nat}, apart a b = true → (b ++ r).take a.length ≠ a
  | [], _, _, h => by simp [apart] at h
  | _ :: _, [], _, h => by simp [apart] at h
  | x :: a, y :: b, r, h => by
    intro e
    rw [List.cons_append, List.length_cons, List.take_succ_cons] at e
    injection e with e1 e2
    subst e1
    have : apart a b = true := by
      unfold apart at h ⊢
      rw [List.zip_cons_cons, List.any_cons] at h
      simpa using h
    exact apart_take this e2
theorem spw_apart : ∀ p ∈ mks, ∀ q ∈ mks, p ≠ q → ∀ d ∈ List.range 7, apart (spw q d).cps.toList (spw p d).cps.toList = true := by decide +kernel
theorem spw_len : ∀ p ∈ mks, ∀ d ∈ List.range 7, (spw p d).length ≤ 40 := by decide +kernel

theorem slice_cat {page : Str} {pre : List Nat} {x : List Nat} (hp : page.cps.toList = pre ++ x) (n : Nat) : (Txt.slice page (some (pre.length : Nat)) (some ((pre.length : Nat) + (n : Nat)))).cps.toList = x.take n := by
  have := slice_list page pre.length (pre.length + n)
  rw [show (((pre.length + n : Nat)) : Int) = ((pre.length : Nat) : Int) + (n : Nat) by omega] at this
  rw [this, hp, List.drop_left, Nat.add_sub_cancel_left]
theorem rdC_eq {page : Str} {pre : List Nat} {p q : Str × Str} {r : List (Str × Str)} (hp : page.cps.toList = pre ++ cat (p :: r)) (hpm : p ∈ mks) (hqm : q ∈ mks) (hr : r.length ≤ 6) : rdC page q.1 (pre.length : Nat) (r.length : Nat) = decide (p = q) := by
  unfold rdC
  rw [spS_eq q hqm]
  have hs := slice_cat hp (spw q r.length).length
  have hl : (spw q r.length).length = (spw q r.length).cps.toList.length := by rw [Array.length_toList]; rfl
  by_cases h : p = q
  · subst h
    rw [decide_eq_true rfl, beq_iff_eq]
    apply str_ext
    rw [hs, hl]
    exact List.take_left
  · rw [decide_eq_false h, beq_eq_false_iff_ne]
    intro e
    rw [e, hl] at hs
    exact apart_take (spw_apart p hpm q hqm h r.length (List.mem_range.mpr (by omega))) hs.symm
end L1

end
section
open PySem PySem.W PyProof.Rows Py
set_option maxRecDepth 100000
set_option autoImplicit false
set_option linter.unusedVariables false
namespace L1
variable {g : G}

theorem nx_itR {m : Nat} {H : AH} {x left step : Int} (hm : H[m]? = some (.itR x left step)) (h : 0 < left) (K : Option AV → AH → Prop) : nextW m H K = K (some (.int x)) (H.set m (.itR (x + step) (left - 1) step)) := by
  unfold nextW; rw [hm]; dsimp only; rw [decide_eq_true h]
theorem nx_itR0 {m : Nat} {H : AH} {x left step : Int} (hm : H[m]? = some (.itR x left step)) (h : ¬ 0 < left) (K : Option AV → AH → Prop) : nextW m H K = K none (H.set m .dead) := by
  unfold nextW; rw [hm]; dsimp only; rw [decide_eq_false h]
noncomputable def mtx (l : List (Str × Str)) : List AV := l.map fun p => .str p.1
theorem mtx_below (l : List (Str × Str)) (k : Nat) : (mtx l).all (below k) = true := by
  rw [List.all_eq_true]
  intro x hx
  obtain ⟨p, _, rfl⟩ := List.mem_map.mp hx
  rfl
theorem mtx_sc (l : List (Str × Str)) : (mtx l).all isSc = true := by
  rw [List.all_eq_true]
  intro x hx
  obtain ⟨p, _, rfl⟩ := List.mem_map.mp hx
  rfl
noncomputable def rdB (m0 m1 m2 : Str) (ts : List AV) (n : Int) : AH := [.lst [.str m0, .str m1, .str m2], .lst ts, .rng 6 (-1) (-1), .itR (n - 1) n (-1)]
theorem rdB_below (m0 m1 m2 : Str) (done : List (Str × Str)) (n : Int) : (rdB m0 m1 m2 (mtx done) n).all (belowO 4) = true := by
  have : ∀ ts n, (rdB m0 m1 m2 ts n).all (belowO 4) = (ts.all (below 4) && true) := fun ts n => by kernel_rfl
  rw [this, mtx_below]; rfl
theorem it_rd (page m0 m1 m2 : Str) (pl : Int) (P : Nat → AH → Prop) : (awe 60 pcR0 (rdL page pl) (git rF) [.lst [.str m0, .str m1, .str m2], .lst []] fun v H => iterW v H fun m' H => P m' H) = (((-1 : Int) ≠ 0 ∧ Builtin.divisionGoesByPylong (-1 - 6) (-1) = false) ∧ P 3 (rdB m0 m1 m2 [] 7)) := by kernel_rfl
theorem as_rd (page : Str) (pl i : Int) (K : Lc → AH → Prop) (H : AH) : awa 60 pcR0 (rdL page pl) (gtg rF) (.int i) H K = K [("page", .str page), ("marks", .ref 0), ("told", .ref 1), ("place", .int pl), ("depth", .int i)] H := by kernel_rfl
theorem rF_set : isSetD (git rF) = false := by decide +kernel
theorem rdL_lookup {page : Str} {pl d x : Int} {m : Str} : ∀ y v, (rdL page x).lookup y = some v → (rdE page pl d m x).lookup y = some v ∧ below 4 v = true := by
  intro y v e
  unfold rdL at e
  simp only [List.lookup_cons, List.lookup_nil] at e
  unfold rdE
  simp only [List.lookup_cons]
  split at e
  · cases e; exact ⟨rfl, rfl⟩
  · split at e
    · cases e; exact ⟨rfl, rfl⟩
    · split at e
      · cases e; exact ⟨rfl, rfl⟩
      · split at e
        · cases e; exact ⟨rfl, rfl⟩
        · cases e

theorem rd_loop {d : Nat} (C : COk g d pcR0) {page : Str} {q0 q1 q2 : Str × Str} {l : List (Str × Str)} (h0 : q0 ∈ mks) (h1 : q1 ∈ mks) (h2 : q2 ∈ mks) (hl : ∀ p ∈ l, p = q0 ∨ p = q1 ∨ p = q2) (hlen : l.length = 7) (hpage : page.cps.toList = cat l) (hbig : page.length ≤ 1000000)
    {K : Fl → Lc → AH → Prop} (hK : K .next (rdL page (page.length : Nat)) [.lst [.str q0.1, .str q1.1, .str q2.1], .lst (mtx l), .rng 6 (-1) (-1), .dead]) :
    HkOk g d pcR0 (rdL page 0) rF [.lst [.str q0.1, .str q1.1, .str q2.1], .lst []] K := by
  have hcl : ∀ x k, pcR0.cells.lookup x = some k → k < 4 := fun x k e => by cases e
  have hc2 : ∀ x k, pcR0.cells.lookup x = some k → k < 2 := fun x k e => by cases e
  rw [r_F]
  refine for_hook C (n := 60) (m := 3) (T := 4) (fun k loc H => ∃ done rest pre, done ++ rest = l ∧ k = rest.length ∧ page.cps.toList = pre ++ cat rest ∧ loc = rdL page (pre.length : Nat) ∧ H = rdB q0.1 q1.1 q2.1 (mtx done) rest.length) rF_set (show 2 ≤ 3 by decide) (by decide) ?_ ?_
  · rw [it_rd]
    refine ⟨by decide, rfl, rdL page 0, 4, Nat.le_refl _, ?_, fun x v e => ⟨e, (rdL_lookup (pl := 0) (d := 0) (m := "") x v e).2⟩, hcl, 7, [], l, [], rfl, hlen.symm, hpage, rfl, ?_⟩
    · exact rdB_below _ _ _ [] 7
    · rw [hlen]; rfl
  · rintro k loc H ⟨done, rest, pre, e1, rfl, e2, rfl, rfl⟩
    cases rest with
    | nil =>
      rw [nx_itR0 (x := ((([] : List (Str × Str)).length : Nat) : Int) - 1) (left := ((([] : List (Str × Str)).length : Nat) : Int)) (step := -1) rfl (by simp)]
      dsimp only
      rw [List.append_nil] at e1
      subst e1
      refine ⟨rdL page (pre.length : Nat), 4, Nat.le_refl _, ?_, fun x v e => ⟨e, (rdL_lookup (pl := 0) (d := 0) (m := "") x v e).2⟩, hcl, ?_⟩
      · have : ∀ ts n, (((rdB q0.1 q1.1 q2.1 ts n).set 3 .dead).take 4).all (belowO 4) = (ts.all (below 4) && true) := fun ts n => by kernel_rfl
        rw [this, mtx_below]; rfl
      · have hpl : page.length = pre.length := by
          have : page.length = page.cps.toList.length := by rw [Array.length_toList]; rfl
          rw [this, e2]; simp [cat]
        rw [← hpl]
        exact hK
    | cons p r =>
      have hp := hl p (by rw [← e1]; simp)
      have hpm : p ∈ mks := by rcases hp with rfl | rfl | rfl <;> assumption
      have hll : (done ++ p :: r).length = 7 := by rw [e1]; exact hlen
      rw [List.length_append, List.length_cons] at hll
      have hr : r.length ≤ 6 := by omega
      have hit : (((p :: r).length : Nat) : Int) - 1 = (r.length : Nat) := by rw [List.length_cons]; omega
      rw [nx_itR (x := (((p :: r).length : Nat) : Int) - 1) (left := (((p :: r).length : Nat) : Int)) (step := -1) rfl (by rw [List.length_cons]; omega)]
      dsimp only
      rw [hit, as_rd]
      show aws 60 pcR0 _ rB [.lst [.str q0.1, .str q1.1, .str q2.1], .lst (mtx done), .rng 6 (-1) (-1), .itR ((r.length : Nat) + -1) (r.length : Nat) (-1)] _
      rw [rd_K]
      have hok : ∀ q ∈ mks, okS q.1 (r.length : Nat) ∧ (spS q.1 (r.length : Nat)).length ≤ 1000000 := fun q hq => ⟨⟨q, r.length, hq, hr, rfl, rfl⟩, by
        rw [spS_eq q hq]
        exact Nat.le_trans (spw_len q hq r.length (List.mem_range.mpr (by omega))) (by decide)⟩
      have hdl : (mtx done).length ≤ 1000000 := by unfold mtx; rw [List.length_map]; omega
      -- the turn's end, when q is the mark
      have fin : ∀ (q : Str × Str) (i : Nat), q = p → Fg 4 pcR0 (fun loc H => ∃ j, j < (p :: r).length ∧ ∃ done rest pre, done ++ rest = l ∧ j = rest.length ∧ page.cps.toList = pre ++ cat rest ∧ loc = rdL page (pre.length : Nat) ∧ H = rdB q0.1 q1.1 q2.1 (mtx done) rest.length)
          (rdE page (pre.length : Nat) (r.length : Nat) q.1 ((pre.length : Nat) + (spS q.1 (r.length : Nat)).length)) (rdH q0.1 q1.1 q2.1 (.rng 6 (-1) (-1)) (.itR ((r.length : Nat) + -1) (r.length : Nat) (-1)) (mtx done ++ [.str q.1]) i) := by
        rintro q i rfl
        have hmt : mtx done ++ [.str q.1] = mtx (done ++ [q]) := by unfold mtx; rw [List.map_append]; rfl
        have hlen' : (pre.length : Int) + ((spS q.1 (r.length : Nat)).length : Nat) = ((pre ++ (spw q r.length).cps.toList).length : Nat) := by
          have h9 : (spw q r.length).cps.toList.length = (spw q r.length).length := by rw [Array.length_toList]; rfl
          rw [spS_eq q hpm, List.length_append, h9]; omega
        rw [hmt, hlen']
        refine ⟨rdL page ((pre ++ (spw q r.length).cps.toList).length : Nat), 4, Nat.le_refl _, ?_, fun x v e => rdL_lookup x v e, hcl, r.length, by simp, done ++ [q], r, pre ++ (spw q r.length).cps.toList, by rw [List.append_assoc]; exact e1, rfl, by rw [e2, List.append_assoc]; rfl, rfl, rfl⟩
        exact rdB_below _ _ _ (done ++ [q]) r.length
      have hc : ∀ q ∈ mks, rdC page q.1 (pre.length : Nat) (r.length : Nat) = decide (p = q) := fun q hq => rdC_eq e2 hpm hq hr
      refine ⟨(hok q0 h0).1, (hok q0 h0).2, hbig, fun _ => ⟨hdl, (hok q0 h0).2, ?_⟩, fun c0 => ⟨(hok q1 h1).1, (hok q1 h1).2, hbig, fun _ => ⟨hdl, (hok q1 h1).2, ?_⟩, fun c1 => ⟨(hok q2 h2).1, (hok q2 h2).2, hbig, fun _ => ⟨hdl, (hok q2 h2).2, ?_⟩, fun c2 => ?_⟩⟩⟩
      · rename_i c; rw [hc q0 h0] at c; exact fin q0 1 (of_decide_eq_true c).symm
      · rename_i c; rw [hc q1 h1] at c; exact fin q1 2 (of_decide_eq_true c).symm
      · rename_i c; rw [hc q2 h2] at c; exact fin q2 3 (of_decide_eq_true c).symm
      · exfalso
        rw [hc q0 h0] at c0; rw [hc q1 h1] at c1; rw [hc q2 h2] at c2
        rcases hp with h | h | h
        · exact of_decide_eq_false c0 h
        · exact of_decide_eq_false c1 h
        · exact of_decide_eq_false c2 h
end L1

end
section
open PySem PySem.W PyProof.Rows Py
set_option maxRecDepth 100000
set_option autoImplicit false
set_option linter.unusedVariables false
namespace L1
variable {g : G}

noncomputable def RdP (l : List (Str × Str)) (page m0 m1 m2 : Str) : Prop :=
  ∃ q0 q1 q2, q0 ∈ mks ∧ q1 ∈ mks ∧ q2 ∈ mks ∧ m0 = q0.1 ∧ m1 = q1.1 ∧ m2 = q2.1 ∧ (∀ p ∈ l, p = q0 ∨ p = q1 ∨ p = q2) ∧ l.length = 7 ∧ page.cps.toList = cat l ∧ page.length ≤ 1000000
noncomputable def rLoc (page : Str) : Lc := [("page", .str page), ("marks", .ref 0), ("told", .ref 1), ("place", .int 0)]
noncomputable def rHp (m0 m1 m2 : Str) : AH := [.lst [.str m0, .str m1, .str m2], .lst []]
noncomputable def hkRf (l : List (Str × Str)) (page m0 m1 m2 : Str) (st : Stmt) (loc : Lc) (H : AH) (K : Fl → Lc → AH → Prop) : Prop :=
  (st = rF ∧ loc = rLoc page ∧ H = rHp m0 m1 m2 ∧ RdP l page m0 m1 m2) ∧
    K .next (rdL page (page.length : Nat)) [.lst [.str m0, .str m1, .str m2], .lst (mtx l), .rng 6 (-1) (-1), .dead]
noncomputable def hkR (l : List (Str × Str)) (page m0 m1 m2 : Str) (n : Nat) : Option (Stmt → Lc → AH → (Fl → Lc → AH → Prop) → Prop) := match n == 199 with
  | true => some (hkRf l page m0 m1 m2)
  | false => none
noncomputable def pcR (l : List (Str × Str)) (page m0 m1 m2 : Str) : PC := { pcR0 with hk := hkR l page m0 m1 m2, sites := [(206, some true)] }
theorem hkR_sound (hF : ∀ h, g.B h → Facts h) (l : List (Str × Str)) (page m0 m1 m2 : Str) {d : Nat} : ∀ n f st loc H K, hkR l page m0 m1 m2 n = some f → f st loc H K → HkOk g (d + 1) (pcR l page m0 m1 m2) loc st H K := by
  have C : COk g (d + 1) pcR0 := mkC hF (fun f args H K => sp19_sound hF f args H K) rfl rfl (show namesOk (sc 19) = true by decide +kernel) (fun _ _ _ _ _ _ e => nomatch e)
  intro n f st loc H K e h
  unfold hkR at e
  split at e
  · cases e
    obtain ⟨⟨rfl, rfl, rfl, q0, q1, q2, h0, h1, h2, rfl, rfl, rfl, h3, h4, h5, h6⟩, k⟩ := h
    exact HkOk.cg (c := pcR0) (c' := pcR l page q0.1 q1.1 q2.1) rfl rfl rfl rfl (rd_loop C h0 h1 h2 h3 h4 h5 h6 k)
  · cases e
theorem rdF_K (l : List (Str × Str)) (page m0 m1 m2 : Str) (K : Kv) : aws 60 (pcR l page m0 m1 m2) ((ps 19).zip [AV.str page, .ref 0]) (bd 19) [.lst [.str m0, .str m1, .str m2]] (endW K) =
    ((rF = rF ∧ rLoc page = rLoc page ∧ rHp m0 m1 m2 = rHp m0 m1 m2 ∧ RdP l page m0 m1 m2) ∧
      page.length ≤ 1000000 ∧ (((page.length : Nat) : Int) == ((page.length : Nat) : Int)) = true ∧ K (.ref 1) [.lst [.str m0, .str m1, .str m2], .lst (mtx l), .rng 6 (-1) (-1), .dead]) := by kernel_rfl
/-- _law_read -/
theorem rd_call (hF : ∀ h, g.B h → Facts h) {l : List (Str × Str)} {page m0 m1 m2 : Str} {n : Nat} {H : AH} {K : Kv} (hn : H[n]? = some (.lst [.str m0, .str m1, .str m2])) (hP : RdP l page m0 m1 m2) (k : newW (.lst (mtx l)) H K) : CallOk g 2 (.fn 117) [.str page, .ref n] H K := by
  have C : COk g 1 (pcR l page m0 m1 m2) := mkC hF (fun f args H K => sp19_sound hF f args H K) rfl rfl (show namesOk (sc 19) = true by decide +kernel) (hkR_sound hF l page m0 m1 m2)
  refine lift_lstg (args₀ := [.str page, .ref 0]) (ix := [n]) (H₀ := [.lst [.str m0, .str m1, .str m2]]) (by simp) rfl (fun i o ho => ?_) rfl rfl (mtx_sc l) ?_ k
  · cases i with
    | zero => cases ho; exact ⟨rfl, rfl, hn⟩
    | succ i => simp at ho
  · refine fn_call (n := 60) C (fun h hb => (hF h hb).fn (19, 117) (by decide)) (fun h hb => (hF h hb).lim) (ps := ps 19) (body := bd 19) rfl (show (sc 19).names.all (fun x => x.2 != .cell) = true by decide +kernel) (show (ps 19).all (fun x => (sc 19).names.lookup x == some .local) = true by decide +kernel) rfl ?_
    rw [rdF_K]
    have hb : page.length ≤ 1000000 := by obtain ⟨_, _, _, _, _, _, _, _, _, _, _, _, h⟩ := hP; exact h
    exact ⟨⟨rfl, rfl, rfl, hP⟩, hb, by simp, ⟨1, rfl, Nat.le_refl _, rfl⟩, rfl⟩
end L1

end
section
open PySem PySem.W PyProof.Rows Py
set_option maxRecDepth 100000
set_option autoImplicit false
set_option linter.unusedVariables false
namespace L1
variable {g : G}

noncomputable def lk3 (tab : List ((UInt64 × UInt64 × UInt64) × List AV)) (a b c : UInt64) : Option (List AV) := tab.lookup (a, b, c)
noncomputable def sp17 (f : AV) (args : List AV) (H : AH) (K : Kv) : Prop :=
  oFn 21 f (a3 args (fun a b c => oF a (fun a => oFF b c (fun b c => oSm (lk3 rgbTab a b c) fun t => newW (.tup t) H K) False) False) False) <|
  oFn 28 f (a3 args (fun a b c => oF a (fun a => oFF b c (fun b c => oSm (lk3 hsvTab a b c) fun t => newW (.tup t) H K) False) False) False) <|
  oFn 70 f (a2 args (fun a b => oII a b (fun a b => okD a b ∧ newW (.tup (dm a b)) H K) False) False) <|
  oFn 84 f (a1 args (fun t => oS t (fun t => escOk escs t ∧ K (.str (esc t)) H) False) False) <| stdW f args H K
theorem lk3_mem {tab : List ((UInt64 × UInt64 × UInt64) × List AV)} {a b c : UInt64} {t : List AV} (h : lk3 tab a b c = some t) : ((a, b, c), t) ∈ tab := by
  unfold lk3 at h
  induction tab with
  | nil => simp at h
  | cons p r ih =>
    obtain ⟨k, v⟩ := p
    rw [List.lookup_cons] at h
    cases hk : ((a, b, c) == k) with
    | true =>
      rw [hk] at h; cases h
      have : (a, b, c) = k := by simpa using hk
      subst this; exact List.mem_cons_self
    | false => rw [hk] at h; exact List.mem_cons_of_mem _ (ih h)
theorem sp17_sound (hF : ∀ h, g.B h → Facts h) (X7 : TabG g t7) (X8 : TabG g t8) (f : AV) (args : List AV) (H : AH) (K : Kv) (h : sp17 f args H K) : CallOk g 16 f args H K := by
  replace h := oFn_or h; obtain ⟨rfl, h⟩ | h := h
  · replace h := no (a3_or h); obtain ⟨a, b, c, rfl, h⟩ := h
    replace h := no (oF_or h); obtain ⟨a, rfl, h⟩ := h
    replace h := no (oFF_or h); obtain ⟨b, c, ⟨rfl, rfl⟩, h⟩ := h
    obtain ⟨t, ht, h⟩ := oSm_in h
    exact mono (by decide) (rgb_call (d := 0) hF (lk3_mem ht) h)
  replace h := oFn_or h; obtain ⟨rfl, h⟩ | h := h
  · replace h := no (a3_or h); obtain ⟨a, b, c, rfl, h⟩ := h
    replace h := no (oF_or h); obtain ⟨a, rfl, h⟩ := h
    replace h := no (oFF_or h); obtain ⟨b, c, ⟨rfl, rfl⟩, h⟩ := h
    obtain ⟨t, ht, h⟩ := oSm_in h
    exact mono (by decide) (hsv_call (d := 0) hF (lk3_mem ht) h)
  replace h := oFn_or h; obtain ⟨rfl, h⟩ | h := h
  · replace h := no (a2_or h); obtain ⟨a, b, rfl, h⟩ := h
    replace h := no (oII_or h); obtain ⟨a, b, ⟨rfl, rfl⟩, h⟩ := h
    exact idm_call hF X7 X8 h.1.1.1 h.1.1.2 h.1.2.1 h.1.2.2.1 h.1.2.2.2 h.2
  replace h := oFn_or h; obtain ⟨rfl, h⟩ | h := h
  · replace h := no (a1_or h); obtain ⟨x, rfl, h⟩ := h
    replace h := no (oS_or h); obtain ⟨x, rfl, h⟩ := h
    exact mono (by decide) (esc_call (d := 0) hF h.1 h.2)
  · exact std_sound h
noncomputable abbrev wF : Stmt := st0 (bd 17) 2
noncomputable abbrev wB : List Stmt := gbd wF
theorem w_F : wF = .For (gtg wF) (git wF) wB [] (gps wF) := by kernel_rfl
noncomputable def cnW : List Str := ["mix", "other"]
noncomputable def pcW (sites : List (Nat × Option Bool)) : PC :=
  { scope := sc 17, cells := cellIx 2 cnW, sites := sites, fns := fnl, gl := fun x => gls.lookup x, sp := sp17, hk := fun _ => none, cd := .ref 102, qn := "_law_walk.<locals>." }
noncomputable def f1 : UInt64 := 4593671619917905920
noncomputable def f2 : UInt64 := 4598175219545276416
noncomputable def f5 : UInt64 := 4603804719079489536
noncomputable def fl (i : Nat) : List AV := match i with
  | 0 => [.flt f1, .flt f2, .flt f5]
  | 1 => [.flt f1, .flt f5, .flt f2]
  | 2 => [.flt f2, .flt f1, .flt f5]
  | 3 => [.flt f2, .flt f5, .flt f1]
  | 4 => [.flt f5, .flt f1, .flt f2]
  | _ => [.flt f5, .flt f2, .flt f1]
end L1

end
section
open PySem PySem.W PyProof.Rows Py
set_option maxRecDepth 100000
set_option autoImplicit false
set_option linter.unusedVariables false
namespace L1
variable {g : G}

noncomputable def stp : Nat → Int
  | 0 => 15 | 1 => 9 | 2 => 17 | 3 => 7 | 4 => 23 | _ => 1
noncomputable def sde : Nat → Int
  | 0 => -1 | 1 => 1 | 2 => 1 | 3 => -1 | 4 => -1 | _ => 1
noncomputable def hueB : Nat → UInt64
  | 0 => 4603804719079489536 | 1 => 4600427019358961664 | 2 => 4604555319017384619 | 3 => 4598925819483171499 | 4 => 4606807118831069867 | _ => 4586165620538955093
noncomputable def shB : UInt64 := 4605380978949069210
noncomputable def nn : Bool → Nat → Int
  | true, c => stp c - 8 * sde c
  | false, c => stp c + 6 * sde c
noncomputable def nrest (b : Bool) (c : Nat) : Int := (nn b c).fmod 24
noncomputable def prt : Nat → List AV
  | 0 => [.int 1, .int 2, .int 5] | 1 => [.int 1, .int 5, .int 2] | 2 => [.int 2, .int 1, .int 5] | 3 => [.int 2, .int 5, .int 1] | 4 => [.int 5, .int 1, .int 2] | _ => [.int 5, .int 2, .int 1]
noncomputable def g1 : UInt64 := 4593671619917905918
noncomputable def g2 : UInt64 := 4598175219545276414
noncomputable def hl (i : Nat) : List AV := match i with
  | 0 => [.flt g1, .flt g2, .flt f5]
  | 1 => [.flt g1, .flt f5, .flt g2]
  | 2 => [.flt g2, .flt g1, .flt f5]
  | 3 => [.flt g2, .flt f5, .flt g1]
  | 4 => [.flt f5, .flt g1, .flt g2]
  | _ => [.flt f5, .flt g2, .flt g1]
noncomputable def wO (b : Bool) (c : Nat) (x : Int) : AH := [.tup [.flt (hueB c), .flt shB, .flt f5], .tup (dm x 2), .tup [.int 0, .int 1], .tup (dm (nn b c) 24), .tup (hl (lnx b c)), .dead, .lst (prt (lnx b c)), .lst [.int 1, .int 2, .int 5], .lst [.int 1, .int 2, .int 5], .dead, .lst (fl (lnx b c)), .tup (fl (lnx b c))]
noncomputable def mkAt (m0 m1 m2 : Str) : Nat → Str
  | 0 => m0 | 1 => m1 | _ => m2
noncomputable def wR (b : Bool) (c : Nat) (page m : Str) (K : Prop) : Prop :=
  IntMulOk (if b then 8 else 6) (sde c) ∧ okD (nn b c) 24 ∧ (0 : Nat) ≤ 1000000 ∧ (1 : Nat) ≤ 1000000 ∧ (2 : Nat) ≤ 1000000 ∧ (3 : Nat) < 64 ∧ (0 : Nat) ≤ 1000000 ∧ (1 : Nat) ≤ 1000000 ∧ (2 : Nat) ≤ 1000000 ∧ (3 : Nat) ≤ 1000000 ∧ escOk escs page ∧ (3 : Nat) ≤ 1000000 ∧ (esc page).length + m.length ≤ 1000000 ∧ K
noncomputable def wC (c : Nat) (x : Int) (page : Str) (m : Bool → Str) (K : Bool → Prop) : Prop :=
  (1000 : Int) ≠ 0 ∧ (1000 : Int) ≠ 0 ∧ Builtin.divisionGoesByPylong (stp c * 1000) 1000 = false ∧ (8 : Int) ≠ 0 ∧ okD x 2 ∧ IntMulOk 2 (x.fdiv 2) ∧ (2 * x.fdiv 2 + x.fmod 2 != x) = false ∧ (!(0 == x.fmod 2 || (1 == x.fmod 2 || false))) = false ∧ false = false ∧
    (((x.fmod 2 != 0) = true → wR true c page (m true) (K true)) ∧ ((x.fmod 2 != 0) = false → wR false c page (m false) (K false)))
noncomputable def wsites : List (Nat × Option Bool) := [(174, some false), (176, none)]
noncomputable def wL (b : Bool) (c : Nat) (x : Int) (pg : Str) (n : Nat) : Lc := [("row", .ref 0), ("marks", .ref 1), ("light", .ref (n + 11)), ("page", .str pg), ("number", .int x), ("hue", .flt (hueB c)), ("share", .flt shB), ("worth", .flt f5), ("fine", .int (stp c * 1000)), ("step", .int (stp c)), ("side", .int (sde c)), ("half", .int (x.fdiv 2)), ("odd", .int (x.fmod 2)), ("rest", .int (nrest b c)), ("parts", .ref (n + 6))]
noncomputable def wL' (b : Bool) (c : Nat) (x : Int) (pg : Str) (n : Nat) : Lc := [("row", .ref 0), ("marks", .ref 1), ("light", .ref (n + 11)), ("page", .str pg), ("rest", .int (nrest b c)), ("share", .flt shB), ("worth", .flt f5), ("number", .int x), ("hue", .flt (hueB c)), ("fine", .int (stp c * 1000)), ("step", .int (stp c)), ("side", .int (sde c)), ("half", .int (x.fdiv 2)), ("odd", .int (x.fmod 2)), ("parts", .ref (n + 6))]
noncomputable def wBase (row : List AV) (m0 m1 m2 : Str) (L : AO) : AH := [.lst row, .lst [.str m0, .str m1, .str m2], .cell none, .cell none, .tup (fl 3), L]
theorem wk0_K (row : List AV) (m0 m1 m2 page : Str) (x : Int) (L : AO) (K : Fl → Lc → AH → Prop) : aws 60 (pcW wsites) [("row", .ref 0), ("marks", .ref 1), ("light", .ref 4), ("page", .str page), ("number", .int x)] wB (wBase row m0 m1 m2 L) K =
    wC 3 x page (fun b => mkAt m0 m1 m2 (lpo (lnx b 3))) (fun b => K .next (wL b 3 x (esc page ++ mkAt m0 m1 m2 (lpo (lnx b 3))) 6) (wBase row m0 m1 m2 L ++ wO b 3 x)) := by kernel_rfl
theorem wk_K (row : List AV) (m0 m1 m2 page : Str) (x r : Int) (L : AO) (K : Fl → Lc → AH → Prop) : ∀ c ∈ List.range 6, aws 60 (pcW wsites) [("row", .ref 0), ("marks", .ref 1), ("light", .ref 6), ("page", .str page), ("rest", .int r), ("share", .flt shB), ("worth", .flt f5), ("number", .int x)] wB (wBase row m0 m1 m2 L ++ [.tup (fl c)]) K =
    wC c x page (fun b => mkAt m0 m1 m2 (lpo (lnx b c))) (fun b => K .next (wL' b c x (esc page ++ mkAt m0 m1 m2 (lpo (lnx b c))) 7) (wBase row m0 m1 m2 L ++ [.tup (fl c)] ++ wO b c x)) := by
  intro c hc
  rw [List.mem_range] at hc
  rcases (by omega : c = 0 ∨ c = 1 ∨ c = 2 ∨ c = 3 ∨ c = 4 ∨ c = 5) with rfl | rfl | rfl | rfl | rfl | rfl <;> kernel_rfl
end L1

end
section
open PySem PySem.W PyProof.Rows Py
set_option maxRecDepth 100000
set_option autoImplicit false
set_option linter.unusedVariables false
namespace L1

/-- _escape_attrib on code points -/
noncomputable def escL (l : List Nat) : List Nat := escs.foldl (fun l p => put p.2.2.1 p.2.2.2.cps.toList l) l
theorem esc_list (t : Str) : (esc t).cps.toList = escL t.cps.toList := by
  unfold esc escL
  generalize escs = es
  induction es generalizing t with
  | nil => rfl
  | cons p r ih => rw [List.foldl_cons, List.foldl_cons, ih, rep_put]
theorem escL_app (a b : List Nat) : escL (a ++ b) = escL a ++ escL b := by
  unfold escL
  generalize escs = es
  induction es generalizing a b with
  | nil => rfl
  | cons p r ih => rw [List.foldl_cons, List.foldl_cons, List.foldl_cons, put_app, ih]
theorem esc_spw : ∀ p ∈ mks, ∀ d ∈ List.range 6, escL (spw p d).cps.toList = (spw p (d + 1)).cps.toList := by decide +kernel
theorem cat_esc : ∀ (l : List (Str × Str)) (q : Str × Str), (∀ p ∈ l, p ∈ mks) → l.length ≤ 6 → escL (cat l) ++ q.1.cps.toList = cat (l ++ [q])
  | [], q, _, _ => by
    show [] ++ _ = (spw q 0).cps.toList ++ []
    rw [List.append_nil]; rfl
  | p :: r, q, h, hl => by
    rw [List.length_cons] at hl
    show escL ((spw p r.length).cps.toList ++ cat r) ++ _ = (spw p (r ++ [q]).length).cps.toList ++ cat (r ++ [q])
    rw [escL_app, List.append_assoc, cat_esc r q (fun p hp => h p (List.mem_cons_of_mem _ hp)) (by omega), esc_spw p (h p List.mem_cons_self) _ (List.mem_range.mpr (by omega)), List.length_append]
    rfl
theorem spw_len5 : ∀ p ∈ mks, ∀ d ∈ List.range 6, (spw p d).cps.toList.length ≤ 30 := by decide +kernel
theorem spw_len7 : ∀ p ∈ mks, ∀ d ∈ List.range 7, (spw p d).cps.toList.length ≤ 40 := by decide +kernel
theorem cat_len5 : ∀ (l : List (Str × Str)), (∀ p ∈ l, p ∈ mks) → l.length ≤ 6 → (cat l).length ≤ 30 * l.length
  | [], _, _ => Nat.le_refl _
  | p :: r, h, hl => by
    rw [List.length_cons] at hl
    have h1 := spw_len5 p (h p List.mem_cons_self) r.length (List.mem_range.mpr (by omega))
    have h2 := cat_len5 r (fun p hp => h p (List.mem_cons_of_mem _ hp)) (by omega)
    show ((spw p r.length).cps.toList ++ cat r).length ≤ _
    rw [List.length_append, List.length_cons]; omega
theorem cat_len7 : ∀ (l : List (Str × Str)), (∀ p ∈ l, p ∈ mks) → l.length ≤ 7 → (cat l).length ≤ 40 * l.length
  | [], _, _ => Nat.le_refl _
  | p :: r, h, hl => by
    rw [List.length_cons] at hl
    have h1 := spw_len7 p (h p List.mem_cons_self) r.length (List.mem_range.mpr (by omega))
    have h2 := cat_len7 r (fun p hp => h p (List.mem_cons_of_mem _ hp)) (by omega)
    show ((spw p r.length).cps.toList ++ cat r).length ≤ _
    rw [List.length_append, List.length_cons]; omega
theorem put_len (c : Nat) (z : List Nat) (hz : 1 ≤ z.length) : ∀ l : List Nat, (put c z l).length ≤ z.length * l.length
  | [] => Nat.zero_le _
  | d :: r => by
    have ih := put_len c z hz r
    have : put c z (d :: r) = (if d = c then z else [d]) ++ put c z r := rfl
    rw [this, List.length_append, List.length_cons, Nat.mul_succ]
    have h2 : (if d = c then z else [d]).length ≤ z.length := by
      split
      · exact Nat.le_refl _
      · exact hz
    omega
theorem len_list (t : Str) : t.length = t.cps.toList.length := by rw [Array.length_toList]; rfl
theorem rep_len (t z : Str) (c : Nat) (hz : 1 ≤ z.length) : (Txt.replace t ⟨#[c]⟩ z).length ≤ z.length * t.length := by
  rw [len_list, rep_put, len_list t, len_list z]
  exact put_len c _ (by rw [← len_list]; exact hz) _
theorem esc_ok {t : Str} (h : t.length ≤ 200) : escOk escs t := by
  have z1 : (Str.ofString "&amp;").length = 5 := by decide +kernel
  have z2 : (Str.ofString "&lt;").length = 4 := by decide +kernel
  have z3 : (Str.ofString "&gt;").length = 4 := by decide +kernel
  have z4 : (Str.ofString "&quot;").length = 6 := by decide +kernel
  have z5 : (Str.ofString "&#13;").length = 5 := by decide +kernel
  have z6 : (Str.ofString "&#10;").length = 5 := by decide +kernel
  have z7 : (Str.ofString "&#09;").length = 5 := by decide +kernel
  have r1 := rep_len t "&amp;" 38 (by rw [z1]; decide)
  generalize e1 : Txt.replace t ⟨#[38]⟩ "&amp;" = t1 at r1
  have r2 := rep_len t1 "&lt;" 60 (by rw [z2]; decide)
  generalize e2 : Txt.replace t1 ⟨#[60]⟩ "&lt;" = t2 at r2
  have r3 := rep_len t2 "&gt;" 62 (by rw [z3]; decide)
  generalize e3 : Txt.replace t2 ⟨#[62]⟩ "&gt;" = t3 at r3
  have r4 := rep_len t3 "&quot;" 34 (by rw [z4]; decide)
  generalize e4 : Txt.replace t3 ⟨#[34]⟩ "&quot;" = t4 at r4
  have r5 := rep_len t4 "&#13;" 13 (by rw [z5]; decide)
  generalize e5 : Txt.replace t4 ⟨#[13]⟩ "&#13;" = t5 at r5
  have r6 := rep_len t5 "&#10;" 10 (by rw [z6]; decide)
  generalize e6 : Txt.replace t5 ⟨#[10]⟩ "&#10;" = t6 at r6
  rw [z1] at r1; rw [z2] at r2; rw [z3] at r3; rw [z4] at r4; rw [z5] at r5; rw [z6] at r6
  unfold escs
  simp only [escOk, z1, z2, z3, z4, z5, z6, z7, e1, e2, e3, e4, e5, e6]
  refine ⟨by omega, by omega, by omega, by omega, by omega, by omega, by omega, trivial⟩
end L1

end
section
open PySem PySem.W PyProof.Rows Py
set_option maxRecDepth 100000
set_option autoImplicit false
set_option linter.unusedVariables false
set_option exponentiation.threshold 2000
namespace L1
variable {g : G}

noncomputable def qAt (q0 q1 q2 : Str × Str) : Nat → Str × Str
  | 0 => q0 | 1 => q1 | _ => q2
theorem qAt_mem {q0 q1 q2 : Str × Str} (h0 : q0 ∈ mks) (h1 : q1 ∈ mks) (h2 : q2 ∈ mks) (i : Nat) : qAt q0 q1 q2 i ∈ mks := by
  match i with
  | 0 => exact h0
  | 1 => exact h1
  | _ + 2 => exact h2
theorem mkAt_q (q0 q1 q2 : Str × Str) (i : Nat) : mkAt q0.1 q1.1 q2.1 i = (qAt q0 q1 q2 i).1 := by
  match i with
  | 0 => rfl
  | 1 => rfl
  | _ + 2 => rfl
noncomputable def lfin : List Bool → Nat → Nat
  | [], c => c
  | b :: r, c => lfin r (lnx b c)
theorem lnx_lt : ∀ b ∈ [false, true], ∀ c ∈ List.range 6, lnx b c < 6 ∧ nrest b c = stp (lnx b c) := by decide +kernel
theorem lnx_lt' (b : Bool) {c : Nat} (hc : c < 6) : lnx b c < 6 ∧ nrest b c = stp (lnx b c) := lnx_lt b (by cases b <;> simp) c (List.mem_range.mpr hc)
theorem od_fmod (x : Int) : (x.fmod 2 != 0) = od x := by unfold od; rw [Int.fmod_eq_emod_of_nonneg _ (by decide)]
theorem okD_small {x y : Int} (hx : x.natAbs ≤ 1000) (hy : y.natAbs ≤ 1000) (hy0 : y ≠ 0) : okD x y := by
  have h : (1000 : Int) ≤ 2 ^ 999 := by decide +kernel
  have b1 := natAbs_box hx
  have b2 := natAbs_box hy
  exact ⟨⟨by omega, by omega⟩, hy0, by omega, by omega⟩
theorem nn_small : ∀ b ∈ [false, true], ∀ c ∈ List.range 6, (nn b c).natAbs ≤ 1000 ∧ (sde c).natAbs ≤ 1 ∧ (stp c).natAbs ≤ 1000 ∧ Builtin.divisionGoesByPylong (stp c * 1000) 1000 = false := by decide +kernel
theorem small_bits {x : Int} {n : Nat} (h : x.natAbs < 2 ^ n) : Builtin.Int.intBits x ≤ n := intBits_le_iff.mpr h

/-- the side conditions of a turn -/
theorem wC_ok {c : Nat} (hc : c < 6) {x : Int} (hx : x.natAbs ≤ 99) {page : Str} {m : Bool → Str} (hpl : page.length ≤ 200) (hel : (esc page).length + (m (od x)).length ≤ 1000000) {K : Bool → Prop} (k : K (od x)) : wC c x page m K := by
  have hf : x.fdiv 2 = x / 2 := Int.fdiv_eq_ediv_of_nonneg _ (by decide)
  have hm : x.fmod 2 = x % 2 := Int.fmod_eq_emod_of_nonneg _ (by decide)
  have rr : ∀ b, (x.fmod 2 != 0) = b → wR b c page (m b) (K b) := by
    intro b hb
    rw [od_fmod] at hb
    subst hb
    obtain ⟨h1, h2, h3, h4⟩ := nn_small (od x) (by cases od x <;> simp) c (List.mem_range.mpr hc)
    refine ⟨?_, okD_small h1 (by decide) (by decide), by decide, by decide, by decide, by decide, by decide, by decide, by decide, by decide, esc_ok hpl, by decide, hel, k⟩
    refine IntMulOk.of_le (m := 4) (n := 2) (small_bits ?_) (small_bits (by omega)) (by decide)
    cases od x <;> decide
  obtain ⟨_, _, _, h4⟩ := nn_small true (by simp) c (List.mem_range.mpr hc)
  refine ⟨by decide, by decide, h4, by decide, okD_small (by omega) (by decide) (by decide), IntMulOk.of_le (m := 2) (n := 7) (small_bits (by decide)) (small_bits (by rw [hf]; omega)) (by decide), ?_, ?_, rfl, rr true, rr false⟩
  · rw [hf, hm]; simp; omega
  · rw [hm]
    rcases Int.emod_two_eq x with h | h <;> rw [h] <;> rfl
end L1

end
section
open PySem PySem.W PyProof.Rows Py
set_option maxRecDepth 100000
set_option autoImplicit false
set_option linter.unusedVariables false
namespace L1
variable {g : G}

theorem nx_itL {m n i : Nat} {H : AH} {xs : List AV} {x : AV} (hm : H[m]? = some (.itL n i)) (hn : H[n]? = some (.lst xs)) (hx : xs[i]? = some x) (K : Option AV → AH → Prop) : nextW m H K = K (some x) (H.set m (.itL n (i + 1))) := by
  unfold nextW; rw [hm]; dsimp only; rw [hn]; dsimp only; rw [hx]
theorem nx_itL0 {m n i : Nat} {H : AH} {xs : List AV} (hm : H[m]? = some (.itL n i)) (hn : H[n]? = some (.lst xs)) (hx : xs[i]? = none) (K : Option AV → AH → Prop) : nextW m H K = K none (H.set m .dead) := by
  unfold nextW; rw [hm]; dsimp only; rw [hn]; dsimp only; rw [hx]
noncomputable def startL (page : Str) : Lc := [("row", .ref 0), ("marks", .ref 1), ("light", .ref 4), ("page", .str page)]
noncomputable def laterL (c : Nat) (page : Str) : Lc := [("row", .ref 0), ("marks", .ref 1), ("light", .ref 6), ("page", .str page), ("rest", .int (stp c)), ("share", .flt shB), ("worth", .flt f5)]
theorem as_w0 (page : Str) (x : Int) (K : Lc → AH → Prop) (H : AH) : awa 60 (pcW wsites) (startL page) (gtg wF) (.int x) H K = K [("row", .ref 0), ("marks", .ref 1), ("light", .ref 4), ("page", .str page), ("number", .int x)] H := by kernel_rfl
theorem as_w1 (c : Nat) (page : Str) (x : Int) (K : Lc → AH → Prop) (H : AH) : awa 60 (pcW wsites) (laterL c page) (gtg wF) (.int x) H K = K [("row", .ref 0), ("marks", .ref 1), ("light", .ref 6), ("page", .str page), ("rest", .int (stp c)), ("share", .flt shB), ("worth", .flt f5), ("number", .int x)] H := by kernel_rfl
theorem it_w (row : List AV) (m0 m1 m2 page : Str) (P : Nat → AH → Prop) : (awe 60 (pcW wsites) (startL page) (git wF) [.lst row, .lst [.str m0, .str m1, .str m2], .cell none, .cell none, .tup (fl 3)] fun v H => iterW v H fun m' H => P m' H) = P 5 (wBase row m0 m1 m2 (.itL 0 0)) := by kernel_rfl
theorem wF_set : isSetD (git wF) = false := by decide +kernel
theorem ren_ints (f : Nat → Nat) (ns : List Int) : (ns.map AV.int).map (ren f) = ns.map AV.int := by
  rw [List.map_map]; rfl
theorem ren_fl (f : Nat → Nat) (c : Nat) : (fl c).map (ren f) = fl c := by
  unfold fl; split <;> rfl
theorem fl_below (c k : Nat) : (fl c).all (below k) = true := by
  unfold fl; split <;> rfl
theorem pk6 (n : Nat) : ∀ i ∈ List.range 6, pk [0, 1, 2, 3, 4, 5, n] i = i := by
  intro i hi
  rw [List.mem_range] at hi
  rcases (by omega : i = 0 ∨ i = 1 ∨ i = 2 ∨ i = 3 ∨ i = 4 ∨ i = 5) with rfl | rfl | rfl | rfl | rfl | rfl <;> rfl

theorem low_of {k : Nat} {l : Lc} (h : l.all (fun p => below k p.2) = true) {x : Str} {v : AV} (e : l.lookup x = some v) : below k v = true := List.all_eq_true.mp h _ (lookup_mem e)
theorem lk_map (f : Nat → Nat) : ∀ {l : Lc} {x : Str} {v : AV}, l.lookup x = some v → (l.map fun p => (p.1, ren f p.2)).lookup x = some (ren f v)
  | (y, w) :: r, x, v, e => by
    rw [List.map_cons, List.lookup_cons]
    rw [List.lookup_cons] at e
    cases hx : x == y with
    | true => rw [hx] at e; cases e; rfl
    | false => rw [hx] at e; exact lk_map f e
theorem cl_6 {x : Str} {i : Nat} (e : (cellIx 2 cnW).lookup x = some i) : i < 6 :=
  of_decide_eq_true (List.all_eq_true.mp (show (cellIx 2 cnW).all (fun p => decide (p.2 < 6)) = true by decide +kernel) _ (lookup_mem e))
theorem fgp_w {P : Lc → AH → Prop} {loc : Lc} {row : List Int} {m0 m1 m2 page : Str} {L : AO} {X : AH} {n c : Nat} (hL : ∀ f, belowO 7 L = true ∧ (f 0 = 0 → renO f L = L)) (hX : X[n]? = some (.tup (fl c)))
    (hloc : ∀ x v, (laterL c page).lookup x = some v → loc.lookup x = some (ren (pk [0, 1, 2, 3, 4, 5, 6 + n]) v)) (hP : P (laterL c page) (wBase (row.map .int) m0 m1 m2 L ++ [.tup (fl c)])) :
    FgP 6 (pcW wsites) P loc (wBase (row.map .int) m0 m1 m2 L ++ X) := by
  refine ⟨[0, 1, 2, 3, 4, 5, 6 + n], laterL c page, wBase (row.map .int) m0 m1 m2 L ++ [.tup (fl c)], ?_, rfl, Nat.le_succ 6, fun i hi => pk6 _ i (List.mem_range.mpr hi), fun i o e => ?_, fun x v e => ⟨?_, hloc x v e⟩, fun x i e => ?_, hP⟩
  · simp only [List.nodup_cons, List.mem_cons, List.not_mem_nil, or_false, not_or, not_false_eq_true, List.nodup_nil, and_true]
    omega
  · have hi : i < 7 := by have := (List.getElem?_eq_some_iff.mp e).1; exact this
    have hget : ∀ j, j < 6 → (wBase (row.map AV.int) m0 m1 m2 L ++ X)[j]? = (wBase (row.map AV.int) m0 m1 m2 L ++ [.tup (fl c)])[j]? := fun j hj => by
      rw [List.getElem?_append_left hj, List.getElem?_append_left hj]
    have p0 : pk [0, 1, 2, 3, 4, 5, 6 + n] 0 = 0 := rfl
    rcases (by omega : i = 0 ∨ i = 1 ∨ i = 2 ∨ i = 3 ∨ i = 4 ∨ i = 5 ∨ i = 6) with rfl | rfl | rfl | rfl | rfl | rfl | rfl
    · cases e
      refine ⟨all_ints _ _, ?_⟩
      show some (AO.lst (row.map AV.int)) = some (AO.lst ((row.map AV.int).map _))
      rw [ren_ints]
    · cases e; exact ⟨rfl, rfl⟩
    · cases e; exact ⟨rfl, rfl⟩
    · cases e; exact ⟨rfl, rfl⟩
    · cases e; exact ⟨rfl, rfl⟩
    · cases e
      refine ⟨(hL id).1, ?_⟩
      rw [(hL (pk [0, 1, 2, 3, 4, 5, 6 + n])).2 p0]; rfl
    · cases e
      refine ⟨fl_below _ _, ?_⟩
      show (wBase (row.map AV.int) m0 m1 m2 L ++ X)[6 + n]? = some (AO.tup ((fl c).map _))
      rw [ren_fl, List.getElem?_append_right (show (wBase (row.map AV.int) m0 m1 m2 L).length ≤ 6 + n from Nat.le_add_right 6 n)]
      rw [show 6 + n - (wBase (row.map AV.int) m0 m1 m2 L).length = n from Nat.add_sub_cancel_left 6 n]
      exact hX
  · exact low_of rfl e
  · exact cl_6 e

theorem lk_of {f : Nat → Nat} {l l' : Lc} (h : ∀ p ∈ l', l.lookup p.1 = some (ren f p.2)) (y : Str) (v : AV) (e : l'.lookup y = some v) : l.lookup y = some (ren f v) := h _ (lookup_mem e)
theorem lk_w0 (x : Int) (pg : Str) : ∀ p ∈ laterL (lnx (od x) 3) pg, (wL (od x) 3 x pg 6).lookup p.1 = some (ren (pk [0, 1, 2, 3, 4, 5, 6 + 11]) p.2) := by
  have hnr := (lnx_lt' (od x) (show 3 < 6 by decide)).2
  intro p hp
  unfold laterL at hp
  rw [← hnr] at hp
  simp only [List.mem_cons, List.not_mem_nil, or_false] at hp
  rcases hp with rfl | rfl | rfl | rfl | rfl | rfl | rfl <;> rfl
theorem lk_w1 (x : Int) (pg : Str) {c : Nat} (hc : c < 6) : ∀ p ∈ laterL (lnx (od x) c) pg, (wL' (od x) c x pg 7).lookup p.1 = some (ren (pk [0, 1, 2, 3, 4, 5, 6 + 12]) p.2) := by
  have hnr := (lnx_lt' (od x) hc).2
  intro p hp
  unfold laterL at hp
  rw [← hnr] at hp
  simp only [List.mem_cons, List.not_mem_nil, or_false] at hp
  rcases hp with rfl | rfl | rfl | rfl | rfl | rfl | rfl <;> rfl
/-- the walk's state -/
noncomputable def wI (row : List Int) (q0 q1 q2 : Str × Str) (cf : Nat) (k : Nat) (loc : Lc) (H : AH) : Prop :=
  ∃ (pos : List Nat) (rest : List Int) (c i : Nat) (page : Str), pos ++ lwk (rest.map od) c = tld (row.map od) ∧ row.drop i = rest ∧ pos.length = i + 2 ∧ c < 6 ∧ lfin (rest.map od) c = cf ∧ page.cps.toList = cat (pos.map (qAt q0 q1 q2)) ∧ k = rest.length ∧
    ((c = 3 ∧ loc = startL page ∧ H = wBase (row.map .int) q0.1 q1.1 q2.1 (.itL 0 i) ∧ i = 0) ∨ (loc = laterL c page ∧ H = wBase (row.map .int) q0.1 q1.1 q2.1 (.itL 0 i) ++ [.tup (fl c)] ∧ i ≠ 0))
theorem wk_loop {d : Nat} (C : COk g d (pcW wsites)) {row : List Int} (hr : rowOk row) {q0 q1 q2 : Str × Str} (h0 : q0 ∈ mks) (h1 : q1 ∈ mks) (h2 : q2 ∈ mks) {page pg : Str} (hp0 : page.cps.toList = cat [q0, q1]) (hpg : pg.cps.toList = cat ((tld (row.map od)).map (qAt q0 q1 q2)))
    {K : Fl → Lc → AH → Prop} (hK : K .next (laterL (lfin (row.map od) 3) pg) (wBase (row.map .int) q0.1 q1.1 q2.1 .dead ++ [.tup (fl (lfin (row.map od) 3))])) :
    HkOk g d (pcW wsites) (startL page) wF [.lst (row.map .int), .lst [.str q0.1, .str q1.1, .str q2.1], .cell none, .cell none, .tup (fl 3)] K := by
  have h5 := hr.1
  have hcl : ∀ x i, (pcW wsites).cells.lookup x = some i → i < 6 := fun x i e => cl_6 e
  have hmem : ∀ pos : List Nat, ∀ p ∈ pos.map (qAt q0 q1 q2), p ∈ mks := fun pos p hp => by
    obtain ⟨i, _, rfl⟩ := List.mem_map.mp hp
    exact qAt_mem h0 h1 h2 i
  have hlwk : ∀ (bs : List Bool) (c : Nat), (lwk bs c).length = bs.length := by
    intro bs
    induction bs with
    | nil => intro c; rfl
    | cons b r ih => intro c; show (lpo _ :: lwk r _).length = _; rw [List.length_cons, ih, List.length_cons]
  rw [w_F]
  refine for_hookP C (n := 60) (m := 5) (T := 6) (wI row q0 q1 q2 (lfin (row.map od) 3)) wF_set (show 5 ≤ 6 by decide) (by decide) ?_ ?_
  · rw [it_w]
    refine ⟨rfl, List.range 6, startL page, wBase (row.map .int) q0.1 q1.1 q2.1 (.itL 0 0), List.nodup_range, rfl, Nat.le_refl _, fun i hi => ?_, fun i o e => ?_, fun x v e => ⟨?_, ?_⟩, hcl, 5, [0, 1], row, 3, 0, page, rfl, rfl, rfl, by decide, rfl, hp0, h5.symm, .inl ⟨rfl, rfl, rfl, rfl⟩⟩
    · rcases (by omega : i = 0 ∨ i = 1 ∨ i = 2 ∨ i = 3 ∨ i = 4 ∨ i = 5) with rfl | rfl | rfl | rfl | rfl | rfl <;> rfl
    · have hi : i < 6 := by have := (List.getElem?_eq_some_iff.mp e).1; exact this
      rcases (by omega : i = 0 ∨ i = 1 ∨ i = 2 ∨ i = 3 ∨ i = 4 ∨ i = 5) with rfl | rfl | rfl | rfl | rfl | rfl <;> cases e
      · refine ⟨all_ints _ _, ?_⟩
        show some (AO.lst (row.map AV.int)) = some (AO.lst ((row.map AV.int).map _))
        rw [ren_ints]
      all_goals exact ⟨rfl, rfl⟩
    · exact low_of rfl e
    · exact lk_map (pk (List.range 6)) e
  · rintro k loc H ⟨pos, rest, c, i, pgi, e1, e2, e3, hc, e4, e5, rfl, hst⟩
    have hll : pos.length + rest.length = 7 := by
      have := congrArg List.length e1
      rw [List.length_append, hlwk, List.length_map, tld_len (by rw [List.length_map]; exact h5)] at this
      exact this
    cases rest with
    | nil =>
      rw [List.length_nil] at hll
      have hi5 : i = 5 := by omega
      subst hi5
      rcases hst with ⟨_, _, _, h⟩ | ⟨rfl, rfl, _⟩
      · omega
      · rw [nx_itL0 (n := 0) (i := 5) (xs := row.map .int) rfl rfl (by rw [List.getElem?_eq_none]; rw [List.length_map, h5]; exact Nat.le_refl _)]
        dsimp only
        have hpe : pgi = pg := by
          apply str_ext
          rw [e5, hpg, ← e1]
          show _ = cat ((pos ++ []).map _)
          rw [List.append_nil]
        have e4 : c = lfin (row.map od) 3 := e4
        rw [← e4, ← hpe] at hK
        refine fgp_w (n := 0) (c := c) (page := pgi) (L := .dead) (X := [.tup (fl c)]) (fun f => ⟨rfl, fun _ => rfl⟩) rfl (fun x v e => ?_) hK
        rw [e]
        unfold laterL at e
        simp only [List.lookup_cons, List.lookup_nil] at e
        repeat (first | (split at e; · cases e; rfl) | cases e)
    | cons x r =>
      rw [List.length_cons] at hll
      have hxi : row[i]? = some x := by
        have h := List.getElem?_drop (xs := row) (i := i) (j := 0)
        rw [e2, Nat.add_zero] at h
        exact h.symm
      have hx : x.natAbs ≤ 99 := hr.2 x (List.mem_of_getElem? hxi)
      have hxs : (row.map AV.int)[i]? = some (.int x) := by rw [List.getElem?_map, hxi]; rfl
      have hplen : pgi.length ≤ 200 := by
        rw [len_list, e5]
        have := cat_len5 (pos.map (qAt q0 q1 q2)) (hmem pos) (by rw [List.length_map]; omega)
        rw [List.length_map] at this
        omega
      obtain ⟨hc', hnr⟩ := lnx_lt' (od x) hc
      -- the next page
      have hpn : ((esc pgi ++ mkAt q0.1 q1.1 q2.1 (lpo (lnx (od x) c))) : Str).cps.toList = cat ((pos ++ [lpo (lnx (od x) c)]).map (qAt q0 q1 q2)) := by
        rw [Str.cps_append, Array.toList_append, esc_list, e5, mkAt_q, List.map_append]
        exact cat_esc _ _ (hmem pos) (by rw [List.length_map]; omega)
      have hel : (esc pgi).length + (mkAt q0.1 q1.1 q2.1 (lpo (lnx (od x) c))).length ≤ 1000000 := by
        have h9 : (esc pgi).length + (mkAt q0.1 q1.1 q2.1 (lpo (lnx (od x) c))).length = ((esc pgi ++ mkAt q0.1 q1.1 q2.1 (lpo (lnx (od x) c))) : Str).length := by
          rw [len_list, len_list, len_list, Str.cps_append, Array.toList_append, List.length_append]
        rw [h9, len_list, hpn]
        have := cat_len7 ((pos ++ [lpo (lnx (od x) c)]).map (qAt q0 q1 q2)) (hmem _) (by rw [List.length_map, List.length_append, List.length_singleton]; omega)
        rw [List.length_map, List.length_append, List.length_singleton] at this
        omega
      have hnext : ∃ j, j < (x :: r).length ∧ wI row q0 q1 q2 (lfin (row.map od) 3) j (laterL (lnx (od x) c) (esc pgi ++ mkAt q0.1 q1.1 q2.1 (lpo (lnx (od x) c)))) (wBase (row.map .int) q0.1 q1.1 q2.1 (.itL 0 (i + 1)) ++ [.tup (fl (lnx (od x) c))]) := by
        refine ⟨r.length, by simp, pos ++ [lpo (lnx (od x) c)], r, lnx (od x) c, i + 1, _, by rw [List.append_assoc]; exact e1, ?_, by rw [List.length_append, List.length_singleton]; omega, hc', e4, hpn, rfl, .inr ⟨rfl, rfl, by omega⟩⟩
        rw [← List.drop_drop, e2]; rfl
      have hLit : ∀ f : Nat → Nat, belowO 7 (AO.itL 0 (i + 1)) = true ∧ (f 0 = 0 → renO f (AO.itL 0 (i + 1)) = AO.itL 0 (i + 1)) := fun f => ⟨rfl, fun h => by show AO.itL (f 0) (i + 1) = _; rw [h]⟩
      rcases hst with ⟨rfl, rfl, rfl, rfl⟩ | ⟨rfl, rfl, hi0⟩
      · rw [nx_itL (n := 0) (i := 0) (xs := row.map .int) rfl rfl hxs]
        dsimp only
        rw [as_w0]
        show aws 60 (pcW wsites) _ wB (wBase (row.map .int) q0.1 q1.1 q2.1 (.itL 0 (0 + 1))) _
        rw [wk0_K]
        refine wC_ok hc hx hplen hel ?_
        exact fgp_w (n := 11) (c := lnx (od x) 3) (L := .itL 0 (0 + 1)) hLit rfl (lk_of (lk_w0 x _)) hnext
      · rw [nx_itL (n := 0) (i := i) (xs := row.map .int) rfl rfl hxs]
        dsimp only
        rw [as_w1]
        show aws 60 (pcW wsites) _ wB (wBase (row.map .int) q0.1 q1.1 q2.1 (.itL 0 (i + 1)) ++ [.tup (fl c)]) _
        rw [wk_K _ _ _ _ _ _ _ _ _ c (List.mem_range.mpr hc)]
        refine wC_ok hc hx hplen hel ?_
        rw [List.append_assoc]
        exact fgp_w (n := 12) (c := lnx (od x) c) (L := .itL 0 (i + 1)) hLit rfl (lk_of (lk_w1 x _ hc)) hnext
end L1

end
section
open PySem PySem.W PyProof.Rows Py
set_option maxRecDepth 100000
set_option autoImplicit false
set_option linter.unusedVariables false
namespace L1
variable {g : G}

noncomputable def WkP (cf : Nat) (pg : Str) (xs : List AV) (page m0 m1 m2 : Str) (l : List AV) : Prop :=
  ∃ row q0 q1 q2, rowOk row ∧ q0 ∈ mks ∧ q1 ∈ mks ∧ q2 ∈ mks ∧ xs = row.map AV.int ∧ m0 = q0.1 ∧ m1 = q1.1 ∧ m2 = q2.1 ∧ page.cps.toList = cat [q0, q1] ∧ pg.cps.toList = cat ((tld (row.map od)).map (qAt q0 q1 q2)) ∧ l = fl 3 ∧ cf = lfin (row.map od) 3
noncomputable def wLoc (page : Str) : Lc := [("row", .ref 0), ("marks", .ref 1), ("light", .ref 4), ("page", .str page)]
noncomputable def wHp (xs : List AV) (m0 m1 m2 : Str) (l : List AV) : AH := [.lst xs, .lst [.str m0, .str m1, .str m2], .cell none, .cell none, .tup l]
noncomputable def hkWf (cf : Nat) (pg : Str) (xs : List AV) (page m0 m1 m2 : Str) (l : List AV) (st : Stmt) (loc : Lc) (H : AH) (K : Fl → Lc → AH → Prop) : Prop :=
  (st = wF ∧ loc = wLoc page ∧ H = wHp xs m0 m1 m2 l ∧ WkP cf pg xs page m0 m1 m2 l) ∧
    K .next (laterL cf pg) (wBase xs m0 m1 m2 .dead ++ [.tup (fl cf)])
noncomputable def hkW (cf : Nat) (pg : Str) (xs : List AV) (page m0 m1 m2 : Str) (l : List AV) (n : Nat) : Option (Stmt → Lc → AH → (Fl → Lc → AH → Prop) → Prop) := match n == 166 with
  | true => some (hkWf cf pg xs page m0 m1 m2 l)
  | false => none
noncomputable def pcWh (cf : Nat) (pg : Str) (xs : List AV) (m0 m1 m2 : Str) : PC := { pcW wsites with hk := hkW cf pg xs (esc m0 ++ m1) m0 m1 m2 (fl 3) }
theorem hkW_sound (hF : ∀ h, g.B h → Facts h) (X7 : TabG g t7) (X8 : TabG g t8) (cf : Nat) (pg : Str) (xs : List AV) (m0 m1 m2 : Str) : ∀ n f st loc H K, hkW cf pg xs (esc m0 ++ m1) m0 m1 m2 (fl 3) n = some f → f st loc H K → HkOk g 16 (pcWh cf pg xs m0 m1 m2) loc st H K := by
  have C : COk g 16 (pcW wsites) := mkC hF (sp17_sound hF X7 X8) rfl rfl (show namesOk (sc 17) = true by decide +kernel) (fun _ _ _ _ _ _ e => nomatch e)
  intro n f st loc H K e h
  unfold hkW at e
  split at e
  · cases e
    obtain ⟨⟨rfl, rfl, rfl, row, q0, q1, q2, hr, h0, h1, h2, rfl, rfl, rfl, rfl, h3, h4, _, rfl⟩, k⟩ := h
    exact HkOk.cg (c := pcW wsites) (c' := pcWh _ pg _ _ _ _) rfl rfl rfl rfl (wk_loop C hr h0 h1 h2 h3 h4 k)
  · cases e
noncomputable def wT (k : Int) (X : Prop) : Prop := IntMulOk 8 k ∧ (24 : Int) ≠ 0 ∧ (0 : Nat) ≤ 1000000 ∧ (1 : Nat) ≤ 1000000 ∧ (2 : Nat) ≤ 1000000 ∧ X
theorem wT_ok {k : Int} (hk : k.natAbs ≤ 2) {X : Prop} (x : X) : wT k X := ⟨IntMulOk.of_le (m := 4) (n := 2) (small_bits (by decide)) (small_bits (by omega)) (by decide), by decide, by decide, by decide, by decide, x⟩
theorem wkF_K (xs : List AV) (pg m0 m1 m2 : Str) (K : Kv) : ∀ c ∈ List.range 6, aws 60 (pcWh c pg xs m0 m1 m2) (locsOf (sc 17) ((ps 17).zip [AV.ref 0, .ref 1])) (bd 17) ([AO.lst xs, .lst [.str m0, .str m1, .str m2]] ++ cellOs ((ps 17).zip [AV.ref 0, .ref 1]) cnW) (endW fun v H => K v (H.take 2)) =
    (escOk escs m0 ∧ (esc m0).length + m1.length ≤ 1000000 ∧ (wF = wF ∧ wLoc (esc m0 ++ m1) = wLoc (esc m0 ++ m1) ∧ wHp xs m0 m1 m2 (fl 3) = wHp xs m0 m1 m2 (fl 3) ∧ WkP c pg xs (esc m0 ++ m1) m0 m1 m2 (fl 3)) ∧
      wT 0 (wT 1 (wT 2 (K (.str pg) [.lst xs, .lst [.str m0, .str m1, .str m2]])))) := by
  intro c hc
  rw [List.mem_range] at hc
  rcases (by omega : c = 0 ∨ c = 1 ∨ c = 2 ∨ c = 3 ∨ c = 4 ∨ c = 5) with rfl | rfl | rfl | rfl | rfl | rfl <;> kernel_rfl
theorem lfin_lt : ∀ (bs : List Bool) (c : Nat), c < 6 → lfin bs c < 6
  | [], _, h => h
  | b :: r, _, h => lfin_lt r _ (lnx_lt' b h).1
/-- the page -/
noncomputable def pgOf (l : List (Str × Str)) : Str := ⟨(cat l).toArray⟩
theorem pgOf_list (l : List (Str × Str)) : (pgOf l).cps.toList = cat l := by unfold pgOf; simp
noncomputable def tldQ (row : List Int) (q0 q1 q2 : Str × Str) : List (Str × Str) := (tld (row.map od)).map (qAt q0 q1 q2)

/-- _law_walk -/
theorem wk_call (hF : ∀ h, g.B h → Facts h) (X7 : TabG g t7) (X8 : TabG g t8) {row : List Int} (hr : rowOk row) {q0 q1 q2 : Str × Str} (h0 : q0 ∈ mks) (h1 : q1 ∈ mks) (h2 : q2 ∈ mks) {H : AH} {K : Kv} {n m : Nat} (hnm : n ≠ m) (hn : H[n]? = some (.lst (row.map .int))) (hm : H[m]? = some (.lst [.str q0.1, .str q1.1, .str q2.1]))
    (k : K (.str (pgOf (tldQ row q0 q1 q2))) H) : CallOk g 17 (.fn 103) [.ref n, .ref m] H K := by
  have hc : lfin (row.map od) 3 < 6 := lfin_lt _ _ (by decide)
  have C : COk g 16 (pcWh (lfin (row.map od) 3) (pgOf (tldQ row q0 q1 q2)) (row.map .int) q0.1 q1.1 q2.1) := mkC hF (sp17_sound hF X7 X8) rfl rfl (show namesOk (sc 17) = true by decide +kernel) (hkW_sound hF X7 X8 _ _ _ _ _ _)
  refine lift_scg (args₀ := [.ref 0, .ref 1]) (ix := [n, m]) (H₀ := [.lst (row.map .int), .lst [.str q0.1, .str q1.1, .str q2.1]]) (by simp [hnm]) rfl (fun i o ho => ?_) rfl rfl rfl ?_ k
  · match i with
    | 0 =>
      cases ho
      refine ⟨rfl, all_ints _ _, ?_⟩
      show H[n]? = some (AO.lst ((row.map AV.int).map _))
      rw [ren_ints]; exact hn
    | 1 => cases ho; exact ⟨rfl, rfl, hm⟩
    | i + 2 => simp at ho
  · refine fn_cells (n := 60) C (fun h hb => (hF h hb).fn (17, 103) (by decide)) (fun h hb => (hF h hb).lim) (cn := cnW) (ps := ps 17) (body := bd 17) (fun m => by rfl) (by decide +kernel) rfl (show cnW.all (fun x => (sc 17).names.lookup x == some .cell) = true by decide +kernel) (show (ps 17).all (fun x => (sc 17).names.lookup x == some .local || cnW.contains x) = true by decide +kernel) rfl ?_
    refine (wkF_K (row.map .int) _ q0.1 q1.1 q2.1 (fun v H => v = .str (pgOf (tldQ row q0 q1 q2)) ∧ H = [.lst (row.map .int), .lst [.str q0.1, .str q1.1, .str q2.1]]) _ (List.mem_range.mpr hc)).mpr ?_
    have hq : ∀ q ∈ mks, q.1.length ≤ 10 := by decide +kernel
    have he : (esc q0.1 ++ q1.1).cps.toList = cat [q0, q1] := by
      rw [Str.cps_append, Array.toList_append, esc_list]
      have := cat_esc [q0] q1 (fun p hp => by simp at hp; subst hp; exact h0) (show 1 ≤ 6 by decide)
      rw [← List.singleton_append, ← this]
      show _ = escL ((spw q0 0).cps.toList ++ []) ++ _
      rw [List.append_nil]; rfl
    have hl : (esc q0.1).length + q1.1.length ≤ 1000000 := by
      have h9 : (esc q0.1).length + q1.1.length = (esc q0.1 ++ q1.1).length := by rw [len_list, len_list, len_list, Str.cps_append, Array.toList_append, List.length_append]
      rw [h9, len_list, he]
      have := cat_len7 [q0, q1] (fun p hp => by simp at hp; rcases hp with rfl | rfl <;> assumption) (show 2 ≤ 7 by decide)
      simp at this ⊢
      omega
    refine ⟨esc_ok (Nat.le_trans (hq q0 h0) (by decide)), hl, ⟨rfl, rfl, rfl, row, q0, q1, q2, hr, h0, h1, h2, rfl, rfl, rfl, rfl, he, pgOf_list _, rfl, rfl⟩, wT_ok (by decide) (wT_ok (by decide) (wT_ok (by decide) ⟨rfl, rfl⟩))⟩
end L1

end
section
open PySem PySem.W PyProof.Rows Py
set_option maxRecDepth 100000
set_option autoImplicit false
set_option linter.unusedVariables false
namespace L1
variable {g : G}

/-- three signs -/
noncomputable def oS3 (xs : List AV) (k : Str → Str → Str → Prop) : Prop := a3 xs (fun a b c => oS a (fun a => oSS b c (k a) False) False) False
theorem oS3_in {xs : List AV} {k : Str → Str → Str → Prop} (h : oS3 xs k) : ∃ a b c, xs = [.str a, .str b, .str c] ∧ k a b c := by
  obtain ⟨a, b, c, rfl, h1⟩ := no (a3_or h)
  obtain ⟨a, rfl, h2⟩ := no (oS_or h1)
  obtain ⟨b, c, ⟨rfl, rfl⟩, h3⟩ := no (oSS_or h2)
  exact ⟨a, b, c, rfl, h3⟩
noncomputable def spL (f : AV) (args : List AV) (H : AH) (K : Kv) : Prop :=
  oBi .sum f (a1 args (fun x => oR x (fun n => oLs H[n]? (fun xs => ∃ ns : List Int, xs = ns.map .int ∧ K (.int ns.sum) H) False) False) False) <|
  oFn 91 f (a1 args (fun x => oR x (fun n => oLs H[n]? (fun xs => oSm (i5 xs) fun row => rowOk row ∧ K (.ref H.length) (H ++ tabT H.length row)) False) False) False) <|
  oFn 103 f (a2 args (fun n m => oR n (fun n => oR m (fun m => oLs H[n]? (fun xs => oLs H[m]? (fun ms => oS3 ms fun m0 m1 m2 => oSm (i5 xs) fun row =>
    ∃ q0 q1 q2, (n ≠ m ∧ rowOk row ∧ q0 ∈ mks ∧ q1 ∈ mks ∧ q2 ∈ mks ∧ m0 = q0.1 ∧ m1 = q1.1 ∧ m2 = q2.1) ∧ K (.str (pgOf (tldQ row q0 q1 q2))) H) False) False) False) False) False) <|
  oFn 117 f (a2 args (fun p m => oS p (fun page => oR m (fun m => oLs H[m]? (fun ms => oS3 ms fun m0 m1 m2 =>
    ∃ a0 a1 a2 a3 a4 a5 a6, RdP [a0, a1, a2, a3, a4, a5, a6] page m0 m1 m2 ∧ newW (.lst [.str a0.1, .str a1.1, .str a2.1, .str a3.1, .str a4.1, .str a5.1, .str a6.1]) H K) False) False) False) False) <|
  stdW f args H K
theorem i5_eq {xs : List AV} : ∀ {row : List Int}, i5 xs = some row → xs = row.map .int := by
  unfold i5
  induction xs with
  | nil => intro row h; cases h; rfl
  | cons x r ih =>
    intro row h
    cases x <;> first | (unfold intsOf at h; cases h; done) | skip
    unfold intsOf at h
    split at h
    · rename_i l hl
      cases h
      rw [List.map_cons, ← ih hl]
    · cases h
theorem sum_call {d : Nat} {n : Nat} {H : AH} {K : Kv} {ns : List Int} (hn : H[n]? = some (.lst (ns.map .int))) (k : K (.int ns.sum) H) : CallOk g d (.bi .sum) [.ref n] H K := by
  refine std_sound ?_
  have : ∀ ns : List Int, intsOf (ns.map .int) = some ns := fun ns => by
    induction ns with
    | nil => rfl
    | cons x r ih => show (match intsOf (r.map .int) with | some l => some (x :: l) | none => none) = _; rw [ih]
  show oLs H[n]? (fun xs => oSm (intsOf xs) fun ns => K (.int ns.sum) H) False
  rw [hn]
  show oSm (intsOf (ns.map .int)) fun ns => K (.int ns.sum) H
  rw [this]
  exact k
theorem spL_sound (hF : ∀ h, g.B h → Facts h) (X7 : TabG g t7) (X8 : TabG g t8) (f : AV) (args : List AV) (H : AH) (K : Kv) (h : spL f args H K) : CallOk g 17 f args H K := by
  replace h := oBi_or h; obtain ⟨rfl, h⟩ | h := h
  · replace h := no (a1_or h); obtain ⟨x, rfl, h⟩ := h
    replace h := no (oR_or h); obtain ⟨n, rfl, h⟩ := h
    replace h := no (oLs_or h); obtain ⟨xs, hn, ns, rfl, k⟩ := h
    exact sum_call hn k
  replace h := oFn_or h; obtain ⟨rfl, h⟩ | h := h
  · replace h := no (a1_or h); obtain ⟨x, rfl, h⟩ := h
    replace h := no (oR_or h); obtain ⟨n, rfl, h⟩ := h
    replace h := no (oLs_or h); obtain ⟨xs, hn, h⟩ := h
    obtain ⟨row, hi, h⟩ := oSm_in h
    rw [i5_eq hi] at hn
    exact mono (by decide) (tab_call (d := 0) hF hn h.1 h.2)
  replace h := oFn_or h; obtain ⟨rfl, h⟩ | h := h
  · replace h := no (a2_or h); obtain ⟨n, m, rfl, h⟩ := h
    replace h := no (oR_or h); obtain ⟨n, rfl, h⟩ := h
    replace h := no (oR_or h); obtain ⟨m, rfl, h⟩ := h
    replace h := no (oLs_or h); obtain ⟨xs, hn, h⟩ := h
    replace h := no (oLs_or h); obtain ⟨ms, hm, h⟩ := h
    obtain ⟨m0, m1, m2, rfl, h⟩ := oS3_in h
    obtain ⟨row, hi, q0, q1, q2, ⟨h1, h2, h3, h4, h5, rfl, rfl, rfl⟩, k⟩ := oSm_in h
    rw [i5_eq hi] at hn
    exact wk_call hF X7 X8 h2 h3 h4 h5 h1 hn hm k
  replace h := oFn_or h; obtain ⟨rfl, h⟩ | h := h
  · replace h := no (a2_or h); obtain ⟨p, m, rfl, h⟩ := h
    replace h := no (oS_or h); obtain ⟨page, rfl, h⟩ := h
    replace h := no (oR_or h); obtain ⟨m, rfl, h⟩ := h
    replace h := no (oLs_or h); obtain ⟨ms, hm, h⟩ := h
    obtain ⟨m0, m1, m2, rfl, h⟩ := oS3_in h
    obtain ⟨a0, a1, a2, a3, a4, a5, a6, hP, k⟩ := h
    exact mono (by decide) (rd_call hF hm hP k)
  · exact std_sound h
end L1

end
section
open PySem PySem.W PyProof.Rows Py
set_option maxRecDepth 100000
set_option autoImplicit false
set_option linter.unusedVariables false
namespace L1
variable {g : G}

noncomputable def sl0 (xs : List AV) (lo hi st : Option Int) : List AV := (sliceRange (sliceBounds lo hi st xs.length).1 (sliceBounds lo hi st xs.length).2.1 (sliceBounds lo hi st xs.length).2.2).filterMap (xs[·]?)
noncomputable abbrev sevens : Str := "&<>\"\r\n\t"
noncomputable def chk (s : Int) (K : Nat → Prop) : Prop := (7 : Int) ≠ 0 ∧ (-(2 ^ 63) ≤ s.fmod 7 ∧ s.fmod 7 < 2 ^ 63) ∧ ∃ ch, ((seqIndex? (s.fmod 7) sevens.length).bind (sevens.cps[·]?)) = some ch ∧ K ch
noncomputable def finX (row : List Int) (as : List Str) : List (Nat × Nat) → Prop → Prop
  | [], X => X
  | p :: r, X => (2 : Int) ≠ 0 ∧ (((tij row p.1 p.2).fmod 2 == 0) != (as.getD p.1 "" == as.getD p.2 "")) = false ∧ finX row as r X
noncomputable def prs21 : List (Nat × Nat) := (List.range 6).flatMap fun i => (List.range' (i + 1) (6 - i)).map fun j => (i, j)
theorem law_rest (xs : SX) (a b c d e : Int) (K : Kv) : aws 100 (pcL [(215, some false), (219, some false)] spL) [("row", .ref 6), ("table", .ref 7)] ((bd 20).drop 3) (lawH xs none [a, b, c, d, e]) (endW fun v H => K v (H.take 1)) =
    ((xs.1.length ≤ 1000000 ∧ (none : Option Int) ≠ some 0) ∧ ∃ ns : List Int, sl0 xs.1 none (some 63) none = ns.map .int ∧ chk (ns.sum + 0) fun c0 => (0 : Nat) ≤ 1000000 ∧ chk (ns.sum + (0 + 1)) fun c1 => (1 : Nat) ≤ 1000000 ∧ chk (ns.sum + (0 + 1 + 1)) fun c2 => (2 : Nat) ≤ 1000000 ∧
      ∃ q0 q1 q2, ((6 : Nat) ≠ 49 ∧ rowOk [a, b, c, d, e] ∧ q0 ∈ mks ∧ q1 ∈ mks ∧ q2 ∈ mks ∧ ⟨#[c0]⟩ = q0.1 ∧ ⟨#[c1]⟩ = q1.1 ∧ ⟨#[c2]⟩ = q2.1) ∧
      ∃ a0 a1 a2 a3 a4 a5 a6, RdP [a0, a1, a2, a3, a4, a5, a6] (pgOf (tldQ [a, b, c, d, e] q0 q1 q2)) ⟨#[c0]⟩ ⟨#[c1]⟩ ⟨#[c2]⟩ ∧ (7 : Nat) ≤ 1000000 ∧ ((7 : Int) != 7) = false ∧
        finX [a, b, c, d, e] [a0.1, a1.1, a2.1, a3.1, a4.1, a5.1, a6.1] prs21 (K (.bool true) [.cst xs.1 xs.2])) := by kernel_rfl
end L1

end
section
open PySem PySem.W PyProof.Rows Py
set_option maxRecDepth 100000
set_option autoImplicit false
set_option linter.unusedVariables false
namespace L1
variable {g : G}

noncomputable def rowX (xs : List AV) (k : Int) (n : Nat) (K : Int → Prop) : Prop :=
  (xs.length ≤ 1000000 ∧ (some 5 : Option Int) ≠ some 0) ∧ ∃ ns : List Int, sl0 xs (some k) (some 63) (some 5) = ns.map .int ∧ (199 : Int) ≠ 0 ∧ n ≤ 1000000 ∧ K ns.sum
noncomputable def rowOf (s0 s1 s2 s3 s4 : Int) : List Int := [(101 + s0).fmod 199 - 99, (96 + s1).fmod 199 - 99, (103 + s2).fmod 199 - 99, (104 + s3).fmod 199 - 99, (102 + s4).fmod 199 - 99]
noncomputable def lawH0 (xs : SX) : AH := [.cst xs.1 xs.2, .cell (some (.ref 0)), .cell none]
noncomputable def lawH7 (xs : SX) (row : List Int) : AH := [.cst xs.1 xs.2, .cell (some (.ref 0)), .cell none, .tup [.int 101, .int 96, .int 103, .int 104, .int 102], .dead, .dead, .lst (row.map .int)]
theorem law_0 (xs : SX) (K : Fl → Lc → AH → Prop) : aw1 100 (pcL [] spL) [] (st0 (bd 20) 0) (lawH0 xs) (fun f loc H => K f loc (H.take 7)) =
    rowX xs.1 0 0 fun s0 => rowX xs.1 1 1 fun s1 => rowX xs.1 2 2 fun s2 => rowX xs.1 3 3 fun s3 => rowX xs.1 4 4 fun s4 => K .next [("row", .ref 6)] (lawH7 xs (rowOf s0 s1 s2 s3 s4)) := by kernel_rfl
theorem law_1 (xs : SX) (a b c d e : Int) (K : Fl → Lc → AH → Prop) : aw1 100 (pcL [] spL) [("row", .ref 6)] (st0 (bd 20) 1) (lawH7 xs [a, b, c, d, e]) K = (rowOk [a, b, c, d, e] ∧ K .next [("row", .ref 6), ("table", .ref 7)] (lawH xs none [a, b, c, d, e])) := by kernel_rfl
theorem law_bd : bd 20 = st0 (bd 20) 0 :: st0 (bd 20) 1 :: st0 (bd 20) 2 :: (bd 20).drop 3 := by kernel_rfl
/-- the third statement -/
structure Qp where
  f : Str
  args : List PySem.Expr
  thn : List Stmt
  p1 : Pos
  p2 : Pos
  p3 : Pos
  p4 : Pos
noncomputable def qpOf : Stmt → Qp
  | .If (.UnaryOp .Not (.Call (.Name f p1) args [] p2) p3) thn [] p4 => ⟨f, args, thn, p1, p2, p3, p4⟩
  | _ => ⟨"", [], [], zp, zp, zp, zp⟩
noncomputable abbrev lQ : Qp := qpOf (st0 (bd 20) 2)
theorem l_Q : st0 (bd 20) 2 = .If (.UnaryOp .Not (.Call (.Name lQ.f lQ.p1) lQ.args [] lQ.p2) lQ.p3) lQ.thn [] lQ.p4 := by kernel_rfl
theorem law_2 (xs : SX) (row : List Int) (P : List AV → AH → Prop) : (nameW (pcL [] spL) [("row", .ref 6), ("table", .ref 7)] lQ.f (lawH xs none row) fun fv H => fv = .fn 98 ∧ awl 60 (pcL [] spL) [("row", .ref 6), ("table", .ref 7)] lQ.args H fun vs H => P vs H) = (AV.fn 98 = .fn 98 ∧ P [.ref 7] (lawH xs none row)) := by kernel_rfl

theorem sl0_map (script : List Int) (lo hi st : Option Int) : ∃ ns : List Int, sl0 (script.map .int) lo hi st = ns.map .int := by
  unfold sl0
  refine ⟨List.filterMap (fun i : Nat => script[i]?) (sliceRange (sliceBounds lo hi st (script.map AV.int).length).1 (sliceBounds lo hi st (script.map AV.int).length).2.1 (sliceBounds lo hi st (script.map AV.int).length).2.2), ?_⟩
  rw [List.map_filterMap]
  refine congrArg (fun f => List.filterMap f _) ?_
  funext x
  rw [List.getElem?_map]
theorem rowX_of {script : List Int} (hs : script.length ≤ 1000000) {k : Int} {n : Nat} (hn : n ≤ 1000000) {K : Int → Prop} (h : ∀ s, K s) : rowX (script.map .int) k n K := by
  obtain ⟨ns, e⟩ := sl0_map script (some k) (some 63) (some 5)
  exact ⟨⟨by rw [List.length_map]; exact hs, by decide⟩, ns, e, by decide, hn, h _⟩
theorem row_ok (s0 s1 s2 s3 s4 : Int) : rowOk (rowOf s0 s1 s2 s3 s4) := by
  have h : ∀ x : Int, (x.fmod 199 - 99).natAbs ≤ 99 := fun x => by
    rw [Int.fmod_eq_emod_of_nonneg _ (by decide)]; omega
  refine ⟨rfl, fun r hr => ?_⟩
  unfold rowOf at hr
  simp only [List.mem_cons, List.not_mem_nil, or_false] at hr
  rcases hr with rfl | rfl | rfl | rfl | rfl <;> exact h _

noncomputable def mkq (k : Nat) : Str × Str := mks.getD k ("", "")
theorem mkq_mem : ∀ k ∈ List.range 7, mkq k ∈ mks := by decide +kernel
noncomputable def chs : List Nat := [38, 60, 62, 34, 13, 10, 9]
theorem seven_get0 : ∀ k ∈ List.range 7, ((seqIndex? (k : Int) sevens.length).bind (sevens.cps[·]?)) = some (chs.getD k 0) ∧ (⟨#[chs.getD k 0]⟩ : Str) = (mkq k).1 := by decide +kernel
theorem seven_get : ∀ k ∈ List.range 7, ∃ ch, ((seqIndex? (k : Int) sevens.length).bind (sevens.cps[·]?)) = some ch ∧ (⟨#[ch]⟩ : Str) = (mkq k).1 := by
  exact fun k hk => ⟨_, (seven_get0 k hk).1, (seven_get0 k hk).2⟩
theorem chk_of {s : Int} {K : Nat → Prop} (h : ∀ ch, (⟨#[ch]⟩ : Str) = (mkq (s.fmod 7).toNat).1 → K ch) : chk s K := by
  have e : s.fmod 7 = s % 7 := Int.fmod_eq_emod_of_nonneg _ (by decide)
  have h0 : 0 ≤ s.fmod 7 := by rw [e]; omega
  have h1 : s.fmod 7 < 7 := by rw [e]; omega
  obtain ⟨k, hk⟩ := Int.eq_ofNat_of_zero_le h0
  obtain ⟨ch, c1, c2⟩ := seven_get k (List.mem_range.mpr (by omega))
  refine ⟨by decide, ⟨by omega, by omega⟩, ch, by rw [hk]; exact c1, h ch ?_⟩
  rw [hk]; exact c2
theorem mkq_ne : ∀ i ∈ List.range 7, ∀ j ∈ List.range 7, i ≠ j → (mkq i).1 ≠ (mkq j).1 := by decide +kernel
end L1

end
section
open PySem PySem.W PyProof.Rows Py
set_option maxRecDepth 100000
set_option autoImplicit false
set_option linter.unusedVariables false
namespace L1
variable {g : G}

theorem finX_of {row : List Int} {as : List Str} {X : Prop} (x : X) : ∀ {l : List (Nat × Nat)}, (∀ p ∈ l, (((tij row p.1 p.2).fmod 2 == 0) != (as.getD p.1 "" == as.getD p.2 "")) = false) → finX row as l X
  | [], _ => x
  | p :: r, h => ⟨by decide, h p List.mem_cons_self, finX_of x fun q hq => h q (List.mem_cons_of_mem _ hq)⟩
theorem prs21_lt : ∀ p ∈ prs21, p.1 < 6 ∧ p.2 < 7 ∧ p.1 < p.2 := by decide +kernel
theorem seven_l {α : Type} {l : List α} (h : l.length = 7) : ∃ a0 a1 a2 a3 a4 a5 a6, l = [a0, a1, a2, a3, a4, a5, a6] := by
  match l, h with
  | [a0, a1, a2, a3, a4, a5, a6], _ => exact ⟨a0, a1, a2, a3, a4, a5, a6, rfl⟩
noncomputable def tldS (row : List Int) (q0 q1 q2 : Str × Str) : List Str := (tldQ row q0 q1 q2).map fun p => p.1
theorem fin_ok {row : List Int} (h5 : row.length = 5) {q0 q1 q2 : Str × Str} (h01 : q0.1 ≠ q1.1) (h02 : q0.1 ≠ q2.1) (h12 : q1.1 ≠ q2.1) : ∀ p ∈ prs21, (((tij row p.1 p.2).fmod 2 == 0) != ((tldS row q0 q1 q2).getD p.1 "" == (tldS row q0 q1 q2).getD p.2 "")) = false := by
  intro p hp
  obtain ⟨h1, h2, h3⟩ := prs21_lt p hp
  have hb5 : (row.map od).length = 5 := by rw [List.length_map]; exact h5
  have hl := tld_len hb5
  have hlt := tld_lt hb5
  have hok := tld_ok hb5 p.1 (List.mem_range.mpr h1) p.2 (List.mem_range.mpr h2) h3
  have hget : ∀ i, i < 7 → (tldS row q0 q1 q2).getD i "" = (qAt q0 q1 q2 ((tld (row.map od)).getD i 9)).1 := fun i hi => by
    unfold tldS tldQ
    rw [List.getD_eq_getElem?_getD, List.getD_eq_getElem?_getD, List.getElem?_map, List.getElem?_map, List.getElem?_eq_getElem (by omega)]
    rfl
  have hm : ∀ i, i < 7 → (tld (row.map od)).getD i 9 < 3 := fun i hi => by
    rw [List.getD_eq_getElem?_getD, List.getElem?_eq_getElem (by omega)]
    exact hlt _ (List.getElem_mem _)
  have heq : ∀ i j, i < 3 → j < 3 → ((qAt q0 q1 q2 i).1 == (qAt q0 q1 q2 j).1) = (i == j) := fun i j hi hj => by
    have hself : ∀ s : Str, (s == s) = true := fun s => beq_self_eq_true s
    have hne : ∀ s t : Str, s ≠ t → (s == t) = false := fun s t h => beq_eq_false_iff_ne.mpr h
    rcases (by omega : i = 0 ∨ i = 1 ∨ i = 2) with rfl | rfl | rfl <;> rcases (by omega : j = 0 ∨ j = 1 ∨ j = 2) with rfl | rfl | rfl <;> first | exact hself _ | exact hne _ _ (by assumption) | exact hne _ _ (Ne.symm (by assumption))
  rw [hget _ (by omega), hget _ h2, heq _ _ (hm _ (by omega)) (hm _ h2), ← hok, ← tij_od, ← od_fmod]
  cases h : ((tij row p.1 p.2).fmod 2 == 0) <;> simp [bne, h]

theorem rest_ok {script : List Int} {pp : Obj → Prop} (hs : script.length ≤ 1000000) {a b c d e : Int} (hr : rowOk [a, b, c, d, e]) : aws 100 (pcL [(215, some false), (219, some false)] spL) [("row", .ref 6), ("table", .ref 7)] ((bd 20).drop 3) (lawH (script.map AV.int, pp) none [a, b, c, d, e]) (endW fun v H => v = .bool true ∧ H.take 1 = [.cst (script.map AV.int) pp]) := by
  refine (law_rest (script.map AV.int, pp) a b c d e fun v H => v = .bool true ∧ H = [.cst (script.map AV.int) pp]).mpr ?_
  obtain ⟨ns, hns⟩ := sl0_map script none (some 63) none
  refine ⟨⟨by rw [List.length_map]; exact hs, by decide⟩, ns, hns, chk_of fun c0 e0 => ⟨by decide, chk_of fun c1 e1 => ⟨by decide, chk_of fun c2 e2 => ⟨by decide, ?_⟩⟩⟩⟩
  have hm : ∀ s : Int, (s.fmod 7).toNat < 7 := fun s => by
    rw [Int.fmod_eq_emod_of_nonneg _ (by decide)]; omega
  generalize hk0 : ((ns.sum + 0).fmod 7).toNat = k0 at e0
  generalize hk1 : ((ns.sum + (0 + 1)).fmod 7).toNat = k1 at e1
  generalize hk2 : ((ns.sum + (0 + 1 + 1)).fmod 7).toNat = k2 at e2
  have l0 : k0 < 7 := hk0 ▸ hm _
  have l1 : k1 < 7 := hk1 ▸ hm _
  have l2 : k2 < 7 := hk2 ▸ hm _
  rw [Int.fmod_eq_emod_of_nonneg _ (by decide)] at hk0 hk1 hk2
  have n01 := mkq_ne k0 (List.mem_range.mpr l0) k1 (List.mem_range.mpr l1) (by omega)
  have n02 := mkq_ne k0 (List.mem_range.mpr l0) k2 (List.mem_range.mpr l2) (by omega)
  have n12 := mkq_ne k1 (List.mem_range.mpr l1) k2 (List.mem_range.mpr l2) (by omega)
  have m0 := mkq_mem k0 (List.mem_range.mpr l0)
  have m1 := mkq_mem k1 (List.mem_range.mpr l1)
  have m2 := mkq_mem k2 (List.mem_range.mpr l2)
  have hb5 : ([a, b, c, d, e].map od).length = 5 := rfl
  have hq7 : (tldQ [a, b, c, d, e] (mkq k0) (mkq k1) (mkq k2)).length = 7 := by unfold tldQ; rw [List.length_map, tld_len hb5]
  have hmem : ∀ p ∈ tldQ [a, b, c, d, e] (mkq k0) (mkq k1) (mkq k2), p = mkq k0 ∨ p = mkq k1 ∨ p = mkq k2 := fun p hp => by
    obtain ⟨i, _, rfl⟩ := List.mem_map.mp hp
    match i with
    | 0 => exact .inl rfl
    | 1 => exact .inr (.inl rfl)
    | _ + 2 => exact .inr (.inr rfl)
  have hfin := fin_ok (row := [a, b, c, d, e]) rfl n01 n02 n12
  have hpl : (pgOf (tldQ [a, b, c, d, e] (mkq k0) (mkq k1) (mkq k2))).length ≤ 1000000 := by
    rw [len_list, pgOf_list]
    have := cat_len7 (tldQ [a, b, c, d, e] (mkq k0) (mkq k1) (mkq k2)) (fun p hp => by rcases hmem p hp with rfl | rfl | rfl <;> assumption) (by omega)
    omega
  have hpgl := pgOf_list (tldQ [a, b, c, d, e] (mkq k0) (mkq k1) (mkq k2))
  refine ⟨mkq k0, mkq k1, mkq k2, ⟨by decide, hr, m0, m1, m2, e0, e1, e2⟩, ?_⟩
  generalize pgOf (tldQ [a, b, c, d, e] (mkq k0) (mkq k1) (mkq k2)) = pg at hpl hpgl ⊢
  unfold tldS at hfin
  generalize tldQ [a, b, c, d, e] (mkq k0) (mkq k1) (mkq k2) = l at hq7 hmem hfin hpgl
  obtain ⟨a0, a1, a2, a3, a4, a5, a6, rfl⟩ := seven_l hq7
  exact ⟨a0, a1, a2, a3, a4, a5, a6, ⟨mkq k0, mkq k1, mkq k2, m0, m1, m2, e0, e1, e2, hmem, rfl, hpgl, hpl⟩, by decide, rfl, finX_of ⟨rfl, rfl⟩ hfin⟩
end L1

end
section
open PySem PySem.W PyProof.Rows Py
set_option maxRecDepth 100000
set_option autoImplicit false
set_option linter.unusedVariables false
namespace L1
variable {g : G}

theorem lawH7_below (xs : SX) (a b c d e : Int) (h : xs.1.all (below 7) = true) : (lawH7 xs [a, b, c, d, e]).all (belowO 7) = true := by
  have h2 : (lawH7 xs [a, b, c, d, e]).all (belowO 7) = (xs.1.all (below 7) && true) := by kernel_rfl
  rw [h2, h]; rfl
theorem cellL : ∀ x i, (cellIx 1 cnL).lookup x = some i → i < 7 ∧ i < 46 := by
  intro x i e
  rw [cellIx_lookup (by decide +kernel)] at e
  cases ef : cnL.findIdx? (· == x) with
  | none => rw [ef] at e; cases e
  | some j =>
    rw [ef] at e
    have := (List.findIdx?_eq_some_iff_getElem.mp ef).1
    have h2 : cnL.length = 2 := rfl
    simp at e
    omega

/-- law's body gives True -/
theorem law_body (hF : ∀ h, g.B h → Facts h) (hz : ∀ h, g.B h → ZdF h) (hfs : FrBs g) (X7 : TabG g t7) (X8 : TabG g t8) {script : List Int} {pp : Obj → Prop} (hs : script.length ≤ 1000000) :
    LxOk g [] 17 (pcL [] spL) [] (bd 20) (lawH0 (script.map AV.int, pp)) (endW fun v H => v = .bool true ∧ H.take 1 = [.cst (script.map AV.int) pp]) := by
  have C : ∀ s, COk g 17 (pcL s spL) := fun s => mkC hF (spL_sound hF X7 X8) rfl rfl (show namesOk (sc 20) = true by decide +kernel) (fun _ _ _ _ _ _ e => nomatch e)
  rw [law_bd]
  refine lx_cut (T := 7) (show 3 ≤ 7 by decide) (lx1_mono (lx1_of (out := []) (C []) (n := 100) (K := fun f loc H => match f with
    | .next => ∃ a b c d e, rowOk [a, b, c, d, e] ∧ loc = [(("row" : Str), AV.ref 6)] ∧ H.take 7 = lawH7 (script.map AV.int, pp) [a, b, c, d, e]
    | _ => False) ?_) fun f loc H k => ?_)
  · refine (law_0 (script.map AV.int, pp) (fun f loc H => match f with
      | .next => ∃ a b c d e, rowOk [a, b, c, d, e] ∧ loc = [(("row" : Str), AV.ref 6)] ∧ H = lawH7 (script.map AV.int, pp) [a, b, c, d, e]
      | _ => False)).mpr ?_
    exact rowX_of hs (by decide) fun s0 => rowX_of hs (by decide) fun s1 => rowX_of hs (by decide) fun s2 => rowX_of hs (by decide) fun s3 => rowX_of hs (by decide) fun s4 => ⟨_, _, _, _, _, row_ok s0 s1 s2 s3 s4, rfl, rfl⟩
  · cases f with
    | next =>
      obtain ⟨a, b, c, d, e, hr, rfl, hH⟩ := k
      refine ⟨[("row", .ref 6)], 7, Nat.le_refl _, by rw [hH]; exact lawH7_below _ _ _ _ _ _ (all_ints _ _), fun x v e => ⟨e, ?_⟩, fun x i e => (cellL x i e).1, ?_⟩
      · rw [List.lookup_cons] at e
        split at e
        · cases e; rfl
        · cases e
      · rw [hH]
        refine lx_cons (lx1_of (C []) (n := 100) ?_)
        rw [law_1]
        refine ⟨hr, ?_⟩
        dsimp only
        refine lx_cut (T := 46) (by rw [lawH_len]; exact Nat.le_refl _) ?_
        rw [l_Q]
        refine lx_if_call (c := pcD) (d := 16) hfs (C []) (n := 60) (a := 98) (body := bd 16) (ps := ps 16) (fun h hb => (hF h hb).fn (16, 98) (by decide)) (fun h hb => (hF h hb).lim) rfl (by decide +kernel) (by decide +kernel) (by decide +kernel) ?_
        refine (law_2 (script.map AV.int, pp) [a, b, c, d, e] _).mpr ⟨rfl, rfl, fun N m env hk hf hN => ?_⟩
        refine dv_body hF hz X7 X8 hk hf hN hr fun H hH => ⟨rfl, ?_⟩
        refine ⟨[("row", .ref 6), ("table", .ref 7)], 46, Nat.le_refl _, by rw [hH]; exact dv_belowL _ _ _ _ _ _ (all_ints _ _), fun x v e => ⟨e, ?_⟩, fun x i e => (cellL x i e).2, ?_⟩
        · rw [List.lookup_cons] at e
          split at e
          · cases e; rfl
          · rw [List.lookup_cons] at e
            split at e
            · cases e; rfl
            · cases e
        · rw [hH]
          exact lx_cg (g := g) (out := []) (c := pcL [(215, some false), (219, some false)] spL) (c' := pcL [] spL) rfl rfl rfl rfl (lx_of (C _) (n := 100) (rest_ok hs hr))
    | brk => exact k.elim
    | cont => exact k.elim
    | ret v => exact k.elim
end L1

end
section
open PySem PySem.W PyProof.Rows Py
set_option maxRecDepth 100000
set_option autoImplicit false
set_option linter.unusedVariables false
namespace L1

theorem ns_none_of {K : Frag} {h : Heap} {a : Addr} {mc : Str → Option Value} {n : Str} (X : K.In h) (G : h.Ns a mc) (e : nsIn K a n = some none) : mc n = none := by
  obtain ⟨o, es, ep, ho, hd, _, hf⟩ := G
  unfold nsIn at e
  split at e
  · rename_i c d es' n' sl q
    have := X _ _ q
    rw [ho] at this
    cases this
    cases hd
    split at e
    · cases e
    · rename_i he
      rw [← hf]
      unfold nsFind findBy
      rw [← Array.find?_toList, he]
      rfl
  · cases e
noncomputable def pmOf (o : Option Obj) : Value := match o with
  | some ⟨_, _, .func fd, _⟩ => fd.pyModule
  | _ => .none
noncomputable def docO (o : Option Obj) : Value := match o with
  | some ⟨_, _, .func fd, _⟩ => fd.doc
  | _ => .none
noncomputable def vsOf (o : Option Obj) : Array Value := match o with
  | some ⟨_, _, .fields vs, _⟩ => vs
  | _ => #[]
noncomputable def tkO (o : Option Value) : Tok := match o with
  | some (.str _ t) => t
  | _ => 0
noncomputable def fdG (i a : Nat) (pm doc : Value) : FuncData := Calls.docDef (nm i) (pa i) (bd i) (sc i) pm (.ref (a - 1)) doc
/-- built-in names that the text calls -/
noncomputable def glsB : List (Str × Value) := [("max", .builtin "max"), ("min", .builtin "min"), ("int", .type "int"), ("len", .builtin "len"), ("range", .type "range"), ("sum", .builtin "sum"), ("sorted", .builtin "sorted"), ("divmod", .builtin "divmod"),
  ("tuple", .type "tuple"), ("enumerate", .type "enumerate"), ("reversed", .type "reversed"), ("ZeroDivisionError", .type "ZeroDivisionError")]
noncomputable def glsF : List (Str × Value) := [("_DIV_LIMIT", .int 4000 223), ("rgb_to_hsv", .ref 21), ("hsv_to_rgb", .ref 28), ("_div2n1n", .ref 35), ("_int2digits", .ref 49), ("_digits2int", .ref 56), ("_divmod_pos", .ref 63), ("int_divmod", .ref 70),
  ("_escape_attrib", .ref 84), ("_law_table", .ref 91), ("_law_divided", .ref 98), ("_law_walk", .ref 103), ("_law_spelled", .ref 110), ("_law_read", .ref 117), ("law", .ref 122)]
/-- what the top's written part must say -/
structure KOk (K : Frag) : Prop where
  b : glsB.map (fun p => nsIn K mainGlobals p.1) = glsB.map fun _ => some none
  f : glsF.map (fun p => nsIn K mainGlobals p.1) = glsF.map fun p => some (some p.2)
  st : nsIn K cStatics sharingNotToldKey = some none
  fn : fnp.map (fun p => K.lookup p.2) = fnp.map fun p => some { cls := .type "function", data := .func (fdG p.1 p.2 (pmOf (K.lookup p.2)) (docO (K.lookup p.2))) }
  cd : fnp.map (fun p => K.lookup (p.2 - 1)) = fnp.map fun p => some { cls := .type "code", data := .fields (vsOf (K.lookup (p.2 - 1))) }
  cq : fnp.map (fun p => (vsOf (K.lookup (p.2 - 1)))[1]?) = fnp.map fun p => some (.str (nm p.1) (tkO ((vsOf (K.lookup (p.2 - 1)))[1]?)))
  h7 : codeHdIn K 48 44 = true
  h8 : codeHdIn K 55 51 = true
  t7 : K.lookup 44 = some (tabObj #[])
  t8 : K.lookup 51 = some (tabObj #[])
theorem boots : glsB.map (fun p => bootBuiltins p.1) = glsB.map fun p => some p.2 := by kernel_rfl
theorem map_at {α β : Type} {l : List α} {f g : α → β} (h : l.map f = l.map g) : ∀ x ∈ l, f x = g x := List.map_inj_left.mp h

section
variable {V : Program} {lo : List Str} {mg mb : Str → Option Value} {mean : ExcName → Option Value} {h₁ : Heap} {K : Frag}
theorem b_ok (OK : KOk K) (KX : K.In h₁) (T : Top V lo mean mg mb h₁) : ∀ p ∈ glsB, mg p.1 = none ∧ mb p.1 = some p.2 := fun p hp => by
  have hn : p.1 ≠ ("__name__" : Str) := by
    have : ∀ p ∈ glsB.map (·.1), p ≠ ("__name__" : Str) := by decide +kernel
    exact this _ (List.mem_map_of_mem hp)
  exact ⟨mg_none_of KX T.g (map_at OK.b p hp), (T.builtins p.1 hn).trans (map_at boots p hp)⟩
theorem f_ok (OK : KOk K) (KX : K.In h₁) (T : Top V lo mean mg mb h₁) : ∀ p ∈ glsF, mg p.1 = some p.2 := fun p hp => mg_of KX T.g (map_at OK.f p hp)
noncomputable def glV : AV → Value
  | .bi id => .builtin id.name
  | .ty n => .type n.name
  | .fn a => .ref a
  | .int i => .int i 223
  | _ => .none
noncomputable def glK : AV → Bool
  | .bi _ => true
  | .ty _ => true
  | .fn _ => true
  | .int _ => true
  | _ => false
theorem glK_ok {v : AV} (h : glK v = true) (ρ : List Addr) : VR ρ v (glV v) := by cases v <;> first | rfl | exact ⟨_, rfl⟩ | exact nomatch h
theorem gls_map : gls.map (fun p => (p.1, glV p.2)) = glsB.take 11 ++ glsF.take 14 := by rfl
theorem gls_cov : ∀ p ∈ gls, (p.1, glV p.2) ∈ glsB ++ glsF ∧ ∀ ρ, VR ρ p.2 (glV p.2) := by
  intro p hp
  have h1 := List.mem_map_of_mem (f := fun p : Str × AV => (p.1, glV p.2)) hp
  rw [gls_map] at h1
  refine ⟨List.mem_append.mpr ((List.mem_append.mp h1).imp List.mem_of_mem_take List.mem_of_mem_take), glK_ok (List.all_eq_true.mp (show gls.all (fun p => glK p.2) = true by rfl) p hp)⟩
theorem gls_ok (OK : KOk K) (KX : K.In h₁) (T : Top V lo mean mg mb h₁) : ∀ x v, gls.lookup x = some v → ∃ cv, VR [] v cv ∧ (mg x = some cv ∨ (mg x = none ∧ mb x = some cv)) := fun x v h => by
  obtain ⟨h1, h2⟩ := gls_cov _ (lookup_mem h)
  refine ⟨glV v, h2 [], ?_⟩
  rcases List.mem_append.mp h1 with q | q
  · exact .inr (b_ok OK KX T _ q)
  · exact .inl (f_ok OK KX T _ q)
theorem fd_fn (pm doc : Value) : ∀ p ∈ fnp, IsFn (fdG p.1 p.2 pm doc) (bd p.1) (sc p.1) (ps p.1) (nm p.1 ++ (".<locals>." : Str)) := by
  have bind1 : ∀ fd : FuncData, ∀ x : Str, (∀ a, bindArgs fd ⟨[a], []⟩ = pure [(x, a)]) → ∀ vals : List Value, vals.length = 1 → bindArgs fd ⟨vals, []⟩ = pure ([x].zip vals) := fun fd x h vals hv => by
    match vals, hv with
    | [a], _ => exact h a
  have bind2 : ∀ fd : FuncData, ∀ x y : Str, (∀ a b, bindArgs fd ⟨[a, b], []⟩ = pure [(x, a), (y, b)]) → ∀ vals : List Value, vals.length = 2 → bindArgs fd ⟨vals, []⟩ = pure ([x, y].zip vals) := fun fd x y h vals hv => by
    match vals, hv with
    | [a, b], _ => exact h a b
  have bind3 : ∀ fd : FuncData, ∀ x y z : Str, (∀ a b c, bindArgs fd ⟨[a, b, c], []⟩ = pure [(x, a), (y, b), (z, c)]) → ∀ vals : List Value, vals.length = 3 → bindArgs fd ⟨vals, []⟩ = pure ([x, y, z].zip vals) := fun fd x y z h vals hv => by
    match vals, hv with
    | [a, b, c], _ => exact h a b c
  intro p hp
  simp only [fnp, List.mem_cons, List.not_mem_nil, or_false] at hp
  rcases hp with rfl | rfl | rfl | rfl | rfl | rfl | rfl | rfl | rfl | rfl | rfl | rfl | rfl | rfl <;>
    refine ⟨rfl, rfl, rfl, rfl, by decide +kernel, by decide +kernel, by decide +kernel, by decide +kernel, rfl, ?_⟩
  · exact bind3 _ _ _ _ (fun a b c => by kernel_rfl)
  · exact bind3 _ _ _ _ (fun a b c => by kernel_rfl)
  · exact bind3 _ _ _ _ (fun a b c => by kernel_rfl)
  · exact bind2 _ _ _ (fun a b => by kernel_rfl)
  · exact bind2 _ _ _ (fun a b => by kernel_rfl)
  · exact bind2 _ _ _ (fun a b => by kernel_rfl)
  · exact bind2 _ _ _ (fun a b => by kernel_rfl)
  · exact bind1 _ _ (fun a => by kernel_rfl)
  · exact bind1 _ _ (fun a => by kernel_rfl)
  · exact bind1 _ _ (fun a => by kernel_rfl)
  · exact bind2 _ _ _ (fun a b => by kernel_rfl)
  · exact bind2 _ _ _ (fun a b => by kernel_rfl)
  · exact bind2 _ _ _ (fun a b => by kernel_rfl)
  · exact bind1 _ _ (fun a => by kernel_rfl)
theorem fn_h1 (OK : KOk K) (KX : K.In h₁) : ∀ p ∈ fnp, FnAt h₁ p.2 (bd p.1) (sc p.1) (ps p.1) (nm p.1 ++ (".<locals>." : Str)) (.ref (p.2 - 1)) := fun p hp =>
  ⟨_, _, KX _ _ (map_at OK.fn p hp), rfl, fd_fn _ _ p hp, rfl, rfl, p.2 - 1, _, _, _, rfl, KX _ _ (map_at OK.cd p hp), rfl, map_at OK.cq p hp⟩
end
end L1

end
section
open PySem PySem.W PyProof.Rows Py
set_option maxRecDepth 100000
set_option autoImplicit false
set_option linter.unusedVariables false
namespace L1
section
variable {V : Program} {lo : List Str} {mg mb : Str → Option Value} {mean : ExcName → Option Value} {h₁ : Heap} {K : Frag}

/-- all but the code tables stands -/
noncomputable def Kept (h₁ h : Heap) : Prop := ∀ b o, h₁.get? b = some o → o ≠ tabObj #[] → (∀ vs n, o.data ≠ .seq vs n) → h.get? b = some o
theorem Kept.ns {h : Heap} (k : Kept h₁ h) {a : Addr} {m : Str → Option Value} (n : h₁.Ns a m) : h.Ns a m := by
  obtain ⟨o, es, ep, e, hd, r⟩ := n
  exact ⟨o, es, ep, k _ _ e (fun q => by rw [q] at hd; cases hd) (fun vs n q => by rw [q] at hd; cases hd), hd, r⟩
theorem Kept.fn {h : Heap} (k : Kept h₁ h) {a : Addr} {bd : List Stmt} {sc : Scope} {ps : List Str} {q : Str} {cd : Value} (x : FnAt h₁ a bd sc ps q cd) : FnAt h a bd sc ps q cd := by
  obtain ⟨o, fd, e1, e2, e3, e4, e5, c, oc, vs, t, e6, e7, e8, e9⟩ := x
  refine ⟨o, fd, k _ _ e1 (fun q => by rw [q] at e2; cases e2) (fun vs n q => by rw [q] at e2; cases e2), e2, e3, e4, e5, c, oc, vs, t, e6, k _ _ e7 (fun q => ?_) (fun vs n q => by rw [q] at e8; cases e8), e8, e9⟩
  rw [q] at e8
  cases e8
  simp at e9
theorem facts_of (OK : KOk K) (KX : K.In h₁) (T : Top V lo mean mg mb h₁) {h : Heap} (k : Kept h₁ h) : Facts h where
  ns := ⟨mg, mb, k.ns T.g, k.ns T.b, gls_ok OK KX T⟩
  fn := fun p hp => k.fn (fn_h1 OK KX p hp)
  lim := by obtain ⟨mc, n, e⟩ := T.nolimit; exact ⟨mc, k.ns n, e⟩
  bo := by
    obtain ⟨bm, o, e1, e2, e3, e4, e5, e6⟩ := T.bmain
    exact ⟨mg, bm, o, k.ns T.g, e1, e2, k _ _ e3 (fun q => by rw [q] at e4; cases e4) (fun vs n q => by rw [q] at e6; cases e6), e4, e5, e6⟩
theorem zd_of (OK : KOk K) (KX : K.In h₁) (T : Top V lo mean mg mb h₁) {h : Heap} (k : Kept h₁ h) : ZdF h := by
  obtain ⟨e1, e2⟩ := b_ok OK KX T ("ZeroDivisionError", .type "ZeroDivisionError") (by simp [glsB])
  exact ⟨mg, mb, k.ns T.g, k.ns T.b, e1, e2⟩
noncomputable abbrev tbs : List Tab := [L1.t7, L1.t8]
theorem wf (OK : KOk K) (KX : K.In h₁) (T : Top V lo mean mg mb h₁) : TabsWf h₁ 123 tbs := by
  have c7 := codeHd_of_K KX OK.h7
  have c8 := codeHd_of_K KX OK.h8
  have p7 := KX _ _ OK.t7
  have p8 := KX _ _ OK.t8
  have al7 : ∃ o, h₁.get? 48 = some o := by obtain ⟨o, _, _, _, _, _, _, _, _, e, _⟩ := c7; exact ⟨o, e⟩
  have al8 : ∃ o, h₁.get? 55 = some o := by obtain ⟨o, _, _, _, _, _, _, _, _, e, _⟩ := c8; exact ⟨o, e⟩
  refine ⟨fun t ht => ?_, fun t ht => ?_, ?_, ⟨by decide, fun t ht => ?_⟩, fun t ht u hu e => ?_, fun t ht u hu => ?_⟩
  · simp only [tbs, List.mem_cons, List.not_mem_nil, or_false] at ht
    rcases ht with rfl | rfl <;> decide
  · simp only [tbs, List.mem_cons, List.not_mem_nil, or_false] at ht
    rcases ht with rfl | rfl
    · exact ⟨⟨_, p7⟩, al7⟩
    · exact ⟨⟨_, p8⟩, al8⟩
  · obtain ⟨mc, n, _⟩ := T.nolimit
    exact ⟨mc, n, ns_none_of KX n OK.st⟩
  · simp only [tbs, List.mem_cons, List.not_mem_nil, or_false] at ht
    rcases ht with rfl | rfl <;> decide
  · simp only [tbs, List.mem_cons, List.not_mem_nil, or_false] at ht hu
    rcases ht with rfl | rfl <;> rcases hu with rfl | rfl <;> first | rfl | (exact absurd e (by decide))
  · simp only [tbs, List.mem_cons, List.not_mem_nil, or_false] at ht hu
    rcases ht with rfl | rfl <;> rcases hu with rfl | rfl <;> decide
theorem triples_nil : TriplesOk ([] : List Value) := by first | trivial | exact .nil | (unfold TriplesOk; trivial) | simp [TriplesOk]
theorem base1 (OK : KOk K) (KX : K.In h₁) : BOf h₁ 123 tbs h₁ := by
  refine ⟨fun b o _ _ e => e, fun t ht => .inl ?_⟩
  simp only [tbs, List.mem_cons, List.not_mem_nil, or_false] at ht
  rcases ht with rfl | rfl
  · exact ⟨(codeHd_of_K KX OK.h7).code (ps := #[]) (KX _ _ OK.t7) triples_nil, (codeHd_of_K KX OK.h7).tab (ps := #[]) (KX _ _ OK.t7)⟩
  · exact ⟨(codeHd_of_K KX OK.h8).code (ps := #[]) (KX _ _ OK.t8) triples_nil, (codeHd_of_K KX OK.h8).tab (ps := #[]) (KX _ _ OK.t8)⟩
theorem not_tab (OK : KOk K) (KX : K.In h₁) {a : Addr} {o : Obj} (e : h₁.get? a = some o) (ho : o ≠ tabObj #[]) : ∀ t ∈ tbs, a ≠ t.P := fun t ht q => by
  simp only [tbs, List.mem_cons, List.not_mem_nil, or_false] at ht
  rcases ht with rfl | rfl
  · rw [q, show L1.t7.P = 44 from rfl, KX _ _ OK.t7] at e; cases e; exact ho rfl
  · rw [q, show L1.t8.P = 51 from rfl, KX _ _ OK.t8] at e; cases e; exact ho rfl
theorem kept_of (OK : KOk K) (KX : K.In h₁) (hsz : h₁.objs.size = 124) {xs : Array Value} (hs : h₁.get? 123 = some { cls := .type "list", data := .seq xs }) {h : Heap} (b : BOf h₁ 123 tbs h) : Kept h₁ h := fun a o e ho hd => by
  refine b.1 a o ?_ (not_tab OK KX e ho) e
  have h1 := Heap.lt_size e
  have h2 : a ≠ 123 := by
    rintro rfl
    rw [hs] at e; cases e
    exact hd _ _ rfl
  rw [hsz] at h1
  exact Nat.lt_of_le_of_ne (Nat.le_of_lt_succ h1) h2
/-- the text's base -/
noncomputable def gOf (w : World) (OK : KOk K) (KX : K.In h₁) (T : Top V lo mean mg mb h₁) : G := mkG P w h₁ 123 tbs (wf OK KX T)
theorem fr_bs (w : World) (OK : KOk K) (KX : K.In h₁) (T : Top V lo mean mg mb h₁) : FrBs (gOf w OK KX T) := by
  intro h h' N m b hN b' hm q
  rcases q with q | ⟨t, ht, e⟩
  · exact hN (.inl q)
  · rcases b'.2 t ht with ⟨_, _, e2⟩ | ⟨c', _, ⟨_, e2⟩, ⟨c'', o, vs, tq, e3, e4, e5, _⟩, _⟩
    · rw [e] at e2
      injection e2 with e2; injection e2 with _ _ e2; injection e2 with e2
      exact full_ne e2
    · rw [e] at e2
      injection e2 with e2; injection e2 with _ _ e2; injection e2 with e2
      have := full_inj e2
      subst this
      cases e3
      obtain ⟨oN, es, ep, h1, h2, _⟩ := hm
      rw [e4] at h1; cases h1
      rw [e5] at h2; cases h2
theorem tab_code {t : Tab} {h : Heap} {ps : Array Value} (x : h.TableAt t.c t.P ps) : h.get? t.P = some (tabObj ps) := x.2
/-- old things stand -/
theorem oldK_of (OK : KOk K) (KX : K.In h₁) (hsz : h₁.objs.size = 124) {xs : Array Value} (hs : h₁.get? 123 = some { cls := .type "list", data := .seq xs }) {h : Heap} (b : BOf h₁ 123 tbs h) (hs' : h.get? 123 = some { cls := .type "list", data := .seq xs }) : OldK h₁ h := by
  have b1 := base1 OK KX
  have tabc : ∀ t ∈ tbs, h₁.TableAt t.c t.P #[] := fun t ht => by
    simp only [tbs, List.mem_cons, List.not_mem_nil, or_false] at ht
    rcases ht with rfl | rfl
    · exact (codeHd_of_K KX OK.h7).tab (ps := #[]) (KX _ _ OK.t7)
    · exact (codeHd_of_K KX OK.h8).tab (ps := #[]) (KX _ _ OK.t8)
  have key : ∀ a o, h₁.get? a = some o → asItWas h₁ h a o ∧ ∃ o', h.get? a = some o' := fun a o e => by
    by_cases h123 : a = 123
    · subst h123
      rw [hs] at e; cases e
      exact ⟨.inl hs', _, hs'⟩
    · have hlt : a < 123 := by
        have h1 := Heap.lt_size e
        rw [hsz] at h1
        exact Nat.lt_of_le_of_ne (Nat.le_of_lt_succ h1) h123
      by_cases ht : ∃ t ∈ tbs, a = t.P
      · obtain ⟨t, ht, rfl⟩ := ht
        have tc := tabc t ht
        have e' := tc.2
        rw [e] at e'; cases e'
        rcases b.2 t ht with ⟨_, x⟩ | ⟨c', _, x, _⟩
        · have hps : t.ps = #[] := by
            simp only [tbs, List.mem_cons, List.not_mem_nil, or_false] at ht
            rcases ht with rfl | rfl <;> rfl
          rw [hps] at x
          exact ⟨.inl x.2, _, x.2⟩
        · have hps : t.ps = #[] := by
            simp only [tbs, List.mem_cons, List.not_mem_nil, or_false] at ht
            rcases ht with rfl | rfl <;> rfl
          refine ⟨.inr (.inl ⟨tc.isCodeTable, rfl, #[], t.full c', rfl, ?_⟩), _, x.2⟩
          rw [x.2, show (#[] : Array Value) ++ t.full c' = t.full c' by simp]
      · have := b.1 a o hlt (fun t h q => ht ⟨t, h, q⟩) e
        exact ⟨.inl this, o, this⟩
  exact ⟨fun a o e => (key a o e).1, fun a o e => (key a o e).2⟩
end
end L1

end
section
open PySem PySem.W PyProof.Rows Py
set_option maxRecDepth 100000
set_option autoImplicit false
set_option linter.unusedVariables false
namespace L1
section
variable {V : Program} {lo : List Str} {mg mb : Str → Option Value} {mean : ExcName → Option Value} {K : Frag}

theorem vrs_ints {ρ : List Addr} : ∀ {vs : List Value} {ns : List Int}, IntsAre vs ns → VRs ρ (ns.map .int) vs
  | _, _, .nil => rfl
  | _, _, .cons n t r => ⟨_, _, rfl, ⟨t, rfl⟩, vrs_ints r⟩
/-- law, called on the script -/
theorem law_run {w : World} {s₁ : Shared} (OK : KOk K) (KX : K.In s₁.heap) (T : Top V lo mean mg mb s₁.heap) {script : List Int} {vals : List Value} (hI : IntsAre vals script) (hl : script.length ≤ 63)
    (hs : s₁.heap.get? 123 = some { cls := .type "list", data := .seq vals.toArray }) (hsz : s₁.heap.objs.size = 124) (htk : 379 ≤ s₁.toks) {Q E : Value → Shared → Prop}
    (hQ : ∀ s', OldK s₁.heap s'.heap → s'.gens = s₁.gens → s'.os = s₁.os → Q (.bool true) s') : wpAny (model P w) callerA (call (.ref 122) [.ref 123]) Q E s₁ := by
  have W := wf OK KX T
  have hk : ∀ h, (gOf w OK KX T).B h → Kept s₁.heap h := fun h b => kept_of OK KX hsz hs b
  have hF : ∀ h, (gOf w OK KX T).B h → Facts h := fun h b => facts_of OK KX T (hk h b)
  have hz : ∀ h, (gOf w OK KX T).B h → ZdF h := fun h b => zd_of OK KX T (hk h b)
  have X7 : TabG (gOf w OK KX T) t7 := mkG_tab W (by simp [tbs])
  have X8 : TabG (gOf w OK KX T) t8 := mkG_tab W (by simp [tbs])
  have hB : (gOf w OK KX T).B s₁.heap := base1 OK KX
  have hnb : ¬ (gOf w OK KX T).bs s₁.heap 123 := by
    rintro (⟨q, _⟩ | ⟨t, ht, e⟩)
    · exact Nat.lt_irrefl _ q
    · simp only [tbs, List.mem_cons, List.not_mem_nil, or_false] at ht
      rcases ht with rfl | rfl
      · rw [show L1.t7.P = 44 from rfl, KX _ _ OK.t7] at e
        injection e with e; injection e with _ _ e; injection e with e
        exact full_ne e.symm
      · rw [show L1.t8.P = 51 from rfl, KX _ _ OK.t8] at e
        injection e with e; injection e with _ _ e; injection e with e
        exact full_ne e.symm
  have D : HR (gOf w OK KX T) [123] [.cst (script.map .int) fun o => o = { cls := .type "list", data := .seq vals.toArray }] s₁.heap := by
    refine ⟨hB, rfl, by simp, fun a ha => by simp at ha; subst ha; exact hnb, fun i o e => ?_⟩
    cases i with
    | zero => cases e; exact ⟨123, _, rfl, hs, rfl, _, _, rfl, by simpa using vrs_ints hI⟩
    | succ i => simp at e
  have body : LxOk (gOf w OK KX T) [] 17 (pcL [] spL) (locsOf (sc 20) ((ps 20).zip [.ref 0])) (bd 20) ([.cst (script.map .int) fun o => o = { cls := .type "list", data := .seq vals.toArray }] ++ cellOs ((ps 20).zip [.ref 0]) cnL)
      (endW fun v H => v = .bool true ∧ H.take 1 = [.cst (script.map .int) fun o => o = { cls := .type "list", data := .seq vals.toArray }]) :=
    law_body hF hz (fr_bs w OK KX T) X7 X8 (Nat.le_trans hl (by decide))
  obtain ⟨o, fd, h1, h2, I, h3, h4, h5⟩ := (hF _ hB).fn (20, 122) (by decide)
  refine lx_cells (g := gOf w OK KX T) (d := 17) (c := pcL [] spL) (ps := ps 20) (cn := cnL) (args := [.ref 0]) (H := [.cst (script.map .int) fun o => o = { cls := .type "list", data := .seq vals.toArray }]) (K := fun v H => v = .bool true ∧ H.take 1 = [.cst (script.map .int) fun o => o = { cls := .type "list", data := .seq vals.toArray }])
    I h3 (fun h b => (hF h b).lim) (fun m => by rfl) (by decide +kernel) rfl (fun x hx => ?_) (fun x hx => ?_) rfl body ⟨rfl, by decide +kernel, by decide +kernel⟩ rfl D (Nat.le_trans (by decide) htk) ⟨o, h1, h2⟩ h5 h4
    ⟨.ref 123, [], rfl, ⟨123, rfl, rfl⟩, rfl⟩ fun v H' cv s' ρ' k rv N D' T' => ?_
  · have : cnL.all (fun x => (sc 20).names.lookup x == some .cell) = true := by decide +kernel
    have h := List.all_eq_true.mp this x hx
    exact eq_of_beq h
  · have : (ps 20).all (fun x => cnL.contains x) = true := by decide +kernel
    exact .inr (by simpa using List.all_eq_true.mp this x hx)
  · obtain ⟨rfl, hH⟩ := k
    cases rv
    have h0 : H'[0]? = some (.cst (script.map .int) fun o => o = { cls := .type "list", data := .seq vals.toArray }) := by
      have := List.getElem?_take_of_lt (l := H') (i := 0) (j := 1) (by decide)
      rw [← this, hH]; rfl
    obtain ⟨a, ob, e1, e2, e3, _⟩ := D'.obj 0 _ h0
    have ha : a = 123 := by have := prefix_get N.pre (show [123][0]? = some 123 from rfl); rw [e1] at this; exact Option.some.inj this
    subst ha
    have e3 : ob = _ := e3
    subst e3
    exact hQ s' (oldK_of OK KX hsz hs D'.base e2) N.gens N.os
end
end L1
namespace L1
theorem kok {K : Frag} {h : Heap} (KX : K.In h) (b : glsB.map (fun p => nsIn K mainGlobals p.1) = glsB.map fun _ => some none) (f : glsF.map (fun p => nsIn K mainGlobals p.1) = glsF.map fun p => some (some p.2)) (st : nsIn K cStatics sharingNotToldKey = some none)
    (fn : fnp.map (fun p => K.lookup p.2) = fnp.map fun p => some { cls := .type "function", data := .func (fdG p.1 p.2 (pmOf (K.lookup p.2)) (docO (K.lookup p.2))) }) (cd : fnp.map (fun p => K.lookup (p.2 - 1)) = fnp.map fun p => some { cls := .type "code", data := .fields (vsOf (K.lookup (p.2 - 1))) })
    (cq : fnp.map (fun p => (vsOf (K.lookup (p.2 - 1)))[1]?) = fnp.map fun p => some (.str (nm p.1) (tkO ((vsOf (K.lookup (p.2 - 1)))[1]?)))) (h7 : codeHdIn K 48 44 = true) (h8 : codeHdIn K 55 51 = true) (t7 : K.lookup 44 = some (tabObj #[])) (t8 : K.lookup 51 = some (tabObj #[])) : KOk K :=
  ⟨b, f, st, fn, cd, cq, h7, h8, t7, t8⟩
theorem law_fin {V : Program} {lo : List Str} {mg mb : Str → Option Value} {mean : ExcName → Option Value} {K : Frag} {w : World} {s₁ : Shared} {fa : Addr} (OK : KOk K) (KX : K.In s₁.heap) (T : Top V lo mean mg mb s₁.heap) {script : List Int} {vals : List Value} (hI : IntsAre vals script) (hl : ¬ (63 : Int) < (script.length : Int))
    (hs : s₁.heap.get? 123 = some { cls := .type "list", data := .seq vals.toArray }) (hsz : s₁.heap.objs.size = 123 + 1) (htk : 379 ≤ s₁.toks) (hfa : mg "law" = some (.ref fa)) {Q E : Value → Shared → Prop}
    (hQ : ∀ s', OldK s₁.heap s'.heap → s'.gens = s₁.gens → s'.os = s₁.os → Q (.bool true) s') : wpAny (model P w) callerA (call (.ref fa) [.ref 123]) Q E s₁ := by
  have e := f_ok OK KX T ("law", .ref 122) (by simp [glsF])
  have : fa = 122 := by
    have e : mg "law" = some (.ref 122) := e
    rw [e] at hfa
    injection hfa with q; injection q with q; exact q.symm
  subst this
  exact law_run OK KX T hI (by omega) hs hsz htk hQ
end L1

end
section
open PySem PySem.W PyProof.Rows Py PySem.W.X PySem.W.ZRun
set_option maxRecDepth 100000
set_option autoImplicit false
set_option linter.unusedVariables false
namespace L1
noncomputable def KW (P : Params) : Frag := [
  (2, { cls := Value.none, data := Data.dict #[] }),
  (3, { cls := Value.type "dict", data := Data.dict #[{ hash := PyData.keyHash P "__name__", key := Value.str "__name__" 165, val := Value.str "law_rw0065_01" 319 }, { hash := PyData.keyHash P "__doc__", key := Value.str "__doc__" 166, val := Value.none }, { hash := PyData.keyHash P "__package__", key := Value.str "__package__" 167, val := Value.none }, { hash := PyData.keyHash P "__loader__", key := Value.str "__loader__" 168, val := Value.builtin "__main__.__loader__#opaque" }, { hash := PyData.keyHash P "__spec__", key := Value.str "__spec__" 169, val := Value.none }, { hash := PyData.keyHash P "__annotations__", key := Value.str "__annotations__" 170, val := Value.ref 6 }, { hash := PyData.keyHash P "__builtins__", key := Value.str "__builtins__" 171, val := Value.ref 4 }, { hash := PyData.keyHash P "__file__", key := Value.str "__file__" 173, val := Value.str "/claim/cut.py" 172 }, { hash := PyData.keyHash P "__cached__", key := Value.str "__cached__" 174, val := Value.none }, { hash := PyData.keyHash P "rgb_to_hsv", key := Value.str "rgb_to_hsv" 206, val := Value.ref 21 }, { hash := PyData.keyHash P "hsv_to_rgb", key := Value.str "hsv_to_rgb" 220, val := Value.ref 28 }, { hash := PyData.keyHash P "_DIV_LIMIT", key := Value.str "_DIV_LIMIT" 224, val := Value.int 4000 223 }, { hash := PyData.keyHash P "_div2n1n", key := Value.str "_div2n1n" 241, val := Value.ref 35 }, { hash := PyData.keyHash P "_div3n2n", key := Value.str "_div3n2n" 255, val := Value.ref 42 }, { hash := PyData.keyHash P "_int2digits", key := Value.str "_int2digits" 266, val := Value.ref 49 }, { hash := PyData.keyHash P "_digits2int", key := Value.str "_digits2int" 277, val := Value.ref 56 }, { hash := PyData.keyHash P "_divmod_pos", key := Value.str "_divmod_pos" 292, val := Value.ref 63 }, { hash := PyData.keyHash P "int_divmod", key := Value.str "int_divmod" 302, val := Value.ref 70 }, { hash := PyData.keyHash P "_raise_serialization_error", key := Value.str "_raise_serialization_error" 311, val := Value.ref 77 }, { hash := PyData.keyHash P "_escape_attrib", key := Value.str "_escape_attrib" 318, val := Value.ref 84 }, { hash := PyData.keyHash P "_law_table", key := Value.str "_law_table" 331, val := Value.ref 91 }, { hash := PyData.keyHash P "_law_divided", key := Value.str "_law_divided" 344, val := Value.ref 98 }, { hash := PyData.keyHash P "_law_walk", key := Value.str "_law_walk" 350, val := Value.ref 103 }, { hash := PyData.keyHash P "_law_spelled", key := Value.str "_law_spelled" 359, val := Value.ref 110 }, { hash := PyData.keyHash P "_law_read", key := Value.str "_law_read" 372, val := Value.ref 117 }, { hash := PyData.keyHash P "law", key := Value.str "law" 378, val := Value.ref 122 }] 26 }),
  (20, { cls := Value.type "code", data := Data.fields #[Value.str "rgb_to_hsv" 189, Value.str "rgb_to_hsv" 190, Value.str "/claim/cut.py" 191, Value.int 2 0, Value.int 3 0, Value.int 0 0, Value.int 0 0, Value.int 3 0, Value.ref 15, Value.bool true, Value.int 181 0, Value.ref 16, Value.none, Value.ref 17, Value.ref 18, Value.ref 19, Value.int 204 0, Value.int 2 0, Value.str "/claim/cut.py" 205] }),
  (21, { cls := .type "function", data := .func (fdG 1 21 (Value.str "cpy313.colorsys" 187) (Value.none)) }),
  (27, { cls := Value.type "code", data := Data.fields #[Value.str "hsv_to_rgb" 207, Value.str "hsv_to_rgb" 208, Value.str "/claim/cut.py" 209, Value.int 21 0, Value.int 3 0, Value.int 0 0, Value.int 0 0, Value.int 3 0, Value.ref 22, Value.bool true, Value.int 181 0, Value.ref 23, Value.none, Value.ref 24, Value.ref 25, Value.ref 26, Value.int 218 0, Value.int 21 0, Value.str "/claim/cut.py" 219] }),
  (28, { cls := .type "function", data := .func (fdG 2 28 (Value.str "cpy313.colorsys" 187) (Value.none)) }),
  (34, { cls := Value.type "code", data := Data.fields #[Value.str "_div2n1n" 225, Value.str "_div2n1n" 226, Value.str "/claim/cut.py" 227, Value.int 44 0, Value.int 3 0, Value.int 0 0, Value.int 0 0, Value.int 3 0, Value.ref 29, Value.bool true, Value.int 181 0, Value.ref 30, Value.none, Value.ref 31, Value.ref 32, Value.ref 33, Value.int 239 0, Value.int 44 0, Value.str "/claim/cut.py" 240] }),
  (35, { cls := .type "function", data := .func (fdG 5 35 (Value.str "cpy313._pylong" 221) (Value.none)) }),
  (44, { cls := Value.none, data := Data.fields #[] }),
  (48, { cls := Value.type "code", data := Data.fields #[Value.str "_int2digits" 256, Value.str "_int2digits" 257, Value.str "/claim/cut.py" 258, Value.int 70 0, Value.int 2 0, Value.int 0 0, Value.int 0 0, Value.int 3 0, Value.ref 43, Value.bool true, Value.int 181 0, Value.ref 44, Value.none, Value.ref 45, Value.ref 46, Value.ref 47, Value.int 264 0, Value.int 70 0, Value.str "/claim/cut.py" 265] }),
  (49, { cls := .type "function", data := .func (fdG 7 49 (Value.str "cpy313._pylong" 221) (Value.none)) }),
  (51, { cls := Value.none, data := Data.fields #[] }),
  (55, { cls := Value.type "code", data := Data.fields #[Value.str "_digits2int" 267, Value.str "_digits2int" 268, Value.str "/claim/cut.py" 269, Value.int 86 0, Value.int 2 0, Value.int 0 0, Value.int 0 0, Value.int 3 0, Value.ref 50, Value.bool true, Value.int 181 0, Value.ref 51, Value.none, Value.ref 52, Value.ref 53, Value.ref 54, Value.int 275 0, Value.int 86 0, Value.str "/claim/cut.py" 276] }),
  (56, { cls := .type "function", data := .func (fdG 8 56 (Value.str "cpy313._pylong" 221) (Value.none)) }),
  (62, { cls := Value.type "code", data := Data.fields #[Value.str "_divmod_pos" 278, Value.str "_divmod_pos" 279, Value.str "/claim/cut.py" 280, Value.int 95 0, Value.int 2 0, Value.int 0 0, Value.int 0 0, Value.int 3 0, Value.ref 57, Value.bool true, Value.int 181 0, Value.ref 58, Value.none, Value.ref 59, Value.ref 60, Value.ref 61, Value.int 290 0, Value.int 95 0, Value.str "/claim/cut.py" 291] }),
  (63, { cls := .type "function", data := .func (fdG 9 63 (Value.str "cpy313._pylong" 221) (Value.none)) }),
  (69, { cls := Value.type "code", data := Data.fields #[Value.str "int_divmod" 293, Value.str "int_divmod" 294, Value.str "/claim/cut.py" 295, Value.int 106 0, Value.int 2 0, Value.int 0 0, Value.int 0 0, Value.int 3 0, Value.ref 64, Value.bool true, Value.int 181 0, Value.ref 65, Value.none, Value.ref 66, Value.ref 67, Value.ref 68, Value.int 300 0, Value.int 106 0, Value.str "/claim/cut.py" 301] }),
  (70, { cls := .type "function", data := .func (fdG 10 70 (Value.str "cpy313._pylong" 221) (Value.none)) }),
  (83, { cls := Value.type "code", data := Data.fields #[Value.str "_escape_attrib" 312, Value.str "_escape_attrib" 313, Value.str "/claim/cut.py" 314, Value.int 120 0, Value.int 1 0, Value.int 0 0, Value.int 0 0, Value.int 3 0, Value.ref 78, Value.bool true, Value.int 181 0, Value.ref 79, Value.none, Value.ref 80, Value.ref 81, Value.ref 82, Value.int 316 0, Value.int 120 0, Value.str "/claim/cut.py" 317] }),
  (84, { cls := .type "function", data := .func (fdG 13 84 (Value.str "cpy313.xml.etree.ElementTree" 303) (Value.none)) }),
  (90, { cls := Value.type "code", data := Data.fields #[Value.str "_law_table" 321, Value.str "_law_table" 322, Value.str "/claim/cut.py" 323, Value.int 140 0, Value.int 1 0, Value.int 0 0, Value.int 0 0, Value.int 3 0, Value.ref 85, Value.bool true, Value.int 181 0, Value.ref 86, Value.none, Value.ref 87, Value.ref 88, Value.ref 89, Value.int 329 0, Value.int 140 0, Value.str "/claim/cut.py" 330] }),
  (91, { cls := .type "function", data := .func (fdG 15 91 (Value.str "law_rw0065_01" 319) (Value.none)) }),
  (97, { cls := Value.type "code", data := Data.fields #[Value.str "_law_divided" 332, Value.str "_law_divided" 333, Value.str "/claim/cut.py" 334, Value.int 148 0, Value.int 1 0, Value.int 0 0, Value.int 0 0, Value.int 3 0, Value.ref 92, Value.bool true, Value.int 181 0, Value.ref 93, Value.none, Value.ref 94, Value.ref 95, Value.ref 96, Value.int 342 0, Value.int 148 0, Value.str "/claim/cut.py" 343] }),
  (98, { cls := .type "function", data := .func (fdG 16 98 (Value.str "law_rw0065_01" 319) (Value.none)) }),
  (102, { cls := Value.type "code", data := Data.fields #[Value.str "_law_walk" 345, Value.str "_law_walk" 346, Value.str "/claim/cut.py" 347, Value.int 163 0, Value.int 2 0, Value.int 0 0, Value.int 0 0, Value.int 3 0, Value.ref 99, Value.bool true, Value.int 181 0, Value.ref 100, Value.none, Value.none, Value.none, Value.ref 101, Value.int 348 0, Value.int 163 0, Value.str "/claim/cut.py" 349] }),
  (103, { cls := .type "function", data := .func (fdG 17 103 (Value.str "law_rw0065_01" 319) (Value.none)) }),
  (109, { cls := Value.type "code", data := Data.fields #[Value.str "_law_spelled" 351, Value.str "_law_spelled" 352, Value.str "/claim/cut.py" 353, Value.int 191 0, Value.int 2 0, Value.int 0 0, Value.int 0 0, Value.int 3 0, Value.ref 104, Value.bool true, Value.int 181 0, Value.ref 105, Value.none, Value.ref 106, Value.ref 107, Value.ref 108, Value.int 357 0, Value.int 191 0, Value.str "/claim/cut.py" 358] }),
  (110, { cls := .type "function", data := .func (fdG 18 110 (Value.str "law_rw0065_01" 319) (Value.none)) }),
  (116, { cls := Value.type "code", data := Data.fields #[Value.str "_law_read" 360, Value.str "_law_read" 361, Value.str "/claim/cut.py" 362, Value.int 196 0, Value.int 2 0, Value.int 0 0, Value.int 0 0, Value.int 3 0, Value.ref 111, Value.bool true, Value.int 181 0, Value.ref 112, Value.none, Value.ref 113, Value.ref 114, Value.ref 115, Value.int 370 0, Value.int 196 0, Value.str "/claim/cut.py" 371] }),
  (117, { cls := .type "function", data := .func (fdG 19 117 (Value.str "law_rw0065_01" 319) (Value.none)) }),
  (121, { cls := Value.type "code", data := Data.fields #[Value.str "law" 373, Value.str "law" 374, Value.str "/claim/cut.py" 375, Value.int 207 0, Value.int 1 0, Value.int 0 0, Value.int 0 0, Value.int 3 0, Value.ref 118, Value.bool true, Value.int 181 0, Value.ref 119, Value.none, Value.none, Value.none, Value.ref 120, Value.int 376 0, Value.int 207 0, Value.str "/claim/cut.py" 377] }),
  (122, { cls := .type "function", data := .func (fdG 20 122 (Value.str "law_rw0065_01" 319) (Value.none)) })]
noncomputable def asW : List Addr := [2, 3, 20, 21, 27, 28, 34, 35, 44, 48, 49, 51, 55, 56, 62, 63, 69, 70, 83, 84, 90, 91, 97, 98, 102, 103, 109, 110, 116, 117, 121, 122]
/-- the top, less the rows that lay __name__ -/
noncomputable def VW : Program := { P with main := { P.main with body := [1, 2, 4, 5, 6, 7, 8, 9, 10, 12, 13, 15, 16, 17, 18, 19, 20].filterMap (P.main.body[·]?) } }
theorem kw_ok (P : Params) : KOk (KW P) := ⟨by kernel_rfl, by kernel_rfl, by kernel_rfl, by kernel_rfl, by kernel_rfl, by kernel_rfl, by kernel_rfl, by kernel_rfl, by kernel_rfl, by kernel_rfl⟩
end L1

end
open PySem PySem.W PyProof.Rows PySem.W.X PySem.W.ZRun
set_option Elab.async false
set_option maxRecDepth 100000 in
set_option maxHeartbeats 8000000 in
theorem PySem.Challenge.cw_rw0065_01_holds : PySem.Challenge.rw_rw0065_01.Holds := by
  w_on
  refine holds_law (by kernel_rfl) fun said => ?_
  refine holds_openX (q := L1.VW) (loose := []) (Xt := fun s => xlAt L1.VW [] s && recOk (RowW.records (OpenRow.toRowW PySem.Challenge.rw_rw0065_01.row)) s) (XP := XL L1.VW []) (Yf := obsZ L1.asW) (Ya := valZ L1.KW 123 379) (N := 1276) ?hl (fun s e => xl_of s (Bool.and_eq_true_iff.mp e).1) XL.keeps (by rfl) (by rfl) (by rfl) (fun s e => recFacts_of (Bool.and_eq_true_iff.mp e).2) (by rfl) (by first | assumption | decide +kernel) (by decide +kernel) ⟨rfl, rfl, rfl, rfl, rfl, by decide +kernel⟩ ?hw ?hc
  case hw => w_witness2
  case hl => intro w; kernel_rfl
  case hc =>
    intro w s₀ s₁ mg mb G y fa o pm cd doc dV kV ho hd hcd hD hmg hg args vals as L hpre hlay hrd hwl hlo
    obtain ⟨_, KX0, ZN, ZT⟩ := z_facts (K := L1.KW) (fun P => rfl) y
    have KX := InK.keeps w s₀.heap s₁.heap KX0 L.keeps
    refine Ground.open G ?_
    intro T B D TE TW
    wrow_args hpre hlay hrd hwl hlo
    obtain ⟨hat, hsz⟩ := script_at L
    have htk := script_toks L ZT
    rw [ZN] at hat hsz
    subst hat
    rename_i ns h1 h2 h3 h4 h5 a1 a2 vs a3 ra hI hr hc hc2 hL w1 r0
    have hob := script_obj L hL
    refine L1.law_fin (L1.kw_ok w.params) KX T hI hc hob hsz htk hmg (fun s' hK hgn hos => ?_)
    exact ⟨.inl ⟨.bool true, .bool true, [], rfl, fun _ => rfl, .bool true, by first | rfl | decide | kernel_rfl, fun _ => ⟨List.nodup_nil, fun a ha => nomatch ha⟩⟩, hK, hos, .of_eq (hgn.trans hg)⟩

