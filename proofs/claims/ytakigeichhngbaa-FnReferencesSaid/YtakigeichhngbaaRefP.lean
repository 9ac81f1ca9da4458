import Derived.Test.YtakigeichhngbaaSymW
import Derived.Maps.GroupsBeside
namespace Go.Proofs.Ytakigeichhngbaa
open Go.RowKit Go.Maps Go.WideElems Go.MapKept Go.ChangeShapes
set_option linter.unusedVariables false
set_option linter.unusedSimpArgs false
/-- where instructions refer to s, from the k-th on -/
def rAtF (s : ByteArray) : Nat → List Ins → List Int
  | _, [] => []
  | k, i :: l => bif sameS i.ref s then (k : Int) :: rAtF s (k + 1) l else rAtF s (k + 1) l
def rAt (l : List Ins) (s : ByteArray) : List Int := rAtF s 0 l
theorem rAtF_app (s : ByteArray) : ∀ (k : Nat) (a b : List Ins), rAtF s k (a ++ b) = rAtF s k a ++ rAtF s (k + a.length) b
  | k, [], b => by simp [rAtF]
  | k, x :: a, b => by
    have ih := rAtF_app s (k + 1) a b
    have e : k + 1 + a.length = k + (a.length + 1) := by omega
    cases hs : sameS x.ref s
    · simp only [List.cons_append, rAtF, hs, cond_false, ih, List.length_cons, e]
    · simp only [List.cons_append, rAtF, hs, cond_true, ih, List.length_cons, e]
theorem rAt_snoc (l : List Ins) (i : Ins) (s : ByteArray) : rAt (l ++ [i]) s = rAt l s ++ bif sameS i.ref s then [(l.length : Int)] else [] := by
  unfold rAt
  rw [rAtF_app, Nat.zero_add]
  cases hs : sameS i.ref s <;> simp [rAtF, hs]
theorem rAtF_len (s : ByteArray) : ∀ (k : Nat) (l : List Ins), (rAtF s k l).length ≤ l.length
  | _, [] => Nat.le_refl _
  | k, i :: l => by
    have ih := rAtF_len s (k + 1) l
    cases hs : sameS i.ref s
    · simp only [rAtF, hs, cond_false, List.length_cons]; omega
    · simp only [rAtF, hs, cond_true, List.length_cons]; omega
theorem rAt_len (l : List Ins) (s : ByteArray) : (rAt l s).length ≤ l.length := rAtF_len s 0 l
def rD : List Int → DataW Unit
  | [] => .nil
  | z :: zs => .slice (lits .i64 (z :: zs)) []
theorem rD_ne {zs : List Int} (h : zs ≠ []) : rD zs = .slice (lits .i64 zs) [] := by
  cases zs with
  | nil => exact absurd rfl h
  | cons z zs => rfl
/-- the map's datum behind k instructions: who refers to each name -/
structure RefD (xs : List Ins) (k : Nat) (D : DataW Unit) : Prop where
  has : ∀ s, Maps.has D (strK s) = (!noS s && !(rAt (xs.take k) s).isEmpty)
  val : ∀ s, noS s = false → D.atKey (strK s) .nil = rD (rAt (xs.take k) s)
theorem RefD.start (xs : List Ins) : RefD xs 0 (.map []) := ⟨fun s => by simp [rAt, rAtF, Maps.has], fun s _ => by simp [rAt, rAtF, rD, DataW.atKey]⟩
theorem rAt_skip {xs : List Ins} {k : Nat} (hk : k < xs.length) (he : noS xs[k].ref = true) (s : ByteArray) (hs : noS s = false) : rAt (xs.take (k + 1)) s = rAt (xs.take k) s := by
  rw [List.take_succ_eq_append_getElem hk, rAt_snoc, noS_ne he hs]
  simp
theorem RefD.skip {xs : List Ins} {k : Nat} {D : DataW Unit} (h : RefD xs k D) (hk : k < xs.length) (he : noS xs[k].ref = true) : RefD xs (k + 1) D := by
  refine ⟨fun s => ?_, fun s hs => by rw [rAt_skip hk he s hs]; exact h.val s hs⟩
  rw [h.has s]
  cases hs : noS s
  · rw [rAt_skip hk he s hs]
  · rfl
theorem RefD.put {xs : List Ins} {k : Nat} {D : DataW Unit} (h : RefD xs k D) (hm : IsMap D) (hk : k < xs.length) (hn : noS xs[k].ref = false) : RefD xs (k + 1) (D.put (strK xs[k].ref) (.slice (lits .i64 (rAt (xs.take k) xs[k].ref ++ [(k : Int)])) [])) := by
  have hkl : ((xs.take k).length : Int) = k := by rw [List.length_take]; omega
  have e0 : ∀ s, rAt (xs.take (k + 1)) s = rAt (xs.take k) s ++ bif sameS xs[k].ref s then [(k : Int)] else [] := fun s => by
    rw [List.take_succ_eq_append_getElem hk, rAt_snoc, hkl]
  constructor
  · intro s
    cases hq : sameS xs[k].ref s
    · rw [Maps.has_put_other (strK_ne hq), h.has s, e0 s, hq]
      simp
    · obtain rfl := sameS_eq hq
      rw [Maps.has_put_same hm (strK_key _), e0, hq, hn]
      simp
  · intro s hs
    cases hq : sameS xs[k].ref s
    · rw [Maps.atKey_put_other (strK_ne hq), h.val s hs, e0 s, hq]
      simp
    · obtain rfl := sameS_eq hq
      rw [Maps.atKey_put_same hm (strK_key _), e0, hq]
      exact (rD_ne (by simp)).symm
theorem rows_read {w : World} {base : Nat} {e : TypeId} {v : Value} {zs rs : List Int} {D : DataW Unit} {kl : Lit} (hat : D.atKey kl .nil = rowDatum .i64 v zs) (hoi : w.ownsInts base e .i64 v zs) (h : D.atKey kl .nil = rD rs) : zs = rs := by
  rw [hat] at h
  have inj : ∀ a b : List Int, (lits .i64 a : List (DataW Unit)) = lits .i64 b → a = b := fun a b hab => (List.map_inj_right (fun x y hxy => by cases hxy; rfl)).1 hab
  rcases hoi.datum (H := Unit) with ⟨h1, h2⟩ | h1
  · rw [h1] at h
    subst h2
    cases rs with
    | nil => rfl
    | cons z zs => cases h
  · rw [h1] at h
    cases rs with
    | nil => cases h
    | cons z rs =>
      injection h with h
      exact inj _ _ h
section
variable {P : Program} {k : TypeId} {w w' : World} {base : Nat} {e : TypeId} {q : IntKind} {b n : Nat} {D : DataW Unit}
theorem pair_eq {α β : Type} {f : α → β} : ∀ {l : List α}, l.Pairwise (fun x y => f x ≠ f y) → ∀ {a c : α}, a ∈ l → c ∈ l → f a = f c → a = c
  | [], _, _, _, h, _, _ => absurd h (by simp)
  | x :: l, hp, a, c, ha, hc, he => by
    obtain ⟨h1, h2⟩ := List.pairwise_cons.1 hp
    rcases List.mem_cons.1 ha with ha | ha <;> rcases List.mem_cons.1 hc with hc | hc
    · rw [ha, hc]
    · rw [ha] at he; exact absurd he (h1 c hc)
    · rw [hc] at he; exact absurd he.symm (h1 a ha)
    · exact pair_eq h2 ha hc he
/-- a look-up sees the map's block alone -/
theorem look_stay {t E : TypeId} {key : Value} {kl : Lit} (h : w.ownsGroups P k base e q b n D) (K : Keyed P k) (ht : P.underlying t = some (.map k E)) (hz : ∀ W, (zeroValue E).run P W = .ok (.slice none 0 0) W) (hkey : keyOf P k key = some kl)
    (hb : w'.heap[b]? = w.heap[b]?) {v : Value} (hr : (Instr.lookup t (.map (some b)) key false).run P w = .ok v w) : (Instr.lookup t (.map (some b)) key false).run P w' = .ok v w' := by
  obtain ⟨es, clock, hb0, F, -⟩ := h
  have hn : es.toList.Pairwise (fun x y => x.key ≠ y.key) := ((stamped_iff es clock).1 F.stamped).2.2
  rcases Maps.fit_look false K ht (hz w) hb0 F hkey with ⟨h1, h2, -⟩ | ⟨e0, y, m0, k0, h1, -⟩ <;> rcases Maps.fit_look false K ht (hz w') (hb.trans hb0) F hkey with ⟨h1', h2', -⟩ | ⟨e0', y', m0', k0', h1', -⟩
  · rw [hr] at h1
    rw [h1']
    simp at h1
    rw [h1]
    rfl
  · exact absurd k0' (h2 e0' m0')
  · exact absurd k0 (h2' e0 m0)
  · obtain rfl := pair_eq hn m0 m0' (k0.trans k0'.symm)
    rw [hr] at h1
    rw [h1']
    simp at h1
    rw [h1]
    rfl
/-- the same map, of its keys alone -/
def noElem : Value → Option (DataW Unit × List MemPlace) := fun _ => some (.nil, [])
theorem groups_keys {t E : TypeId} (h : w.ownsGroups P k base e q b n D) (K : Keyed P k) (ht : P.underlying t = some (.map k E)) (hz : (zeroValue E).run P w = .ok (.slice none 0 0) w) :
    ∃ D0, w.ownsMap P k noElem b n D0 ∧ ∀ key kl, keyOf P k key = some kl → Maps.has D0 kl = Maps.has D kl := by
  have h0 := h
  obtain ⟨es, clock, hb, F, hs, rfl, -⟩ := h
  have F0 : Fit P k noElem es clock := ⟨F.size, F.stamped, fun x hx => by
    obtain ⟨y, hy⟩ := F.reads x hx
    exact ⟨(y.1, .nil), by simp [rd, rd_key hy, noElem]⟩⟩
  have ho : w.ownsMap P k noElem b n (.map ((es.toList.map (rg P k noElem)).foldr DataW.insert [])) := ⟨es, clock, hb, F0, hs, rfl⟩
  refine ⟨_, ho, fun key kl hkey => ?_⟩
  obtain ⟨v, h1⟩ := h0.atOk K ht hz hkey
  obtain ⟨v2, ps, h2, -⟩ := ho.look_ok K ht hz (zd := .nil) (zp := []) rfl hkey
  rw [h1] at h2
  simp at h2
  exact h2.2.symm
end
end Go.Proofs.Ytakigeichhngbaa
