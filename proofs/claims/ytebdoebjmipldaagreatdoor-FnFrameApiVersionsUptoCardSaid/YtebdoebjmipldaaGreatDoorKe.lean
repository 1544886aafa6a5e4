/- What is proved here: how the code of the messages runs, in general: a semantics of calls by their texts, and contracts of the functions of kbin and of the reference. No condition but those that each theorem names. -/
import Derived.Shelf.GgSortFunc.Whole
import Derived.Shelf.GgSortFunc.Tiny
import Derived.Lib.ConvBytes
import Derived.Test.YtebdoebjmipldaaGreatDoorKd
set_option linter.unusedSectionVars false
set_option linter.unusedSimpArgs false
set_option linter.unusedVariables false
set_option linter.unusedSimpArgs false
set_option linter.unusedVariables false
namespace Go.Kg
open Go Go.ChangeShapes Go.WideShapes Go.ChangeAt Go.RowKit
/-- what the bulk of data is -/
structure BulkL {H : Type} (b : DataW H → Nat) (bs : List (DataW H) → Nat) : Prop where
  slice : ∀ e s, b (.slice e s) = bs e + bs s + 1
  agg : ∀ p, b (.agg p) = bs p + 1
  pos : ∀ d, 1 ≤ b d
  nil : bs [] = 0
  cons : ∀ d r, bs (d :: r) = b d + bs r
theorem BulkL.len {H : Type} {b : DataW H → Nat} {bs : List (DataW H) → Nat} (h : BulkL b bs) : ∀ l, l.length ≤ bs l
  | [] => by simp [h.nil]
  | d :: r => by have := h.pos d; have := h.len r; rw [h.cons, List.length_cons]; omega
theorem BulkL.mem {H : Type} {b : DataW H → Nat} {bs : List (DataW H) → Nat} (h : BulkL b bs) : ∀ {l : List (DataW H)} {d}, d ∈ l → b d ≤ bs l
  | x :: r, d, hd => by
    rw [h.cons]
    rcases List.mem_cons.1 hd with rfl | hd
    · omega
    · have := h.mem hd; omega
/-- what is asked of the types of Tree and Tag -/
structure TyTr (P : Program) (E : Env) (tI64 : Nat) : Prop where
  tr : ∃ f0 f1 f2 f3 f4 : Field, P.underlying E.t_spec_Tree = some (.struct #[f0, f1, f2, f3, f4]) ∧ (f0.type = tI64 ∧ f0.offset = 0) ∧ (f1.type = E.tBs ∧ f1.offset = 1) ∧ (f2.type = E.tB ∧ f2.offset = 2) ∧ (f3.type = E.t_l_spec_Tree ∧ f3.offset = 3) ∧ (f4.type = E.t_l_spec_Tag ∧ f4.offset = 4)
  tg : ∃ f0 f1 : Field, P.underlying E.t_spec_Tag = some (.struct #[f0, f1]) ∧ (f0.type = E.tU32 ∧ f0.offset = 0) ∧ (f1.type = E.tBs ∧ f1.offset = 1)
  i64 : P.underlying tI64 = some (.int .i64)
  u32 : P.underlying E.tU32 = some (.int .u32)
  u8 : P.underlying E.tU8 = some (.int .u8)
  bool : P.underlying E.tB = some .bool
  bs : P.underlying E.tBs = some (.slice E.tU8)
  lt : P.underlying E.t_l_spec_Tree = some (.slice E.t_spec_Tree)
  lu : P.underlying E.t_l_spec_Tag = some (.slice E.t_spec_Tag)
  c1 : P.cellsOf tI64 = 1 ∧ P.cellsOf E.tU32 = 1 ∧ P.cellsOf E.tU8 = 1 ∧ P.cellsOf E.tB = 1 ∧ P.cellsOf E.tBs = 1 ∧ P.cellsOf E.t_l_spec_Tree = 1 ∧ P.cellsOf E.t_l_spec_Tag = 1
  cT : P.cellsOf E.t_spec_Tree = 5
  cU : P.cellsOf E.t_spec_Tag = 2
section
variable {H : Type} {enc : TypeId × Value → H} {P : Program} {W : World}
theorem spot_of_cells {a : Addr} {k : Nat} {cs : List Value} (h : W.cells? 0 (a.add (0 * k)) k = some cs) (hk : 0 < k) : a.spot = none := by
  have h0 : a.add (0 * k) = a := by simp [Addr.add]
  rw [h0] at h
  obtain ⟨_, hl, hc⟩ := World.cells?_some h
  have h1 := hc 0 hk
  have h2 : cs[0]? = some cs[0] := List.getElem?_eq_getElem (by omega)
  rw [h2] at h1
  have ha : a.add 0 = a := by simp [Addr.add]
  rw [ha] at h1
  cases hs : a.spot with
  | none => rfl
  | some s =>
    simp only [World.cell?, hs] at h1
    split at h1 <;> simp at h1
/-- bytes within -/
theorem open_bytesIn {t e : TypeId} (ht : P.underlying t = some (.slice e)) (he : P.underlying e = some (.int .u8)) (hc : P.cellsOf e = 1) {b : DataW H → Nat} {bs : List (DataW H) → Nat} (hB : BulkL b bs) {n : Nat} {c : Value} {x : DataW H × List MemPlace}
    (h : DataW.trod enc P W 0 (fun _ => true) true n t [c] = some x) : ∃ s, BytesAt W All c s ∧ s.length + 1 ≤ b x.1 := by
  have hsp : ∀ a len cap, c = .slice (some a) len cap → 0 < cap → a.spot = none := by
    rintro a len cap rfl hcap
    rcases DataW.trod_slice ht h with ⟨h1, _⟩ | ⟨a', len', cap', elems, rest, m, _, h1, hx, hb, hl, hm, hlen, hel, hsp, _⟩
    · cases h1
    · cases h1
      by_cases h0 : 0 < len
      · have := hel 0 h0
        rw [hc] at this
        have hget : elems[0]? = some elems[0] := List.getElem?_eq_getElem (by omega)
        rw [hget] at this
        obtain ⟨cs, hcs, _⟩ := Option.bind_eq_some_iff.1 this
        exact spot_of_cells hcs (by omega)
      · obtain ⟨hr1, hr2⟩ := hsp rfl
        have := hr2 0 (by omega)
        rw [hc] at this
        have hget : rest[0]? = some rest[0] := List.getElem?_eq_getElem (by omega)
        rw [hget] at this
        obtain ⟨cs, hcs, _⟩ := Option.bind_eq_some_iff.1 this
        have e0 : (len + 0) * 1 = 0 * 1 := by omega
        rw [e0] at hcs
        exact spot_of_cells hcs (by omega)
  rcases open_ints ht he hc h with ⟨h1, hx⟩ | ⟨a, len, cap, zs, h1, hb, hl, hm, hzl, hx, hcell, hwf⟩
  · cases h1
    exact ⟨[], .inl ⟨⟨_, rfl⟩, rfl⟩, by have := hB.pos x.1; simpa using this⟩
  · cases h1
    simp only [if_true] at hzl
    have hbk : len + 1 ≤ b x.1 := by
      rw [hx, hB.slice]
      have := hB.len (lits .u8 (zs.take len))
      simp only [lits, List.length_map, List.length_take] at this
      simp only [lits] at this ⊢
      omega
    by_cases hcap : cap = 0
    · subst hcap
      have h0 : len = 0 := by omega
      subst h0
      exact ⟨[], .inl ⟨⟨_, rfl⟩, rfl⟩, by simpa using hbk⟩
    have hs := hsp a len cap rfl (by omega)
    obtain ⟨ab, ao, sp⟩ := a
    simp only at hs
    subst hs
    have hlen : (zs.take len).length = len := by simp; omega
    refine ⟨(zs.take len).map fun z => UInt8.ofNat z.toNat, .inr ⟨ab, ao, cap, by rw [List.length_map, hlen], by rw [List.length_map, hlen]; exact hl, fun _ => trivial, fun i x hx => ?_⟩, by rw [List.length_map, hlen]; exact hbk⟩
    rw [List.getElem?_map, Option.map_eq_some_iff] at hx
    obtain ⟨z, hz, rfl⟩ := hx
    rw [List.getElem?_take] at hz
    split at hz
    · obtain ⟨hi, hzz⟩ := List.getElem?_eq_some_iff.1 hz
      have hc1 := hcell i hi
      rw [Addr.add_mk, List.getD_eq_getElem?_getD, hz] at hc1
      have hw := hwf z (List.mem_of_getElem? hz)
      simp [Lit.wf, IntKind.min, IntKind.max, IntKind.signed, IntKind.bits] at hw
      rw [hc1]
      simp
      omega
    · cases hz
/-- a slice of things of sz cells each -/
theorem open_things {t e : TypeId} {sz : Nat} (ht : P.underlying t = some (.slice e)) (hc : P.cellsOf e = sz) (hsz : 0 < sz) {b : DataW H → Nat} {bs : List (DataW H) → Nat} (hB : BulkL b bs) {n : Nat} {c : Value} {x : DataW H × List MemPlace}
    (h : DataW.trod enc P W 0 (fun _ => true) true n t [c] = some x) (hk : b x.1 ≤ 1048576) :
    ∃ (ls : Option (List (List Value))) (ys : List (DataW H × List MemPlace)) (m : Nat), ArrE W All sz c ls ∧ ys.length = (ls.getD []).length ∧ n = m + 1 ∧ bs (ys.map (·.1)) + 1 ≤ b x.1 ∧
      ∀ (i : Nat) cs y, (ls.getD [])[i]? = some cs → ys[i]? = some y → DataW.trod enc P W 0 (fun _ => true) true m e cs = some y := by
  obtain ⟨m, rfl⟩ : ∃ m, n = m + 1 := by
    cases n with
    | zero => simp [DataW.trod] at h
    | succ m => exact ⟨m, rfl⟩
  rcases DataW.trod_slice ht h with ⟨h1, hx⟩ | ⟨a, len, cap, elems, rest, m', hm', h1, hx, hb, hl, hm, hlen, hel, hsp, _⟩
  · cases h1
    exact ⟨none, [], m, ⟨_, rfl⟩, rfl, rfl, by have := hB.pos x.1; simpa [hB.nil] using this, fun i cs y h => by simp at h⟩
  · cases h1
    cases hm'
    rw [hc] at hel hsp
    have hbk : bs (elems.map (·.1)) + 1 ≤ b x.1 := by rw [hx, hB.slice]; omega
    have hlk : len ≤ 1048576 := by
      have := hB.len (elems.map (·.1))
      rw [List.length_map] at this
      omega
    by_cases hcap : cap = 0
    · subst hcap
      have h0 : len = 0 := by omega
      subst h0
      have he : elems = [] := List.eq_nil_of_length_eq_zero hlen
      subst he
      exact ⟨none, [], m, ⟨_, rfl⟩, rfl, rfl, by simpa using hbk, fun i cs y h => by simp at h⟩
    have hs : a.spot = none := by
      by_cases h0 : 0 < len
      · have := hel 0 h0
        have hget : elems[0]? = some elems[0] := List.getElem?_eq_getElem (by omega)
        rw [hget] at this
        obtain ⟨cs, hcs, _⟩ := Option.bind_eq_some_iff.1 this
        exact spot_of_cells hcs hsz
      · obtain ⟨hr1, hr2⟩ := hsp rfl
        have := hr2 0 (by omega)
        have hget : rest[0]? = some rest[0] := List.getElem?_eq_getElem (by omega)
        rw [hget] at this
        obtain ⟨cs, hcs, _⟩ := Option.bind_eq_some_iff.1 this
        have e0 : (len + 0) * sz = 0 * sz := by
          have : len = 0 := by omega
          subst this; rfl
        rw [e0] at hcs
        exact spot_of_cells hcs hsz
    obtain ⟨ab, ao, sp⟩ := a
    simp only at hs
    subst hs
    -- the cells of each
    have hcs : ∀ i, i < len → ∃ cs y, W.cells? 0 (⟨ab, ao + i * sz, none⟩ : Addr) sz = some cs ∧ elems[i]? = some y ∧ DataW.trod enc P W 0 (fun _ => true) true m e cs = some y := by
      intro i hi
      have h2 := hel i hi
      have hget : elems[i]? = some elems[i] := List.getElem?_eq_getElem (by omega)
      rw [hget] at h2
      obtain ⟨cs, h3, h4⟩ := Option.bind_eq_some_iff.1 h2
      rw [Addr.add_mk] at h3
      exact ⟨cs, _, h3, hget, h4⟩
    let cellsI : Nat → List Value := fun i => (W.cells? 0 (⟨ab, ao + i * sz, none⟩ : Addr) sz).getD []
    have hcI : ∀ i, i < len → W.cells? 0 (⟨ab, ao + i * sz, none⟩ : Addr) sz = some (cellsI i) := by
      intro i hi
      obtain ⟨cs, y, h3, _⟩ := hcs i hi
      simp only [cellsI, h3, Option.getD_some]
    refine ⟨some ((List.range len).map cellsI), elems, m, ⟨ab, ao, cap, by simp, trivial, ⟨by simpa using hl, by simp; omega⟩, ?_⟩, by simp [hlen], rfl, hbk, ?_⟩
    · intro i cs hi
      rw [List.getElem?_map, Option.map_eq_some_iff] at hi
      obtain ⟨j, hj, rfl⟩ := hi
      obtain ⟨hjl, hjj⟩ := List.getElem?_eq_some_iff.1 hj
      simp at hjl hjj
      subst hjj
      obtain ⟨_, h4, h5⟩ := World.cells?_some (hcI i hjl)
      refine ⟨h4, fun j u hu => ?_⟩
      have hj2 := (List.getElem?_eq_some_iff.1 hu).1
      have := h5 j (by omega)
      rw [Addr.add_mk, hu] at this
      exact this
    · intro i cs y hi hy
      simp only [Option.getD_some] at hi
      rw [List.getElem?_map, Option.map_eq_some_iff] at hi
      obtain ⟨j, hj, rfl⟩ := hi
      obtain ⟨hjl, hjj⟩ := List.getElem?_eq_some_iff.1 hj
      simp at hjl hjj
      subst hjj
      obtain ⟨cs', y', h3, h4, h5⟩ := hcs i hjl
      rw [hcI i hjl] at h3
      cases h3
      rw [h4] at hy
      cases hy
      exact h5
variable {E : Env} {tI64 : Nat} (hT : TyTr P E tI64) {b : DataW H → Nat} {bs : List (DataW H) → Nat} (hB : BulkL b bs)
include hT hB
theorem open_tags {n : Nat} {c : Value} {x : DataW H × List MemPlace} (h : DataW.trod enc P W 0 (fun _ => true) true n E.t_l_spec_Tag [c] = some x) (hk : b x.1 ≤ 1048576) :
    ∃ u : List (Nat × List UInt8), UAt W c u ∧ (u.map fun x => 1 + x.2.length).sum + 1 ≤ b x.1 := by
  obtain ⟨f0, f1, hu, ⟨h0t, h0o⟩, ⟨h1t, h1o⟩⟩ := hT.tg
  obtain ⟨ls, ys, m, ha, hl, rfl, hbk, hel⟩ := open_things hT.lu hT.cU (by omega) hB h hk
  -- one tag
  have one : ∀ cs (y : DataW H × List MemPlace), DataW.trod enc P W 0 (fun _ => true) true m E.t_spec_Tag cs = some y → ∃ (k : Nat) (bv : Value) (s : List UInt8), cs = [.int .u32 k, bv] ∧ k < 4294967296 ∧ BytesAt W All bv s ∧ 1 + s.length ≤ b y.1 := by
    intro cs y hy
    obtain ⟨xs, m', rfl, hx, hcl, hxl, hf⟩ := DataW.trod_struct hu hy
    rw [hT.cU] at hcl
    obtain ⟨c0, c1, rfl⟩ : ∃ c0 c1, cs = [c0, c1] := by
      match cs, hcl with
      | [c0, c1], _ => exact ⟨c0, c1, rfl⟩
    obtain ⟨x0, x1, rfl⟩ : ∃ x0 x1, xs = [x0, x1] := by
      match xs, hxl with
      | [x0, x1], _ => exact ⟨x0, x1, rfl⟩
    have e0 := hf 0 f0 rfl
    have e1 := hf 1 f1 rfl
    rw [h0t, h0o, hT.c1.2.1] at e0
    rw [h1t, h1o, hT.c1.2.2.2.2.1] at e1
    simp at e0 e1
    obtain ⟨k, hk0, _, hw⟩ := DataW.trod_int hT.u32 e0
    cases hk0
    simp [Lit.wf, IntKind.min, IntKind.max, IntKind.signed, IntKind.bits] at hw
    obtain ⟨s, hs, hsb⟩ := open_bytesIn hT.bs hT.u8 hT.c1.2.2.1 hB e1
    refine ⟨k.toNat, c1, s, by simp; omega, by omega, hs, ?_⟩
    rw [hx, hB.agg]
    simp only [List.map_cons, List.map_nil, hB.cons, hB.nil]
    omega
  have all : ∀ (L : List (List Value)) (ys : List (DataW H × List MemPlace)), ys.length = L.length → (∀ (i : Nat) cs y, L[i]? = some cs → ys[i]? = some y → DataW.trod enc P W 0 (fun _ => true) true m E.t_spec_Tag cs = some y) →
      ∃ u : List (Nat × List UInt8), u.length = L.length ∧ (∀ (i : Nat) c x, L[i]? = some c → u[i]? = some x → ∃ bv, c = [.int .u32 x.1, bv] ∧ x.1 < 4294967296 ∧ BytesAt W All bv x.2) ∧ (u.map fun x => 1 + x.2.length).sum ≤ bs (ys.map (·.1)) := by
    intro L
    induction L with
    | nil =>
      intro ys hl _
      have : ys = [] := List.eq_nil_of_length_eq_zero hl
      subst this
      exact ⟨[], rfl, fun i c x h => by simp at h, by simp⟩
    | cons cs L ih =>
      intro ys hl hel
      cases ys with
      | nil => simp at hl
      | cons y ys =>
        obtain ⟨u, h1, h2, h3⟩ := ih ys (by simpa using hl) (fun i cs y hi hy => hel (i + 1) cs y (by simpa using hi) (by simpa using hy))
        obtain ⟨k, bv, s, rfl, hk, hs, hsb⟩ := one cs y (hel 0 cs y rfl rfl)
        refine ⟨(k, s) :: u, by simp [h1], ?_, ?_⟩
        · intro i c x hi hx
          cases i with
          | zero => simp at hi hx; subst hi; subst hx; exact ⟨bv, rfl, hk, hs⟩
          | succ i => exact h2 i c x (by simpa using hi) (by simpa using hx)
        · simp only [List.map_cons, List.sum_cons, hB.cons]; omega
  obtain ⟨u, h1, h2, h3⟩ := all (ls.getD []) ys hl hel
  exact ⟨u, ⟨ls, ha, h1.symm, h2⟩, by omega⟩
theorem open_tree : ∀ (n : Nat) (cs : List Value) (x : DataW H × List MemPlace), DataW.trod enc P W 0 (fun _ => true) true n E.t_spec_Tree cs = some x → b x.1 ≤ 1048576 → ∃ t : Tr, TreeAt W cs t ∧ t.sz ≤ b x.1 := by
  intro n
  induction n using Nat.strongRecOn with
  | _ n ih =>
    intro cs x h hk
    obtain ⟨f0, f1, f2, f3, f4, hu, ⟨h0t, h0o⟩, ⟨h1t, h1o⟩, ⟨h2t, h2o⟩, ⟨h3t, h3o⟩, ⟨h4t, h4o⟩⟩ := hT.tr
    obtain ⟨xs, m, rfl, hx, hcl, hxl, hf⟩ := DataW.trod_struct hu h
    rw [hT.cT] at hcl
    obtain ⟨c0, c1, c2, c3, c4, rfl⟩ : ∃ c0 c1 c2 c3 c4, cs = [c0, c1, c2, c3, c4] := by
      match cs, hcl with
      | [c0, c1, c2, c3, c4], _ => exact ⟨c0, c1, c2, c3, c4, rfl⟩
    obtain ⟨x0, x1, x2, x3, x4, rfl⟩ : ∃ x0 x1 x2 x3 x4, xs = [x0, x1, x2, x3, x4] := by
      match xs, hxl with
      | [x0, x1, x2, x3, x4], _ => exact ⟨x0, x1, x2, x3, x4, rfl⟩
    have e0 := hf 0 f0 rfl
    have e1 := hf 1 f1 rfl
    have e2 := hf 2 f2 rfl
    have e3 := hf 3 f3 rfl
    have e4 := hf 4 f4 rfl
    obtain ⟨k1, k2, k3, k4, k5, k6, k7⟩ := hT.c1
    rw [h0t, h0o, k1] at e0
    rw [h1t, h1o, k5] at e1
    rw [h2t, h2o, k4] at e2
    rw [h3t, h3o, k6] at e3
    rw [h4t, h4o, k7] at e4
    simp at e0 e1 e2 e3 e4
    have hbx : b x.1 = b x0.1 + (b x1.1 + (b x2.1 + (b x3.1 + b x4.1))) + 1 := by
      rw [hx, hB.agg]
      simp only [List.map_cons, List.map_nil, hB.cons, hB.nil]
      omega
    obtain ⟨z, hz, _, hw⟩ := DataW.trod_int hT.i64 e0
    cases hz
    simp [Lit.wf, IntKind.min, IntKind.max, IntKind.signed, IntKind.bits] at hw
    obtain ⟨bb, hbb, _⟩ := DataW.trod_bool hT.bool e2
    cases hbb
    obtain ⟨s, hs, hsb⟩ := open_bytesIn hT.bs hT.u8 k3 hB e1
    obtain ⟨u, hua, hub⟩ := open_tags hT hB e4 (by omega)
    obtain ⟨ls, ys, m', ha, hl, hm', hbk, hel⟩ := open_things hT.lt hT.cT (by omega) hB e3 (by omega)
    subst hm'
    have all : ∀ (L : List (List Value)) (ys : List (DataW H × List MemPlace)), ys.length = L.length → bs (ys.map (·.1)) ≤ 1048576 → (∀ (i : Nat) cs y, L[i]? = some cs → ys[i]? = some y → DataW.trod enc P W 0 (fun _ => true) true m' E.t_spec_Tree cs = some y) →
        ∃ l : List Tr, l.length = L.length ∧ (∀ (i : Nat) c t, L[i]? = some c → l[i]? = some t → TreeAt W c t) ∧ Tr.szL l ≤ bs (ys.map (·.1)) := by
      intro L
      induction L with
      | nil =>
        intro ys hl _ _
        have : ys = [] := List.eq_nil_of_length_eq_zero hl
        subst this
        exact ⟨[], rfl, fun i c x h => by simp at h, by simp [Tr.szL]⟩
      | cons cs L ihL =>
        intro ys hl hkk hel
        cases ys with
        | nil => simp at hl
        | cons y ys =>
          simp only [List.map_cons, hB.cons] at hkk
          obtain ⟨l, h1, h2, h3⟩ := ihL ys (by simpa using hl) (by omega) (fun i cs y hi hy => hel (i + 1) cs y (by simpa using hi) (by simpa using hy))
          obtain ⟨t, ht, htz⟩ := ih m' (by omega) cs y (hel 0 cs y rfl rfl) (by omega)
          refine ⟨t :: l, by simp [h1], ?_, ?_⟩
          · intro i c x hi hx
            cases i with
            | zero => simp at hi hx; subst hi; subst hx; exact ht
            | succ i => exact h2 i c x (by simpa using hi) (by simpa using hx)
          · simp only [List.map_cons, Tr.szL, hB.cons]; omega
    obtain ⟨l, h1, h2, h3⟩ := all (ls.getD []) ys hl (by omega) hel
    refine ⟨.mk z s bb l u, .mk ⟨by omega, by omega⟩ hs ha h1.symm h2 hua, ?_⟩
    have hp0 := hB.pos x0.1
    simp only [Tr.sz]
    omega
/-- an argument -/
theorem open_arg {cs : Array Value} {d : DataW H} {ps : List MemPlace} (h : DataW.Trod enc P W 0 (fun _ => true) true E.t_spec_Tree (.agg cs) d ps) (hk : b d ≤ 1048576) : ∃ t : Tr, TreeAt W cs.toList t ∧ t.sz ≤ 1048576 := by
  obtain ⟨n, hn⟩ := h
  obtain ⟨t, h1, h2⟩ := open_tree hT hB n _ _ hn hk
  exact ⟨t, h1, Nat.le_trans h2 hk⟩
end
/-- a struct's value -/
theorem agg_of_ok {P : Program} {w : World} {r : Reach} {base t : Nat} {v : Value} {fs : Array Field} (hu : P.underlying t = some (.struct fs)) (h : Value.okWide P w r base t v) : ∃ cs : Array Value, v = .agg cs := by
  simp only [Value.okWide, hu] at h
  obtain ⟨cs, rfl, _⟩ := h
  exact ⟨cs, rfl⟩
end Go.Kg

set_option linter.unusedSimpArgs false
set_option linter.unusedVariables false
namespace Go.Kg
open Go
/-- the contract of the literal in AppendEach -/
def AE1C (P : Program) (E : Env) : Prop := ∀ {base bd : Nat} {w0 w : World} {v0 v val : Value} {prot : Nat → Prop} {s : List UInt8} {x : Nat × List UInt8} {K : Nat → Prop},
    DstAt E base bd w0 v0 prot s w v → w0.heap.size ≤ bd → base ≤ w0.heap.size → ¬ prot bd → ¬ own1 v bd → x.1 < 4294967296 → x.2.length < 4294967296 → BytesAt w K val x.2 → (∀ k, K k → k < base) → s.length + (tagW x).length ≤ 1099511627776 →
    Ret P E.f_pkmsg_Tags_AppendEach_1 #[.int .u32 x.1, val, .pointer (some ⟨bd, 0, none⟩)] w fun _ w' => ∃ v', DstAt E base bd w0 v0 prot (s ++ tagW x) w' v' ∧ ¬ own1 v' bd ∧ ∀ k, prot k → w'.heap[k]? = w.heap[k]?
/-- while the tags are written -/
structure OutI (E : Env) (base bd n0 n1 : Nat) (w0 : World) (v0 : Value) (s : List UInt8) (l : TagL) (pt fn ov : Value) (w5 : World) (f : Nat → Value) (w : World) (i : Nat) : Prop where
  f0 : f 0 = pt
  f1 : f 1 = fn
  f37 : f 37 = ov
  f38 : f 38 = .int .i64 l.length
  f39 : f 39 = .int .i64 i
  il : i ≤ l.length
  st : ∃ v, DstAt E base bd w0 v0 (fun k => n0 ≤ k ∧ k < n1) (s ++ ((sortTags l).take i).flatMap tagW) w v ∧ ¬ own1 v bd
  same : ∀ k, n0 ≤ k → k < n1 → w.heap[k]? = w5.heap[k]?
theorem stp_callF {P : Program} {f : Nat → Value} {ty : TypeId} {w : World} {K : Value → World → Prop} {t g : Nat} {xs : Array Operand} {ts : Array TypeId} {first cap : Array Value} (h : f t = .func (.func g) first cap) :
    stp P f (.call { callee := .value (.tmp t), args := xs, argTypes := ts }) ty w K = Ret P g (first ++ xs.map (evF f) ++ cap) w K := by simp only [stp, callK, h]
theorem keys_back : ∀ (L : List Value), (∀ v ∈ L, ∃ x : Nat, v = .int .u32 x) → L = (L.map fun v => match v with | .int _ n => n.toNat | _ => 0).map fun x : Nat => Value.int .u32 x
  | [], _ => rfl
  | v :: L, h => by
    obtain ⟨x, rfl⟩ := h v (List.mem_cons_self ..)
    simp only [List.map_cons, Int.toNat_natCast]
    rw [← keys_back L (fun v hv => h v (List.mem_cons_of_mem _ hv))]
theorem flat_le {α : Type} (g : α → List UInt8) : ∀ (l : List α) (i : Nat), ((l.take i).flatMap g).length ≤ (l.flatMap g).length
  | [], i => by simp
  | a :: l, 0 => by simp
  | a :: l, i + 1 => by have := flat_le g l i; simp only [List.take_succ_cons, List.flatMap_cons, List.length_append]; omega
section
variable {P : Program} {E : Env} (ht : TyTg P E)
include ht
set_option maxHeartbeats 4000000 in
theorem c_EachT (kS : kindOf P E.t_l_uint32 = .scl) (k32 : kindOf P E.tU32 = .scl) (hS : SliI P E.t_l_uint32 E.tU32 1 4 (.int .u32 0)) (hi : intKind? P E.tU32 = some .u32) (hu : P.underlying E.tU32 = some (.int .u32)) (hi' : intKind? P E.tInt = some .i64) (hzS : zeroOf P E.t_l_uint32 = some (.slice none 0 0))
    (hI : FnIs P E.f_pkmsg_Tags_Each nt_pkmsg_Tags_Each (rs_pkmsg_Tags_Each E) (ir_pkmsg_Tags_Each E)) (hA : AE1C P E) (hSo : SortC P E)
    {base bd : Nat} {w0 w : World} {v0 v : Value} {s s0 : List UInt8} {b o : Nat} {u : Value} {l : TagL}
    (hD : DstAt E base bd w0 v0 (fun _ => False) s w v) (hbd : w0.heap.size ≤ bd) (hb0 : base ≤ w0.heap.size) (hnb : ¬ own1 v bd) (ho0 : OwnB E.tU8 w0 base v0 s0)
    (hb : ¬ own1 v0 b) (hc : w0.cell? ⟨b, o, none⟩ = some u) (hl : TagsAt w0 (· < base) u l) (hok : tagsOk l) (hne : l ≠ []) (hsz : s.length + (tagsOut l).length ≤ 1099511627776) :
    Ret P E.f_pkmsg_Tags_Each #[.pointer (some ⟨b, o, none⟩), .func (.func E.f_pkmsg_Tags_AppendEach_1) #[] #[.pointer (some ⟨bd, 0, none⟩)]] w fun _ w' => ∃ v', DstAt E base bd w0 v0 (fun _ => False) (s ++ tagsOut l) w' v' := by
  obtain ⟨hcw, hlw⟩ := hD.tags ho0 hb hc hl
  have hpos : 0 < l.length := List.length_pos_iff.2 hne
  rcases tagsAt_iff.1 hlw with ⟨_, h⟩ | ⟨m, es, clock, rfl, hm, hmb, he, hnd, hnb', hlen⟩
  · exact absurd h hne
  have hesl : es.size = l.length := by simpa using he.get.1
  have hbdlt := lt_of_heap hD.cell
  have hwsz := hD.grew.ext.size
  refine hI.call (args := [_, _]) (by simp [nt_pkmsg_Tags_Each]) ?_
  have hm1 : (mapLen? w (some m)) = some (.int .i64 es.size) := by simp [mapLen?, hmb]
  simp [ir_pkmsg_Tags_Each, rs_pkmsg_Tags_Each, ht.g0, Addr.add_mk, ld_scl ht.kM, hcw, isM ht, hm1]
  have hes0 : es ≠ #[] := by rintro rfl; simp at hesl; omega
  refine cw_false (by simp [hes0]) ?_
  simp [ht.g0, Addr.add_mk, ld_scl ht.kM, hcw, isM ht, hm1]
  obtain ⟨ii, hinf, hzi, hsi, hbi⟩ := hS.inf
  obtain ⟨w1, hmk, how1, hg1⟩ := run_make_own (P := P) w w.heap.size E.t_l_uint32 E.tU32 ii _ 1 hS.und hinf hzi hsi .i64 .i64 es.size (by rw [hbi]; have := hok.1; omega) (by have := hok.1; simp [maxLen]; omega) (Nat.le_refl _)
  rw [stepF_ok (v := .slice (some ⟨w.heap.size, 0, none⟩) 0 es.size) (w' := w1) (by simp [runF, execOp, hmk])]
  have hE1 : Ext none1 w w1 := ⟨hg1.os, hg1.tape, hg1.output, hg1.size, fun k hk _ => hg1.block k hk (by simp)⟩
  have ho1 : Own w1 w.heap.size E.tU32 1 (.slice (some ⟨w.heap.size, 0, none⟩) 0 es.size) [] := ⟨0, how1⟩
  have hlt1 : w.heap.size < w1.heap.size := (Own.below ho1 (b := w.heap.size) rfl).2
  simp [hzS, Value.cells, store_scl kS, put1K_blk alloc_new]
  generalize hw2 : (w1.alloc (.cells #[.slice none 0 0] E.t_l_uint32)).setBlk w1.heap.size (.cells #[.slice (some ⟨w.heap.size, 0, none⟩) 0 es.size] E.t_l_uint32 (0, 0)) = w2
  have hE2 : Ext none1 w1 w2 := by subst hw2; exact ((Ext.refl _ w1).alloc _).setBlk (Or.inl (Nat.le_refl _)) _
  have hs2 : w2.heap.size = w1.heap.size + 1 := by subst hw2; simp
  have hb2 : w2.heap[w1.heap.size]? = some (.cells #[.slice (some ⟨w.heap.size, 0, none⟩) 0 es.size] E.t_l_uint32 (0, 0)) := by subst hw2; exact setBlk_same alloc_new
  have hE02 : Ext none1 w w2 := hE1.trans hE2
  have hcw2 : w2.cell? ⟨b, o, none⟩ = some (.map (some m)) := hE02.cell hcw (fun h => h)
  have hm2 : w2.heap[m]? = some (.map es clock) := hE02.old hmb (fun h => h)
  refine ⟨rfl, ?_⟩
  simp [ht.g0, Addr.add_mk, ld_scl ht.kM, hcw2]
  rw [stepF_ok (v := .pointer (some ⟨w2.heap.size, 0, none⟩)) (w' := w2.alloc (.mapIter (some m) clock #[] clock)) (by simp [runF, execOp, run_range_map w2 _ _ _ m es clock ht.uM hm2])]
  generalize hw3 : w2.alloc (.mapIter (some m) clock #[] clock) = w3
  have hE3 : Ext none1 w2 w3 := by subst hw3; exact (Ext.refl _ w2).alloc _
  have hs3 : w3.heap.size = w2.heap.size + 1 := by subst hw3; simp
  have hi3 : w3.heap[w2.heap.size]? = some (.mapIter (some m) clock #[] clock) := by subst hw3; exact alloc_new
  have hE03 : Ext none1 w w3 := hE02.trans hE3
  have hm3 : w3.heap[m]? = some (.map es clock) := hE03.old hmb (fun h => h)
  refine cw_loop (fun f w' => RngI E base bd w.heap.size w0 v0 s v w2.heap.size w1.heap.size m es clock (.pointer (some ⟨b, o, none⟩)) (.func (.func E.f_pkmsg_Tags_AppendEach_1) #[] #[.pointer (some ⟨bd, 0, none⟩)]) w f w') (fun _ w' => rLeft w' m w2.heap.size) ?_ ?_
  · refine ⟨hE03.mono (fun _ _ h => h.elim), by simp, by simp, by simp, by simp, #[], clock, _, [], hi3, Nat.le_refl _, hE3.old hb2 (fun h => h), Own.ext (Own.ext ho1 hE2 (fun _ _ h => h)) hE3 (fun _ _ h => h), ?_, ?_, by simp⟩
    · intro k hk
      have := (Own.below ho1 hk)
      have : k = w.heap.size := by cases hk; rfl
      omega
    · have : (es.toList.filter fun x : MapEntry => !(#[] : Array Nat).contains x.born) = es.toList := by rw [List.filter_eq_self]; intro x _; simp
      rw [this]; simp
  · intro f3 w4 hR
    have hsz4 := hR.ext.size
    have hm4 : w4.heap[m]? = some (.map es clock) := hR.ext.old hmb (by omega)
    have he4 : EL w4 (· < base) clock es.toList l := by
      have := tagsAt_iff.1 ((hlw.ext (C := fun x => w.heap.size ≤ x) hR.ext (fun b _ hb h => by omega)))
      rcases this with ⟨h, _⟩ | ⟨m', es', clock', h, _, hb', he', _⟩
      · cases h
      · cases h
        rw [hm4] at hb'; cases hb'; exact he'
    have hit4 : w2.heap.size < w4.heap.size := by
      obtain ⟨_, _, _, _, h, _⟩ := hR.st
      exact lt_of_heap h
    refine c_round ht (base := base) (bd := bd) (v0 := v0) (v := v) (s := s) kS hS hi hR hm4 he4 hnb' (by have := hok.1; omega) ⟨by omega, hit4⟩ ⟨by omega, by omega⟩ (by omega) (by omega) ?_ ?_
    · rintro f4 w4 rfl hk _ ⟨seen', c0', hr', h0⟩
      obtain ⟨seen, c0, ov, done, hr, hc0, hbo, ho, hoff, hperm, hdl⟩ := hR.st
      rw [hr] at hr'
      cases hr'
      have hseen := all_seen es seen' h0
      have hfil : (es.toList.filter fun x => !seen'.contains x.born) = [] := by
        rw [List.filter_eq_nil_iff]; intro x hx; have := hseen x hx; simp at this; simp [this]
      rw [hfil] at hperm
      simp only [List.map_nil, List.nil_append, he4.keys] at hperm
      obtain ⟨d, hd, hdp⟩ : ∃ d : List Nat, done = d.map (fun x : Nat => Value.int .u32 x) ∧ d.Perm (l.map (·.1)) := by
        refine ⟨done.map fun v => match v with | .int _ n => n.toNat | _ => 0, ?_, ?_⟩
        · refine keys_back done fun v hv => ?_
          obtain ⟨x, _, rfl⟩ := List.mem_map.1 (hperm.mem_iff.1 hv)
          exact ⟨x.1, rfl⟩
        · refine (hperm.map _).trans ?_
          rw [List.map_map]
          exact List.Perm.of_eq (List.map_congr_left fun x _ => by simp)
      have hdl' : d.length = l.length := by rw [hdp.length_eq]; simp
      obtain ⟨n, hnl, hov⟩ := ho
      have hn : n = l.length := by rw [hd] at hnl; simp at hnl; omega
      rcases hov with ⟨_, h⟩ | ⟨g, cap, cur, rfl, hg, hgb, hncap, hcm, hcs, htake⟩
      · omega
      have hgo := hoff g rfl
      have hgo' : w.heap.size ≤ g := hg
      have hglt := lt_of_heap hgb
      have cbp : w4.cell? ⟨w1.heap.size, 0, none⟩ = some (.slice (some ⟨g, 0, none⟩) n cap) := by rw [cell_of_blk hbo]; rfl
      have k4 : f4 4 = .pointer (some ⟨w1.heap.size, 0, none⟩) := (hk 4 (by omega) (by omega)).trans hR.f4
      have k0 : f4 0 = _ := (hk 0 (by omega) (by omega)).trans hR.f0
      have k1 : f4 1 = _ := (hk 1 (by omega) (by omega)).trans hR.f1
      simp [k4, ld_scl kS, cbp]
      rw [stepF_ok (v := .iface E.t_l_uint32 (.slice (some ⟨g, 0, none⟩) n cap)) (w' := w4) (by simp [runF, execOp, Instr.makeInterface, run_underlying hS.und])]
      have hrow : ∀ (i x : Nat), d[i]? = some x → cur[i]? = some (Value.int .u32 (x : Int)) := by
        intro i x hx
        have h1 : (cur.toList.take (n * 1))[i]? = some (Value.int .u32 (x : Int)) := by rw [htake, hd, List.getElem?_map, hx]; rfl
        rw [List.getElem?_take] at h1
        split at h1
        · simpa using h1
        · cases h1
      have hS5 := hSo w4 w1.heap.size g cap d cur (by rw [cbp, hn, hdl']) (by omega) hgb hrow (by omega) (by rw [hdl']; exact hlen.1)
      rw [hdl', ← hn] at hS5
      refine hS5.mono ?_
      rintro _ w5 ⟨d', hd'p, hd's, hE5, hd'c⟩
      have hd'e := sorted_keys hnd (hd'p.trans hdp) hd's
      have hs5 := hE5.size
      have hbp5 : w5.heap[w1.heap.size]? = some (.cells #[.slice (some ⟨g, 0, none⟩) n cap] E.t_l_uint32 (0, 0)) := hE5.old hbo (by omega)
      have cbp5 : w5.cell? ⟨w1.heap.size, 0, none⟩ = some (.slice (some ⟨g, 0, none⟩) n cap) := by rw [cell_of_blk hbp5]; rfl
      simp [k4, ld_scl kS, cbp5, len_slice hS.und]
      have hE05 : Ext (fun x => w.heap.size ≤ x) w w5 := hR.ext.trans (hE5.mono (fun _ _ e => by omega))
      have hD5 := hD.ext hE05 (by omega) (fun k hk => (Own.below hD.own hk).2) hD.grew.size
      refine cw_loop (fun f w' => ∃ i, OutI E base bd w.heap.size w5.heap.size w0 v0 s l (.pointer (some ⟨b, o, none⟩)) (.func (.func E.f_pkmsg_Tags_AppendEach_1) #[] #[.pointer (some ⟨bd, 0, none⟩)]) (.slice (some ⟨g, 0, none⟩) n cap) w5 f w' i) (fun f _ => match f 39 with | .int _ i => l.length - i.toNat | _ => 0) ?_ ?_
      · exact ⟨0, by simp [k0], by simp [k1], by simp, by simp [hn], by simp, by omega, ⟨v, by simpa using hD5, hnb⟩, fun _ _ _ => rfl⟩
      · rintro f6 w6 ⟨i, hO⟩
        obtain ⟨v6, hD6, hn6⟩ := hO.st
        simp [hO.f38, hO.f39]
        by_cases hil : i < l.length
        · refine cw_true (by simp [hil]) ?_
          obtain ⟨x, hx⟩ : ∃ x, (sortTags l)[i]? = some x := ⟨_, List.getElem?_eq_getElem (by rw [sortTags_len]; exact hil)⟩
          have hxl : x ∈ l := (sortTags_mem l x).1 (List.mem_of_getElem? hx)
          have hcell : w6.cell? ⟨g, i, none⟩ = some (.int .u32 x.1) := by
            rw [World.cell?_of_block (a := ⟨g, i, none⟩) (hO.same g hgo' (by omega))]
            refine hd'c i x.1 ?_
            rw [hd'e, List.getElem?_map, hx]; rfl
          obtain ⟨hcw6, hlw6⟩ := hD6.tags ho0 hb hc hl
          rcases tagsAt_iff.1 hlw6 with ⟨h, _⟩ | ⟨m', es', clock', h, _, hb6, he6, hnd6, _⟩
          · cases h
          cases h
          obtain ⟨hx32, j, val, hfind, hval⟩ := he6.find 0 hnd6 x hxl
          have hxb := hok.2.2 x hxl
          have htk : (sortTags l).take (i + 1) = (sortTags l).take i ++ [x] := by rw [List.take_add_one, hx]; rfl
          have hszx : (s ++ ((sortTags l).take i).flatMap tagW).length + (tagW x).length ≤ 1099511627776 := by
            have := flat_le tagW (sortTags l) (i + 1)
            rw [htk] at this
            have e : tagsOut l = (sortTags l).flatMap tagW := rfl
            rw [e] at hsz
            simp only [List.flatMap_append, List.flatMap_cons, List.flatMap_nil, List.append_nil, List.length_append] at this ⊢
            omega
          have hidx := idx_of (P := P) (T := E.t_l_uint32) hS.siz (p := ⟨g, 0, none⟩) (n := n) (c := cap) (k := .i64) (i := i) (by omega)
          simp [hO.f37, hO.f39, hidx, Addr.add_mk, ld_scl k32, hcell, hO.f0, hO.f1, ht.g0, ld_scl ht.kM, hcw6]
          rw [stepF_ok (v := val) (w' := w6) (by simp [runF, execOp, run_lookup ht.uM hu hb6 hfind])]
          rw [stp_callF (g := E.f_pkmsg_Tags_AppendEach_1) (first := #[]) (cap := #[.pointer (some ⟨bd, 0, none⟩)]) (by simp)]
          simp
          refine (hA hD6 hbd hb0 (by omega) hn6 hx32 (by omega) hval (fun _ h => h) hszx).mono ?_
          rintro _ w7 ⟨v7, hD7, hn7, hp7⟩
          have hwi : IntKind.i64.wrap ((i : Int) + 1) = ((i + 1 : Nat) : Int) := by rw [i64_small (by omega) (by omega)]; rfl
          simp [hO.f39, hwi]
          refine ⟨⟨i + 1, by simp [hO.f0], by simp [hO.f1], by simp [hO.f37], by simp [hO.f38], by simp, by omega, ⟨v7, ?_, hn7⟩, fun k h1 h2 => (hp7 k ⟨h1, h2⟩).trans (hO.same k h1 h2)⟩, ?_⟩
          · rw [htk]; simpa [List.append_assoc] using hD7
          · omega
        · refine cw_false (by simp; omega) ?_
          simp
          have hi' : i = l.length := Nat.le_antisymm hO.il (by omega)
          subst hi'
          refine ⟨v6, ?_⟩
          rw [List.take_of_length_le (by rw [sortTags_len]; exact Nat.le_refl _)] at hD6
          exact ⟨hD6.cell, hD6.own, hD6.grew, fun _ h => h.elim⟩
    · intro f' w' h1 h2
      exact ⟨h1, h2⟩
end
end Go.Kg

set_option linter.unusedSimpArgs false
set_option linter.unusedVariables false
namespace Go.Kg
open Go
section
variable {P : Program} {E : Env} (ht : TyTg P E)
include ht
theorem tagsC (kS : kindOf P E.t_l_uint32 = .scl) (k32 : kindOf P E.tU32 = .scl) (hS : SliI P E.t_l_uint32 E.tU32 1 4 (.int .u32 0)) (hS8 : SliI P E.tBs E.tU8 1 1 (.int .u8 0)) (hi : intKind? P E.tU32 = some .u32) (hu : P.underlying E.tU32 = some (.int .u32)) (hi' : intKind? P E.tInt = some .i64) (hzS : zeroOf P E.t_l_uint32 = some (.slice none 0 0))
    (hI0 : FnIs P E.f_pkmsg_Tags_Len nt_pkmsg_Tags_Len (rs_pkmsg_Tags_Len E) (ir_pkmsg_Tags_Len E))
    (hI : FnIs P E.f_pkmsg_Tags_Each nt_pkmsg_Tags_Each (rs_pkmsg_Tags_Each E) (ir_pkmsg_Tags_Each E)) (hI1 : FnIs P E.f_pkmsg_Tags_AppendEach_1 nt_pkmsg_Tags_AppendEach_1 (rs_pkmsg_Tags_AppendEach_1 E) (ir_pkmsg_Tags_AppendEach_1 E))
    (hI2 : FnIs P E.f_pkmsg_Tags_AppendEach nt_pkmsg_Tags_AppendEach (rs_pkmsg_Tags_AppendEach E) (ir_pkmsg_Tags_AppendEach E))
    (hU : ∀ n : Nat, n < 4294967296 → WrC P E.tU8 E.f_kbin_AppendUvarint [.int .u32 n] (uvOut n)) (hSo : SortC P E) : TagsC P E tagsOk := by
  refine ⟨fun w K b o v l hc hl => c_TLen ht hI0 w K b o v l hc hl, ?_, hU⟩
  intro w base v s b o u l hok hb hc hl ho hbs hsz
  have hA : AE1C P E := fun hD h1 h2 h3 h4 h5 h6 h7 h8 h9 => c_AE1 ht hS8 hi hi' hI1 hU hD h1 h2 h3 h4 h5 h6 h7 h8 h9
  have hvc := (ownB_cells ho).1
  refine hI2.call (args := [_, _]) (by simp [nt_pkmsg_Tags_AppendEach]) ?_
  simp [ir_pkmsg_Tags_AppendEach, rs_pkmsg_Tags_AppendEach, hvc]
  generalize hw1 : w.alloc (.cells #[v] E.tBs) = w1
  have hX : Ext none1 w w1 := by subst hw1; exact (Ext.refl none1 w).alloc _
  have hb1 : w1.heap[w.heap.size]? = some (.cells #[v] E.tBs (0, 0)) := by subst hw1; exact alloc_new
  have hnb : ¬ own1 v w.heap.size := fun h => by have := (Own.below ho h).2; omega
  have hD : DstAt E base w.heap.size w v (fun _ => False) s w1 v := ⟨hb1, Own.ext ho hX (fun _ _ h => h), ⟨hX.mono (fun _ _ h => h.elim), fun _ h => .inl h⟩, fun _ h => h.elim⟩
  have hmain : Ret P E.f_pkmsg_Tags_Each #[.pointer (some ⟨b, o, none⟩), .func (.func E.f_pkmsg_Tags_AppendEach_1) #[] #[.pointer (some ⟨w.heap.size, 0, none⟩)]] w1 fun _ w' => ∃ v', DstAt E base w.heap.size w v (fun _ => False) (s ++ tagsOut l) w' v' := by
    by_cases hne : l = []
    · subst hne
      refine (c_Each0 ht hI w1 b o u _ (· < base) (hX.cell hc (fun h => h)) (hl.ext hX (fun _ _ _ h => h))).mono ?_
      rintro _ w' rfl
      exact ⟨v, by simpa [tagsOut, sortTags] using hD⟩
    · exact c_EachT ht kS k32 hS hi hu hi' hzS hI hA hSo hD (Nat.le_refl _) hbs hnb ho hb hc hl hok hne hsz
  refine hmain.mono ?_
  rintro _ w2 ⟨v2, hD2⟩
  have c2 : w2.cell? ⟨w.heap.size, 0, none⟩ = some v2 := by rw [cell_of_blk hD2.cell]; rfl
  simp [ld_scl ht.kBs, c2]
  exact ⟨hD2.own, hD2.grew⟩
end
end Go.Kg

set_option linter.unusedSimpArgs false
set_option linter.unusedVariables false
namespace Go.Kg
open Go Go.Proofs Go.Shelf Go.RowKit Go.Lib Go.Sort
def encU (n : Nat) : Value := .int .u32 n
def ltN (a b : Nat) : Bool := decide (a < b)
theorem swo_ltN : SWO ltN where
  irrefl x := by simp [ltN]
  trans x y z h1 h2 := by simp only [ltN, decide_eq_true_eq] at *; omega
  ntrans x y z h1 h2 := by simp only [ltN, decide_eq_false_iff_not] at *; omega
/-- ordered[i] < ordered[j] -/
theorem c_less {P : Program} {E : Env} (kS : kindOf P E.t_l_uint32 = .scl) (k32 : kindOf P E.tU32 = .scl) (hS : SliI P E.t_l_uint32 E.tU32 1 4 (.int .u32 0)) (hI : FnIs P E.f_pkmsg_Tags_Each_1 nt_pkmsg_Tags_Each_1 (rs_pkmsg_Tags_Each_1 E) (ir_pkmsg_Tags_Each_1 E))
    {W : World} {Bs blk c n : Nat} (G : Nat → Nat) (hs : W.cell? ⟨Bs, 0, none⟩ = some (.slice (some ⟨blk, 0, none⟩) n c)) (hc : ∀ t, t < n → W.cell? ⟨blk, t, none⟩ = some (.int .u32 (G t))) {i j : Nat} (hi : i < n) (hj : j < n) :
    Ret P E.f_pkmsg_Tags_Each_1 #[.int .i64 i, .int .i64 j, .pointer (some ⟨Bs, 0, none⟩)] W fun v w' => v = .bool (decide (G i < G j)) ∧ w' = W.drew := by
  refine hI.call (args := [_, _, _]) (by simp [nt_pkmsg_Tags_Each_1]) ?_
  simp [ir_pkmsg_Tags_Each_1, rs_pkmsg_Tags_Each_1]
  refine cw_regH (fun w' => w' = W.drew) rfl ?_
  have hs' : W.drew.cell? ⟨Bs, 0, none⟩ = some (.slice (some ⟨blk, 0, none⟩) n c) := hs
  have hi1 := idx_of (P := P) (T := E.t_l_uint32) hS.siz (p := ⟨blk, 0, none⟩) (n := n) (c := c) (k := .i64) hi
  have hj1 := idx_of (P := P) (T := E.t_l_uint32) hS.siz (p := ⟨blk, 0, none⟩) (n := n) (c := c) (k := .i64) hj
  have ci : W.drew.cell? ⟨blk, i, none⟩ = some (.int .u32 (G i)) := hc i hi
  have cj : W.drew.cell? ⟨blk, j, none⟩ = some (.int .u32 (G j)) := hc j hj
  simp [ld_scl kS, ld_scl k32, hs, hi1, hj1, Addr.add_mk, hc i hi, hc j hj]
/-- what is asked of the types, of Swapper's literals and of the shelf -/
structure SortTy (P : Program) (E : Env) (ρ : Ren) (ke f2 f6 : Nat) : Prop where
  L : LaysGg.n6 P ρ
  fS : ρ.f 6 = E.f_sort_Slice
  fc : Callable P E.f_sort_Slice
  info : ∃ i, P.info? E.t_l_uint32 = some i ∧ i.desc = .slice E.tU32
  pk : P.packed E.t_l_uint32 = false
  elem : ∃ ie, P.info? E.tU32 = some ie ∧ ie.size = 1 ∧ ie.hasPointers = false ∧ ie.bytes = 4
  kind : ∀ w, (Extern.Rtype.kind E.tU32).run P w = .ok ke w
  lit1 : P.funcs.findIdx? (·.name == "internal/reflectlite" ++ ".Swapper$" ++ toString 2) = some f2
  lit4 : P.funcs.findIdx? (·.name == "internal/reflectlite" ++ ".Swapper$" ++ toString 6) = some f6
  swap : ∃ gS, ∀ args W, (callFunc f6 args).run P W = ((Extern.ReflectliteSwapper.swap gS args).run P W).andThen fun v w' => .ok (.value v) w'
theorem swK4 {ie : TypeInfo} {ke n : Nat} (h1 : ie.hasPointers = false) (h2 : ie.bytes = 4) (hn : 2 ≤ n) : swapperK n ie ke = 6 := by
  have c : (n == 0) = false := by simp; omega
  have d : (n == 1) = false := by simp; omega
  simp [swapperK, h1, h2, c, d]
theorem enters_callable {P : Program} {g : Nat} (h : Callable P g) : ∀ args w, (callFunc g args).run P w = .ok (.enter g args) w := by
  obtain ⟨fn, c, h1, h2, h3⟩ := h
  exact enters_of h1 h3 h2
theorem sortC {P : Program} {E : Env} {ρ : Ren} {ke f2 f6 : Nat} (hT : SortTy P E ρ ke f2 f6) (kS : kindOf P E.t_l_uint32 = .scl) (k32 : kindOf P E.tU32 = .scl) (hS : SliI P E.t_l_uint32 E.tU32 1 4 (.int .u32 0)) (hI : FnIs P E.f_pkmsg_Tags_Each_1 nt_pkmsg_Tags_Each_1 (rs_pkmsg_Tags_Each_1 E) (ir_pkmsg_Tags_Each_1 E)) : SortC P E := by
  intro w Bs blk c d row hcell hne hblk hrow hpos hlen
  obtain ⟨i, hi, hd⟩ := hT.info
  obtain ⟨ie, hie, hs1, hp, hby⟩ := hT.elem
  have hlt := lt_of_heap hblk
  have hBlt := World.block_lt_of_cell? w _ hcell
  have hH : Holds encU w blk 0 d.toArray := by
    intro j hj
    have hj' : j < d.length := by simpa using hj
    have hr := hrow j d[j] (List.getElem?_eq_getElem hj')
    refine ⟨?_, ?_⟩
    · rw [Nat.zero_add, cell_of_blk hblk, hr]
      simp [encU, hj']
    · exact frozen_of_blk hblk
  refine ⟨hT.fc, ?_⟩
  by_cases h2 : 2 ≤ d.length
  · have hless : LessReads P E.f_pkmsg_Tags_Each_1 #[.pointer (some ⟨Bs, 0, none⟩)] encU ltN blk 0 d.toArray.size w := by
      intro m os dk hs i j hi hj
      have hs' : dk.size = d.toArray.size := hs
      have e : sortWorld encU w blk 0 m dk os = putRow encU (grow (Sort.ahead w m) os) blk 0 dk := by
        unfold sortWorld; rw [putRow_grow _ (Sort.ahead w m) _ blk 0 _ hlt]
      have hHg : Holds encU (grow (Sort.ahead w m) os) blk 0 d.toArray := holds_grow _ _ _ blk 0 d.toArray hlt (holds_ahead _ _ _ _ _ _ hH)
      have hr := c_less (n := d.length) (c := c) (Bs := Bs) (blk := blk) kS k32 hS hI (W := sortWorld encU w blk 0 m dk os) (fun t => dk[t]!) ?_ ?_ (i := i) (j := j) (by simpa using hi) (by simpa using hj)
      · exact hr.2.mono fun e w' ⟨v, he, hv, hw⟩ => ⟨by rw [he, hv]; rfl, 1, hw⟩
      · rw [e, cell?_putRow_other _ _ blk 0 dk _ (Or.inl (by show Bs ≠ blk; omega)), cell?_grow _ _ _ (by show Bs < w.heap.size; exact hBlt)]
        exact hcell
      · intro t ht
        rw [e]
        have := cell?_putRow encU _ blk 0 d.toArray dk hHg hs t (by rw [hs']; simpa using ht)
        rw [Nat.zero_add] at this
        exact this
    obtain ⟨gS, hx⟩ := hT.swap
    have hS' := Any.sort_Slice_sorted hT.L E.t_l_uint32 E.tU32 i ie hi hd hT.pk hie ke hT.kind hs1 (fun w => by obtain ⟨dd, i, g1, g2, g3, g4⟩ := kindOf_scl k32; simp [run_isAgg g1, g2]) encU (fun _ => rfl) ltN swo_ltN E.f_pkmsg_Tags_Each_1 #[.pointer (some ⟨Bs, 0, none⟩)]
      (enters_callable hI.callable) blk 0 c d.toArray (by simpa using h2) (by simp; omega) f6 (by rw [swK4 hp hby (by simpa using h2)]; exact hT.lit4) gS hx w hless hH hlt
    rw [hT.fS] at hS'
    refine hS'.mono ?_
    rintro e w' ⟨rfl, d', n, os, hP, hSo, rfl⟩
    refine ⟨_, rfl, d'.toList, ?_, ?_, ?_, ?_⟩
    · have h3 := hP.2.2
      have e1 : d'.extract 0 d.toArray.size = d' := by rw [← hP.1]; exact Array.extract_size
      have e2 : d.toArray.extract 0 d.toArray.size = d.toArray := Array.extract_size
      rw [e1, e2] at h3
      simpa using h3
    · rw [List.pairwise_iff_getElem]
      intro i j hi hj hij
      have := hSo i j (Nat.zero_le _) hij (by rw [← hP.1]; simpa using hj)
      simp only [ltN, decide_eq_false_iff_not] at this
      have hi' : i < d'.size := by simpa using hi
      have hj' : j < d'.size := by simpa using hj
      rw [getElem!_pos d' i hi', getElem!_pos d' j hj'] at this
      simp only [Array.getElem_toList]
      omega
    · refine ⟨rfl, rfl, rfl, by simp [putRow, mapBlock, Sort.ahead], fun k hk hne => ?_⟩
      rw [heap_grow_old _ _ (by simpa [putRow, mapBlock, Sort.ahead] using hk)]
      simp only [putRow, mapBlock, Sort.ahead, Array.getElem?_modify]
      rw [if_neg (fun e => hne e.symm)]
    · intro i x hx
      have hx' : d'[i]? = some x := by simpa using hx
      obtain ⟨hi', hxe⟩ := Array.getElem?_eq_some_iff.1 hx'
      rw [cell?_grow _ _ _ (by simpa [putRow, mapBlock, Sort.ahead] using hlt)]
      have := cell?_putRow encU (Sort.ahead w n) blk 0 d.toArray d' (holds_ahead _ _ _ _ _ _ hH) hP.1 i hi'
      rw [Nat.zero_add, getElem!_pos d' i hi', hxe] at this
      exact this
  · have h1 : d.length = 1 := by omega
    have hS' := Any.sort_Slice_tiny hT.L E.t_l_uint32 E.tU32 i ie hi hd hT.pk hie ke hT.kind (some ⟨blk, 0, none⟩) d.length c (by omega) f2 (by rw [h1]; exact hT.lit1) (.func E.f_pkmsg_Tags_Each_1) #[] #[.pointer (some ⟨Bs, 0, none⟩)] w
    rw [hT.fS] at hS'
    refine hS'.mono ?_
    rintro e w' ⟨rfl, os, rfl⟩
    refine ⟨_, rfl, d, List.Perm.refl _, ?_, ?_, ?_⟩
    · match d, h1 with
      | [x], _ => simp
    · refine ⟨rfl, rfl, rfl, by simp, fun k hk hne => heap_grow_old _ _ hk⟩
    · intro i x hx
      rw [cell?_grow _ _ _ hlt, cell_of_blk hblk]
      exact hrow i x hx
end Go.Kg

set_option linter.unusedSimpArgs false
set_option linter.unusedVariables false
namespace Go.Kg
open Go
section
variable {P : Program} {E : Env} (ht : TyRs P E)
include ht
end
end Go.Kg

set_option linter.unusedSimpArgs false
set_option linter.unusedVariables false
set_option linter.unusedSectionVars false
namespace Go.Kg
open Go
structure TyWd (P : Program) (E : Env) (tLS tLN tN : Nat) (zs zn : Value) : Prop where
  sS : SliI P tLS E.tS 1 16 zs
  sN : SliI P tLN tN 2 24 zn
  kN : kindOf P tN = .agg 2
  n1 : fldOff P tN 1 = some 1
  kS : kindOf P E.tS = .scl
  zN : ∃ a b, zeroOf P tN = some (.agg #[a, b])
  pl : places P tN = some [(0, 1), (1, 1)]
  iInt : intKind? P E.tInt = some .i64
/-- a row of texts -/
def WordsAt (w : World) (v : Value) (ws : List ByteArray) : Prop := ∃ b c, v = .slice (some ⟨b, 0, none⟩) ws.length c ∧ ∀ (i : Nat) s, ws[i]? = some s → w.cell? ⟨b, i, none⟩ = some (.string s)
theorem WordsAt.ext {w w' : World} {v : Value} {ws : List ByteArray} (h : WordsAt w v ws) (he : Ext none1 w w') : WordsAt w' v ws := by
  obtain ⟨b, c, rfl, h⟩ := h
  exact ⟨b, c, rfl, fun i s hi => he.cell (h i s hi) (fun h => h)⟩
section
variable {P : Program} {E : Env} {tLS tLN tN : Nat} {zs zn : Value} (ht : TyWd P E tLS tLN tN zs zn)
include ht
/-- a row of names -/
def NamesAt (w : World) (v : Value) (ws : List ByteArray) : Prop := ∃ b c, v = .slice (some ⟨b, 0, none⟩) ws.length c ∧ ∀ (i : Nat) s, ws[i]? = some s → ∃ n, CellsAt w b (i * 2) [.int .i64 n, .string s]
theorem NamesAt.ext {w w' : World} {v : Value} {ws : List ByteArray} (h : NamesAt w v ws) (he : Ext none1 w w') : NamesAt w' v ws := by
  obtain ⟨b, c, rfl, h⟩ := h
  refine ⟨b, c, rfl, fun i s hi => ?_⟩
  obtain ⟨n, hc⟩ := h i s hi
  exact ⟨n, CellsAt.ext (K := fun _ => True) he (fun _ _ _ h => h) hc trivial⟩
end
end Go.Kg



set_option linter.unusedSimpArgs false
set_option linter.unusedVariables false
set_option linter.unusedSectionVars false
namespace Go.Kg
open Go
/-- the function that a type's table names -/
def methOf (P : Program) (T : Nat) (name : String) : Option (FuncId × Bool) := match P.info? T with
  | some i => match i.methods.find? (·.name == name) with
    | some m => if m.path.isEmpty then m.func else none
    | none => none
  | none => none
/-- the value itself is what the method is called on -/
def recvOk (P : Program) (T : Nat) (p : Bool) : Bool := match P.underlying T with
  | some (.pointer _) => p
  | some _ => !p
  | none => false
/-- a type that is no interface -/
def isCon (P : Program) (T : Nat) : Bool := match P.underlying T with
  | some (.interface _) => false
  | some _ => true
  | none => false
section
variable {P : Program} {f : Nat → Value} {ty : TypeId} {w : World} {K : Value → World → Prop}
theorem run_recv {T : Nat} {p : Bool} {v : Value} {nm : Option String} (h : recvOk P T p = true) : (receiverAt T (.val v) p nm).run P w = .ok v w := by
  unfold recvOk at h
  split at h
  · rename_i e hu
    subst h
    simp [receiverAt, run_underlying hu, Place.get]
  · rename_i d hnp hu
    have hp : p = false := by simpa using h
    subst hp
    cases d <;> first | exact absurd rfl (hnp _) | simp [receiverAt, run_underlying hu, Place.get]
  · cases h
theorem st_invoke {T g : Nat} {p : Bool} {v : Value} {name : String} {x : Operand} {args : Array Operand} {ts : Array TypeId} (hv : evF f x = .iface T v) (hm : methOf P T name = some (g, p)) (hr : recvOk P T p = true)
    (h : Ret P g (#[v] ++ args.map (evF f)) w K) : stepF P f (.call { callee := .invoke x name, args := args, argTypes := ts }) ty w K := by
  obtain ⟨fn, c, h1, h2, h3⟩ := h.1
  have h3' : ¬ fn.name = "runtime.NumGoroutine" := by simpa using h3
  unfold methOf at hm
  split at hm
  · rename_i i hi
    split at hm
    · rename_i m hm1
      split at hm
      · rename_i hp
        have hp' : m.path = #[] := by simpa using hp
        have hmeth : (method (P.types.size + Made.depth) T v name).run P w = .ok (g, v) w := by
          have : P.types.size + Made.depth = (P.types.size + (Made.depth - 1)) + 1 := by simp [Made.depth]
          rw [this]
          simp [method, typeInfo, hi, hm1, hp', follow, hm, run_recv hr]
        unfold stepF
        have : runF P f (.call { callee := .invoke x name, args := args, argTypes := ts }) ty w = .ok (.enter g (#[v] ++ args.map (evF f))) w := by
          have e0 : (#[Value.iface T v] ++ args.map (evF f))[0]? = some (.iface T v) := by rw [Array.getElem?_append_left (by simp)]; rfl
          have e1 : (#[Value.iface T v] ++ args.map (evF f)).extract 1 (#[Value.iface T v] ++ args.map (evF f)).size = args.map (evF f) := by
            rw [Array.extract_append]
            simp
          simp only [runF, execOp, resolve, invoke, hv, Sem.run_bind, Sem.run_pure, Result.andThen_ok, e0, e1, callMethod]
          simp [hmeth, callFunc, h1, h2, h3']
        rw [this]
        exact h.2
      · cases hm
    · cases hm
  · cases hm
@[simp] theorem stp_invoke {x : Operand} {name : String} {args : Array Operand} {ts : Array TypeId} : stp P f (.call { callee := .invoke x name, args := args, argTypes := ts }) ty w K = stepF P f (.call { callee := .invoke x name, args := args, argTypes := ts }) ty w K := (rfl)
theorem st_mkIface {T : Nat} {x : Operand} (h : isCon P T = true) : stp P f (.makeInterface T x) ty w K = K (.iface T (evF f x)) w := by
  show stepF P f (.makeInterface T x) ty w K = _
  refine stepF_ok ?_
  unfold isCon at h
  split at h
  · cases h
  · rename_i d hn hu
    have : (Instr.makeInterface T (evF f x)).run P w = .ok (.iface T (evF f x)) w := by
      cases d <;> first | exact absurd rfl (hn _) | simp [Instr.makeInterface, run_underlying hu]
    simp [runF, execOp, this]
  · cases h
@[simp] theorem convK_str {S D : TypeId} {x : Operand} {s : ByteArray} : convK P f S D x ty w K (.string s) = stepF P f (.convert S D x) ty w K := (rfl)
/-- a text as bytes: a new block -/
theorem st_strBytes {S D e : Nat} {z : Value} (hs : P.underlying S = some .string) (hd : SliI P D e 1 1 z) (he : intKind? P e = some .u8) {x : Operand} {l : List UInt8} (hx : evF f x = strV l)
    (h : ∀ v w', BytesAt w' (fun b => w.heap.size ≤ b) v l → Ext none1 w w' → K v w') : stepF P f (.convert S D x) ty w K := by
  have hr := Lib.run_convert_string_bytes (P := P) w S D e ⟨l.toArray⟩ hs hd.und (intKind_spec he)
  have hsz : (ByteArray.mk l.toArray).size = l.length := rfl
  rw [stepF_ok (v := .slice (some ⟨w.heap.size, 0, none⟩) l.length (grownCap w l.length 0 e)) (w' := Lib.bytesWorld w e ⟨l.toArray⟩)]
  · refine h _ _ (.inr ⟨w.heap.size, 0, _, rfl, grownCap_ge w l.length 0 e, fun _ => Nat.le_refl _, ?_⟩) ⟨rfl, rfl, rfl, by rw [Lib.bytesWorld_size]; omega, fun k hk _ => Lib.bytesWorld_at_old w e _ k hk⟩
    intro i y hi
    have hlt : i < l.length := (List.getElem?_eq_some_iff.1 hi).1
    rw [Nat.zero_add, Lib.bytesWorld_cell w e ⟨l.toArray⟩ i (by rw [hsz]; exact hlt)]
    have : l.getD i 0 = y := by simp [List.getD, hi]
    have e2 : (ByteArray.mk l.toArray).data.toList = l := by simp
    rw [e2, this]
  · simp only [runF, execOp, hx, strV, Sem.run_bind, hr, Result.andThen_ok, Sem.run_pure]
    rfl
end
/-- f writes 'out' over the first cells of a row that it is handed with length nought. -/
def InPl (P : Program) (u8 f : Nat) (args : List Value) (out : List UInt8) : Prop := ∀ w g cap cur, w.heap[g]? = some (.cells cur u8 (0, 0)) → out.length ≤ cap → cur.size = cap →
  Ret P f (#[.slice (some ⟨g, 0, none⟩) 0 cap] ++ args.toArray) w fun _ w' => Ext (· = g) w w' ∧ w'.heap[g]? = some (.cells (cellsOf out ++ cur.toList.drop out.length).toArray u8 (0, 0))
theorem st_over_lit {P : Program} {f : Nat → Value} {ty : TypeId} {K : Value → World → Prop} {t e : Nat} {z : Value} (hS : SliI P t e 1 1 z) {w0 : World} {x y : Operand} {g cap : Nat} {cur : Array Value} (hx : evF f x = .slice (some ⟨g, 0, none⟩) 0 cap)
    (hg : w0.heap[g]? = some (.cells cur e (0, 0))) (bs : List UInt8) {cs : Array Value} (hcs : cs = (cellsOf bs).toArray) (hy : evF f y = .slice (some ⟨w0.heap.size, 0, none⟩) bs.length bs.length) (hc : bs.length ≤ cap) (hcur : cur.size = cap)
    (h : ∀ v' w', Ext (· = g) w0 w' → w'.heap[g]? = some (.cells (cellsOf bs ++ cur.toList.drop bs.length).toArray e (0, 0)) → K v' w') :
    stepF P f (.call { callee := .builtin .append, args := #[x, y], argTypes := #[t, t] }) ty (w0.alloc (.cells cs e)) K := by
  subst hcs
  obtain ⟨i, h1, h2, h3, h4⟩ := hS.inf
  have hE := (Ext.refl (· = g) w0).alloc (.cells (cellsOf bs).toArray e)
  have hlt : g < w0.heap.size := (Array.getElem?_eq_some_iff.1 hg).1
  have hg' : (w0.alloc (.cells (cellsOf bs).toArray e)).heap[g]? = some (.cells cur e (0, 0)) := ((Ext.refl none1 w0).alloc _).old hg (fun h => h)
  have hr := run_append_room (P := P) (w0.alloc (.cells (cellsOf bs).toArray e)) t ty e i hS.und h1 g 0 cap cur hg' ⟨w0.heap.size, 0, none⟩ bs.length bs.length (cellsOf bs) (by simp [h3])
    (by
      intro j u hu
      rw [Addr.add_mk, cell_of_blk alloc_new]
      simpa using hu) cellsOf_one (by omega) (by simp; omega)
  rw [setRow_setBlk hg'] at hr
  rw [stepF_ok (v := .slice (some ⟨g, 0, none⟩) (0 + bs.length) cap) (w' := (w0.alloc (.cells (cellsOf bs).toArray e)).setBlk g (.cells ((cur.toList.take (0 * i.size) ++ cellsOf bs ++ cur.toList.drop (0 * i.size + (cellsOf bs).length)).toArray) e (0, 0)))]
  · refine h _ _ (hE.setBlk (.inr rfl) _) ?_
    rw [setBlk_same hg']
    simp
  · simp only [runF, execOp, resolve, invoke, builtin, Sem.run_bind, Sem.run_pure, Result.andThen_ok, List.map_toArray, List.map_cons, List.map_nil, hx, hy, hr]
section
variable {P : Program} {E : Env} (ht : TyWr P E)
include ht
theorem i_wU32 (hI : FnIs P E.f_kbin_AppendUint32 nt_kbin_AppendUint32 (rs_kbin_AppendUint32 E) (ir_kbin_AppendUint32 E)) (n : Nat) : InPl P E.tU8 E.f_kbin_AppendUint32 [.int .u32 n] (bigE 4 n) := by
  intro w g cap cur hg hc hcur
  refine hI.call (args := [_, _]) (by simp [nt_kbin_AppendUint32]) ?_
  simp [ir_kbin_AppendUint32, rs_kbin_AppendUint32, ht.iU32, ht.iU8, st_bsl ht.sBs, denseFrom, allSz, flat, Value.cells, u8wrap, bin?, IntKind.bits]
  refine st_over_lit ht.sBs (by simp) hg (bigE 4 n) ?_ (by simp) hc hcur ?_
  · simp [flat, cellsOf, Value.cells, bigE, bval, Int.fdiv_eq_ediv_of_nonneg]
    omega
  intro v' w' h1 h2
  exact ⟨h1, by simpa using h2⟩
theorem i_wInt32 (hI : FnIs P E.f_kbin_AppendInt32 nt_kbin_AppendInt32 (rs_kbin_AppendInt32 E) (ir_kbin_AppendInt32 E)) (hu : ∀ n : Nat, InPl P E.tU8 E.f_kbin_AppendUint32 [.int .u32 n] (bigE 4 n)) (n : Int) :
    InPl P E.tU8 E.f_kbin_AppendInt32 [.int .i32 n] (bigE 4 (n % 4294967296).toNat) := by
  intro w g cap cur hg hc hcur
  refine hI.call (args := [_, _]) (by simp [nt_kbin_AppendInt32]) ?_
  have e : IntKind.u32.wrap n = ((n % 4294967296).toNat : Nat) := by simp [IntKind.wrap, IntKind.signed, IntKind.bits]; omega
  simp [ir_kbin_AppendInt32, rs_kbin_AppendInt32, ht.iI32, ht.iU32, e]
  simpa using hu _ w g cap cur hg hc hcur
end
end Go.Kg

set_option linter.unusedVariables false
namespace Go.Kg
open Go
structure EnvX where (t_impl_Id : Nat) (t_pkmsg_ApiVersionsRequest : Nat) (t_kmsg_ApiVersionsRequest : Nat) (t_pkmsg_RequestFormatter : Nat) (t_kmsg_RequestFormatter : Nat) (t_l_kmsg_RequestFormatterOpt : Nat) (t_kmsg_RequestFormatterOpt : Nat) (f_kmsg_FormatterClientID_1 : Nat) (t_funcpkmsg_RequestFormatter : Nat) (t_kmsg_formatterOpt : Nat) (t_kmsg_Request : Nat) (f_kmsg_NewRequestFormatter : Nat) (f_kmsg_FormatterClientID : Nat) (f_pkmsg_RequestFormatter_AppendRequest : Nat) (f_kmsg_NewPtrApiVersionsRequest : Nat) (f_pkmsg_ApiVersionsRequest_SetVersion : Nat) (f_pkmsg_ApiVersionsRequest_ReadFrom : Nat) (f_impl_framed : Nat) (f_spec_Flexible : Nat) (f_laws_zzFits1 : Nat) (f_laws_idBytes : Nat) (t_l_uint8_bool : Nat) (f_impl_MaxApiVersionsRequest : Nat) (f_spec_ApiVersionsRequest : Nat) (f_impl_FrameApiVersions : Nat) (f_spec_Frame : Nat) (f_pkmsg_ApiVersionsRequest_GetVersion : Nat) (f_pkmsg_ApiVersionsRequest_Key : Nat) (f_pkmsg_ApiVersionsRequest_IsFlexible : Nat) (f_kmsg_formatterOpt_apply : Nat) (f_laws_FnFrameApiVersions : Nat) (f_pkmsg_ApiVersionsRequest_AppendTo : Nat)
def ir_laws_zzFits1 (E : Env) (V : EnvX) : Ir := (.seq (.reg [ ⟨none, some 1, .box V.t_impl_Id (.tmp 0), E.tNil⟩, ⟨none, some 2, .assign (.const (.bool false)), E.tB⟩]) (.seq (.seq (.reg [ ⟨none, some 3, .fieldAddr V.t_impl_Id (.tmp 1) 1, E.tNil⟩, ⟨none, some 4, .load E.tS (.tmp 3), E.tS⟩, ⟨none, some 5, .call { callee := .builtin .len, args := #[.tmp 4], argTypes := #[E.tS] }, E.tInt⟩, ⟨none, some 6, .binOp .gtr E.tInt (.tmp 5) (.const (.int .i64 2147483647)) E.tInt, E.tB⟩]) (.cond 6 (.seq (.reg [ ⟨none, some 2, .assign (.const (.bool false)), E.tB⟩]) .ret) .skip)) (.seq (.reg [ ⟨none, some 2, .assign (.const (.bool true)), E.tB⟩]) .ret)))
def nt_laws_zzFits1 : Nat := 7
def rs_laws_zzFits1 (E : Env) (V : EnvX) : List Rv := [.t 2]
def ir_laws_idBytes (E : Env) (V : EnvX) : Ir := (.seq (.reg [ ⟨none, some 1, .box V.t_impl_Id (.tmp 0), E.tNil⟩, ⟨none, some 2, .assign (.const (.slice none 0 0)), E.tBs⟩, ⟨none, some 3, .assign (.const (.bool false)), E.tB⟩]) (.seq (.regH [ (true, ⟨none, some 4, .fieldAddr V.t_impl_Id (.tmp 1) 1, E.tNil⟩), (true, ⟨none, some 5, .load E.tS (.tmp 4), E.tS⟩), (true, ⟨none, some 7, .fieldAddr V.t_impl_Id (.tmp 1) 1, E.tNil⟩), (true, ⟨none, some 8, .load E.tS (.tmp 7), E.tS⟩), (true, ⟨none, some 9, .call { callee := .builtin .len, args := #[.tmp 8], argTypes := #[E.tS] }, E.tInt⟩), (true, ⟨none, some 10, .binOp .leq E.tInt (.tmp 9) (.const (.int .i64 32767)) E.tInt, E.tB⟩), (false, ⟨none, some 6, .convert E.tS E.tBs (.tmp 5), E.tBs⟩), (true, ⟨none, some 2, .assign (.tmp 6), E.tBs⟩), (true, ⟨none, some 3, .assign (.tmp 10), E.tB⟩)]) .ret))
def nt_laws_idBytes : Nat := 11
def rs_laws_idBytes (E : Env) (V : EnvX) : List Rv := [.t 2, .t 3]
def ir_pkmsg_ApiVersionsRequest_GetVersion (E : Env) (V : EnvX) : Ir := (.seq (.reg [ ⟨none, some 2, .assign (.const (.int .i16 0)), E.tI16⟩]) (.seq (.reg [ ⟨none, some 3, .move (.tmp 0), V.t_pkmsg_ApiVersionsRequest⟩, ⟨none, some 4, .nilCheck (.tmp 3), E.tNil⟩, ⟨none, some 5, .fieldAddr V.t_kmsg_ApiVersionsRequest (.tmp 4) 0, E.tNil⟩, ⟨none, some 6, .load E.tI16 (.tmp 5), E.tI16⟩, ⟨none, some 2, .assign (.tmp 6), E.tI16⟩]) .ret))
def nt_pkmsg_ApiVersionsRequest_GetVersion : Nat := 7
def rs_pkmsg_ApiVersionsRequest_GetVersion (E : Env) (V : EnvX) : List Rv := [.t 2]
def ir_pkmsg_ApiVersionsRequest_Key (E : Env) (V : EnvX) : Ir := (.seq (.reg [ ⟨none, some 2, .assign (.const (.int .i16 0)), E.tI16⟩]) (.seq (.reg [ ⟨none, some 2, .assign (.const (.int .i16 18)), E.tI16⟩]) .ret))
def nt_pkmsg_ApiVersionsRequest_Key : Nat := 3
def rs_pkmsg_ApiVersionsRequest_Key (E : Env) (V : EnvX) : List Rv := [.t 2]
def ir_pkmsg_ApiVersionsRequest_IsFlexible (E : Env) (V : EnvX) : Ir := (.seq (.reg [ ⟨none, some 2, .assign (.const (.bool false)), E.tB⟩]) (.seq (.reg [ ⟨none, some 3, .move (.tmp 0), V.t_pkmsg_ApiVersionsRequest⟩, ⟨none, some 4, .nilCheck (.tmp 3), E.tNil⟩, ⟨none, some 5, .fieldAddr V.t_kmsg_ApiVersionsRequest (.tmp 4) 0, E.tNil⟩, ⟨none, some 6, .load E.tI16 (.tmp 5), E.tI16⟩, ⟨none, some 7, .binOp .geq E.tI16 (.tmp 6) (.const (.int .i16 3)) E.tI16, E.tB⟩, ⟨none, some 2, .assign (.tmp 7), E.tB⟩]) .ret))
def nt_pkmsg_ApiVersionsRequest_IsFlexible : Nat := 8
def rs_pkmsg_ApiVersionsRequest_IsFlexible (E : Env) (V : EnvX) : List Rv := [.t 2]
def ir_kmsg_NewRequestFormatter (E : Env) (V : EnvX) : Ir := (.seq (.reg [ ⟨none, some 2, .assign (.const (.pointer none)), V.t_pkmsg_RequestFormatter⟩]) (.seq (.reg [ ⟨none, some 6, .alloc V.t_kmsg_RequestFormatter, V.t_pkmsg_RequestFormatter⟩, ⟨none, some 3, .assign (.tmp 6), V.t_pkmsg_RequestFormatter⟩]) (.seq (.seq (.reg [ ⟨none, some 7, .move (.tmp 0), V.t_l_kmsg_RequestFormatterOpt⟩, ⟨none, some 8, .call { callee := .builtin .len, args := #[.tmp 7], argTypes := #[V.t_l_kmsg_RequestFormatterOpt] }, E.tInt⟩, ⟨none, some 9, .move (.const (.int .i64 0)), E.tInt⟩]) (.block 0 (.loop (.seq (.reg [ ⟨none, some 10, .binOp .lss E.tInt (.tmp 9) (.tmp 8) E.tInt, E.tNil⟩]) (.seq (.cond 10 .skip (.exit 0)) (.seq (.block 1 (.seq (.reg [ ⟨none, some 11, .indexAddr V.t_l_kmsg_RequestFormatterOpt (.tmp 7) (.tmp 9), E.tNil⟩, ⟨none, some 12, .load V.t_kmsg_RequestFormatterOpt (.tmp 11), V.t_kmsg_RequestFormatterOpt⟩, ⟨none, some 5, .assign (.tmp 12), V.t_kmsg_RequestFormatterOpt⟩]) (.reg [ ⟨none, some 13, .move (.tmp 5), V.t_kmsg_RequestFormatterOpt⟩, ⟨none, some 14, .move (.tmp 3), V.t_pkmsg_RequestFormatter⟩, ⟨none, some 15, .call { callee := .invoke (.tmp 13) "pub-kmsg/pub/kmsg.apply", args := #[.tmp 14], argTypes := #[V.t_pkmsg_RequestFormatter] }, E.tNil⟩]))) (.reg [ ⟨none, some 16, .binOp .add E.tInt (.tmp 9) (.const (.int .i64 1)) E.tInt, E.tInt⟩, ⟨none, some 9, .move (.tmp 16), E.tInt⟩]))))))) (.seq (.reg [ ⟨none, some 17, .move (.tmp 3), V.t_pkmsg_RequestFormatter⟩, ⟨none, some 2, .assign (.tmp 17), V.t_pkmsg_RequestFormatter⟩]) .ret))))
def nt_kmsg_NewRequestFormatter : Nat := 18
def rs_kmsg_NewRequestFormatter (E : Env) (V : EnvX) : List Rv := [.t 2]
def ir_kmsg_FormatterClientID (E : Env) (V : EnvX) : Ir := (.seq (.reg [ ⟨none, some 1, .box E.tS (.tmp 0), E.tNil⟩, ⟨none, some 2, .assign (.const (.nilIface)), V.t_kmsg_RequestFormatterOpt⟩]) (.seq (.reg [ ⟨none, some 3, .makeFunc (.func V.f_kmsg_FormatterClientID_1) #[] #[.tmp 1], V.t_funcpkmsg_RequestFormatter⟩, ⟨none, some 4, .build V.t_kmsg_formatterOpt #[(0, .tmp 3)], V.t_kmsg_formatterOpt⟩, ⟨none, some 5, .makeInterface V.t_kmsg_formatterOpt (.tmp 4), V.t_kmsg_RequestFormatterOpt⟩, ⟨none, some 2, .assign (.tmp 5), V.t_kmsg_RequestFormatterOpt⟩]) .ret))
def nt_kmsg_FormatterClientID : Nat := 6
def rs_kmsg_FormatterClientID (E : Env) (V : EnvX) : List Rv := [.t 2]
def ir_kmsg_FormatterClientID_1 (E : Env) (V : EnvX) : Ir := (.reg [ ⟨none, some 3, .move (.tmp 0), V.t_pkmsg_RequestFormatter⟩, ⟨none, some 4, .nilCheck (.tmp 3), E.tNil⟩, ⟨none, some 5, .fieldAddr V.t_kmsg_RequestFormatter (.tmp 4) 0, E.tNil⟩, ⟨none, none, .store E.tPS (.tmp 5) (.tmp 1), E.tNil⟩])
def nt_kmsg_FormatterClientID_1 : Nat := 6
def rs_kmsg_FormatterClientID_1 (E : Env) (V : EnvX) : List Rv := []
def ir_kmsg_formatterOpt_apply (E : Env) (V : EnvX) : Ir := (.seq (.reg [ ⟨none, some 2, .box V.t_kmsg_formatterOpt (.tmp 0), E.tNil⟩]) (.reg [ ⟨none, some 4, .fieldAddr V.t_kmsg_formatterOpt (.tmp 2) 0, E.tNil⟩, ⟨none, some 5, .load V.t_funcpkmsg_RequestFormatter (.tmp 4), V.t_funcpkmsg_RequestFormatter⟩, ⟨none, some 6, .move (.tmp 1), V.t_pkmsg_RequestFormatter⟩, ⟨none, some 7, .call { callee := .value (.tmp 5), args := #[.tmp 6], argTypes := #[V.t_pkmsg_RequestFormatter] }, E.tNil⟩]))
def nt_kmsg_formatterOpt_apply : Nat := 8
def rs_kmsg_formatterOpt_apply (E : Env) (V : EnvX) : List Rv := []
def ir_pkmsg_RequestFormatter_AppendRequest (E : Env) (V : EnvX) : Ir := (.seq (.reg [ ⟨none, some 8, .assign (.const (.slice none 0 0)), E.tBs⟩]) (.seq (.reg [ ⟨none, some 12, .move (.tmp 1), E.tBs⟩, ⟨none, some 13, .buildSlice E.tBs 4 #[(0, .const (.int .u8 0)), (1, .const (.int .u8 0)), (2, .const (.int .u8 0)), (3, .const (.int .u8 0))], E.tBs⟩, ⟨none, some 14, .call { callee := .builtin .append, args := #[.tmp 12, .tmp 13], argTypes := #[E.tBs, E.tBs] }, E.tBs⟩, ⟨none, some 1, .assign (.tmp 14), E.tBs⟩]) (.seq (.reg [ ⟨none, some 15, .move (.tmp 2), V.t_kmsg_Request⟩, ⟨none, some 16, .call { callee := .invoke (.tmp 15) "Key", args := #[], argTypes := #[] }, E.tI16⟩, ⟨none, some 9, .assign (.tmp 16), E.tI16⟩]) (.seq (.reg [ ⟨none, some 17, .move (.tmp 2), V.t_kmsg_Request⟩, ⟨none, some 18, .call { callee := .invoke (.tmp 17) "GetVersion", args := #[], argTypes := #[] }, E.tI16⟩, ⟨none, some 10, .assign (.tmp 18), E.tI16⟩]) (.seq (.reg [ ⟨none, some 19, .move (.tmp 1), E.tBs⟩, ⟨none, some 20, .move (.tmp 9), E.tI16⟩, ⟨none, some 21, .call { callee := .value (.func E.f_kbin_AppendInt16), args := #[.tmp 19, .tmp 20], argTypes := #[E.tBs, E.tI16] }, E.tBs⟩, ⟨none, some 1, .assign (.tmp 21), E.tBs⟩]) (.seq (.reg [ ⟨none, some 22, .move (.tmp 1), E.tBs⟩, ⟨none, some 23, .move (.tmp 10), E.tI16⟩, ⟨none, some 24, .call { callee := .value (.func E.f_kbin_AppendInt16), args := #[.tmp 22, .tmp 23], argTypes := #[E.tBs, E.tI16] }, E.tBs⟩, ⟨none, some 1, .assign (.tmp 24), E.tBs⟩]) (.seq (.reg [ ⟨none, some 25, .move (.tmp 1), E.tBs⟩, ⟨none, some 26, .move (.tmp 3), E.tI32⟩, ⟨none, some 27, .call { callee := .value (.func E.f_kbin_AppendInt32), args := #[.tmp 25, .tmp 26], argTypes := #[E.tBs, E.tI32] }, E.tBs⟩, ⟨none, some 1, .assign (.tmp 27), E.tBs⟩]) (.seq (.seq (.reg [ ⟨none, some 28, .move (.tmp 9), E.tI16⟩, ⟨none, some 29, .binOp .eql E.tI16 (.tmp 28) (.const (.int .i16 7)) E.tI16, E.tB⟩, ⟨none, some 30, .move (.tmp 29), E.tB⟩, ⟨(some (30, true)), some 31, .move (.tmp 10), E.tI16⟩, ⟨(some (30, true)), some 32, .binOp .eql E.tI16 (.tmp 31) (.const (.int .i16 0)) E.tI16, E.tB⟩, ⟨none, some 33, .pick (.tmp 30) (.tmp 32) (.const (.bool false)), E.tB⟩]) (.cond 33 (.seq (.reg [ ⟨none, some 34, .move (.tmp 1), E.tBs⟩, ⟨none, some 8, .assign (.tmp 34), E.tBs⟩]) .ret) .skip)) (.seq (.reg [ ⟨none, some 35, .move (.tmp 1), E.tBs⟩, ⟨none, some 36, .move (.tmp 0), V.t_pkmsg_RequestFormatter⟩, ⟨none, some 37, .nilCheck (.tmp 36), E.tNil⟩, ⟨none, some 38, .fieldAddr V.t_kmsg_RequestFormatter (.tmp 37) 0, E.tNil⟩, ⟨none, some 39, .load E.tPS (.tmp 38), E.tPS⟩, ⟨none, some 40, .call { callee := .value (.func E.f_kbin_AppendNullableString), args := #[.tmp 35, .tmp 39], argTypes := #[E.tBs, E.tPS] }, E.tBs⟩, ⟨none, some 1, .assign (.tmp 40), E.tBs⟩]) (.seq (.seq (.reg [ ⟨none, some 41, .move (.tmp 2), V.t_kmsg_Request⟩, ⟨none, some 42, .call { callee := .invoke (.tmp 41) "IsFlexible", args := #[], argTypes := #[] }, E.tB⟩]) (.cond 42 (.seq (.reg [ ⟨none, some 11, .assign (.const (.int .u8 0)), E.tU8⟩]) (.seq (.reg [ ⟨none, some 43, .move (.tmp 1), E.tBs⟩, ⟨none, some 44, .move (.tmp 11), E.tU8⟩, ⟨none, some 45, .buildSlice E.tBs 1 #[(0, .tmp 44)], E.tBs⟩, ⟨none, some 46, .call { callee := .builtin .append, args := #[.tmp 43, .tmp 45], argTypes := #[E.tBs, E.tBs] }, E.tBs⟩, ⟨none, some 1, .assign (.tmp 46), E.tBs⟩]) (.seq (.reg [ ⟨none, some 47, .move (.tmp 11), E.tU8⟩, ⟨none, some 48, .binOp .neq E.tU8 (.tmp 47) (.const (.int .u8 0)) E.tU8, E.tB⟩]) (.cond 48 .skip .skip)))) .skip)) (.seq (.reg [ ⟨none, some 49, .move (.tmp 2), V.t_kmsg_Request⟩, ⟨none, some 50, .move (.tmp 1), E.tBs⟩, ⟨none, some 51, .call { callee := .invoke (.tmp 49) "AppendTo", args := #[.tmp 50], argTypes := #[E.tBs] }, E.tBs⟩, ⟨none, some 1, .assign (.tmp 51), E.tBs⟩]) (.seq (.regH [ (true, ⟨none, some 52, .move (.tmp 1), E.tBs⟩), (true, ⟨none, some 53, .slice E.tBs (.tmp 52) none (some (.const (.int .i64 0))) none, E.tBs⟩), (true, ⟨none, some 54, .move (.tmp 1), E.tBs⟩), (true, ⟨none, some 55, .slice E.tBs (.tmp 54) (some (.const (.int .i64 4))) none none, E.tBs⟩), (true, ⟨none, some 56, .call { callee := .builtin .len, args := #[.tmp 55], argTypes := #[E.tBs] }, E.tInt⟩), (true, ⟨none, some 57, .convert E.tInt E.tI32 (.tmp 56), E.tI32⟩), (false, ⟨none, some 58, .call { callee := .value (.func E.f_kbin_AppendInt32), args := #[.tmp 53, .tmp 57], argTypes := #[E.tBs, E.tI32] }, E.tBs⟩)]) (.seq (.reg [ ⟨none, some 59, .move (.tmp 1), E.tBs⟩, ⟨none, some 8, .assign (.tmp 59), E.tBs⟩]) .ret)))))))))))))
def nt_pkmsg_RequestFormatter_AppendRequest : Nat := 60
def rs_pkmsg_RequestFormatter_AppendRequest (E : Env) (V : EnvX) : List Rv := [.t 8]
def ir_impl_framed (E : Env) (V : EnvX) : Ir := (.seq (.reg [ ⟨none, some 5, .box V.t_impl_Id (.tmp 1), E.tNil⟩, ⟨none, some 8, .assign (.const (.slice none 0 0)), E.tBs⟩]) (.seq (.reg [ ⟨none, some 10, .call { callee := .value (.func V.f_kmsg_NewRequestFormatter), args := #[.const (.slice none 0 0)], argTypes := #[V.t_l_kmsg_RequestFormatterOpt] }, V.t_pkmsg_RequestFormatter⟩, ⟨none, some 9, .assign (.tmp 10), V.t_pkmsg_RequestFormatter⟩]) (.seq (.seq (.reg [ ⟨none, some 11, .fieldAddr V.t_impl_Id (.tmp 5) 0, E.tNil⟩, ⟨none, some 12, .load E.tB (.tmp 11), E.tB⟩]) (.cond 12 (.reg [ ⟨none, some 13, .fieldAddr V.t_impl_Id (.tmp 5) 1, E.tNil⟩, ⟨none, some 14, .load E.tS (.tmp 13), E.tS⟩, ⟨none, some 15, .call { callee := .value (.func V.f_kmsg_FormatterClientID), args := #[.tmp 14], argTypes := #[E.tS] }, V.t_kmsg_RequestFormatterOpt⟩, ⟨none, some 16, .buildSlice V.t_l_kmsg_RequestFormatterOpt 1 #[(0, .tmp 15)], V.t_l_kmsg_RequestFormatterOpt⟩, ⟨none, some 17, .call { callee := .value (.func V.f_kmsg_NewRequestFormatter), args := #[.tmp 16], argTypes := #[V.t_l_kmsg_RequestFormatterOpt] }, V.t_pkmsg_RequestFormatter⟩, ⟨none, some 9, .assign (.tmp 17), V.t_pkmsg_RequestFormatter⟩]) .skip)) (.seq (.reg [ ⟨none, some 18, .move (.tmp 9), V.t_pkmsg_RequestFormatter⟩, ⟨none, some 19, .move (.tmp 0), E.tBs⟩, ⟨none, some 20, .call { callee := .builtin .append, args := #[.const (.slice none 0 0), .tmp 19], argTypes := #[E.tBs, E.tBs] }, E.tBs⟩, ⟨none, some 21, .move (.tmp 2), V.t_kmsg_Request⟩, ⟨none, some 22, .move (.tmp 3), E.tI32⟩, ⟨none, some 23, .call { callee := .value (.func V.f_pkmsg_RequestFormatter_AppendRequest), args := #[.tmp 18, .tmp 20, .tmp 21, .tmp 22], argTypes := #[V.t_pkmsg_RequestFormatter, E.tBs, V.t_kmsg_Request, E.tI32] }, E.tBs⟩, ⟨none, some 8, .assign (.tmp 23), E.tBs⟩]) .ret))))
def nt_impl_framed : Nat := 24
def rs_impl_framed (E : Env) (V : EnvX) : List Rv := [.t 8]
def ir_impl_FrameApiVersions (E : Env) (V : EnvX) : Ir := (.seq (.reg [ ⟨none, some 4, .box V.t_impl_Id (.tmp 0), E.tNil⟩, ⟨none, some 8, .assign (.const (.slice none 0 0)), E.tBs⟩, ⟨none, some 9, .assign (.const (.bool false)), E.tB⟩]) (.seq (.reg [ ⟨none, some 11, .call { callee := .value (.func V.f_kmsg_NewPtrApiVersionsRequest), args := #[], argTypes := #[] }, V.t_pkmsg_ApiVersionsRequest⟩, ⟨none, some 10, .assign (.tmp 11), V.t_pkmsg_ApiVersionsRequest⟩]) (.seq (.reg [ ⟨none, some 12, .move (.tmp 10), V.t_pkmsg_ApiVersionsRequest⟩, ⟨none, some 13, .move (.tmp 2), E.tI16⟩, ⟨none, some 14, .call { callee := .value (.func V.f_pkmsg_ApiVersionsRequest_SetVersion), args := #[.tmp 12, .tmp 13], argTypes := #[V.t_pkmsg_ApiVersionsRequest, E.tI16] }, E.tNil⟩]) (.seq (.seq (.reg [ ⟨none, some 15, .move (.tmp 10), V.t_pkmsg_ApiVersionsRequest⟩, ⟨none, some 16, .move (.tmp 3), E.tBs⟩, ⟨none, some 17, .call { callee := .builtin .append, args := #[.const (.slice none 0 0), .tmp 16], argTypes := #[E.tBs, E.tBs] }, E.tBs⟩, ⟨none, some 18, .call { callee := .value (.func V.f_pkmsg_ApiVersionsRequest_ReadFrom), args := #[.tmp 15, .tmp 17], argTypes := #[V.t_pkmsg_ApiVersionsRequest, E.tBs] }, E.tErr⟩, ⟨none, some 19, .binOp .neq E.tErr (.tmp 18) (.const (.nilIface)) E.tErr, E.tB⟩]) (.cond 19 (.seq (.reg [ ⟨none, some 8, .assign (.const (.slice none 0 0)), E.tBs⟩, ⟨none, some 9, .assign (.const (.bool false)), E.tB⟩]) .ret) .skip)) (.seq (.reg [ ⟨none, some 20, .load V.t_impl_Id (.tmp 4), V.t_impl_Id⟩, ⟨none, some 21, .move (.tmp 10), V.t_pkmsg_ApiVersionsRequest⟩, ⟨none, some 22, .makeInterface V.t_pkmsg_ApiVersionsRequest (.tmp 21), V.t_kmsg_Request⟩, ⟨none, some 23, .move (.tmp 1), E.tI32⟩, ⟨none, some 24, .call { callee := .value (.func V.f_impl_framed), args := #[.const (.slice none 0 0), .tmp 20, .tmp 22, .tmp 23], argTypes := #[E.tBs, V.t_impl_Id, V.t_kmsg_Request, E.tI32] }, E.tBs⟩, ⟨none, some 8, .assign (.tmp 24), E.tBs⟩, ⟨none, some 9, .assign (.const (.bool true)), E.tB⟩]) .ret)))))
def nt_impl_FrameApiVersions : Nat := 25
def rs_impl_FrameApiVersions (E : Env) (V : EnvX) : List Rv := [.t 8, .t 9]
def ir_spec_Flexible (E : Env) (V : EnvX) : Ir := (.seq (.reg [ ⟨none, some 4, .assign (.const (.bool false)), E.tB⟩]) (.seq (.seq (.reg [ ⟨none, some 5, .move (.tmp 0), E.tI16⟩]) (.block 0 (.seq (.seq (.reg [ ⟨none, some 7, .binOp .eql E.tI16 (.tmp 5) (.const (.int .i16 17)) E.tI16, E.tB⟩, ⟨none, some 6, .assign (.tmp 7), E.tB⟩]) (.cond 6 .skip (.reg [ ⟨none, some 8, .binOp .eql E.tI16 (.tmp 5) (.const (.int .i16 47)) E.tI16, E.tB⟩, ⟨none, some 6, .assign (.tmp 8), E.tB⟩]))) (.cond 6 (.seq (.reg [ ⟨none, some 4, .assign (.const (.bool false)), E.tB⟩]) .ret) (.seq (.seq (.reg [ ⟨none, some 10, .binOp .eql E.tI16 (.tmp 5) (.const (.int .i16 27)) E.tI16, E.tB⟩, ⟨none, some 9, .assign (.tmp 10), E.tB⟩]) (.cond 9 .skip (.seq (.reg [ ⟨none, some 11, .binOp .eql E.tI16 (.tmp 5) (.const (.int .i16 44)) E.tI16, E.tB⟩, ⟨none, some 9, .assign (.tmp 11), E.tB⟩]) (.cond 9 .skip (.seq (.reg [ ⟨none, some 12, .binOp .eql E.tI16 (.tmp 5) (.const (.int .i16 48)) E.tI16, E.tB⟩, ⟨none, some 9, .assign (.tmp 12), E.tB⟩]) (.cond 9 .skip (.seq (.reg [ ⟨none, some 13, .binOp .eql E.tI16 (.tmp 5) (.const (.int .i16 49)) E.tI16, E.tB⟩, ⟨none, some 9, .assign (.tmp 13), E.tB⟩]) (.cond 9 .skip (.seq (.reg [ ⟨none, some 14, .binOp .eql E.tI16 (.tmp 5) (.const (.int .i16 53)) E.tI16, E.tB⟩, ⟨none, some 9, .assign (.tmp 14), E.tB⟩]) (.cond 9 .skip (.reg [ ⟨none, some 15, .binOp .eql E.tI16 (.tmp 5) (.const (.int .i16 54)) E.tI16, E.tB⟩, ⟨none, some 9, .assign (.tmp 15), E.tB⟩]))))))))))) (.cond 9 (.seq (.reg [ ⟨none, some 16, .move (.tmp 1), E.tI16⟩, ⟨none, some 17, .binOp .geq E.tI16 (.tmp 16) (.const (.int .i16 1)) E.tI16, E.tB⟩, ⟨none, some 4, .assign (.tmp 17), E.tB⟩]) .ret) (.seq (.seq (.reg [ ⟨none, some 19, .binOp .eql E.tI16 (.tmp 5) (.const (.int .i16 5)) E.tI16, E.tB⟩, ⟨none, some 18, .assign (.tmp 19), E.tB⟩]) (.cond 18 .skip (.seq (.reg [ ⟨none, some 20, .binOp .eql E.tI16 (.tmp 5) (.const (.int .i16 21)) E.tI16, E.tB⟩, ⟨none, some 18, .assign (.tmp 20), E.tB⟩]) (.cond 18 .skip (.seq (.reg [ ⟨none, some 21, .binOp .eql E.tI16 (.tmp 5) (.const (.int .i16 22)) E.tI16, E.tB⟩, ⟨none, some 18, .assign (.tmp 21), E.tB⟩]) (.cond 18 .skip (.seq (.reg [ ⟨none, some 22, .binOp .eql E.tI16 (.tmp 5) (.const (.int .i16 29)) E.tI16, E.tB⟩, ⟨none, some 18, .assign (.tmp 22), E.tB⟩]) (.cond 18 .skip (.seq (.reg [ ⟨none, some 23, .binOp .eql E.tI16 (.tmp 5) (.const (.int .i16 30)) E.tI16, E.tB⟩, ⟨none, some 18, .assign (.tmp 23), E.tB⟩]) (.cond 18 .skip (.seq (.reg [ ⟨none, some 24, .binOp .eql E.tI16 (.tmp 5) (.const (.int .i16 31)) E.tI16, E.tB⟩, ⟨none, some 18, .assign (.tmp 24), E.tB⟩]) (.cond 18 .skip (.seq (.reg [ ⟨none, some 25, .binOp .eql E.tI16 (.tmp 5) (.const (.int .i16 33)) E.tI16, E.tB⟩, ⟨none, some 18, .assign (.tmp 25), E.tB⟩]) (.cond 18 .skip (.seq (.reg [ ⟨none, some 26, .binOp .eql E.tI16 (.tmp 5) (.const (.int .i16 34)) E.tI16, E.tB⟩, ⟨none, some 18, .assign (.tmp 26), E.tB⟩]) (.cond 18 .skip (.seq (.reg [ ⟨none, some 27, .binOp .eql E.tI16 (.tmp 5) (.const (.int .i16 35)) E.tI16, E.tB⟩, ⟨none, some 18, .assign (.tmp 27), E.tB⟩]) (.cond 18 .skip (.seq (.reg [ ⟨none, some 28, .binOp .eql E.tI16 (.tmp 5) (.const (.int .i16 36)) E.tI16, E.tB⟩, ⟨none, some 18, .assign (.tmp 28), E.tB⟩]) (.cond 18 .skip (.seq (.reg [ ⟨none, some 29, .binOp .eql E.tI16 (.tmp 5) (.const (.int .i16 37)) E.tI16, E.tB⟩, ⟨none, some 18, .assign (.tmp 29), E.tB⟩]) (.cond 18 .skip (.seq (.reg [ ⟨none, some 30, .binOp .eql E.tI16 (.tmp 5) (.const (.int .i16 38)) E.tI16, E.tB⟩, ⟨none, some 18, .assign (.tmp 30), E.tB⟩]) (.cond 18 .skip (.seq (.reg [ ⟨none, some 31, .binOp .eql E.tI16 (.tmp 5) (.const (.int .i16 39)) E.tI16, E.tB⟩, ⟨none, some 18, .assign (.tmp 31), E.tB⟩]) (.cond 18 .skip (.seq (.reg [ ⟨none, some 32, .binOp .eql E.tI16 (.tmp 5) (.const (.int .i16 40)) E.tI16, E.tB⟩, ⟨none, some 18, .assign (.tmp 32), E.tB⟩]) (.cond 18 .skip (.seq (.reg [ ⟨none, some 33, .binOp .eql E.tI16 (.tmp 5) (.const (.int .i16 41)) E.tI16, E.tB⟩, ⟨none, some 18, .assign (.tmp 33), E.tB⟩]) (.cond 18 .skip (.seq (.reg [ ⟨none, some 34, .binOp .eql E.tI16 (.tmp 5) (.const (.int .i16 42)) E.tI16, E.tB⟩, ⟨none, some 18, .assign (.tmp 34), E.tB⟩]) (.cond 18 .skip (.reg [ ⟨none, some 35, .binOp .eql E.tI16 (.tmp 5) (.const (.int .i16 43)) E.tI16, E.tB⟩, ⟨none, some 18, .assign (.tmp 35), E.tB⟩]))))))))))))))))))))))))))))))))) (.cond 18 (.seq (.reg [ ⟨none, some 36, .move (.tmp 1), E.tI16⟩, ⟨none, some 37, .binOp .geq E.tI16 (.tmp 36) (.const (.int .i16 2)) E.tI16, E.tB⟩, ⟨none, some 4, .assign (.tmp 37), E.tB⟩]) .ret) (.seq (.seq (.reg [ ⟨none, some 39, .binOp .eql E.tI16 (.tmp 5) (.const (.int .i16 7)) E.tI16, E.tB⟩, ⟨none, some 38, .assign (.tmp 39), E.tB⟩]) (.cond 38 .skip (.seq (.reg [ ⟨none, some 40, .binOp .eql E.tI16 (.tmp 5) (.const (.int .i16 10)) E.tI16, E.tB⟩, ⟨none, some 38, .assign (.tmp 40), E.tB⟩]) (.cond 38 .skip (.seq (.reg [ ⟨none, some 41, .binOp .eql E.tI16 (.tmp 5) (.const (.int .i16 16)) E.tI16, E.tB⟩, ⟨none, some 38, .assign (.tmp 41), E.tB⟩]) (.cond 38 .skip (.seq (.reg [ ⟨none, some 42, .binOp .eql E.tI16 (.tmp 5) (.const (.int .i16 18)) E.tI16, E.tB⟩, ⟨none, some 38, .assign (.tmp 42), E.tB⟩]) (.cond 38 .skip (.seq (.reg [ ⟨none, some 43, .binOp .eql E.tI16 (.tmp 5) (.const (.int .i16 24)) E.tI16, E.tB⟩, ⟨none, some 38, .assign (.tmp 43), E.tB⟩]) (.cond 38 .skip (.seq (.reg [ ⟨none, some 44, .binOp .eql E.tI16 (.tmp 5) (.const (.int .i16 25)) E.tI16, E.tB⟩, ⟨none, some 38, .assign (.tmp 44), E.tB⟩]) (.cond 38 .skip (.seq (.reg [ ⟨none, some 45, .binOp .eql E.tI16 (.tmp 5) (.const (.int .i16 26)) E.tI16, E.tB⟩, ⟨none, some 38, .assign (.tmp 45), E.tB⟩]) (.cond 38 .skip (.reg [ ⟨none, some 46, .binOp .eql E.tI16 (.tmp 5) (.const (.int .i16 28)) E.tI16, E.tB⟩, ⟨none, some 38, .assign (.tmp 46), E.tB⟩]))))))))))))))) (.cond 38 (.seq (.reg [ ⟨none, some 47, .move (.tmp 1), E.tI16⟩, ⟨none, some 48, .binOp .geq E.tI16 (.tmp 47) (.const (.int .i16 3)) E.tI16, E.tB⟩, ⟨none, some 4, .assign (.tmp 48), E.tB⟩]) .ret) (.seq (.seq (.reg [ ⟨none, some 50, .binOp .eql E.tI16 (.tmp 5) (.const (.int .i16 4)) E.tI16, E.tB⟩, ⟨none, some 49, .assign (.tmp 50), E.tB⟩]) (.cond 49 .skip (.seq (.reg [ ⟨none, some 51, .binOp .eql E.tI16 (.tmp 5) (.const (.int .i16 12)) E.tI16, E.tB⟩, ⟨none, some 49, .assign (.tmp 51), E.tB⟩]) (.cond 49 .skip (.seq (.reg [ ⟨none, some 52, .binOp .eql E.tI16 (.tmp 5) (.const (.int .i16 13)) E.tI16, E.tB⟩, ⟨none, some 49, .assign (.tmp 52), E.tB⟩]) (.cond 49 .skip (.seq (.reg [ ⟨none, some 53, .binOp .eql E.tI16 (.tmp 5) (.const (.int .i16 14)) E.tI16, E.tB⟩, ⟨none, some 49, .assign (.tmp 53), E.tB⟩]) (.cond 49 .skip (.seq (.reg [ ⟨none, some 54, .binOp .eql E.tI16 (.tmp 5) (.const (.int .i16 20)) E.tI16, E.tB⟩, ⟨none, some 49, .assign (.tmp 54), E.tB⟩]) (.cond 49 .skip (.seq (.reg [ ⟨none, some 55, .binOp .eql E.tI16 (.tmp 5) (.const (.int .i16 23)) E.tI16, E.tB⟩, ⟨none, some 49, .assign (.tmp 55), E.tB⟩]) (.cond 49 .skip (.reg [ ⟨none, some 56, .binOp .eql E.tI16 (.tmp 5) (.const (.int .i16 32)) E.tI16, E.tB⟩, ⟨none, some 49, .assign (.tmp 56), E.tB⟩]))))))))))))) (.cond 49 (.seq (.reg [ ⟨none, some 57, .move (.tmp 1), E.tI16⟩, ⟨none, some 58, .binOp .geq E.tI16 (.tmp 57) (.const (.int .i16 4)) E.tI16, E.tB⟩, ⟨none, some 4, .assign (.tmp 58), E.tB⟩]) .ret) (.seq (.seq (.reg [ ⟨none, some 60, .binOp .eql E.tI16 (.tmp 5) (.const (.int .i16 15)) E.tI16, E.tB⟩, ⟨none, some 59, .assign (.tmp 60), E.tB⟩]) (.cond 59 .skip (.reg [ ⟨none, some 61, .binOp .eql E.tI16 (.tmp 5) (.const (.int .i16 19)) E.tI16, E.tB⟩, ⟨none, some 59, .assign (.tmp 61), E.tB⟩]))) (.cond 59 (.seq (.reg [ ⟨none, some 62, .move (.tmp 1), E.tI16⟩, ⟨none, some 63, .binOp .geq E.tI16 (.tmp 62) (.const (.int .i16 5)) E.tI16, E.tB⟩, ⟨none, some 4, .assign (.tmp 63), E.tB⟩]) .ret) (.seq (.seq (.reg [ ⟨none, some 65, .binOp .eql E.tI16 (.tmp 5) (.const (.int .i16 2)) E.tI16, E.tB⟩, ⟨none, some 64, .assign (.tmp 65), E.tB⟩]) (.cond 64 .skip (.seq (.reg [ ⟨none, some 66, .binOp .eql E.tI16 (.tmp 5) (.const (.int .i16 6)) E.tI16, E.tB⟩, ⟨none, some 64, .assign (.tmp 66), E.tB⟩]) (.cond 64 .skip (.seq (.reg [ ⟨none, some 67, .binOp .eql E.tI16 (.tmp 5) (.const (.int .i16 9)) E.tI16, E.tB⟩, ⟨none, some 64, .assign (.tmp 67), E.tB⟩]) (.cond 64 .skip (.reg [ ⟨none, some 68, .binOp .eql E.tI16 (.tmp 5) (.const (.int .i16 11)) E.tI16, E.tB⟩, ⟨none, some 64, .assign (.tmp 68), E.tB⟩]))))))) (.cond 64 (.seq (.reg [ ⟨none, some 69, .move (.tmp 1), E.tI16⟩, ⟨none, some 70, .binOp .geq E.tI16 (.tmp 69) (.const (.int .i16 6)) E.tI16, E.tB⟩, ⟨none, some 4, .assign (.tmp 70), E.tB⟩]) .ret) (.seq (.reg [ ⟨none, some 72, .binOp .eql E.tI16 (.tmp 5) (.const (.int .i16 8)) E.tI16, E.tB⟩, ⟨none, some 71, .assign (.tmp 72), E.tB⟩]) (.cond 71 (.seq (.reg [ ⟨none, some 73, .move (.tmp 1), E.tI16⟩, ⟨none, some 74, .binOp .geq E.tI16 (.tmp 73) (.const (.int .i16 8)) E.tI16, E.tB⟩, ⟨none, some 4, .assign (.tmp 74), E.tB⟩]) .ret) (.seq (.seq (.reg [ ⟨none, some 76, .binOp .eql E.tI16 (.tmp 5) (.const (.int .i16 0)) E.tI16, E.tB⟩, ⟨none, some 75, .assign (.tmp 76), E.tB⟩]) (.cond 75 .skip (.reg [ ⟨none, some 77, .binOp .eql E.tI16 (.tmp 5) (.const (.int .i16 3)) E.tI16, E.tB⟩, ⟨none, some 75, .assign (.tmp 77), E.tB⟩]))) (.cond 75 (.seq (.reg [ ⟨none, some 78, .move (.tmp 1), E.tI16⟩, ⟨none, some 79, .binOp .geq E.tI16 (.tmp 78) (.const (.int .i16 9)) E.tI16, E.tB⟩, ⟨none, some 4, .assign (.tmp 79), E.tB⟩]) .ret) (.seq (.reg [ ⟨none, some 81, .binOp .eql E.tI16 (.tmp 5) (.const (.int .i16 1)) E.tI16, E.tB⟩, ⟨none, some 80, .assign (.tmp 81), E.tB⟩]) (.cond 80 (.seq (.reg [ ⟨none, some 82, .move (.tmp 1), E.tI16⟩, ⟨none, some 83, .binOp .geq E.tI16 (.tmp 82) (.const (.int .i16 12)) E.tI16, E.tB⟩, ⟨none, some 4, .assign (.tmp 83), E.tB⟩]) .ret) .skip)))))))))))))))))))))) (.seq (.reg [ ⟨none, some 4, .assign (.const (.bool true)), E.tB⟩]) .ret)))
def nt_spec_Flexible : Nat := 84
def rs_spec_Flexible (E : Env) (V : EnvX) : List Rv := [.t 4]
def ir_spec_Frame (E : Env) (V : EnvX) : Ir := (.seq (.reg [ ⟨none, some 12, .assign (.const (.slice none 0 0)), E.tBs⟩]) (.seq (.reg [ ⟨none, some 14, .move (.tmp 0), E.tI16⟩, ⟨none, some 15, .convert E.tI16 E.tI64 (.tmp 14), E.tI64⟩, ⟨none, some 16, .call { callee := .value (.func E.f_spec_Fixed), args := #[.tmp 15, .const (.int .i64 2)], argTypes := #[E.tI64, E.tInt] }, E.tBs⟩, ⟨none, some 17, .move (.tmp 1), E.tI16⟩, ⟨none, some 18, .convert E.tI16 E.tI64 (.tmp 17), E.tI64⟩, ⟨none, some 19, .call { callee := .value (.func E.f_spec_Fixed), args := #[.tmp 18, .const (.int .i64 2)], argTypes := #[E.tI64, E.tInt] }, E.tBs⟩, ⟨none, some 20, .call { callee := .builtin .append, args := #[.tmp 16, .tmp 19], argTypes := #[E.tBs, E.tBs] }, E.tBs⟩, ⟨none, some 13, .assign (.tmp 20), E.tBs⟩]) (.seq (.reg [ ⟨none, some 21, .move (.tmp 13), E.tBs⟩, ⟨none, some 22, .move (.tmp 2), E.tI32⟩, ⟨none, some 23, .convert E.tI32 E.tI64 (.tmp 22), E.tI64⟩, ⟨none, some 24, .call { callee := .value (.func E.f_spec_Fixed), args := #[.tmp 23, .const (.int .i64 4)], argTypes := #[E.tI64, E.tInt] }, E.tBs⟩, ⟨none, some 25, .call { callee := .builtin .append, args := #[.tmp 21, .tmp 24], argTypes := #[E.tBs, E.tBs] }, E.tBs⟩, ⟨none, some 13, .assign (.tmp 25), E.tBs⟩]) (.seq (.seq (.reg [ ⟨none, some 26, .move (.tmp 3), E.tB⟩]) (.cond 26 (.reg [ ⟨none, some 27, .move (.tmp 13), E.tBs⟩, ⟨none, some 28, .move (.tmp 4), E.tBs⟩, ⟨none, some 29, .call { callee := .builtin .len, args := #[.tmp 28], argTypes := #[E.tBs] }, E.tInt⟩, ⟨none, some 30, .call { callee := .value (.func E.f_spec_Fixed), args := #[.tmp 29, .const (.int .i64 2)], argTypes := #[E.tI64, E.tInt] }, E.tBs⟩, ⟨none, some 31, .call { callee := .builtin .append, args := #[.tmp 27, .tmp 30], argTypes := #[E.tBs, E.tBs] }, E.tBs⟩, ⟨none, some 32, .move (.tmp 4), E.tBs⟩, ⟨none, some 33, .call { callee := .builtin .append, args := #[.tmp 31, .tmp 32], argTypes := #[E.tBs, E.tBs] }, E.tBs⟩, ⟨none, some 13, .assign (.tmp 33), E.tBs⟩]) (.reg [ ⟨none, some 34, .move (.tmp 13), E.tBs⟩, ⟨none, some 35, .call { callee := .value (.func E.f_spec_Fixed), args := #[.const (.int .i64 (-1)), .const (.int .i64 2)], argTypes := #[E.tI64, E.tInt] }, E.tBs⟩, ⟨none, some 36, .call { callee := .builtin .append, args := #[.tmp 34, .tmp 35], argTypes := #[E.tBs, E.tBs] }, E.tBs⟩, ⟨none, some 13, .assign (.tmp 36), E.tBs⟩]))) (.seq (.seq (.reg [ ⟨none, some 37, .move (.tmp 0), E.tI16⟩, ⟨none, some 38, .move (.tmp 1), E.tI16⟩, ⟨none, some 39, .call { callee := .value (.func V.f_spec_Flexible), args := #[.tmp 37, .tmp 38], argTypes := #[E.tI16, E.tI16] }, E.tB⟩]) (.cond 39 (.reg [ ⟨none, some 40, .move (.tmp 13), E.tBs⟩, ⟨none, some 41, .buildSlice E.tBs 1 #[(0, .const (.int .u8 0))], E.tBs⟩, ⟨none, some 42, .call { callee := .builtin .append, args := #[.tmp 40, .tmp 41], argTypes := #[E.tBs, E.tBs] }, E.tBs⟩, ⟨none, some 13, .assign (.tmp 42), E.tBs⟩]) .skip)) (.seq (.reg [ ⟨none, some 43, .move (.tmp 13), E.tBs⟩, ⟨none, some 44, .move (.tmp 5), E.tBs⟩, ⟨none, some 45, .call { callee := .builtin .append, args := #[.tmp 43, .tmp 44], argTypes := #[E.tBs, E.tBs] }, E.tBs⟩, ⟨none, some 13, .assign (.tmp 45), E.tBs⟩]) (.seq (.reg [ ⟨none, some 46, .move (.tmp 13), E.tBs⟩, ⟨none, some 47, .call { callee := .builtin .len, args := #[.tmp 46], argTypes := #[E.tBs] }, E.tInt⟩, ⟨none, some 48, .call { callee := .value (.func E.f_spec_Fixed), args := #[.tmp 47, .const (.int .i64 4)], argTypes := #[E.tI64, E.tInt] }, E.tBs⟩, ⟨none, some 49, .move (.tmp 13), E.tBs⟩, ⟨none, some 50, .call { callee := .builtin .append, args := #[.tmp 48, .tmp 49], argTypes := #[E.tBs, E.tBs] }, E.tBs⟩, ⟨none, some 12, .assign (.tmp 50), E.tBs⟩]) .ret)))))))
def nt_spec_Frame : Nat := 51
def rs_spec_Frame (E : Env) (V : EnvX) : List Rv := [.t 12]
def ir_laws_FnFrameApiVersions (E : Env) (V : EnvX) : Ir := (.seq (.reg [ ⟨none, some 5, .box V.t_impl_Id (.tmp 1), E.tNil⟩, ⟨none, some 7, .box E.t_spec_Tree (.tmp 3), E.tNil⟩, ⟨none, some 8, .assign (.const (.bool false)), E.tB⟩]) (.seq (.seq (.reg [ ⟨none, some 16, .load V.t_impl_Id (.tmp 5), V.t_impl_Id⟩, ⟨none, some 17, .call { callee := .value (.func V.f_laws_zzFits1), args := #[.tmp 16], argTypes := #[V.t_impl_Id] }, E.tB⟩, ⟨none, some 18, .unOp .not E.tB (.tmp 17), E.tB⟩, ⟨none, some 19, .move (.tmp 18), E.tB⟩, ⟨(some (19, false)), some 20, .load E.t_spec_Tree (.tmp 7), E.t_spec_Tree⟩, ⟨(some (19, false)), some 21, .call { callee := .value (.func E.f_laws_zzFits2), args := #[.tmp 20], argTypes := #[E.t_spec_Tree] }, E.tB⟩, ⟨(some (19, false)), some 22, .unOp .not E.tB (.tmp 21), E.tB⟩, ⟨none, some 23, .pick (.tmp 19) (.const (.bool true)) (.tmp 22), E.tB⟩]) (.cond 23 (.seq (.reg [ ⟨none, some 8, .assign (.const (.bool true)), E.tB⟩]) .ret) .skip)) (.seq (.reg [ ⟨none, some 25, .load V.t_impl_Id (.tmp 5), V.t_impl_Id⟩, ⟨none, some 26, .call { callee := .value (.func V.f_laws_idBytes), args := #[.tmp 25], argTypes := #[V.t_impl_Id] }, V.t_l_uint8_bool⟩, ⟨none, some 24, .move (.tmp 26), V.t_l_uint8_bool⟩, ⟨none, some 27, .extract (.tmp 24) 0, E.tBs⟩, ⟨none, some 28, .extract (.tmp 24) 1, E.tB⟩, ⟨none, some 9, .assign (.tmp 27), E.tBs⟩, ⟨none, some 10, .assign (.tmp 28), E.tB⟩]) (.seq (.reg [ ⟨none, some 29, .call { callee := .value (.func V.f_impl_MaxApiVersionsRequest), args := #[], argTypes := #[] }, E.tInt⟩, ⟨none, some 11, .assign (.tmp 29), E.tInt⟩]) (.seq (.seq (.reg [ ⟨none, some 30, .move (.tmp 11), E.tInt⟩, ⟨none, some 31, .binOp .lss E.tInt (.tmp 30) (.const (.int .i64 0)) E.tInt, E.tB⟩]) (.cond 31 (.seq (.reg [ ⟨none, some 8, .assign (.const (.bool false)), E.tB⟩]) .ret) .skip)) (.seq (.reg [ ⟨none, some 32, .move (.tmp 0), E.tU8⟩, ⟨none, some 33, .move (.tmp 11), E.tInt⟩, ⟨none, some 34, .call { callee := .value (.func E.f_laws_version), args := #[.tmp 32, .tmp 33], argTypes := #[E.tU8, E.tInt] }, E.tInt⟩, ⟨none, some 12, .assign (.tmp 34), E.tInt⟩]) (.seq (.regH [ (true, ⟨none, some 36, .move (.tmp 12), E.tInt⟩), (true, ⟨none, some 37, .load E.t_spec_Tree (.tmp 7), E.t_spec_Tree⟩), (false, ⟨none, some 35, .call { callee := .value (.func V.f_spec_ApiVersionsRequest), args := #[], argTypes := #[] }, E.t_spec_Message⟩), (false, ⟨none, some 38, .call { callee := .value (.func E.f_spec_Write), args := #[.tmp 35, .tmp 36, .tmp 37], argTypes := #[E.t_spec_Message, E.tInt, E.t_spec_Tree] }, E.tBs⟩), (true, ⟨none, some 13, .assign (.tmp 38), E.tBs⟩)]) (.seq (.reg [ ⟨none, some 40, .load V.t_impl_Id (.tmp 5), V.t_impl_Id⟩, ⟨none, some 41, .move (.tmp 2), E.tI32⟩, ⟨none, some 42, .move (.tmp 12), E.tInt⟩, ⟨none, some 43, .convert E.tInt E.tI16 (.tmp 42), E.tI16⟩, ⟨none, some 44, .move (.tmp 13), E.tBs⟩, ⟨none, some 45, .call { callee := .value (.func V.f_impl_FrameApiVersions), args := #[.tmp 40, .tmp 41, .tmp 43, .tmp 44], argTypes := #[V.t_impl_Id, E.tI32, E.tI16, E.tBs] }, V.t_l_uint8_bool⟩, ⟨none, some 39, .move (.tmp 45), V.t_l_uint8_bool⟩, ⟨none, some 46, .extract (.tmp 39) 0, E.tBs⟩, ⟨none, some 47, .extract (.tmp 39) 1, E.tB⟩, ⟨none, some 14, .assign (.tmp 46), E.tBs⟩, ⟨none, some 15, .assign (.tmp 47), E.tB⟩]) (.seq (.reg [ ⟨none, some 48, .move (.tmp 10), E.tB⟩, ⟨none, some 49, .unOp .not E.tB (.tmp 48), E.tB⟩, ⟨none, some 50, .move (.tmp 49), E.tB⟩, ⟨(some (50, false)), some 51, .move (.tmp 15), E.tB⟩, ⟨(some (50, false)), some 52, .move (.tmp 51), E.tB⟩, ⟨(some (52, true)), some 53, .move (.tmp 14), E.tBs⟩, ⟨(some (52, true)), some 54, .move (.tmp 12), E.tInt⟩, ⟨(some (52, true)), some 55, .convert E.tInt E.tI16 (.tmp 54), E.tI16⟩, ⟨(some (52, true)), some 56, .move (.tmp 2), E.tI32⟩, ⟨(some (52, true)), some 57, .fieldAddr V.t_impl_Id (.tmp 5) 0, E.tNil⟩, ⟨(some (52, true)), some 58, .load E.tB (.tmp 57), E.tB⟩, ⟨(some (52, true)), some 59, .move (.tmp 9), E.tBs⟩, ⟨(some (52, true)), some 60, .move (.tmp 13), E.tBs⟩, ⟨(some (52, true)), some 61, .call { callee := .value (.func V.f_spec_Frame), args := #[.const (.int .i16 18), .tmp 55, .tmp 56, .tmp 58, .tmp 59, .tmp 60], argTypes := #[E.tI16, E.tI16, E.tI32, E.tB, E.tBs, E.tBs] }, E.tBs⟩, ⟨(some (52, true)), some 62, .call { callee := .value (.func E.f_spec_Same), args := #[.tmp 53, .tmp 61], argTypes := #[E.tBs, E.tBs] }, E.tB⟩, ⟨(some (50, false)), some 63, .pick (.tmp 52) (.tmp 62) (.const (.bool false)), E.tB⟩, ⟨none, some 64, .pick (.tmp 50) (.const (.bool true)) (.tmp 63), E.tB⟩, ⟨none, some 8, .assign (.tmp 64), E.tB⟩]) .ret)))))))))
def nt_laws_FnFrameApiVersions : Nat := 65
def rs_laws_FnFrameApiVersions (E : Env) (V : EnvX) : List Rv := [.t 8]
end Go.Kg

set_option linter.unusedSimpArgs false
set_option linter.unusedVariables false
set_option linter.unusedSectionVars false
namespace Go.Kg
open Go
structure TyX (P : Program) (E : Env) (V : EnvX) : Prop where
  rs : TyRs P E
  ws : TyWs P E
  n16 : E.tI16 ≠ 0
  nPS : E.tPS ≠ 0
  kI16 : kindOf P E.tI16 = .scl
  kPS : kindOf P E.tPS = .scl
  kId : kindOf P V.t_impl_Id = .agg 2
  id0 : fldOff P V.t_impl_Id 0 = some 0
  id1 : fldOff P V.t_impl_Id 1 = some 1
  zRF : zeroOf P V.t_kmsg_RequestFormatter = some (.agg #[.pointer none])
  rf0 : fldOff P V.t_kmsg_RequestFormatter 0 = some 0
  uOs : P.underlying V.t_l_kmsg_RequestFormatterOpt = some (.slice V.t_kmsg_RequestFormatterOpt)
  sOs : SliI P V.t_l_kmsg_RequestFormatterOpt V.t_kmsg_RequestFormatterOpt 1 16 .nilIface
  kO : kindOf P V.t_kmsg_RequestFormatterOpt = .scl
  zFo : zeroOf P V.t_kmsg_formatterOpt = some (.agg #[.nilFunc])
  pFo : places P V.t_kmsg_formatterOpt = some [(0, 1)]
  fo0 : fldOff P V.t_kmsg_formatterOpt 0 = some 0
  kFn : kindOf P V.t_funcpkmsg_RequestFormatter = .scl
  cFo : isCon P V.t_kmsg_formatterOpt = true
  rFo : recvOk P V.t_kmsg_formatterOpt false = true
  mFo : methOf P V.t_kmsg_formatterOpt "pub-kmsg/pub/kmsg.apply" = some (V.f_kmsg_formatterOpt_apply, false)
  cM : isCon P V.t_pkmsg_ApiVersionsRequest = true
  rM : recvOk P V.t_pkmsg_ApiVersionsRequest true = true
  m0 : fldOff P V.t_kmsg_ApiVersionsRequest 0 = some 0
  mKey : methOf P V.t_pkmsg_ApiVersionsRequest "Key" = some (V.f_pkmsg_ApiVersionsRequest_Key, true)
  mGet : methOf P V.t_pkmsg_ApiVersionsRequest "GetVersion" = some (V.f_pkmsg_ApiVersionsRequest_GetVersion, true)
  mFlex : methOf P V.t_pkmsg_ApiVersionsRequest "IsFlexible" = some (V.f_pkmsg_ApiVersionsRequest_IsFlexible, true)
  mApp : methOf P V.t_pkmsg_ApiVersionsRequest "AppendTo" = some (V.f_pkmsg_ApiVersionsRequest_AppendTo, true)
section
variable {P : Program} {E : Env} {V : EnvX} (ht : TyX P E V)
include ht
theorem c_XKey (hI : FnIs P V.f_pkmsg_ApiVersionsRequest_Key nt_pkmsg_ApiVersionsRequest_Key (rs_pkmsg_ApiVersionsRequest_Key E V) (ir_pkmsg_ApiVersionsRequest_Key E V)) (w : World) (v : Value) :
    Ret P V.f_pkmsg_ApiVersionsRequest_Key #[v] w fun u w' => u = .int .i16 18 ∧ w = w' := by
  refine hI.call (args := [_]) (by simp [nt_pkmsg_ApiVersionsRequest_Key]) ?_
  simp [ir_pkmsg_ApiVersionsRequest_Key, rs_pkmsg_ApiVersionsRequest_Key]
theorem c_XGet (hI : FnIs P V.f_pkmsg_ApiVersionsRequest_GetVersion nt_pkmsg_ApiVersionsRequest_GetVersion (rs_pkmsg_ApiVersionsRequest_GetVersion E V) (ir_pkmsg_ApiVersionsRequest_GetVersion E V)) {w : World} {b : Nat} {ver : Int} (hc : w.cell? ⟨b, 0, none⟩ = some (.int .i16 ver)) :
    Ret P V.f_pkmsg_ApiVersionsRequest_GetVersion #[.pointer (some ⟨b, 0, none⟩)] w fun u w' => u = .int .i16 ver ∧ w = w' := by
  refine hI.call (args := [_]) (by simp [nt_pkmsg_ApiVersionsRequest_GetVersion]) ?_
  simp [ir_pkmsg_ApiVersionsRequest_GetVersion, rs_pkmsg_ApiVersionsRequest_GetVersion, ht.m0, Addr.add_mk, ld_scl ht.kI16, hc]
theorem c_XFlex (hI : FnIs P V.f_pkmsg_ApiVersionsRequest_IsFlexible nt_pkmsg_ApiVersionsRequest_IsFlexible (rs_pkmsg_ApiVersionsRequest_IsFlexible E V) (ir_pkmsg_ApiVersionsRequest_IsFlexible E V)) {w : World} {b : Nat} {ver : Int} (hc : w.cell? ⟨b, 0, none⟩ = some (.int .i16 ver)) :
    Ret P V.f_pkmsg_ApiVersionsRequest_IsFlexible #[.pointer (some ⟨b, 0, none⟩)] w fun u w' => u = .bool (decide (3 ≤ ver)) ∧ w = w' := by
  refine hI.call (args := [_]) (by simp [nt_pkmsg_ApiVersionsRequest_IsFlexible]) ?_
  simp [ir_pkmsg_ApiVersionsRequest_IsFlexible, rs_pkmsg_ApiVersionsRequest_IsFlexible, ht.m0, Addr.add_mk, ld_scl ht.kI16, hc]
/-- the option: a closure over where the id lies -/
def optV (V : EnvX) (p : Nat) : Value := .iface V.t_kmsg_formatterOpt (.agg #[.func (.func V.f_kmsg_FormatterClientID_1) #[] #[.pointer (some ⟨p, 0, none⟩)]])
theorem c_ClientID (hI : FnIs P V.f_kmsg_FormatterClientID nt_kmsg_FormatterClientID (rs_kmsg_FormatterClientID E V) (ir_kmsg_FormatterClientID E V)) (w : World) (l : List UInt8) :
    Ret P V.f_kmsg_FormatterClientID #[strV l] w fun u w' => u = optV V w.heap.size ∧ Ext none1 w w' ∧ w'.cell? ⟨w.heap.size, 0, none⟩ = some (strV l) ∧ w.heap.size < w'.heap.size := by
  refine hI.call (args := [_]) (by simp [nt_kmsg_FormatterClientID]) ?_
  have hc : (strV l).cells = #[strV l] := rfl
  have hb : ∀ c : Array Value, bld? P V.t_kmsg_formatterOpt [(0, .func (.func V.f_kmsg_FormatterClientID_1) #[] c)] = some (.agg #[.func (.func V.f_kmsg_FormatterClientID_1) #[] c]) := by
    intro c
    simp [bld?, ht.zFo, ht.pFo, Instr.fill, Value.cells]
  simp [ir_kmsg_FormatterClientID, rs_kmsg_FormatterClientID, hb, st_mkIface ht.cFo, hc]
  exact ⟨rfl, (Ext.refl none1 w).alloc _⟩
theorem c_ClientID1 (hI : FnIs P V.f_kmsg_FormatterClientID_1 nt_kmsg_FormatterClientID_1 (rs_kmsg_FormatterClientID_1 E V) (ir_kmsg_FormatterClientID_1 E V)) {w : World} {a p : Nat} (hb : w.heap[a]? = some (.cells #[.pointer none] V.t_kmsg_RequestFormatter (0, 0))) :
    Ret P V.f_kmsg_FormatterClientID_1 #[.pointer (some ⟨a, 0, none⟩), .pointer (some ⟨p, 0, none⟩)] w fun _ w' => w' = w.setBlk a (.cells #[.pointer (some ⟨p, 0, none⟩)] V.t_kmsg_RequestFormatter (0, 0)) := by
  refine hI.call (args := [_, _]) (by simp [nt_kmsg_FormatterClientID_1]) ?_
  simp [ir_kmsg_FormatterClientID_1, rs_kmsg_FormatterClientID_1, ht.rf0, Addr.add_mk, store_scl ht.kPS, put1K_blk hb, Value.oneCell']
theorem c_apply (hI : FnIs P V.f_kmsg_formatterOpt_apply nt_kmsg_formatterOpt_apply (rs_kmsg_formatterOpt_apply E V) (ir_kmsg_formatterOpt_apply E V))
    (h1 : FnIs P V.f_kmsg_FormatterClientID_1 nt_kmsg_FormatterClientID_1 (rs_kmsg_FormatterClientID_1 E V) (ir_kmsg_FormatterClientID_1 E V)) {w : World} {a p : Nat} (hb : w.heap[a]? = some (.cells #[.pointer none] V.t_kmsg_RequestFormatter (0, 0))) :
    Ret P V.f_kmsg_formatterOpt_apply #[.agg #[.func (.func V.f_kmsg_FormatterClientID_1) #[] #[.pointer (some ⟨p, 0, none⟩)]], .pointer (some ⟨a, 0, none⟩)] w fun _ w' =>
      Ext (· = a) w w' ∧ w'.heap[a]? = some (.cells #[.pointer (some ⟨p, 0, none⟩)] V.t_kmsg_RequestFormatter (0, 0)) := by
  refine hI.call (args := [_, _]) (by simp [nt_kmsg_formatterOpt_apply]) ?_
  have hv : ∀ a : Array Value, (Value.agg a).cells = a := fun _ => rfl
  have hc : (w.alloc (.cells #[.func (.func V.f_kmsg_FormatterClientID_1) #[] #[.pointer (some ⟨p, 0, none⟩)]] V.t_kmsg_formatterOpt)).cell? ⟨w.heap.size, 0, none⟩ = some (.func (.func V.f_kmsg_FormatterClientID_1) #[] #[.pointer (some ⟨p, 0, none⟩)]) := by
    rw [cell_of_blk alloc_new]; rfl
  simp [ir_kmsg_formatterOpt_apply, rs_kmsg_formatterOpt_apply, hv, ht.fo0, Addr.add_mk, ld_scl ht.kFn, hc]
  rw [stp_callF (g := V.f_kmsg_FormatterClientID_1) (first := #[]) (cap := #[.pointer (some ⟨p, 0, none⟩)]) (by simp)]
  have hb' : (w.alloc (.cells #[.func (.func V.f_kmsg_FormatterClientID_1) #[] #[.pointer (some ⟨p, 0, none⟩)]] V.t_kmsg_formatterOpt)).heap[a]? = some (.cells #[.pointer none] V.t_kmsg_RequestFormatter (0, 0)) := ((Ext.refl none1 w).alloc _).old hb (fun h => h)
  refine Ret.mono (R := fun _ w' => w' = _) (by simpa using c_ClientID1 ht h1 (p := p) hb') ?_
  rintro v w' rfl
  exact ⟨((Ext.refl (· = a) w).alloc _).setBlk (.inr rfl) _, setBlk_same hb'⟩
/-- no options -/
theorem c_New0 (hI : FnIs P V.f_kmsg_NewRequestFormatter nt_kmsg_NewRequestFormatter (rs_kmsg_NewRequestFormatter E V) (ir_kmsg_NewRequestFormatter E V)) (w : World) :
    Ret P V.f_kmsg_NewRequestFormatter #[.slice none 0 0] w fun u w' => u = .pointer (some ⟨w.heap.size, 0, none⟩) ∧ Ext none1 w w' ∧ w'.heap[w.heap.size]? = some (.cells #[.pointer none] V.t_kmsg_RequestFormatter (0, 0)) := by
  refine hI.call (args := [_]) (by simp [nt_kmsg_NewRequestFormatter]) ?_
  have hv : ∀ a : Array Value, (Value.agg a).cells = a := fun _ => rfl
  simp [ir_kmsg_NewRequestFormatter, rs_kmsg_NewRequestFormatter, ht.zRF, hv, len_slice ht.uOs]
  refine cw_loop (fun f w' => f 9 = .int .i64 0 ∧ f 8 = .int .i64 0 ∧ f 3 = .pointer (some ⟨w.heap.size, 0, none⟩) ∧ Ext none1 w w' ∧ w'.heap[w.heap.size]? = some (.cells #[.pointer none] V.t_kmsg_RequestFormatter (0, 0))) (fun _ _ => 0)
    ⟨by simp, by simp, by simp, (Ext.refl none1 w).alloc _, alloc_new⟩ ?_
  rintro f w' ⟨f9, f8, f3, he, hb⟩
  simp [f9, f8]
  refine cw_false (by simp) ?_
  simp [f3]
  exact ⟨he, hb⟩
/-- the option of an id -/
theorem c_New1 (hI : FnIs P V.f_kmsg_NewRequestFormatter nt_kmsg_NewRequestFormatter (rs_kmsg_NewRequestFormatter E V) (ir_kmsg_NewRequestFormatter E V)) (hA : FnIs P V.f_kmsg_formatterOpt_apply nt_kmsg_formatterOpt_apply (rs_kmsg_formatterOpt_apply E V) (ir_kmsg_formatterOpt_apply E V))
    (h1 : FnIs P V.f_kmsg_FormatterClientID_1 nt_kmsg_FormatterClientID_1 (rs_kmsg_FormatterClientID_1 E V) (ir_kmsg_FormatterClientID_1 E V)) {w : World} {o p : Nat} (ho : w.cell? ⟨o, 0, none⟩ = some (optV V p)) :
    Ret P V.f_kmsg_NewRequestFormatter #[.slice (some ⟨o, 0, none⟩) 1 1] w fun u w' => u = .pointer (some ⟨w.heap.size, 0, none⟩) ∧ Ext none1 w w' ∧ w'.heap[w.heap.size]? = some (.cells #[.pointer (some ⟨p, 0, none⟩)] V.t_kmsg_RequestFormatter (0, 0)) := by
  refine hI.call (args := [_]) (by simp [nt_kmsg_NewRequestFormatter]) ?_
  have hv : ∀ a : Array Value, (Value.agg a).cells = a := fun _ => rfl
  simp [ir_kmsg_NewRequestFormatter, rs_kmsg_NewRequestFormatter, ht.zRF, hv, len_slice ht.uOs]
  refine cw_loop (fun f w' => ∃ i : Nat, i ≤ 1 ∧ f 9 = .int .i64 i ∧ f 8 = .int .i64 1 ∧ f 7 = .slice (some ⟨o, 0, none⟩) 1 1 ∧ f 3 = .pointer (some ⟨w.heap.size, 0, none⟩) ∧ Ext none1 w w' ∧ w'.heap[w.heap.size]? = some (.cells #[if i = 0 then .pointer none else .pointer (some ⟨p, 0, none⟩)] V.t_kmsg_RequestFormatter (0, 0)))
    (fun f _ => match f 9 with | .int _ i => (1 - i).toNat | _ => 0)
    ⟨0, by omega, by simp, by simp, by simp, by simp, (Ext.refl none1 w).alloc _, alloc_new⟩ ?_
  rintro f w' ⟨i, hi, f9, f8, f7, f3, he, hb⟩
  simp [f9, f8]
  rcases (show i = 0 ∨ i = 1 by omega) with rfl | rfl
  · refine cw_true (by simp) ?_
    have hco : w'.cell? ⟨o, 0, none⟩ = some (optV V p) := he.cell ho (fun h => h)
    simp [f7, f9, idx?, ht.sOs.siz, Addr.add_mk, ld_scl ht.kO, hco]
    refine st_invoke (T := V.t_kmsg_formatterOpt) (by simp; rfl) ht.mFo ht.rFo ?_
    have hb : w'.heap[w.heap.size]? = some (.cells #[.pointer none] V.t_kmsg_RequestFormatter (0, 0)) := by simpa using hb
    refine Ret.mono (R := fun _ w2 => Ext (· = w.heap.size) w' w2 ∧ w2.heap[w.heap.size]? = some (.cells #[.pointer (some ⟨p, 0, none⟩)] V.t_kmsg_RequestFormatter (0, 0))) (by simpa [f3] using c_apply ht hA h1 (p := p) hb) ?_
    rintro v w2 ⟨he2, hb2⟩
    have e1 : IntKind.i64.wrap 1 = 1 := by decide
    rw [e1]
    exact ⟨⟨1, by omega, by simp, f8, f3, he.trans' he2 (fun k hk h => by omega), by simpa using hb2⟩, by omega⟩
  · refine cw_false (by simp) ?_
    simp [f3]
    exact ⟨he, by simpa using hb⟩
end
end Go.Kg

set_option linter.unusedSimpArgs false
set_option linter.unusedVariables false
set_option linter.unusedSectionVars false
namespace Go.Kg
open Go
/-- bytes that a row holds -/
theorem OwnB.form {e : Nat} {w : World} {base : Nat} {v : Value} {s : List UInt8} (h : OwnB e w base v s) (hs : s ≠ []) :
    ∃ g cap cur, v = .slice (some ⟨g, 0, none⟩) s.length cap ∧ base ≤ g ∧ w.heap[g]? = some (.cells cur e (0, 0)) ∧ s.length ≤ cap ∧ cap ≤ maxLen ∧ cur.size = cap ∧ cur.toList.take s.length = cellsOf s := by
  obtain ⟨n, h1, h2⟩ := h
  have hn : n = s.length := by simpa using h1.symm
  subst hn
  rcases h2 with ⟨rfl, h0⟩ | ⟨g, cap, cur, rfl, hb, hg, hnc, hcm, hcs, htake⟩
  · exact absurd (List.eq_nil_of_length_eq_zero h0) hs
  · exact ⟨g, cap, cur, rfl, hb, hg, hnc, hcm, by simpa using hcs, by simpa using htake⟩
/-- the start of a row written over -/
theorem OwnB.over {e : Nat} {w : World} {base g cap : Nat} {cur : Array Value} {s out : List UInt8} (hb : base ≤ g) (hg : w.heap[g]? = some (.cells (cellsOf out ++ cur.toList.drop out.length).toArray e (0, 0))) (hn : s.length ≤ cap) (hm : cap ≤ maxLen) (hc : cur.size = cap)
    (ht : cur.toList.take s.length = cellsOf s) (ho : out.length ≤ s.length) : OwnB e w base (.slice (some ⟨g, 0, none⟩) s.length cap) (out ++ s.drop out.length) := by
  have hl : (out ++ s.drop out.length).length = s.length := by simp; omega
  refine ⟨s.length, by simp; omega, .inr ⟨g, cap, _, rfl, hb, hg, hn, hm, by simp; omega, ?_⟩⟩
  rw [Nat.mul_one, List.take_append, cellsOf_length, cellsOf_append, List.take_of_length_le (by simpa using ho)]
  congr 1
  have h1 : cellsOf (s.drop out.length) = (cur.toList.take s.length).drop out.length := by rw [ht]; simp [cellsOf]
  rw [h1, List.drop_take]
/-- what stands between the length and the message -/
def frH (ver corr : Int) (o : Option (List UInt8)) : List UInt8 := bigE 2 18 ++ bigE 2 (ver % 65536).toNat ++ bigE 4 (corr % 4294967296).toNat ++ wNStr o ++ (if 3 ≤ ver then [0] else [])
/-- the frame of what is written -/
def frW (ver corr : Int) (o : Option (List UInt8)) (body : List UInt8) : List UInt8 := bigE 4 (((frH ver corr o ++ body).length : Int) % 4294967296).toNat ++ (frH ver corr o ++ body)
/-- the functions that AppendRequest calls -/
structure FrFs (P : Program) (E : Env) (V : EnvX) : Prop where
  key : FnIs P V.f_pkmsg_ApiVersionsRequest_Key nt_pkmsg_ApiVersionsRequest_Key (rs_pkmsg_ApiVersionsRequest_Key E V) (ir_pkmsg_ApiVersionsRequest_Key E V)
  get : FnIs P V.f_pkmsg_ApiVersionsRequest_GetVersion nt_pkmsg_ApiVersionsRequest_GetVersion (rs_pkmsg_ApiVersionsRequest_GetVersion E V) (ir_pkmsg_ApiVersionsRequest_GetVersion E V)
  flex : FnIs P V.f_pkmsg_ApiVersionsRequest_IsFlexible nt_pkmsg_ApiVersionsRequest_IsFlexible (rs_pkmsg_ApiVersionsRequest_IsFlexible E V) (ir_pkmsg_ApiVersionsRequest_IsFlexible E V)
  wI16 : ∀ n : Int, WrC P E.tU8 E.f_kbin_AppendInt16 [.int .i16 n] (bigE 2 (n % 65536).toNat)
  wI32 : ∀ n : Int, WrC P E.tU8 E.f_kbin_AppendInt32 [.int .i32 n] (bigE 4 (n % 4294967296).toNat)
  oI32 : ∀ n : Int, InPl P E.tU8 E.f_kbin_AppendInt32 [.int .i32 n] (bigE 4 (n % 4294967296).toNat)
  wNS : ∀ (o : Option (List UInt8)) (u : Value), WrP P E.tU8 E.f_kbin_AppendNullableString (fun w base => StrPtr w (· < base) u o) [u] (wNStr o)
section
variable {P : Program} {E : Env} {V : EnvX} (ht : TyX P E V)
include ht
set_option maxHeartbeats 1000000 in
theorem c_Frame (hF : FrFs P E V) (hI : FnIs P V.f_pkmsg_RequestFormatter_AppendRequest nt_pkmsg_RequestFormatter_AppendRequest (rs_pkmsg_RequestFormatter_AppendRequest E V) (ir_pkmsg_RequestFormatter_AppendRequest E V))
    {w : World} {a b base : Nat} {ver corr : Int} {cid dst : Value} {o : Option (List UInt8)} {body : List UInt8} (ha : w.cell? ⟨a, 0, none⟩ = some cid) (hab : a < base) (ho : StrPtr w (· < base) cid o) (hv : w.cell? ⟨b, 0, none⟩ = some (.int .i16 ver)) (hbb : b < base) (hbase : base ≤ w.heap.size)
    (hd : OwnB E.tU8 w base dst []) (hsz : (frH ver corr o).length + body.length ≤ 1099511000000)
    (hApp : ∀ w' v s, Ext none1 w w' ∨ Ext (base ≤ ·) w w' → OwnB E.tU8 w' base v s → s.length + body.length ≤ 1099511627776 → Ret P V.f_pkmsg_ApiVersionsRequest_AppendTo #[.pointer (some ⟨b, 0, none⟩), v] w' fun v' w2 => OwnB E.tU8 w2 base v' (s ++ body) ∧ Grew w' v w2 v') :
    Ret P V.f_pkmsg_RequestFormatter_AppendRequest #[.pointer (some ⟨a, 0, none⟩), dst, .iface V.t_pkmsg_ApiVersionsRequest (.pointer (some ⟨b, 0, none⟩)), .int .i32 corr] w fun v' w' =>
      OwnB E.tU8 w' base v' (frW ver corr o body) ∧ Ext (base ≤ ·) w w' := by
  have hl16 : ∀ n, (bigE 2 n).length = 2 := fun n => bigE_length
  have hl32 : ∀ n, (bigE 4 n).length = 4 := fun n => bigE_length
  have hG : ∀ {w1 w2 : World} {v1 v2 : Value} {s : List UInt8}, OwnB E.tU8 w1 base v1 s → Grew w1 v1 w2 v2 → Ext (base ≤ ·) w1 w2 := fun ho hg => hg.ext.mono (fun k _ hk => (Own.below ho hk).1)
  refine hI.call (args := [_, _, _, _]) (by simp [nt_pkmsg_RequestFormatter_AppendRequest]) ?_
  simp only [ir_pkmsg_RequestFormatter_AppendRequest, rs_pkmsg_RequestFormatter_AppendRequest, cw_seq]
  simp [st_bsl ht.ws.sBs, denseFrom, allSz, flat, Value.cells]
  have hb0 : bval 0 = 0 := by decide
  refine st_app_lit ht.ws.sBs (s := []) (by simp) hd hbase [0, 0, 0, 0] (by simp [cellsOf]) (by simp) (by simp) ?_
  intro v1 w1 o1 g1
  rw [List.nil_append] at o1
  have e1 := hG hd g1
  have s1 := e1.size
  try simp
  refine st_invoke (T := V.t_pkmsg_ApiVersionsRequest) (by simp; rfl) ht.mKey ht.rM ?_
  refine Ret.mono (R := fun u w' => u = .int .i16 18 ∧ w1 = w') (by simpa using c_XKey ht hF.key w1 _) ?_
  rintro _ _ ⟨rfl, rfl⟩
  try simp
  have hv1 : ∀ w', Ext (base ≤ ·) w w' → w'.cell? ⟨b, 0, none⟩ = some (.int .i16 ver) := fun w' he => he.cell hv (by simp; omega)
  refine st_invoke (T := V.t_pkmsg_ApiVersionsRequest) (by simp; rfl) ht.mGet ht.rM ?_
  refine Ret.mono (R := fun u w' => u = .int .i16 ver ∧ w1 = w') (by simpa using c_XGet ht hF.get (hv1 w1 e1)) ?_
  rintro _ _ ⟨rfl, rfl⟩
  try simp
  refine (hF.wI16 18 w1 base v1 _ o1 (by omega) (by simp)).mono ?_
  rintro v2 w2 ⟨o2, g2⟩
  have e2 := e1.trans (hG o1 g2)
  have s2 := e2.size
  try simp
  refine (hF.wI16 ver w2 base v2 _ o2 (by omega) (by simp)).mono ?_
  rintro v3 w3 ⟨o3, g3⟩
  have e3 := e2.trans (hG o2 g3)
  have s3 := e3.size
  try simp
  refine (hF.wI32 corr w3 base v3 _ o3 (by omega) (by simp)).mono ?_
  rintro v4 w4 ⟨o4, g4⟩
  have e4 := e3.trans (hG o3 g4)
  have s4 := e4.size
  try simp
  refine cw_false (by simp) ?_
  have ha4 : w4.cell? ⟨a, 0, none⟩ = some cid := e4.cell ha (by simp; omega)
  have hwn : (wNStr o).length + 8 ≤ (frH ver corr o).length := by simp [frH]; omega
  simp [ht.rf0, Addr.add_mk, ld_scl ht.kPS, ha4]
  refine (hF.wNS o cid w4 base v4 _ (StrPtr.ext e4 (fun k _ h => by simp; omega) ho) o4 (by omega) (by simp; omega)).mono ?_
  rintro v5 w5 ⟨o5, g5⟩
  have e5 := e4.trans (hG o4 g5)
  have s5 := e5.size
  try simp
  refine st_invoke (T := V.t_pkmsg_ApiVersionsRequest) (by simp; rfl) ht.mFlex ht.rM ?_
  refine Ret.mono (R := fun u w' => u = .bool (decide (3 ≤ ver)) ∧ w5 = w') (by simpa using c_XFlex ht hF.flex (hv1 w5 e5)) ?_
  rintro _ _ ⟨rfl, rfl⟩
  refine cw_then (fun f w' => f 2 = .iface V.t_pkmsg_ApiVersionsRequest (.pointer (some ⟨b, 0, none⟩)) ∧ ∃ v6, f 1 = v6 ∧ OwnB E.tU8 w' base v6 ([0, 0, 0, 0] ++ frH ver corr o) ∧ Ext (base ≤ ·) w w') ?_ ?_
  · by_cases h3 : 3 ≤ ver
    · refine cw_true (by simp [h3]) ?_
      simp [st_bsl ht.ws.sBs, denseFrom, allSz, flat, Value.cells]
      refine st_app_lit ht.ws.sBs (by simp) o5 (by omega) [0] (by simp [cellsOf]) (by simp) (by simp; omega) ?_
      intro v6 w6 o6 g6
      have e6 := e5.trans (hG o5 g6)
      refine cw_false (by simp) ?_
      simp
      exact ⟨by simpa [frH, h3] using o6, e6⟩
    · refine cw_false (by simp [h3]) ?_
      simp
      exact ⟨by simpa [frH, h3] using o5, e5⟩
  rintro f w6 ⟨f2, v6, f1, o6, e6⟩
  have s6 := e6.size
  simp [f2, f1]
  refine st_invoke (T := V.t_pkmsg_ApiVersionsRequest) (by simp [f2]; rfl) ht.mApp ht.rM ?_
  have hA := hApp w6 v6 _ (.inr e6) o6 (by simp; omega)
  refine Ret.mono (R := _) (by simpa using hA) ?_
  rintro v7 w7 ⟨o7, g7⟩
  have e7 := e6.trans (hG o6 g7)
  try simp
  generalize hss : (0 :: 0 :: 0 :: 0 :: (frH ver corr o ++ body) : List UInt8) = ss at o7
  have hne : ss ≠ [] := by rw [← hss]; simp
  obtain ⟨g, cap, cur, rfl, hbg, hg, hnc, hcm, hcs, htk⟩ := OwnB.form o7 hne
  have hlen : ss.length = (frH ver corr o ++ body).length + 4 := by rw [← hss]; simp
  have hd4 : ss.drop 4 = frH ver corr o ++ body := by rw [← hss]; simp
  refine cw_regH (fun _ => True) trivial ?_
  have hgd : w7.drew.heap[g]? = some (.cells cur E.tU8 (0, 0)) := ((Ext.refl none1 w7).drew).old hg (fun h => h)
  have h53 : slice? P E.tBs (.slice (some ⟨g, 0, none⟩) ss.length cap) none (some (.int .i64 0)) none = some (.slice (some ⟨g, 0, none⟩) 0 cap) := by
    have := slice_hi (P := P) ht.ws.sBs.siz (a := some ⟨g, 0, none⟩) (n := ss.length) (c := cap) (k := .i64) (l := 0) (by omega)
    simpa [Addr.add_mk] using this
  have h55 : ∃ a4, slice? P E.tBs (.slice (some ⟨g, 0, none⟩) ss.length cap) (some (.int .i64 4)) none none = some (.slice a4 (ss.length - 4) (cap - 4)) := by
    have := slice_lo (P := P) ht.ws.sBs.siz (a := some ⟨g, 0, none⟩) (n := ss.length) (c := cap) (k := .i64) (l := 4) (by omega)
    exact ⟨_, this⟩
  obtain ⟨a4, h55⟩ := h55
  simp [h53, h55, len_slice ht.ws.sBs.und, ht.ws.iInt, ht.ws.iI32]
  have hI := hF.oI32 (IntKind.i32.wrap ((ss.length - 4 : Nat) : Int)) w7.drew g cap cur hgd (by simp; omega) hcs
  refine Ret.mono (R := _) (by simpa using hI) ?_
  rintro v8 w8 ⟨e8, hg8⟩
  have hwr : IntKind.i32.wrap ((ss.length - 4 : Nat) : Int) % 4294967296 = ((frH ver corr o ++ body).length : Int) % 4294967296 := by
    have : ss.length - 4 = (frH ver corr o ++ body).length := by omega
    rw [this]
    exact len32i
  rw [hwr] at hg8
  refine ⟨?_, e7.trans ((Ext.refl none1 w7).drew.trans' e8 (fun k _ h => ?_) (fun k _ h => h.elim))⟩
  · have := OwnB.over (s := ss) (out := bigE 4 (((frH ver corr o ++ body).length : Int) % 4294967296).toNat) hbg (by simpa using hg8) hnc hcm hcs htk (by simp; omega)
    rw [bigE_length, hd4] at this
    exact this
  · have : k = g := h
    show base ≤ k
    omega
end
end Go.Kg

set_option linter.unusedSimpArgs false
set_option linter.unusedVariables false
set_option linter.unusedSectionVars false
namespace Go.Kg
open Go
/-- is the switched value one of some keys (what comes of it stands in d) -/
def swT (E : Env) (d : Nat) : List Int → Nat → Ir
  | [], _ => .skip
  | [k], n => .reg [⟨none, some n, .binOp .eql E.tI16 (.tmp 5) (.const (.int .i16 k)) E.tI16, E.tB⟩, ⟨none, some d, .assign (.tmp n), E.tB⟩]
  | k :: ks, n => .seq (.reg [⟨none, some n, .binOp .eql E.tI16 (.tmp 5) (.const (.int .i16 k)) E.tI16, E.tB⟩, ⟨none, some d, .assign (.tmp n), E.tB⟩]) (.cond d .skip (swT E d ks (n + 1)))
/-- the groups of a switch; what is told of each: never, or from a version on -/
def flG (E : Env) : List (List Int × Option Int) → Nat → Ir
  | [], _ => .skip
  | (ks, none) :: gs, n => .seq (swT E n ks (n + 1)) (.cond n (.seq (.reg [⟨none, some 4, .assign (.const (.bool false)), E.tB⟩]) .ret) (flG E gs (n + ks.length + 1)))
  | (ks, some c) :: gs, n => .seq (swT E n ks (n + 1)) (.cond n (.seq (.reg [⟨none, some (n + ks.length + 1), .move (.tmp 1), E.tI16⟩, ⟨none, some (n + ks.length + 2), .binOp .geq E.tI16 (.tmp (n + ks.length + 1)) (.const (.int .i16 c)) E.tI16, E.tB⟩, ⟨none, some 4, .assign (.tmp (n + ks.length + 2)), E.tB⟩]) .ret)
      (flG E gs (n + ks.length + 3)))
def flGs : List (List Int × Option Int) := [([17, 47], none), ([27, 44, 48, 49, 53, 54], some 1), ([5, 21, 22, 29, 30, 31, 33, 34, 35, 36, 37, 38, 39, 40, 41, 42, 43], some 2), ([7, 10, 16, 18, 24, 25, 26, 28], some 3), ([4, 12, 13, 14, 20, 23, 32], some 4), ([15, 19], some 5), ([2, 6, 9, 11], some 6), ([8], some 8), ([0, 3], some 9), ([1], some 12)]
def flIr (E : Env) : Ir :=
  .seq (.reg [⟨none, some 4, .assign (.const (.bool false)), E.tB⟩])
  (.seq (.seq (.reg [⟨none, some 5, .move (.tmp 0), E.tI16⟩]) (.block 0 (flG E flGs 6)))
  (.seq (.reg [⟨none, some 4, .assign (.const (.bool true)), E.tB⟩]) .ret))
theorem flIr_eq (E : Env) (V : EnvX) : ir_spec_Flexible E V = flIr E := rfl
theorem cw_swT {P : Program} {E : Env} {d : Nat} {x : Int} {Q : Post} {w : World} (h5 : 5 < d) : ∀ (ks : List Int) (n : Nat) {f : Nat → Value}, ks ≠ [] → d < n → f 5 = .int .i16 x → (∀ f', f' d = .bool (ks.contains x) → (∀ j, j < d → f' j = f j) → Q .normal f' w) → (swT E d ks n).cw P Q f w
  | [], n, f, h, _, _, _ => absurd rfl h
  | [k], n, f, _, hn, hf, hq => by
    simp [swT, hf]
    refine hq _ (by simp; by_cases e : x = k <;> simp [e]) ?_
    intro j hj
    simp [show ¬ j = d by omega, show ¬ j = n by omega]
  | k :: k2 :: ks, n, f, _, hn, hf, hq => by
    show Ir.cw P (.seq _ (.cond d .skip (swT E d (k2 :: ks) (n + 1)))) Q f w
    rw [cw_seq]
    simp [hf]
    by_cases hk : x = k
    · refine cw_true (by simp [hk]) ?_
      simp
      refine hq _ (by simp [hk]) ?_
      intro j hj
      simp [show ¬ j = d by omega, show ¬ j = n by omega]
    · refine cw_false (by simp [hk]) ?_
      refine cw_swT (x := x) h5 (k2 :: ks) (n + 1) (by simp) (by omega) (by simp [show ¬ 5 = d by omega, show ¬ 5 = n by omega, hf]) ?_
      intro f' h1 h2
      refine hq f' (by rw [h1]; simp [hk]) ?_
      intro j hj
      rw [h2 j hj]
      simp [show ¬ j = d by omega, show ¬ j = n by omega]
theorem cw_flG {P : Program} {E : Env} {x ver : Int} {Q : Post} {w : World} {B : Bool} (hQ : ∀ f, f 4 = .bool B → Q .ret f w) : ∀ (gs : List (List Int × Option Int)) (n : Nat) {f : Nat → Value}, 5 < n → f 5 = .int .i16 x → f 1 = .int .i16 ver →
    (match gs.find? (fun g => g.1.contains x) with | some (_, some c) => decide (c ≤ ver) = B ∧ ∀ g ∈ gs, g.1 ≠ [] | _ => False) → (flG E gs n).cw P Q f w
  | [], n, f, _, _, _, h => by simp at h
  | (ks, r) :: gs, n, f, hn, h5, h1, h => by
    have hne : ks ≠ [] := by
      split at h
      · exact h.2 _ (List.mem_cons_self ..)
      · exact h.elim
    have key : ∀ (a b : Ir) , (∀ f', f' n = .bool (ks.contains x) → (∀ j, j < n → f' j = f j) → (Ir.cond n a b).cw P Q f' w) → (Ir.seq (swT E n ks (n + 1)) (.cond n a b)).cw P Q f w := by
      intro a b hab
      rw [cw_seq]
      refine cw_swT (by omega) ks (n + 1) hne (by omega) h5 ?_
      intro f' e1 e2
      exact hab f' e1 e2
    cases hc : ks.contains x with
    | true =>
      rw [List.find?_cons_of_pos (by simpa using hc)] at h
      cases r with
      | none => exact h.elim
      | some c =>
        rw [flG]
        refine key _ _ fun f' e1 e2 => cw_true (by rw [e1, hc]) ?_
        simp [e2 1 (by omega), h1]
        exact hQ _ (by simp [h.1])
    | false =>
      rw [List.find?_cons_of_neg (by simpa using hc)] at h
      have h' : (match gs.find? (fun g => g.1.contains x) with | some (_, some c) => decide (c ≤ ver) = B ∧ ∀ g ∈ gs, g.1 ≠ [] | _ => False) := by
        revert h
        split
        · exact fun h => ⟨h.1, fun g hg => h.2 g (List.mem_cons_of_mem _ hg)⟩
        · exact fun h => h
      cases r with
      | none =>
        rw [flG]
        exact key _ _ fun f' e1 e2 => cw_false (by rw [e1, hc]) (cw_flG hQ gs _ (by omega) (by rw [e2 5 (by omega), h5]) (by rw [e2 1 (by omega), h1]) h')
      | some c =>
        rw [flG]
        exact key _ _ fun f' e1 e2 => cw_false (by rw [e1, hc]) (cw_flG hQ gs _ (by omega) (by rw [e2 5 (by omega), h5]) (by rw [e2 1 (by omega), h1]) h')
section
variable {P : Program} {E : Env} {V : EnvX} (ht : TyX P E V)
include ht
theorem c_Flexible (hI : FnIs P V.f_spec_Flexible nt_spec_Flexible (rs_spec_Flexible E V) (ir_spec_Flexible E V)) (w : World) (ver : Int) :
    Ret P V.f_spec_Flexible #[.int .i16 18, .int .i16 ver] w fun u w' => u = .bool (decide (3 ≤ ver)) ∧ w = w' := by
  refine hI.call (args := [_, _]) (by simp [nt_spec_Flexible]) ?_
  rw [flIr_eq]
  simp [flIr, rs_spec_Flexible]
  refine cw_flG (x := 18) (ver := ver) (B := decide (3 ≤ ver)) ?_ flGs 6 (by omega) (by simp) (by simp) ⟨rfl, by decide⟩
  intro f h4
  simp [h4]
end
end Go.Kg

set_option linter.unusedSimpArgs false
set_option linter.unusedVariables false
set_option linter.unusedSectionVars false
namespace Go.Kg
open Go
theorem fix2 (n : Int) : fixE 2 (IntKind.i64.wrap n) = bigE 2 (n % 65536).toNat := by
  rw [fixE_eq]
  simp only [num]
  congr 2
  simp [IntKind.wrap, IntKind.signed, IntKind.bits]; omega
theorem fix4 (n : Int) : fixE 4 (IntKind.i64.wrap n) = bigE 4 (n % 4294967296).toNat := by
  rw [fixE_eq]
  simp only [num]
  congr 2
  simp [IntKind.wrap, IntKind.signed, IntKind.bits]; omega
theorem fix2n (n : Nat) : fixE 2 (n : Int) = bigE 2 (n % 65536) := by rw [fixE_eq, num_nat]
theorem fix4n (n : Nat) : fixE 4 (n : Int) = bigE 4 ((n : Int) % 4294967296).toNat := by rw [fixE_eq]; simp [num]
section
variable {P : Program} {E : Env} {V : EnvX} (ht : TyX P E V)
include ht
theorem c_zz1 (hI : FnIs P V.f_laws_zzFits1 nt_laws_zzFits1 (rs_laws_zzFits1 E V) (ir_laws_zzFits1 E V)) (w : World) (has : Bool) (l : List UInt8) :
    Ret P V.f_laws_zzFits1 #[.agg #[.bool has, strV l]] w fun u w' => u = .bool (decide (l.length ≤ 2147483647)) ∧ Ext none1 w w' := by
  refine hI.call (args := [_]) (by simp [nt_laws_zzFits1]) ?_
  have hv : ∀ a : Array Value, (Value.agg a).cells = a := fun _ => rfl
  have hc : (w.alloc (.cells #[.bool has, strV l] V.t_impl_Id)).cell? ⟨w.heap.size, 1, none⟩ = some (strV l) := by
    rw [cell_of_blk alloc_new]; rfl
  have hl : lenK P E.tS (w.alloc (.cells #[.bool has, strV l] V.t_impl_Id)) = fun K => lenK P E.tS (w.alloc (.cells #[.bool has, strV l] V.t_impl_Id)) K := rfl
  simp [ir_laws_zzFits1, rs_laws_zzFits1, hv, ht.id1, Addr.add_mk, ld_scl ht.ws.kS, hc]
  simp [strV, len_str ht.ws.uS]
  by_cases h : l.length ≤ 2147483647
  · refine cw_false (by simp; omega) ?_
    simp [h]
    exact (Ext.refl none1 w).alloc _
  · refine cw_true (by simp; omega) ?_
    simp [h]
    exact (Ext.refl none1 w).alloc _
theorem c_idB (hI : FnIs P V.f_laws_idBytes nt_laws_idBytes (rs_laws_idBytes E V) (ir_laws_idBytes E V)) (w : World) (has : Bool) (l : List UInt8) :
    Ret P V.f_laws_idBytes #[.agg #[.bool has, strV l]] w fun u w' => ∃ v, u = .tuple #[v, .bool (decide (l.length ≤ 32767))] ∧ BytesAt w' (fun b => w.heap.size ≤ b) v l ∧ Ext none1 w w' := by
  refine hI.call (args := [_]) (by simp [nt_laws_idBytes]) ?_
  have hv : ∀ a : Array Value, (Value.agg a).cells = a := fun _ => rfl
  simp only [ir_laws_idBytes, rs_laws_idBytes]
  simp [hv]
  generalize hw1 : w.alloc (.cells #[.bool has, strV l] V.t_impl_Id) = w1
  have e1 : Ext none1 w w1 := by rw [← hw1]; exact (Ext.refl none1 w).alloc _
  have hb1 : w1.heap[w.heap.size]? = some (.cells #[.bool has, strV l] V.t_impl_Id (0, 0)) := by rw [← hw1]; exact alloc_new
  have hc : ∀ w', Ext none1 w1 w' → w'.cell? ⟨w.heap.size, 1, none⟩ = some (strV l) := fun w' he => by
    rw [cell_of_blk (he.old hb1 (fun h => h))]; rfl
  have hD := (Ext.refl none1 w1).drew
  have hln : len? P E.tS (strV l) = some (.int .i64 l.length) := by simp [strV, len_str ht.ws.uS]
  refine cw_regH (Ext none1 w1) hD ?_
  simp +contextual [ht.id1, Addr.add_mk, ld_scl ht.ws.kS, hc, hc w1 (Ext.refl _ _), hln]
  simp only [strV, convK_str]
  refine st_strBytes ht.ws.uS ht.ws.sBs ht.ws.iU8 (l := l) ?_ ?_
  · simp [strV]
  intro v w2 hb e2
  have hD2 := hD.trans e2
  try simp
  exact ⟨hD2, v, ⟨rfl, by omega⟩, hb.mono (fun b _ h => Nat.le_trans e1.size (Nat.le_trans hD.size h)), e1.trans hD2⟩
set_option maxHeartbeats 1000000 in
theorem c_SFrame (hX : FixedC P E) (hFl : FnIs P V.f_spec_Flexible nt_spec_Flexible (rs_spec_Flexible E V) (ir_spec_Flexible E V)) (hI : FnIs P V.f_spec_Frame nt_spec_Frame (rs_spec_Frame E V) (ir_spec_Frame E V))
    {w : World} {K K' : Nat → Prop} {ver corr : Int} {has : Bool} {iv bv : Value} {l body : List UInt8} (hi : BytesAt w K iv l) (hb : BytesAt w K' bv body) (hsz : l.length + body.length ≤ 1099511000000) :
    Ret P V.f_spec_Frame #[.int .i16 18, .int .i16 ver, .int .i32 corr, .bool has, iv, bv] w fun v w' => Fresh E.tU8 w v w' (frW ver corr (if has = true then some l else none) body) := by
  refine hI.call (args := [_, _, _, _, _, _]) (by simp [nt_spec_Frame]) ?_
  simp only [ir_spec_Frame, rs_spec_Frame, cw_seq]
  have hs : ∀ {w1 w2 : World} {v1 v2 : Value} {s : List UInt8}, Ext none1 w w1 → OwnB E.tU8 w1 w.heap.size v1 s → Grew w1 v1 w2 v2 → Ext none1 w w2 := fun h ho hg => h.owned ho hg.ext
  have x18 : IntKind.i64.wrap 18 = 18 := by decide
  simp [ht.ws.iI16 ht.n16, ht.ws.iI64, ht.ws.iI32, x18]
  refine (hX 18 2 (by omega) w).mono ?_
  rintro v1 w1 ⟨o1, e1⟩
  refine (hX _ 2 (by omega) w1).mono ?_
  rintro v2 w2 ⟨o2, e2⟩
  try simp
  have o1' := Own.ext o1 e2 (fun _ _ h => h)
  refine st_app_bytes ht.ws.sBs (by simp) o1' (by have := e1.size; have := e2.size; omega) (k := All) (by simpa using own_bytes o2) (by simp [fixE_len]) ?_
  intro v3 w3 o3 g3
  have e3 := hs (e1.trans e2) o1' g3
  try simp
  refine (hX _ 4 (by omega) w3).mono ?_
  rintro v4 w4 ⟨o4, e4⟩
  have o3' := Own.ext o3 e4 (fun _ _ h => h)
  try simp
  refine st_app_bytes ht.ws.sBs (by simp) o3' (by have := e3.size; have := e4.size; omega) (k := All) (by simpa using own_bytes o4) (by simp [fixE_len]) ?_
  intro v5 w5 o5 g5
  have e5 := hs (e3.trans e4) o3' g5
  have r5 : fixE 2 18 ++ fixE 2 (IntKind.i64.wrap ver) ++ fixE 4 (IntKind.i64.wrap corr) = bigE 2 18 ++ bigE 2 (ver % 65536).toNat ++ bigE 4 (corr % 4294967296).toNat := by
    rw [fix2, fix4]
    rfl
  rw [r5] at o5
  generalize hh : bigE 2 18 ++ bigE 2 (ver % 65536).toNat ++ bigE 4 (corr % 4294967296).toNat = h8 at o5
  have hl8 : h8.length = 8 := by rw [← hh]; simp
  have hi5 := hi.ext e5 (fun _ _ _ h => h)
  obtain ⟨ai, ci, hiv, _⟩ := hi5.len
  have s5 := e5.size
  refine cw_then (fun f w' => f 0 = .int .i16 18 ∧ f 1 = .int .i16 ver ∧ f 5 = bv ∧ ∃ v, f 13 = v ∧ OwnB E.tU8 w' w.heap.size v (h8 ++ wNStr (if has = true then some l else none)) ∧ Ext none1 w w') ?_ ?_
  · cases has with
    | true =>
      refine cw_true (by simp) ?_
      simp [hiv, len_slice ht.ws.sBs.und]
      refine (hX _ 2 (by omega) w5).mono ?_
      rintro v6 w6 ⟨o6, e6⟩
      have o5' := Own.ext o5 e6 (fun _ _ h => h)
      try simp
      refine st_app_bytes ht.ws.sBs (by simp) o5' (by have := e6.size; omega) (k := All) (by simpa using own_bytes o6) (by simp [fixE_len]; omega) ?_
      intro v7 w7 o7 g7
      have e7 := hs (e5.trans e6) o5' g7
      try simp
      refine st_app_bytes ht.ws.sBs (by simp) o7 (by have := e7.size; omega) (k := K) (bs := l) (by simpa [hiv] using hi.ext e7 (fun _ _ _ h => h)) (by simp [fixE_len]; omega) ?_
      intro v8 w8 o8 g8
      have e8 := hs e7 o7 g8
      try simp
      rw [fix2n] at o8
      exact ⟨by simpa [wNStr, wStr] using o8, e8⟩
    | false =>
      refine cw_false (by simp) ?_
      simp
      refine (hX (-1) 2 (by omega) w5).mono ?_
      rintro v6 w6 ⟨o6, e6⟩
      have o5' := Own.ext o5 e6 (fun _ _ h => h)
      try simp
      refine st_app_bytes ht.ws.sBs (by simp) o5' (by have := e6.size; omega) (k := All) (by simpa using own_bytes o6) (by simp [fixE_len]; omega) ?_
      intro v7 w7 o7 g7
      have e7 := hs (e5.trans e6) o5' g7
      try simp
      have r7 : fixE 2 (-1) = bigE 2 65535 := by decide
      rw [r7] at o7
      exact ⟨by simpa [wNStr] using o7, e7⟩
  generalize hoo : (if has = true then some l else none) = oo
  have hno : (wNStr oo).length ≤ l.length + 2 := by
    rw [← hoo]; split <;> simp [wNStr, wStr]; omega
  rintro f w6 ⟨f0, f1, f5, v6, f13, o6, e6⟩
  have s6 := e6.size
  rw [cw_seq]
  refine cw_then (fun f w' => f 5 = bv ∧ ∃ v, f 13 = v ∧ OwnB E.tU8 w' w.heap.size v (frH ver corr oo) ∧ Ext none1 w w') ?_ ?_
  · simp [f0, f1]
    refine (c_Flexible ht hFl w6 ver).mono ?_
    rintro _ _ ⟨rfl, rfl⟩
    by_cases h3 : 3 ≤ ver
    · refine cw_true (by simp [h3]) ?_
      simp [st_bsl ht.ws.sBs, denseFrom, allSz, flat, Value.cells, f13]
      refine st_app_lit ht.ws.sBs (by simp) o6 (by omega) [0] (by simp [cellsOf]) (by simp) (by simp; omega) ?_
      intro v7 w7 o7 g7
      have e7 := hs e6 o6 g7
      try simp
      exact ⟨f5, by simpa [frH, h3, ← hh] using o7, e7⟩
    · refine cw_false (by simp [h3]) ?_
      simp [f5, f13]
      exact ⟨by simpa [frH, h3, ← hh] using o6, e6⟩
  have hfl : (frH ver corr oo).length ≤ l.length + 11 := by
    simp only [frH, List.length_append, bigE_length]
    split <;> simp <;> omega
  clear f0 f1 f5 f13 f
  rintro f w7 ⟨f5, v7, f13, o7, e7⟩
  have s7 := e7.size
  simp [f5, f13]
  refine st_app_bytes ht.ws.sBs (by simp) o7 (by omega) (k := K') (bs := body) (by simpa [f5] using hb.ext e7 (fun _ _ _ h => h)) (by omega) ?_
  intro v8 w8 o8 g8
  have e8 := hs e7 o7 g8
  have hb8 := own_bytes o8
  obtain ⟨a8, c8, hv8, _⟩ := hb8.len
  generalize hss : frH ver corr oo ++ body = ss at o8 hb8 hv8
  have hsl : ss.length ≤ l.length + body.length + 11 := by rw [← hss]; simp; omega
  simp [hv8, len_slice ht.ws.sBs.und]
  refine (hX _ 4 (by omega) w8).mono ?_
  rintro v9 w9 ⟨o9, e9⟩
  try simp
  have e89 := e8.trans e9
  refine st_app_bytes ht.ws.sBs (by simp) (Own.base o9 e8.size) (by have := e89.size; omega) (k := All) (bs := ss) (by simpa [hv8] using hb8.ext e9 (fun _ _ _ h => h)) (by simp [fixE_len]; omega) ?_
  intro v10 w10 o10 g10
  have e10 := hs e89 (Own.base o9 e8.size) g10
  try simp
  rw [fix4n] at o10
  exact ⟨by simpa [frW, hss] using o10, e10⟩
end
end Go.Kg

set_option linter.unusedSimpArgs false
set_option linter.unusedVariables false
set_option linter.unusedSectionVars false
namespace Go.Kg
open Go
structure FmFs (P : Program) (E : Env) (V : EnvX) : Prop extends FrFs P E V where
  new : FnIs P V.f_kmsg_NewRequestFormatter nt_kmsg_NewRequestFormatter (rs_kmsg_NewRequestFormatter E V) (ir_kmsg_NewRequestFormatter E V)
  apply_ : FnIs P V.f_kmsg_formatterOpt_apply nt_kmsg_formatterOpt_apply (rs_kmsg_formatterOpt_apply E V) (ir_kmsg_formatterOpt_apply E V)
  cid : FnIs P V.f_kmsg_FormatterClientID nt_kmsg_FormatterClientID (rs_kmsg_FormatterClientID E V) (ir_kmsg_FormatterClientID E V)
  cid1 : FnIs P V.f_kmsg_FormatterClientID_1 nt_kmsg_FormatterClientID_1 (rs_kmsg_FormatterClientID_1 E V) (ir_kmsg_FormatterClientID_1 E V)
  req : FnIs P V.f_pkmsg_RequestFormatter_AppendRequest nt_pkmsg_RequestFormatter_AppendRequest (rs_pkmsg_RequestFormatter_AppendRequest E V) (ir_pkmsg_RequestFormatter_AppendRequest E V)
  framed : FnIs P V.f_impl_framed nt_impl_framed (rs_impl_framed E V) (ir_impl_framed E V)
def FmSt (V : EnvX) (b : Nat) (corr : Int) (o : Option (List UInt8)) (w : World) (f : Nat → Value) (w' : World) : Prop :=
  f 0 = .slice none 0 0 ∧ f 2 = .iface V.t_pkmsg_ApiVersionsRequest (.pointer (some ⟨b, 0, none⟩)) ∧ f 3 = .int .i32 corr ∧ ∃ a cid, f 9 = .pointer (some ⟨a, 0, none⟩) ∧ w'.cell? ⟨a, 0, none⟩ = some cid ∧ StrPtr w' (· < w'.heap.size) cid o ∧ Ext none1 w w'
section
variable {P : Program} {E : Env} {V : EnvX} (ht : TyX P E V)
include ht
set_option maxHeartbeats 1000000 in
theorem c_framed (hF : FmFs P E V) {w : World} {b : Nat} {ver corr : Int} {has : Bool} {l body : List UInt8} (hv : w.cell? ⟨b, 0, none⟩ = some (.int .i16 ver)) (hsz : l.length + body.length ≤ 1099510000000)
    (hApp : ∀ base w' v s, Ext none1 w w' → w.heap.size ≤ base → base ≤ w'.heap.size → OwnB E.tU8 w' base v s → s.length + body.length ≤ 1099511627776 →
      Ret P V.f_pkmsg_ApiVersionsRequest_AppendTo #[.pointer (some ⟨b, 0, none⟩), v] w' fun v' w2 => OwnB E.tU8 w2 base v' (s ++ body) ∧ Grew w' v w2 v') :
    Ret P V.f_impl_framed #[.slice none 0 0, .agg #[.bool has, strV l], .iface V.t_pkmsg_ApiVersionsRequest (.pointer (some ⟨b, 0, none⟩)), .int .i32 corr] w fun v' w' =>
      OwnB E.tU8 w' w.heap.size v' (frW ver corr (if has = true then some l else none) body) ∧ Ext none1 w w' := by
  have hbw : b < w.heap.size := World.block_lt_of_cell? w _ hv
  refine hF.framed.call (args := [_, _, _, _]) (by simp [nt_impl_framed]) ?_
  have hcc : ∀ a : Array Value, (Value.agg a).cells = a := fun _ => rfl
  simp only [ir_impl_framed, rs_impl_framed, cw_seq]
  simp [hcc]
  generalize hw1 : w.alloc (.cells #[.bool has, strV l] V.t_impl_Id) = w1
  have e1 : Ext none1 w w1 := by rw [← hw1]; exact (Ext.refl none1 w).alloc _
  have hb1 : w1.heap[w.heap.size]? = some (.cells #[.bool has, strV l] V.t_impl_Id (0, 0)) := by rw [← hw1]; exact alloc_new
  refine (c_New0 ht hF.new w1).mono ?_
  rintro _ w2 ⟨rfl, e2, hb2⟩
  have e12 := e1.trans e2
  have hbi := e2.old hb1 (fun h => h)
  have c0 : w2.cell? ⟨w.heap.size, 0, none⟩ = some (.bool has) := by rw [cell_of_blk hbi]; rfl
  have c1 : w2.cell? ⟨w.heap.size, 1, none⟩ = some (strV l) := by rw [cell_of_blk hbi]; rfl
  simp [ht.id0, Addr.add_mk, ld_scl ht.rs.kB, c0]
  refine cw_then (FmSt V b corr (if has = true then some l else none) w) ?_ ?_
  · cases has with
    | false =>
      refine cw_false (by simp) ?_
      simp
      exact ⟨by simp, by simp, by simp, w1.heap.size, .pointer none, by simp, by rw [cell_of_blk hb2]; rfl, rfl, e12⟩
    | true =>
      refine cw_true (by simp) ?_
      simp [ht.id1, Addr.add_mk, ld_scl ht.ws.kS, c1]
      refine (c_ClientID ht hF.cid w2 l).mono ?_
      rintro _ w3 ⟨rfl, e3, c3, l3⟩
      try simp
      rw [st_bsl ht.sOs (by omega) (by simp [denseFrom]) (by simp) (by omega) (by omega) (by simp [allSz, optV, Value.cells])]
      generalize hw4 : w3.alloc _ = w4
      have e4 : Ext none1 w3 w4 := by rw [← hw4]; exact (Ext.refl none1 w3).alloc _
      have c4 : w4.cell? ⟨w3.heap.size, 0, none⟩ = some (optV V w2.heap.size) := by
        rw [← hw4, cell_of_blk alloc_new]
        simp [flat, optV, Value.cells]
      try simp
      refine (c_New1 ht hF.new hF.apply_ hF.cid1 c4).mono ?_
      rintro _ w5 ⟨rfl, e5, hb5⟩
      have e35 := e4.trans e5
      exact ⟨by simp, by simp, by simp, w4.heap.size, _, by simp, by rw [cell_of_blk hb5]; rfl, ⟨_, rfl, Nat.lt_of_lt_of_le l3 e35.size, e35.cell c3 (fun h => h)⟩, (e12.trans e3).trans e35⟩
  rintro f w5 ⟨f0, f2, f3, a, cid, f9, ca, hcid, e5⟩
  have haw : a < w5.heap.size := World.block_lt_of_cell? w5 _ ca
  have s5 := e5.size
  simp [f0, f2, f3, f9]
  refine st_app_bytes ht.ws.sBs (s := []) (base := w5.heap.size) (v := .slice none 0 0) (by simp) (by simpa [OwnB, cellsOf] using Own.nil w5 w5.heap.size E.tU8 1) (Nat.le_refl _) (k := All) (bs := []) (.inl ⟨⟨none, by simp [f0]⟩, rfl⟩) (by simp) ?_
  intro v6 w6 o6 g6
  rw [List.nil_append] at o6
  have e56 : Ext none1 w5 w6 := g6.ext.mono (fun k _ h => by simp [own1, Value.ownBlock] at h)
  have e6 := e5.trans e56
  try simp [f2, f3, f9]
  generalize hoo : (if has = true then some l else none) = oo at *
  have hno : (wNStr oo).length ≤ l.length + 2 := by
    rw [← hoo]; split <;> simp [wNStr, wStr]; omega
  have hfl : (frH ver corr oo).length ≤ l.length + 11 := by
    simp only [frH, List.length_append, bigE_length]
    split <;> simp <;> omega
  refine (c_Frame ht hF.toFrFs hF.req (base := w5.heap.size) (body := body) (e56.cell ca (fun h => h)) haw (StrPtr.ext e56 (fun _ _ _ h => h) hcid) (e6.cell hv (fun h => h)) (by omega) e56.size o6 (by omega) ?_).mono ?_
  · intro w' v s he ho hs
    have hE : Ext none1 w w' := by
      rcases he with he | he
      · exact e6.trans he
      · exact e6.trans' he (fun k hk h => by have : w5.heap.size ≤ k := h; omega)
    refine hApp w5.heap.size w' v s hE s5 ?_ ho hs
    have := e56.size
    rcases he with he | he <;> have := he.size <;> omega
  rintro v7 w7 ⟨o7, e7⟩
  try simp
  exact ⟨Own.base o7 s5, e6.trans' e7 (fun k hk h => by have : w5.heap.size ≤ k := h; omega)⟩
end
end Go.Kg

set_option linter.unusedSimpArgs false
set_option linter.unusedVariables false
set_option linter.unusedSectionVars false
namespace Go.Kg
open Go
/-- what it hands back -/
def FramePost (S : Sch) (ver corr : Int) (o : Option (List UInt8)) (fl : Bool) (src : List UInt8) (w : World) (u : Value) (w' : World) : Prop :=
  Ext none1 w w' ∧ ∃ nn, match S.rd ver fl ⟨src, false, nn⟩ with
    | some (x, rs) => if rs.bad then u = .tuple #[.slice none 0 0, .bool false] else ∃ v, u = .tuple #[v, .bool true] ∧ BytesAt w' (fun k => w.heap.size ≤ k) v (frW ver corr o (S.wr ver fl x))
    | none => u = .tuple #[.slice none 0 0, .bool false]
set_option maxHeartbeats 1000000 in
theorem frameC {P : Program} {V : EnvX} {C : CfgR} {T PT flex n fR df nl ntR ntRF : Nat} {S : Sch} {z : Array Value} {ev : Value} (ht : TyX P C.E V) (hF : FmFs P C.E V) (hPT : PT = V.t_pkmsg_ApiVersionsRequest)
    (hI : FnIs P V.f_impl_FrameApiVersions nt_impl_FrameApiVersions (rs_impl_FrameApiVersions C.E V) (ir_impl_FrameApiVersions C.E V))
    (hRF : FnIs P V.f_pkmsg_ApiVersionsRequest_ReadFrom ntRF [.t 4] (irRF C.toCfg PT fR)) (hntRF : 2 ≤ ntRF) (hm : MsgRk P C T PT flex df n S nl) (hntR : 3 ≤ ntR) (hR : FnIs P fR ntR [.t 6] (msgR C T PT flex df false S nl))
    (hPtr : ∀ w, Ret P V.f_kmsg_NewPtrApiVersionsRequest #[] w fun v w' => v = .pointer (some ⟨w.heap.size, 0, none⟩) ∧ w'.heap[w.heap.size]? = some (.cells (setD 0 (S.dst C.toCfg) z) T (0, 0)) ∧ Ext none1 w w' ∧ w.heap.size < w'.heap.size)
    (hSet : ∀ {w : World} {b : Nat} {c : Array Value} {e : TypeId}, w.heap[b]? = some (.cells c e (0, 0)) → 0 < c.size → ∀ ver : Int, Ret P V.f_pkmsg_ApiVersionsRequest_SetVersion #[.pointer (some ⟨b, 0, none⟩), .int .i16 ver] w fun _ w' => w' = w.setBlk b (.cells (c.setIfInBounds 0 (.int .i16 ver)) e (0, 0)))
    (hApp : ∀ {w : World} {b a base : Nat} {cs : List Value} {x : S.T} {ver : Int} {v : Value} {s : List UInt8}, CellsAt w b a cs → cs[0]? = some (.int .i16 ver) → S.Rep w (· < base) cs x → S.TagsOk tagsOk x → b < base → OwnB C.E.tU8 w base v s → base ≤ w.heap.size →
      s.length + (S.wr ver (flagAt C.toCfg flex ver) x).length ≤ 1099511627776 → Ret P V.f_pkmsg_ApiVersionsRequest_AppendTo #[.pointer (some ⟨b, a, none⟩), v] w fun v' w' => OwnB C.E.tU8 w' base v' (s ++ S.wr ver (flagAt C.toCfg flex ver) x) ∧ Grew w v w' v')
    (tBs : SliI P C.E.tBs C.E.tU8 1 1 (.int .u8 0)) (uErr : ∃ ms, P.underlying C.E.tErr = some (.interface ms)) (hev : ∃ t v, ev = .iface t v) (hn : z.size = n) (hn1 : 1 ≤ n)
    (hidem : ∀ ver : Int, (setD 0 (S.dst C.toCfg) ((setD 0 (S.dst C.toCfg) z).setIfInBounds 0 (.int .i16 ver))) = (setD 0 (S.dst C.toCfg) z).setIfInBounds 0 (.int .i16 ver))
    (hchk : ∀ ver : Int, S.chkD ((setD 0 (S.dst C.toCfg) z).setIfInBounds 0 (.int .i16 ver)).toList = true) (ver corr : Int) (hv : 0 ≤ ver ∧ ver < 32768) (has : Bool) (l : List UInt8)
    {w : World} {K : Nat → Prop} {sv : Value} {src : List UInt8} (hsrc : BytesAt w K sv src) (hlen : src.length ≤ 1099511627776) (herr : w.cell? ⟨C.E.g_kbin_ErrNotEnoughData, 0, none⟩ = some ev)
    (hgood : ∀ nn x rs, S.rd ver (flagAt C.toCfg flex ver) ⟨src, false, nn⟩ = some (x, rs) → rs.bad = false → S.TagsOk tagsOk x ∧ l.length + (S.wr ver (flagAt C.toCfg flex ver) x).length ≤ 1099510000000) :
    Ret P V.f_impl_FrameApiVersions #[.agg #[.bool has, strV l], .int .i32 corr, .int .i16 ver, sv] w fun u w' => FramePost S ver corr (if has = true then some l else none) (flagAt C.toCfg flex ver) src w u w' := by
  subst hPT
  refine hI.call (args := [_, _, _, _]) (by simp [nt_impl_FrameApiVersions]) ?_
  have hcc0 : ∀ a : Array Value, (Value.agg a).cells = a := fun _ => rfl
  simp [ir_impl_FrameApiVersions, rs_impl_FrameApiVersions, hcc0]
  generalize hw0 : w.alloc (.cells #[.bool has, strV l] V.t_impl_Id) = w0
  have e0 : Ext none1 w w0 := by rw [← hw0]; exact (Ext.refl none1 w).alloc _
  have hb0 : w0.heap[w.heap.size]? = some (.cells #[.bool has, strV l] V.t_impl_Id (0, 0)) := by rw [← hw0]; exact alloc_new
  have z0 : w.heap.size < w0.heap.size := lt_of_heap hb0
  have hsrc := hsrc.ext e0 (fun _ _ _ h => h)
  have herr := e0.cell herr (fun h => h)
  refine (hPtr w0).mono ?_
  rintro v w1 ⟨rfl, hb1, he1, hlt1⟩
  try simp
  have hs0 : 0 < (setD 0 (S.dst C.toCfg) z).size := by rw [setD_size]; omega
  refine (hSet hb1 hs0 ver).mono ?_
  rintro v w2 rfl
  generalize hcc : (setD 0 (S.dst C.toCfg) z).setIfInBounds 0 (.int .i16 ver) = cc
  have hccn : cc.size = n := by subst hcc; simp [setD_size, hn]
  generalize hw2 : w1.setBlk w0.heap.size (.cells cc T (0, 0)) = w2
  have hb2 : w2.heap[w0.heap.size]? = some (.cells cc T (0, 0)) := by subst hw2; exact setBlk_same hb1
  have he2 : Ext none1 w0 w2 := by subst hw2; exact he1.setBlk (.inl (Nat.le_refl _)) _
  have hsz2 : w0.heap.size < w2.heap.size := by subst hw2; simpa using hlt1
  have hsrc2 : BytesAt w2 K sv src := hsrc.ext he2 (fun _ _ _ h => h)
  refine st_app_bytes tBs (s := []) (base := w2.heap.size) (v := .slice none 0 0) (by simp) (by simpa [OwnB, cellsOf] using Own.nil w2 w2.heap.size C.E.tU8 1) (Nat.le_refl _) (k := K) (bs := src) (by simpa using hsrc2) (by simpa using hlen) ?_
  intro v3 w3 ho3 hg3
  rw [List.nil_append] at ho3
  have he23 : Ext none1 w2 w3 := hg3.ext.mono (fun k _ h => by simp [own1, Value.ownBlock] at h)
  have hgw : C.E.g_kbin_ErrNotEnoughData < w0.heap.size := World.block_lt_of_cell? w0 _ herr
  have hsz3 := hg3.size
  obtain ⟨D, hD, hD2⟩ := (own_bytesK ho3).oneD C.E.g_kbin_ErrNotEnoughData
  have hDlt : D < w3.heap.size := by rcases hD2 with h | h <;> omega
  have hbD : w0.heap.size ≠ D := by rcases hD2 with h | h <;> omega
  have hb3 := he23.old hb2 (fun h => h)
  have hid := hidem ver
  rw [hcc] at hid
  have hcc0' : cc[0]? = some (.int .i16 ver) := by subst hcc; simp [hs0]
  have hck := hchk ver
  rw [hcc] at hck
  have hseg : segL cc 0 n = cc.toList := by rw [← hccn]; simp only [segL, List.drop_zero]; exact List.take_of_length_le (by simp)
  have hrd := readFrom (w := w3) (b := w0.heap.size) (a := 0) (D := D) (cc := cc) (e := T) (ver := ver) (ev := ev) hm hntR hR hb3 (by omega) (by rw [hid]; exact hcc0') (by rw [hid, hseg]; exact hck) hD hDlt hbD (he23.cell (he2.cell herr (fun h => h)) (fun h => h)) (by omega) hv.1
  rw [hid] at hrd
  have he03 : Ext none1 w0 w3 := he2.trans he23
  obtain ⟨ms, hms⟩ := uErr
  obtain ⟨tv, vv, rfl⟩ := hev
  refine (c_RF hntRF hRF hrd).mono ?_
  rintro v4 w4 ⟨he4, hnone, hsome⟩
  have he04 : Ext none1 w0 w4 := he03.trans' he4 (fun k hk hk2 => by have h3 : k = w0.heap.size := hk2; omega)
  have heA : Ext none1 w w4 := e0.trans he04
  cases hx : S.rd ver (flagAt C.toCfg flex ver) ⟨src, false, nonNil v3⟩ with
  | none =>
    have := hnone hx
    subst this
    simp [bin_nnil_iface hms]
    refine cw_true (by simp) ?_
    simp
    exact ⟨heA, nonNil v3, by rw [hx]⟩
  | some p =>
    obtain ⟨x, rs⟩ := p
    obtain ⟨hv4, cc4, hb4, hsz4, hsame4, hrep4⟩ := hsome x rs hx
    cases hbad : rs.bad with
    | true =>
      rw [hbad] at hv4
      simp at hv4
      subst hv4
      simp [bin_nnil_iface hms]
      refine cw_true (by simp) ?_
      simp
      exact ⟨heA, nonNil v3, by rw [hx]; simp [hbad]⟩
    | false =>
      rw [hbad] at hv4
      simp at hv4
      subst hv4
      obtain ⟨hok, hszx⟩ := hgood _ _ _ hx hbad
      simp [bin_nnil_nil hms]
      refine cw_false (by simp) ?_
      have hbi : w4.heap[w.heap.size]? = some (.cells #[.bool has, strV l] V.t_impl_Id (0, 0)) := he04.old hb0 (fun h => h)
      have xi : cellsFrom w4 ⟨w.heap.size, 0, none⟩ 0 2 = some [.bool has, strV l] := by
        have := cellsFrom_row hbi
        simpa using this
      simp [ld_agg ht.kId, xi, st_mkIface ht.cM]
      have hc4 : (segL cc4 0 n)[0]? = some (.int .i16 ver) := by rw [segL_get (by omega), hsame4 _ (.inl (by omega))]; exact hcc0'
      have hcl := cellsAt_seg (w := w4) (b := w0.heap.size) (a := 0) (n := n) hb4
      have hv0 : w4.cell? ⟨w0.heap.size, 0, none⟩ = some (.int .i16 ver) := by simpa using hcl 0 _ hc4
      refine (c_framed ht hF (ver := ver) (corr := corr) (has := has) (l := l) (body := S.wr ver (flagAt C.toCfg flex ver) x) hv0 hszx ?_).mono ?_
      · intro base w' v s he hb1 hb2 ho hs
        refine hApp (base := base) (b := w0.heap.size) (a := 0) (cs := segL cc4 0 n) (x := x) (ver := ver) (s := s) (fun j u hu => he.cell (hcl j u hu) (fun h => h)) hc4 (Sch.Rep_ext he (fun _ _ _ h => h) S ?_) hok (by have := lt_of_heap hb4; omega) ho hb2 hs
        exact Sch.Rep_mono (fun k hk => Nat.lt_of_lt_of_le hk hb1) S (Sch.Rep_lt S hrep4)
      · rintro v5 w5 ⟨o5, e5⟩
        try simp
        refine ⟨heA.trans e5, nonNil v3, ?_⟩
        rw [hx]
        simp [hbad]
        exact BytesAt.mono (own_bytesK o5) (fun k _ h => by have := heA.size; omega)
end Go.Kg

set_option linter.unusedSimpArgs false
set_option linter.unusedVariables false
set_option linter.unusedSectionVars false
namespace Go.Kg
open Go
structure FrL (P : Program) (E : Env) (V : EnvX) (M : Nat) (S : Sch) (flx : Nat → Bool) (ev : Value) : Prop where
  max : ∀ w, Ret P V.f_impl_MaxApiVersionsRequest #[] w fun v w' => v = .int .i64 M ∧ Ext none1 w w'
  frame : ∀ (v : Nat), v ≤ M → ∀ (corr : Int) (has : Bool) (l : List UInt8) {w : World} {K : Nat → Prop} {sv : Value} {src : List UInt8}, BytesAt w K sv src → src.length ≤ 1099511627776 → w.cell? ⟨E.g_kbin_ErrNotEnoughData, 0, none⟩ = some ev →
    (∀ nn x rs, S.rd (v : Int) (flx v) ⟨src, false, nn⟩ = some (x, rs) → rs.bad = false → S.TagsOk tagsOk x ∧ l.length + (S.wr (v : Int) (flx v) x).length ≤ 1099510000000) →
    Ret P V.f_impl_FrameApiVersions #[.agg #[.bool has, strV l], .int .i32 corr, .int .i16 v, sv] w fun u w' => FramePost S v corr (if has = true then some l else none) (flx v) src w u w'
  hM : M < 32768
  pos : ∀ v : Nat, v ≤ M → S.posE v (flx v) = true
structure FlFs (P : Program) (E : Env) (V : EnvX) : Prop where
  z1 : FnIs P V.f_laws_zzFits1 nt_laws_zzFits1 (rs_laws_zzFits1 E V) (ir_laws_zzFits1 E V)
  idb : FnIs P V.f_laws_idBytes nt_laws_idBytes (rs_laws_idBytes E V) (ir_laws_idBytes E V)
  flexible : FnIs P V.f_spec_Flexible nt_spec_Flexible (rs_spec_Flexible E V) (ir_spec_Flexible E V)
  sframe : FnIs P V.f_spec_Frame nt_spec_Frame (rs_spec_Frame E V) (ir_spec_Frame E V)
  law : FnIs P V.f_laws_FnFrameApiVersions nt_laws_FnFrameApiVersions (rs_laws_FnFrameApiVersions E V) (ir_laws_FnFrameApiVersions E V)
section
variable {P : Program} {E : Env} {V : EnvX} (ht : TyK P E) (hx : TyX P E V) (hs : SpecFns P E)
include ht hx hs
set_option maxHeartbeats 2000000 in
theorem c_FnFrame (hVe : FnIs P E.f_laws_version nt_laws_version (rs_laws_version E) (ir_laws_version E)) (hFz : ∀ (w : World) (cs : List Value) (t : Tr), TreeAt w cs t → Ret P E.f_laws_zzFits2 #[.agg cs.toArray] w (SomeB w)) (hFl : FlFs P E V)
    {M : Nat} {S : Sch} {flx : Nat → Bool} {ev : Value} {F : FS} {fx : Int} (hL : FrL P E V M S flx ev) (hW : AgW P V.f_spec_ApiVersionsRequest M S flx F fx) (n : Nat) (hn : n < 256) (has : Bool) (l : List UInt8) (hl : l.length ≤ 1048576) (corr : Int) {w : World} {cs : List Value} {t : Tr}
    (hT : TreeAt w cs t) (hsz : (partS F (verOf n M) (flx (verOf n M)) t).length ≤ 1099508000000) (herr : w.cell? ⟨E.g_kbin_ErrNotEnoughData, 0, none⟩ = some ev) :
    Ret P V.f_laws_FnFrameApiVersions #[.int .u8 n, .agg #[.bool has, strV l], .int .i32 corr, .agg cs.toArray] w fun u w' => u = .bool true ∧ Ext none1 w w' := by
  have hvM : verOf n M ≤ M := by have := Nat.mod_lt n (show 0 < M + 1 by omega); simp only [verOf]; omega
  have hV := fun w => c_version hVe ht.iU8 ht.iInt n M hn hL.hM w
  obtain ⟨x, hxw, hwf⟩ := conv_all (flx := flx) hvM hW.fit hT.ok
  have hlen : (S.wr (verOf n M) (flx (verOf n M)) x).length ≤ 1099508000000 := by rw [hxw]; exact hsz
  have hgood : ∀ nn y rs, S.rd (verOf n M) (flx (verOf n M)) ⟨S.wr (verOf n M) (flx (verOf n M)) x, false, nn⟩ = some (y, rs) → rs.bad = false ∧ S.wr (verOf n M) (flx (verOf n M)) y = S.wr (verOf n M) (flx (verOf n M)) x ∧ S.TagsOk tagsOk y := by
    intro nn y rs h
    obtain ⟨z, nn', e1, e2, e3⟩ := rd_sch _ _ S x (hL.pos _ hvM) hwf [] nn
    rw [List.append_nil] at e1
    rw [e1] at h
    cases h
    exact ⟨rfl, e2, e3⟩
  have hsome : ∀ nn, ∃ y rs, S.rd (verOf n M) (flx (verOf n M)) ⟨S.wr (verOf n M) (flx (verOf n M)) x, false, nn⟩ = some (y, rs) := by
    intro nn
    obtain ⟨z, nn', e1, _⟩ := rd_sch _ _ S x (hL.pos _ hvM) hwf [] nn
    rw [List.append_nil] at e1
    exact ⟨_, _, e1⟩
  have h5 := hT.five
  refine hFl.law.call (args := [_, _, _, _]) (by simp [nt_laws_FnFrameApiVersions]) ?_
  have hv : ∀ (a : Array Value), (Value.agg a).cells = a := fun a => rfl
  simp only [ir_laws_FnFrameApiVersions, rs_laws_FnFrameApiVersions, cw_seq]
  refine cw_then (fun f w' => f 0 = .int .u8 n ∧ f 2 = .int .i32 corr ∧ f 5 = .pointer (some ⟨w.heap.size, 0, none⟩) ∧ f 7 = .pointer (some ⟨w.heap.size + 1, 0, none⟩) ∧ w' = (w.alloc (.cells #[.bool has, strV l] V.t_impl_Id)).alloc (.cells cs.toArray E.t_spec_Tree)) ?_ ?_
  · simp [hv]
  rintro f w2 ⟨f0, f2, f5, f7, hw2⟩
  have hE2 : Ext none1 w w2 := by rw [hw2]; exact ((Ext.refl none1 w).alloc _).alloc _
  have hbI : w2.heap[w.heap.size]? = some (.cells #[.bool has, strV l] V.t_impl_Id (0, 0)) := by
    rw [hw2]
    exact ((Ext.refl none1 (w.alloc (.cells #[.bool has, strV l] V.t_impl_Id))).alloc (.cells cs.toArray E.t_spec_Tree)).old alloc_new (fun h => h)
  have hbT : w2.heap[w.heap.size + 1]? = some (.cells cs.toArray E.t_spec_Tree (0, 0)) := by
    rw [hw2]
    have := alloc_new (w := w.alloc (.cells #[.bool has, strV l] V.t_impl_Id)) (o := .cells cs.toArray E.t_spec_Tree)
    simpa using this
  clear hw2
  have hcT : ∀ wx, Ext none1 w2 wx → cellsFrom wx ⟨w.heap.size + 1, 0, none⟩ 0 5 = some cs := by
    intro wx hx
    have := cellsFrom_row (hx.old hbT (fun h => h))
    simpa [h5.1] using this
  have hcI : ∀ wx, Ext none1 w2 wx → cellsFrom wx ⟨w.heap.size, 0, none⟩ 0 2 = some [.bool has, strV l] := by
    intro wx hx
    have := cellsFrom_row (hx.old hbI (fun h => h))
    simpa using this
  have hc0 : ∀ wx, Ext none1 w2 wx → wx.cell? ⟨w.heap.size, 0, none⟩ = some (.bool has) := by
    intro wx hx
    rw [cell_of_blk (hx.old hbI (fun h => h))]; rfl
  rw [cw_seq]
  refine cw_thenR (fun f w' => f 0 = .int .u8 n ∧ f 2 = .int .i32 corr ∧ f 5 = .pointer (some ⟨w.heap.size, 0, none⟩) ∧ f 7 = .pointer (some ⟨w.heap.size + 1, 0, none⟩) ∧ Ext none1 w2 w') (fun f w' => f 8 = .bool true ∧ Ext none1 w2 w') ?_ ?_ ?_
  · simp [f5, f7, ld_agg hx.kId, hcI w2 (Ext.refl _ _)]
    refine (c_zz1 hx hFl.z1 w2 has l).mono ?_
    rintro _ w3 ⟨rfl, e3⟩
    simp [show l.length ≤ 2147483647 by omega, ld_agg ht.kT, hcT w3 e3]
    refine (hFz w3 cs t (hT.ext (hE2.trans e3))).mono ?_
    rintro _ w4 ⟨⟨b, rfl⟩, he4⟩
    simp
    cases b
    · refine cw_true (by simp) ?_
      simp
      exact e3.trans he4
    · refine cw_false (by simp) ?_
      simp [f0, f2, f5, f7]
      exact e3.trans he4
  rotate_left
  · rintro f w' ⟨f8, he⟩
    simp [f8]
    exact hE2.trans he
  clear f0 f2 f5 f7 f
  rintro f w3 ⟨f0, f2, f5, f7, e3⟩
  simp [f5, ld_agg hx.kId, hcI w3 e3]
  refine (c_idB hx hFl.idb w3 has l).mono ?_
  rintro _ w4 ⟨iv, rfl, hiv, e4⟩
  simp
  refine (hL.max w4).mono ?_
  rintro _ w5 ⟨rfl, e5⟩
  simp
  refine cw_false (by simp) ?_
  simp [f0]
  refine (hV w5).mono ?_
  rintro _ w5 ⟨rfl, rfl⟩
  have e45 := e4.trans e5
  have e25 := e3.trans e45
  have hE5 := hE2.trans e25
  try simp
  have hD := (Ext.refl none1 w5).drew
  refine cw_regH (Ext none1 w5) hD ?_
  have lT : ∀ wx, Ext none1 w5 wx → cellsFrom wx ⟨w.heap.size + 1, 0, none⟩ 0 5 = some cs := fun wx hx => hcT wx (e25.trans hx)
  simp +contextual [f7, ld_agg ht.kT, lT, lT w5.drew hD]
  refine (hW.msg w5.drew).mono ?_
  rintro _ w6 ⟨fv, rfl, hF, he6⟩
  have hD6 := hD.trans he6
  simp [hD6]
  refine (sp_Write ht.toTyM hs (fx := fx) (ver := (verOf n M : Int)) hW.ok hW.len w6 fv cs t hF (hT.ext (hE5.trans hD6)) (by rw [hW.flex _ hvM]; omega)).mono ?_
  intro v8 w8 h8
  rw [hW.flex _ hvM, ← hxw] at h8
  have hD8 := hD6.trans h8.2
  simp [hD8]
  have e28 := e25.trans hD8
  have hE8 := hE5.trans hD8
  have hb8 := own_bytes h8.1
  have e16 : IntKind.i16.wrap ((verOf n M : Nat) : Int) = ((verOf n M : Nat) : Int) := by have := hL.hM; simp [IntKind.wrap, IntKind.signed, IntKind.bits]; omega
  simp [f2, f5, ld_agg hx.kId, hcI w8 e28, hx.ws.iI16 hx.n16, hx.ws.iInt, e16]
  refine (hL.frame _ hvM corr has l hb8 (by omega) (hE8.cell herr (fun h => h)) (fun nn y rs h1 h2 => ⟨(hgood nn y rs h1).2.2, by rw [(hgood nn y rs h1).2.1]; omega⟩)).mono ?_
  rintro u w10 ⟨he10, nn, hu⟩
  obtain ⟨y, rs, hy⟩ := hsome nn
  obtain ⟨g1, g2, _⟩ := hgood nn y rs hy
  rw [hy] at hu
  simp only [g1, Bool.false_eq_true, if_false] at hu
  obtain ⟨v2, rfl, hv2⟩ := hu
  rw [g2] at hv2
  have hE10 := hE8.trans he10
  generalize hoo : (if has = true then some l else none) = oo at *
  simp
  by_cases h32 : l.length ≤ 32767
  rotate_left
  · simp [h32]
    exact hE10
  have e2A := e28.trans he10
  simp [h32, hx.id0, Addr.add_mk, ld_scl hx.rs.kB, hc0 w10 e2A]
  have hiv10 := hiv.ext (e5.trans (hD8.trans he10)) (fun _ _ _ h => h)
  have hb10 := hb8.ext he10 (fun _ _ _ h => h)
  have hSF := c_SFrame hx (sp_Fixed ht.toTyG hs) hFl.flexible hFl.sframe (w := w10) (ver := (verOf n M : Int)) (corr := corr) (has := has) hiv10 hb10 (by omega)
  rw [hoo] at hSF
  refine hSF.mono ?_
  rintro v11 w11 ⟨o11, e11⟩
  have hno : (wNStr oo).length ≤ l.length + 2 := by
    rw [← hoo]; split <;> simp [wNStr, wStr]; omega
  have hfl : (frW (verOf n M : Int) corr oo (S.wr (verOf n M) (flx (verOf n M)) x)).length ≤ 1099511627776 := by
    simp only [frW, frH, List.length_append, bigE_length]
    split <;> simp <;> omega
  refine (sp_Same ht.toTyG hs w11 _ _ v2 v11 _ _ (hv2.ext e11 (fun _ _ _ h => h)) (own_bytes o11) hfl).mono ?_
  rintro _ w12 ⟨rfl, he12⟩
  refine ⟨by simp, (hE10.trans e11).trans he12⟩
end
end Go.Kg

set_option linter.unusedSimpArgs false
set_option linter.unusedVariables false
set_option linter.unusedSectionVars false
namespace Go.Kg
open Go Go.ChangeShapes Go.WideShapes Go.ChangeAt Go.RowKit
structure TyXr (P : Program) (E : Env) (V : EnvX) : Prop where
  id : ∃ f0 f1 : Field, P.underlying V.t_impl_Id = some (.struct #[f0, f1]) ∧ (f0.type = E.tB ∧ f0.offset = 0) ∧ (f1.type = E.tS ∧ f1.offset = 1)
  bool : P.underlying E.tB = some .bool
  str : P.underlying E.tS = some .string
  c1 : P.cellsOf E.tB = 1 ∧ P.cellsOf E.tS = 1
  cI : P.cellsOf V.t_impl_Id = 2
theorem open_id {H : Type} {enc : TypeId × Value → H} {P : Program} {W : World} {E : Env} {V : EnvX} (hT : TyXr P E V) {b : DataW H → Nat} {bs : List (DataW H) → Nat} (hB : BulkL b bs) (hS : ∀ l, b (.lit (.string l)) = l.length + 1)
    {cs : Array Value} {d : DataW H} {ps : List MemPlace} (h : DataW.Trod enc P W 0 (fun _ => true) true V.t_impl_Id (.agg cs) d ps) (hk : b d ≤ 1048576) : ∃ (has : Bool) (l : List UInt8), cs = #[.bool has, strV l] ∧ l.length ≤ 1048576 := by
  obtain ⟨n, h⟩ := h
  obtain ⟨f0, f1, hu, ⟨h0t, h0o⟩, ⟨h1t, h1o⟩⟩ := hT.id
  obtain ⟨xs, m', rfl, hx, hcl, hxl, hf⟩ := DataW.trod_struct hu h
  rw [hT.cI] at hcl
  have hcs : (Value.agg cs).cells.toList = cs.toList := rfl
  rw [hcs] at hcl hf
  obtain ⟨c0, c1, hc⟩ : ∃ c0 c1, cs.toList = [c0, c1] := by
    match cs.toList, hcl with
    | [c0, c1], _ => exact ⟨c0, c1, rfl⟩
  obtain ⟨x0, x1, rfl⟩ : ∃ x0 x1, xs = [x0, x1] := by
    match xs, hxl with
    | [x0, x1], _ => exact ⟨x0, x1, rfl⟩
  obtain ⟨k1, k2⟩ := hT.c1
  have e0 := hf 0 f0 rfl
  have e1 := hf 1 f1 rfl
  rw [h0t, h0o, k1, hc] at e0
  rw [h1t, h1o, k2, hc] at e1
  simp at e0 e1
  have hbx : b d = b x0.1 + b x1.1 + 1 := by
    have hx' := congrArg Prod.fst hx
    simp only at hx'
    rw [hx', hB.agg]
    simp only [List.map_cons, List.map_nil, hB.cons, hB.nil]
    omega
  obtain ⟨bb, hbb, _⟩ := DataW.trod_bool hT.bool e0
  obtain ⟨s, hs, hx0, _⟩ := DataW.trod_string hT.str e1
  cases hbb
  cases hs
  have hb0 : b x1.1 = s.data.toList.length + 1 := by rw [hx0]; exact hS _
  refine ⟨bb, s.data.toList, ?_, by omega⟩
  rw [← Array.toArray_toList (xs := cs), hc]
  simp [strV]
/-- all functions of frames that a program holds -/
structure FnsX (P : Program) (E : Env) (V : EnvX) : Prop extends FlFs P E V where
  key : FnIs P V.f_pkmsg_ApiVersionsRequest_Key nt_pkmsg_ApiVersionsRequest_Key (rs_pkmsg_ApiVersionsRequest_Key E V) (ir_pkmsg_ApiVersionsRequest_Key E V)
  get : FnIs P V.f_pkmsg_ApiVersionsRequest_GetVersion nt_pkmsg_ApiVersionsRequest_GetVersion (rs_pkmsg_ApiVersionsRequest_GetVersion E V) (ir_pkmsg_ApiVersionsRequest_GetVersion E V)
  flex : FnIs P V.f_pkmsg_ApiVersionsRequest_IsFlexible nt_pkmsg_ApiVersionsRequest_IsFlexible (rs_pkmsg_ApiVersionsRequest_IsFlexible E V) (ir_pkmsg_ApiVersionsRequest_IsFlexible E V)
  new : FnIs P V.f_kmsg_NewRequestFormatter nt_kmsg_NewRequestFormatter (rs_kmsg_NewRequestFormatter E V) (ir_kmsg_NewRequestFormatter E V)
  apply_ : FnIs P V.f_kmsg_formatterOpt_apply nt_kmsg_formatterOpt_apply (rs_kmsg_formatterOpt_apply E V) (ir_kmsg_formatterOpt_apply E V)
  cid : FnIs P V.f_kmsg_FormatterClientID nt_kmsg_FormatterClientID (rs_kmsg_FormatterClientID E V) (ir_kmsg_FormatterClientID E V)
  cid1 : FnIs P V.f_kmsg_FormatterClientID_1 nt_kmsg_FormatterClientID_1 (rs_kmsg_FormatterClientID_1 E V) (ir_kmsg_FormatterClientID_1 E V)
  req : FnIs P V.f_pkmsg_RequestFormatter_AppendRequest nt_pkmsg_RequestFormatter_AppendRequest (rs_pkmsg_RequestFormatter_AppendRequest E V) (ir_pkmsg_RequestFormatter_AppendRequest E V)
  framed : FnIs P V.f_impl_framed nt_impl_framed (rs_impl_framed E V) (ir_impl_framed E V)
  frameAV : FnIs P V.f_impl_FrameApiVersions nt_impl_FrameApiVersions (rs_impl_FrameApiVersions E V) (ir_impl_FrameApiVersions E V)
theorem fmFs {P : Program} {E : Env} {V : EnvX} (hF : FnsX P E V) (wI16 : ∀ n : Int, WrC P E.tU8 E.f_kbin_AppendInt16 [.int .i16 n] (bigE 2 (n % 65536).toNat)) (wI32 : ∀ n : Int, WrC P E.tU8 E.f_kbin_AppendInt32 [.int .i32 n] (bigE 4 (n % 4294967296).toNat))
    (oI32 : ∀ n : Int, InPl P E.tU8 E.f_kbin_AppendInt32 [.int .i32 n] (bigE 4 (n % 4294967296).toNat)) (wNS : ∀ (o : Option (List UInt8)) (u : Value), WrP P E.tU8 E.f_kbin_AppendNullableString (fun w base => StrPtr w (· < base) u o) [u] (wNStr o)) : FmFs P E V :=
  { key := hF.key, get := hF.get, flex := hF.flex, wI16 := wI16, wI32 := wI32, oI32 := oI32, wNS := wNS, new := hF.new, apply_ := hF.apply_, cid := hF.cid, cid1 := hF.cid1, req := hF.req, framed := hF.framed }
end Go.Kg
