/- What is proved here: how the code of the messages runs, in general: a semantics of calls by their texts, and contracts of the functions of kbin and of the reference. No condition but those that each theorem names. -/
import Derived.ChangeKeysEq
import Derived.Lib.AppendZerosOnto
import Derived.Test.YthmmcbmgeoaefaaGreatDoorKb
set_option linter.unusedSectionVars false
set_option linter.unusedSimpArgs false
set_option linter.unusedVariables false
set_option linter.unusedSimpArgs false
set_option linter.unusedVariables false
set_option linter.unusedSectionVars false
namespace Go.Kg
open Go
theorem insTag_flat (x : Nat × List UInt8) : ∀ l : TagL, ((insTag x l).flatMap tagW).length = (tagW x).length + (l.flatMap tagW).length
  | [] => by simp [insTag]
  | y :: l => by
    have := insTag_flat x l
    simp only [insTag]
    split
    · simp only [List.flatMap_cons, List.length_append]
    · simp only [List.flatMap_cons, List.length_append, this]; omega
theorem sortTags_flat : ∀ l : TagL, ((sortTags l).flatMap tagW).length = (l.flatMap tagW).length
  | [] => rfl
  | x :: l => by rw [sortTags, insTag_flat, sortTags_flat l]; simp only [List.flatMap_cons, List.length_append]
theorem tagsOut_len (l : TagL) : (tagsOut l).length = (l.flatMap tagW).length := sortTags_flat l
theorem setTag_mem (k : Nat) (v : List UInt8) : ∀ (l : TagL) x, x ∈ setTag k v l → x = (k, v) ∨ x ∈ l
  | [], x, h => by simp [setTag] at h; exact .inl h
  | y :: l, x, h => by
    simp only [setTag] at h
    split at h
    · rcases List.mem_cons.1 h with h | h
      · exact .inl h
      · exact .inr (List.mem_cons_of_mem _ h)
    · rcases List.mem_cons.1 h with h | h
      · exact .inr (h ▸ List.mem_cons_self)
      · rcases setTag_mem k v l x h with h | h
        · exact .inl h
        · exact .inr (List.mem_cons_of_mem _ h)
theorem setTag_len (k : Nat) (v : List UInt8) : ∀ l : TagL, (setTag k v l).length ≤ l.length + 1 ∧ ((setTag k v l).flatMap tagW).length ≤ (tagW (k, v)).length + (l.flatMap tagW).length
  | [] => by simp [setTag]
  | y :: l => by
    obtain ⟨h1, h2⟩ := setTag_len k v l
    simp only [setTag]
    split
    · simp only [List.flatMap_cons, List.length_append, List.length_cons]; omega
    · simp only [List.flatMap_cons, List.length_append, List.length_cons]; omega
theorem setTag_nodup (k : Nat) (v : List UInt8) : ∀ l : TagL, (l.map (·.1)).Nodup → ((setTag k v l).map (·.1)).Nodup
  | [], _ => by simp [setTag]
  | y :: l, h => by
    simp only [List.map_cons, List.nodup_cons] at h
    simp only [setTag]
    split
    · rename_i e
      simp only [List.map_cons, List.nodup_cons]
      exact ⟨e ▸ h.1, h.2⟩
    · rename_i e
      simp only [List.map_cons, List.nodup_cons]
      refine ⟨fun hm => ?_, setTag_nodup k v l h.2⟩
      obtain ⟨x, hx, he⟩ := List.mem_map.1 hm
      rcases setTag_mem k v l x hx with rfl | hx
      · exact e he.symm
      · exact h.1 (List.mem_map.2 ⟨x, hx, he⟩)
def tagP (l : TagL) : Prop := (l.map (·.1)).Nodup ∧ ∀ x ∈ l, x.1 < 4294967296 ∧ x.2.length ≤ 32767
theorem tag_any {l : TagL} {rs : RS} (h : (rdTag l rs).2.bad = false) (hs : rs.src.length ≤ 32767) (hl : tagP l) : tagP (rdTag l rs).1 ∧ (rdTag l rs).1.length ≤ l.length + 1 ∧ (rdTag l rs).1.length + (rdTag l rs).2.src.length ≤ l.length + rs.src.length ∧
    ((rdTag l rs).1.flatMap tagW).length + (rdTag l rs).2.src.length ≤ (l.flatMap tagW).length + rs.src.length ∧ (rdTag l rs).2.src.length ≤ rs.src.length := by
  have hc : (rdSpan (rdUv (rdUv rs).2).1 (rdUv (rdUv rs).2).2).2.bad = false := h
  have hb : (rdUv (rdUv rs).2).2.bad = false := by
    cases hx : (rdUv (rdUv rs).2).2.bad
    · rfl
    · have := (good_span (rdUv (rdUv rs).2).1).bad _ hx
      rw [hc] at this; cases this
  have ha : (rdUv rs).2.bad = false := by
    cases hx : (rdUv rs).2.bad
    · rfl
    · have := good_uv.bad _ hx
      rw [hb] at this; cases this
  obtain ⟨a1, a2, _⟩ := uv_any ha
  obtain ⟨b1, b2, _⟩ := uv_any hb
  obtain ⟨c1, c2, c3, _⟩ := span_any hc
  have hr1 : (rdTag l rs).1 = setTag (rdUv rs).1 (rdSpan (rdUv (rdUv rs).2).1 (rdUv (rdUv rs).2).2).1 l := rfl
  have hr2 : (rdTag l rs).2 = (rdSpan (rdUv (rdUv rs).2).1 (rdUv (rdUv rs).2).2).2 := rfl
  rw [hr1, hr2]
  generalize (rdSpan (rdUv (rdUv rs).2).1 (rdUv (rdUv rs).2).2).2 = r3 at *
  generalize (rdSpan (rdUv (rdUv rs).2).1 (rdUv (rdUv rs).2).2).1 = v at *
  obtain ⟨s1, s2⟩ := setTag_len (rdUv rs).1 v l
  have hu : 1 ≤ (uvOut (rdUv rs).1).length := uvE_pos
  have hv : v.length ≤ 32767 := by omega
  refine ⟨⟨setTag_nodup _ _ l hl.1, fun x hx => ?_⟩, s1, by omega, ?_, by omega⟩
  · rcases setTag_mem _ _ l x hx with rfl | hx
    · exact ⟨a2, hv⟩
    · exact hl.2 x hx
  · have e : v.length % 4294967296 = (rdUv (rdUv rs).2).1 := by omega
    have e2 : (tagW ((rdUv rs).1, v)).length = (uvOut (rdUv rs).1).length + (uvOut (rdUv (rdUv rs).2).1).length + v.length := by simp only [tagW, List.length_append, e]
    omega
theorem tagN_any : ∀ (n : Nat) (l : TagL) (rs : RS), (rdTagN n l rs).2.bad = false → rs.src.length ≤ 32767 → tagP l → tagP (rdTagN n l rs).1 ∧ (rdTagN n l rs).1.length ≤ l.length + n ∧ (rdTagN n l rs).1.length + (rdTagN n l rs).2.src.length ≤ l.length + rs.src.length ∧
    ((rdTagN n l rs).1.flatMap tagW).length + (rdTagN n l rs).2.src.length ≤ (l.flatMap tagW).length + rs.src.length
  | 0, l, rs, _, _, hl => ⟨hl, Nat.le_refl _, Nat.le_refl _, Nat.le_refl _⟩
  | n + 1, l, rs, h, hs, hl => by
    have h' : (rdTagN n (rdTag l rs).1 (rdTag l rs).2).2.bad = false := h
    have ht : (rdTag l rs).2.bad = false := by
      cases hx : (rdTag l rs).2.bad
      · rfl
      · have := (good_tagN n (rdTag l rs).1).bad _ hx
        rw [h'] at this; cases this
    obtain ⟨a1, a2, a3, a4, a5⟩ := tag_any ht hs hl
    have hs2 : (rdTag l rs).2.src.length ≤ 32767 := by omega
    obtain ⟨b1, b2, b3, b4⟩ := tagN_any n (rdTag l rs).1 (rdTag l rs).2 h' hs2 a1
    show tagP (rdTagN n (rdTag l rs).1 (rdTag l rs).2).1 ∧ _
    exact ⟨b1, by show (rdTagN n (rdTag l rs).1 (rdTag l rs).2).1.length ≤ _; omega, by show (rdTagN n (rdTag l rs).1 (rdTag l rs).2).1.length + (rdTagN n (rdTag l rs).1 (rdTag l rs).2).2.src.length ≤ _; omega, by show ((rdTagN n (rdTag l rs).1 (rdTag l rs).2).1.flatMap tagW).length + (rdTagN n (rdTag l rs).1 (rdTag l rs).2).2.src.length ≤ _; omega⟩
theorem tags_any {rs : RS} (h : (rdTags rs).2.bad = false) (hs : rs.src.length ≤ 32767) : tagsOk (rdTags rs).1 ∧ (uvOut ((rdTags rs).1.length % 4294967296) ++ tagsOut (rdTags rs).1).length + (rdTags rs).2.src.length ≤ rs.src.length := by
  have h' : (rdTagN (rdUv rs).1 [] (rdUv rs).2).2.bad = false := h
  have hb : (rdUv rs).2.bad = false := by
    cases hx : (rdUv rs).2.bad
    · rfl
    · have := (good_tagN (rdUv rs).1 []).bad _ hx
      rw [h'] at this; cases this
  obtain ⟨a1, a2, _⟩ := uv_any hb
  obtain ⟨b1, b2, b3, b4⟩ := tagN_any (rdUv rs).1 [] (rdUv rs).2 h' (by omega) ⟨by simp, by simp⟩
  have e1 : (rdTags rs).1 = (rdTagN (rdUv rs).1 [] (rdUv rs).2).1 := rfl
  have e2 : (rdTags rs).2 = (rdTagN (rdUv rs).1 [] (rdUv rs).2).2 := rfl
  rw [e1, e2]
  generalize (rdTagN (rdUv rs).1 [] (rdUv rs).2).1 = l at *
  generalize (rdTagN (rdUv rs).1 [] (rdUv rs).2).2 = r at *
  simp only [List.length_nil, List.flatMap_nil, Nat.zero_add] at b2 b3 b4
  have hm : (uvOut (l.length % 4294967296)).length ≤ (uvOut (rdUv rs).1).length := uvE_mono (k := 4) (by omega)
  refine ⟨⟨by omega, b1.1, b1.2⟩, ?_⟩
  rw [List.length_append, tagsOut_len]
  omega
theorem N_any {α : Type} {f : RS → Option (α × RS)} {g : α → List UInt8} {W : α → Prop} (hg : GoodO f) (hf : ∀ rs y rs', f rs = some (y, rs') → rs'.bad = false → rs.src.length ≤ 32767 → W y ∧ (g y).length + rs'.src.length ≤ rs.src.length) :
    ∀ (n : Nat) (rs : RS) (l : List α) (rs' : RS), rdN f n rs = some (l, rs') → rs'.bad = false → rs.src.length ≤ 32767 → l.length = n ∧ (∀ y ∈ l, W y) ∧ (l.flatMap g).length + rs'.src.length ≤ rs.src.length
  | 0, rs, l, rs', h, _, _ => by
    simp only [rdN, Option.some.injEq, Prod.mk.injEq] at h
    obtain ⟨rfl, rfl⟩ := h
    simp
  | n + 1, rs, l, rs', h, hb, hs => by
    simp only [rdN] at h
    cases hx : f rs with
    | none => rw [hx] at h; cases h
    | some p =>
      obtain ⟨x, rs1⟩ := p
      rw [hx] at h
      simp only at h
      cases hy : rdN f n rs1 with
      | none => rw [hy] at h; cases h
      | some q =>
        obtain ⟨l2, rs2⟩ := q
        rw [hy] at h
        simp only [Option.some.injEq, Prod.mk.injEq] at h
        obtain ⟨rfl, rfl⟩ := h
        have h1 : rs1.bad = false := by
          cases e : rs1.bad
          · rfl
          · have := (good_N hg n).bad rs1 l2 rs2 hy e
            rw [hb] at this; cases this
        obtain ⟨a1, a2⟩ := hf rs x rs1 hx h1 hs
        obtain ⟨b1, b2, b3⟩ := N_any hg hf n rs1 l2 rs2 hy hb (by omega)
        refine ⟨by simp [b1], fun y hy => ?_, by simp only [List.flatMap_cons, List.length_append]; omega⟩
        rcases List.mem_cons.1 hy with rfl | hy
        · exact a1
        · exact b2 y hy
end Go.Kg

set_option linter.unusedSimpArgs false
set_option linter.unusedVariables false
set_option linter.unusedSectionVars false
namespace Go.Kg
open Go
theorem len_any {fl : Bool} {rs : RS} (h : (lenRd fl rs).2.bad = false) (hs : rs.src.length ≤ 32767) : (lenRd fl rs).1 ≤ (lenRd fl rs).2.src.length ∧ (lenRd fl rs).2.src.length ≤ rs.src.length ∧
    ∀ (nul : Option Nat) (nil : Bool) (n : Nat), (0 < (lenRd fl rs).1 → (n : Int) = (lenRd fl rs).1) → ((lenRd fl rs).1 ≤ 0 → n = 0) → (lenW nul fl n nil).length + (lenRd fl rs).2.src.length ≤ rs.src.length := by
  cases fl
  · have h' : (capLen (i32 (rdFixed 4 rs).1) (rdFixed 4 rs).2).2.bad = false := h
    obtain ⟨c1, c2, c3⟩ := cap_any h'
    have hb : (rdFixed 4 rs).2.bad = false := by rw [c2] at h'; exact h'
    have h5 := (fixed_any hb).1
    have e1 : (lenRd false rs).1 = i32 (rdFixed 4 rs).1 := c1
    have e2 : (lenRd false rs).2 = (rdFixed 4 rs).2 := c2
    rw [e1, e2]
    refine ⟨c3, by omega, fun nul nil n _ _ => ?_⟩
    have : (lenW nul false n nil).length = 4 := by
      cases nul <;> cases nil <;> simp [lenW, wNLen, wLen]
    omega
  · have h' : (capLen (IntKind.i32.wrap (i32 (rdUv rs).1 - 1)) (rdUv rs).2).2.bad = false := h
    obtain ⟨c1, c2, c3⟩ := cap_any h'
    have hb : (rdUv rs).2.bad = false := by rw [c2] at h'; exact h'
    obtain ⟨a1, a2, _⟩ := uv_any hb
    have e1 : (lenRd true rs).1 = IntKind.i32.wrap (i32 (rdUv rs).1 - 1) := c1
    have e2 : (lenRd true rs).2 = (rdUv rs).2 := c2
    rw [e1, e2]
    have hp : 1 ≤ (uvOut (rdUv rs).1).length := uvE_pos
    have o0 : (uvOut 0).length = 1 := by decide
    have o1 : (uvOut 1).length = 1 := by decide
    refine ⟨c3, by omega, fun nul nil n n1 n2 => ?_⟩
    have key : (wCLen n).length ≤ (uvOut (rdUv rs).1).length := by
      by_cases hl : 0 < IntKind.i32.wrap (i32 (rdUv rs).1 - 1)
      · have hn := n1 hl
        have : (n + 1) % 4294967296 = (rdUv rs).1 := by
          simp [i32, IntKind.wrap, IntKind.signed, IntKind.bits] at hn hl
          omega
        simp only [wCLen, this]; omega
      · have hn := n2 (by omega)
        subst hn
        have : (0 + 1) % 4294967296 = 1 := rfl
        simp only [wCLen, this]; omega
    have : (lenW nul true n nil).length ≤ (uvOut (rdUv rs).1).length := by
      cases nul <;> simp only [lenW, if_true, wCNLen]
      · exact key
      · split
        · omega
        · exact key
    omega
theorem arr_any {α : Type} {f : RS → Option (α × RS)} {g : α → List UInt8} {W : α → Prop} (hg : GoodO f) (hf : ∀ rs y rs', f rs = some (y, rs') → rs'.bad = false → rs.src.length ≤ 32767 → W y ∧ (g y).length + rs'.src.length ≤ rs.src.length)
    {nul : Option Nat} {ver : Int} {fl : Bool} {rs : RS} {a : Option (List α)} {rs' : RS} (h : arrRd nul ver fl f rs = some (a, rs')) (hb : rs'.bad = false) (hs : rs.src.length ≤ 32767) :
    arrWf nul ver a ∧ (∀ y ∈ a.getD [], W y) ∧ (lenW nul fl (a.getD []).length a.isNone ++ (a.getD []).flatMap g).length + rs'.src.length ≤ rs.src.length := by
  simp only [arrRd] at h
  cases hx : (lenRd fl rs).2.bad with
  | true => rw [hx] at h; simp at h
  | false =>
    rw [hx] at h
    obtain ⟨l1, l2, l3⟩ := len_any hx hs
    simp only [Bool.false_eq_true, if_false] at h
    split at h
    · rename_i hp
      cases hy : rdN f (lenRd fl rs).1.toNat (lenRd fl rs).2 with
      | none => rw [hy] at h; cases h
      | some q =>
        obtain ⟨l, r2⟩ := q
        rw [hy] at h
        simp only [Option.some.injEq, Prod.mk.injEq] at h
        obtain ⟨rfl, rfl⟩ := h
        obtain ⟨b1, b2, b3⟩ := N_any (g := g) hg hf _ _ l r2 hy hb (by omega)
        have := l3 nul false l.length (fun _ => by omega) (fun h => by omega)
        refine ⟨⟨by simp only [Option.getD_some]; omega, fun m _ _ => by simp⟩, b2, ?_⟩
        simp only [Option.getD_some, Option.isNone_some, List.length_append]
        omega
    · rename_i hp
      simp only [Option.some.injEq, Prod.mk.injEq] at h
      obtain ⟨rfl, rfl⟩ := h
      have he : (emptyOf (α := α) nul ver (lenRd fl rs).1).getD [] = [] := by
        cases nul with
        | none => rfl
        | some m => simp only [emptyOf]; split <;> rfl
      have := l3 nul (emptyOf (α := α) nul ver (lenRd fl rs).1).isNone 0 (fun h => absurd h hp) (fun _ => rfl)
      rw [arrWf, he]
      refine ⟨⟨by simp, fun m hm hv => ?_⟩, by simp, by simpa using this⟩
      subst hm
      simp [emptyOf, hv]
theorem opt_any {α : Type} {f : RS → Option (α × RS)} {g : α → List UInt8} {W : α → Prop} (hg : GoodO f) (hf : ∀ rs y rs', f rs = some (y, rs') → rs'.bad = false → rs.src.length ≤ 32767 → W y ∧ (g y).length + rs'.src.length ≤ rs.src.length)
    {rs : RS} {a : Option α} {rs' : RS} (h : optRd f rs = some (a, rs')) (hb : rs'.bad = false) (hs : rs.src.length ≤ 32767) : (∀ y, a = some y → W y) ∧ (optW g a).length + rs'.src.length ≤ rs.src.length := by
  unfold optRd at h
  cases h1 : (Prim.rd .i8 false rs).2.bad
  · rw [h1] at h
    have h2 := (any_prim .i8 false rs h1 hs).2
    have h3 : (Prim.wr .i8 false (Prim.rd .i8 false rs).1).length = 1 := rfl
    rw [h3] at h2
    simp only [Bool.false_eq_true, if_false] at h
    split at h
    · simp only [Option.some.injEq, Prod.mk.injEq] at h
      obtain ⟨rfl, rfl⟩ := h
      exact ⟨fun y hy => (by cases hy), by simp only [optW, List.length_cons, List.length_nil]; omega⟩
    · obtain ⟨⟨x, r1⟩, e1, e2⟩ := Option.map_eq_some_iff.1 h
      simp only [Prod.mk.injEq] at e2
      obtain ⟨rfl, rfl⟩ := e2
      obtain ⟨b1, b2⟩ := hf _ x r1 e1 hb (by omega)
      exact ⟨fun y hy => by cases hy; exact b1, by simp only [optW, List.length_cons]; omega⟩
  · rw [h1] at h
    simp only [if_true, Option.some.injEq, Prod.mk.injEq] at h
    obtain ⟨_, rfl⟩ := h
    rw [h1] at hb; cases hb
theorem any_sch (ver : Int) (fl : Bool) : ∀ (S : Sch) (rs : RS) (x : S.T) (rs' : RS), S.rd ver fl rs = some (x, rs') → rs'.bad = false → rs.src.length ≤ 32767 → S.wf ver fl x ∧ (S.wr ver fl x).length + rs'.src.length ≤ rs.src.length := by
  intro S
  induction S with
  | fin =>
    intro rs x rs' h hb hs
    simp only [Sch.rd, Option.some.injEq, Prod.mk.injEq] at h
    obtain ⟨_, rfl⟩ := h
    exact ⟨trivial, by simp [Sch.wr]⟩
  | tags k o =>
    intro rs x rs' h hb hs
    cases fl
    · simp only [Sch.rd, Bool.false_eq_true, if_false, Option.some.injEq, Prod.mk.injEq] at h
      obtain ⟨_, rfl⟩ := h
      exact ⟨fun h => (by cases h), by simp [Sch.wr]⟩
    · have h' : rdTags rs = (x, rs') := Option.some.inj h
      have hb' : (rdTags rs).2.bad = false := by rw [h']; exact hb
      obtain ⟨a1, a2⟩ := tags_any hb' hs
      rw [h'] at a1 a2
      exact ⟨fun _ => a1, a2⟩
  | prim g k o p en d rest ih =>
    intro rs x rs' h hb hs
    by_cases hg : g.on ver = true
    · simp only [Sch.rd, if_pos hg] at h
      obtain ⟨⟨y, r2⟩, hy, he⟩ := Option.map_eq_some_iff.1 h
      cases he
      have h1 : (p.rd fl rs).2.bad = false := by
        cases e : (p.rd fl rs).2.bad
        · rfl
        · have := (good_sch ver fl rest).bad _ _ _ hy e
          rw [hb] at this; cases this
      obtain ⟨a1, a2⟩ := any_prim p fl rs h1 hs
      obtain ⟨b1, b2⟩ := ih _ y _ hy hb (by omega)
      refine ⟨⟨fun _ => a1, b1⟩, ?_⟩
      simp only [Sch.wr, if_pos hg, List.length_append]; omega
    · simp only [Sch.rd, if_neg hg] at h
      obtain ⟨⟨y, r2⟩, hy, he⟩ := Option.map_eq_some_iff.1 h
      cases he
      obtain ⟨b1, b2⟩ := ih _ y _ hy hb hs
      refine ⟨⟨fun h => absurd h hg, b1⟩, ?_⟩
      simp only [Sch.wr, if_neg hg, List.nil_append]; omega
  | arrP g k o sT nul p rest ih =>
    intro rs x rs' h hb hs
    by_cases hg : g.on ver = true
    · simp only [Sch.rd, if_pos hg] at h
      cases hA : arrRd nul ver fl (fun rs => some (p.rd fl rs)) rs with
      | none => rw [hA] at h; cases h
      | some q =>
        obtain ⟨a, r1⟩ := q
        rw [hA] at h
        obtain ⟨⟨y, r2⟩, hy, he⟩ := Option.map_eq_some_iff.1 h
        cases he
        have h1 : r1.bad = false := by
          cases e : r1.bad
          · rfl
          · have := (good_sch ver fl rest).bad _ _ _ hy e
            rw [hb] at this; cases this
        obtain ⟨a1, a2, a3⟩ := arr_any (g := p.wr fl) (W := p.wf) (good_prim p fl).toO (fun rs y rs' hq hb hs => by
          have hq' : p.rd fl rs = (y, rs') := Option.some.inj hq
          have := any_prim p fl rs (by rw [hq']; exact hb) hs
          rwa [hq'] at this) hA h1 hs
        obtain ⟨b1, b2⟩ := ih _ y _ hy hb (by omega)
        refine ⟨⟨fun _ => ⟨a1, a2⟩, b1⟩, ?_⟩
        simp only [Sch.wr, if_pos hg]
        rw [List.length_append]; omega
    · simp only [Sch.rd, if_neg hg] at h
      obtain ⟨⟨y, r2⟩, hy, he⟩ := Option.map_eq_some_iff.1 h
      cases he
      obtain ⟨b1, b2⟩ := ih _ y _ hy hb hs
      refine ⟨⟨fun h => absurd h hg, b1⟩, ?_⟩
      simp only [Sch.wr, if_neg hg, List.nil_append]; omega
  | arrS g k o sT nul T PT sz df e rest ihe ih =>
    intro rs x rs' h hb hs
    by_cases hg : g.on ver = true
    · simp only [Sch.rd, if_pos hg] at h
      cases hA : arrRd nul ver fl (e.rd ver fl) rs with
      | none => rw [hA] at h; cases h
      | some q =>
        obtain ⟨a, r1⟩ := q
        rw [hA] at h
        obtain ⟨⟨y, r2⟩, hy, he⟩ := Option.map_eq_some_iff.1 h
        cases he
        have h1 : r1.bad = false := by
          cases e : r1.bad
          · rfl
          · have := (good_sch ver fl rest).bad _ _ _ hy e
            rw [hb] at this; cases this
        obtain ⟨a1, a2, a3⟩ := arr_any (g := e.wr ver fl) (W := e.wf ver fl) (good_sch ver fl e) (fun rs y rs' hq hb hs => ihe rs y rs' hq hb hs) hA h1 hs
        obtain ⟨b1, b2⟩ := ih _ y _ hy hb (by omega)
        refine ⟨⟨fun _ => ⟨a1, a2⟩, b1⟩, ?_⟩
        simp only [Sch.wr, if_pos hg]
        rw [List.length_append]; omega
    · simp only [Sch.rd, if_neg hg] at h
      obtain ⟨⟨y, r2⟩, hy, he⟩ := Option.map_eq_some_iff.1 h
      cases he
      obtain ⟨b1, b2⟩ := ih _ y _ hy hb hs
      refine ⟨⟨fun h => absurd h hg, b1⟩, ?_⟩
      simp only [Sch.wr, if_neg hg, List.nil_append]; omega
  | sub g k o T PT sz df e rest ihe ih =>
    intro rs x rs' h hb hs
    by_cases hg : g.on ver = true
    · simp only [Sch.rd, if_pos hg] at h
      cases hA : e.rd ver fl rs with
      | none => rw [hA] at h; cases h
      | some q =>
        obtain ⟨a, r1⟩ := q
        rw [hA] at h
        obtain ⟨⟨y, r2⟩, hy, he⟩ := Option.map_eq_some_iff.1 h
        cases he
        have h1 : r1.bad = false := by
          cases e : r1.bad
          · rfl
          · have := (good_sch ver fl rest).bad _ _ _ hy e
            rw [hb] at this; cases this
        obtain ⟨a1, a2⟩ := ihe rs a r1 hA h1 hs
        obtain ⟨b1, b2⟩ := ih _ y _ hy hb (by omega)
        refine ⟨⟨fun _ => a1, b1⟩, ?_⟩
        simp only [Sch.wr, if_pos hg]
        rw [List.length_append]; omega
    · simp only [Sch.rd, if_neg hg] at h
      obtain ⟨⟨y, r2⟩, hy, he⟩ := Option.map_eq_some_iff.1 h
      cases he
      obtain ⟨b1, b2⟩ := ih _ y _ hy hb hs
      refine ⟨⟨fun h => absurd h hg, b1⟩, ?_⟩
      simp only [Sch.wr, if_neg hg, List.nil_append]; omega
  | opt g k o T PT PP sz df e rest ihe ih =>
    intro rs x rs' h hb hs
    by_cases hg : g.on ver = true
    · simp only [Sch.rd, if_pos hg] at h
      cases hA : optRd (e.rd ver fl) rs with
      | none => rw [hA] at h; cases h
      | some q =>
        obtain ⟨a, r1⟩ := q
        rw [hA] at h
        obtain ⟨⟨y, r2⟩, hy, he⟩ := Option.map_eq_some_iff.1 h
        cases he
        have h1 : r1.bad = false := by
          cases e : r1.bad
          · rfl
          · have := (good_sch ver fl rest).bad _ _ _ hy e
            rw [hb] at this; cases this
        obtain ⟨a1, a2⟩ := opt_any (g := e.wr ver fl) (W := e.wf ver fl) (good_sch ver fl e) (fun rs y rs' hq hb hs => ihe rs y rs' hq hb hs) hA h1 hs
        obtain ⟨b1, b2⟩ := ih _ y _ hy hb (by omega)
        refine ⟨⟨fun _ => a1, b1⟩, ?_⟩
        simp only [Sch.wr, if_pos hg]
        rw [List.length_append]; omega
    · simp only [Sch.rd, if_neg hg] at h
      obtain ⟨⟨y, r2⟩, hy, he⟩ := Option.map_eq_some_iff.1 h
      cases he
      obtain ⟨b1, b2⟩ := ih _ y _ hy hb hs
      refine ⟨⟨fun h => absurd h hg, b1⟩, ?_⟩
      simp only [Sch.wr, if_neg hg, List.nil_append]; omega
  | cus c => intro rs x rs' h hb hs; exact ⟨(c.any h hb hs).1, (c.any h hb hs).2.2⟩
end Go.Kg

set_option linter.unusedSimpArgs false
set_option linter.unusedVariables false
set_option linter.unusedSectionVars false
namespace Go.Kg
open Go
/-- the tags of what is read -/
theorem any_tags (ver : Int) (fl : Bool) : ∀ (S : Sch) (rs : RS) (x : S.T) (rs' : RS), S.rd ver fl rs = some (x, rs') → rs'.bad = false → rs.src.length ≤ 32767 → S.TagsOk tagsOk x := by
  have ok0 : tagsOk [] := ⟨by simp, by simp, by simp⟩
  intro S
  induction S with
  | fin => intro rs x rs' h hb hs; trivial
  | tags k o =>
    intro rs x rs' h hb hs
    cases fl
    · simp only [Sch.rd, Bool.false_eq_true, if_false, Option.some.injEq, Prod.mk.injEq] at h
      obtain ⟨rfl, rfl⟩ := h
      exact ok0
    · have h' : rdTags rs = (x, rs') := Option.some.inj h
      have hb' : (rdTags rs).2.bad = false := by rw [h']; exact hb
      obtain ⟨a1, a2⟩ := tags_any hb' hs
      rw [h'] at a1
      exact a1
  | prim g k o p en d rest ih =>
    intro rs x rs' h hb hs
    by_cases hg : g.on ver = true
    · simp only [Sch.rd, if_pos hg] at h
      obtain ⟨⟨y, r2⟩, hy, he⟩ := Option.map_eq_some_iff.1 h
      cases he
      have h1 : (p.rd fl rs).2.bad = false := by
        cases e : (p.rd fl rs).2.bad
        · rfl
        · have := (good_sch ver fl rest).bad _ _ _ hy e
          rw [hb] at this; cases this
      obtain ⟨a1, a2⟩ := any_prim p fl rs h1 hs
      exact ih _ y _ hy hb (by omega)
    · simp only [Sch.rd, if_neg hg] at h
      obtain ⟨⟨y, r2⟩, hy, he⟩ := Option.map_eq_some_iff.1 h
      cases he
      exact ih _ y _ hy hb hs
  | arrP g k o sT nul p rest ih =>
    intro rs x rs' h hb hs
    by_cases hg : g.on ver = true
    · simp only [Sch.rd, if_pos hg] at h
      cases hA : arrRd nul ver fl (fun rs => some (p.rd fl rs)) rs with
      | none => rw [hA] at h; cases h
      | some q =>
        obtain ⟨a, r1⟩ := q
        rw [hA] at h
        obtain ⟨⟨y, r2⟩, hy, he⟩ := Option.map_eq_some_iff.1 h
        cases he
        have h1 : r1.bad = false := by
          cases e : r1.bad
          · rfl
          · have := (good_sch ver fl rest).bad _ _ _ hy e
            rw [hb] at this; cases this
        obtain ⟨a1, a2, a3⟩ := arr_any (g := p.wr fl) (W := p.wf) (good_prim p fl).toO (fun rs y rs' hq hb hs => by
          have hq' : p.rd fl rs = (y, rs') := Option.some.inj hq
          have := any_prim p fl rs (by rw [hq']; exact hb) hs
          rwa [hq'] at this) hA h1 hs
        exact ih _ y _ hy hb (by omega)
    · simp only [Sch.rd, if_neg hg] at h
      obtain ⟨⟨y, r2⟩, hy, he⟩ := Option.map_eq_some_iff.1 h
      cases he
      exact ih _ y _ hy hb hs
  | arrS g k o sT nul T PT sz df e rest ihe ih =>
    intro rs x rs' h hb hs
    by_cases hg : g.on ver = true
    · simp only [Sch.rd, if_pos hg] at h
      cases hA : arrRd nul ver fl (e.rd ver fl) rs with
      | none => rw [hA] at h; cases h
      | some q =>
        obtain ⟨a, r1⟩ := q
        rw [hA] at h
        obtain ⟨⟨y, r2⟩, hy, he⟩ := Option.map_eq_some_iff.1 h
        cases he
        have h1 : r1.bad = false := by
          cases e : r1.bad
          · rfl
          · have := (good_sch ver fl rest).bad _ _ _ hy e
            rw [hb] at this; cases this
        obtain ⟨a1, a2, a3⟩ := arr_any (g := e.wr ver fl) (W := e.TagsOk tagsOk) (good_sch ver fl e) (fun rs y rs' hq hb hs => ⟨ihe rs y rs' hq hb hs, (any_sch ver fl e rs y rs' hq hb hs).2⟩) hA h1 hs
        exact ⟨fun i z hz => a2 z (List.mem_of_getElem? hz), ih _ y _ hy hb (by omega)⟩
    · simp only [Sch.rd, if_neg hg] at h
      obtain ⟨⟨y, r2⟩, hy, he⟩ := Option.map_eq_some_iff.1 h
      cases he
      exact ⟨fun i z hz => by simp at hz, ih _ y _ hy hb hs⟩
  | sub g k o T PT sz df e rest ihe ih =>
    intro rs x rs' h hb hs
    by_cases hg : g.on ver = true
    · simp only [Sch.rd, if_pos hg] at h
      cases hA : e.rd ver fl rs with
      | none => rw [hA] at h; cases h
      | some q =>
        obtain ⟨a, r1⟩ := q
        rw [hA] at h
        obtain ⟨⟨y, r2⟩, hy, he⟩ := Option.map_eq_some_iff.1 h
        cases he
        have h1 : r1.bad = false := by
          cases e : r1.bad
          · rfl
          · have := (good_sch ver fl rest).bad _ _ _ hy e
            rw [hb] at this; cases this
        have a2 := (any_sch ver fl e rs a r1 hA h1 hs).2
        exact ⟨ihe rs a r1 hA h1 hs, ih _ y _ hy hb (by omega)⟩
    · simp only [Sch.rd, if_neg hg] at h
      obtain ⟨⟨y, r2⟩, hy, he⟩ := Option.map_eq_some_iff.1 h
      cases he
      exact ⟨Sch.TagsOk_mono (fun l h => by subst h; exact ok0) e e.tagsD, ih _ y _ hy hb hs⟩
  | opt g k o T PT PP sz df e rest ihe ih =>
    intro rs x rs' h hb hs
    by_cases hg : g.on ver = true
    · simp only [Sch.rd, if_pos hg] at h
      cases hA : optRd (e.rd ver fl) rs with
      | none => rw [hA] at h; cases h
      | some q =>
        obtain ⟨a, r1⟩ := q
        rw [hA] at h
        obtain ⟨⟨y, r2⟩, hy, he⟩ := Option.map_eq_some_iff.1 h
        cases he
        have h1 : r1.bad = false := by
          cases e : r1.bad
          · rfl
          · have := (good_sch ver fl rest).bad _ _ _ hy e
            rw [hb] at this; cases this
        obtain ⟨a1, a2⟩ := opt_any (g := e.wr ver fl) (W := e.TagsOk tagsOk) (good_sch ver fl e) (fun rs y rs' hq hb hs => ⟨ihe rs y rs' hq hb hs, (any_sch ver fl e rs y rs' hq hb hs).2⟩) hA h1 hs
        exact ⟨a1, ih _ y _ hy hb (by omega)⟩
    · simp only [Sch.rd, if_neg hg] at h
      obtain ⟨⟨y, r2⟩, hy, he⟩ := Option.map_eq_some_iff.1 h
      cases he
      exact ⟨fun x hx => (by cases hx), ih _ y _ hy hb hs⟩
  | cus c => intro rs x rs' h hb hs; exact (c.any h hb hs).2.1
/-- What is read of any bytes is written as bytes that are read again, and written as the same. -/
theorem any_again (ver : Int) (fl : Bool) (S : Sch) (hp : S.posE ver fl = true) {rs rs' : RS} {x : S.T} (h : S.rd ver fl rs = some (x, rs')) (hb : rs'.bad = false) (hs : rs.src.length ≤ 32767) (nn : Bool) :
    (S.wr ver fl x).length ≤ rs.src.length ∧ ∃ y nn', S.rd ver fl ⟨S.wr ver fl x, false, nn⟩ = some (y, ⟨[], false, nn'⟩) ∧ S.wr ver fl y = S.wr ver fl x := by
  obtain ⟨h1, h2⟩ := any_sch ver fl S rs x rs' h hb hs
  obtain ⟨y, n', e1, e2, _⟩ := rd_sch ver fl S x hp h1 [] nn
  rw [List.append_nil] at e1
  exact ⟨by omega, y, n', e1, e2⟩
end Go.Kg

set_option linter.unusedVariables false
namespace Go.Kg
open Go
def ir_spec_Write (E : Env) : Ir := (.seq (.reg [ ⟨none, some 3, .box E.t_spec_Message (.tmp 0), E.tNil⟩, ⟨none, some 5, .box E.t_spec_Tree (.tmp 2), E.tNil⟩, ⟨none, some 6, .assign (.const (.slice none 0 0)), E.tBs⟩]) (.seq (.reg [ ⟨none, some 7, .fieldAddr E.t_spec_Message (.tmp 3) 0, E.tNil⟩, ⟨none, some 8, .load E.t_l_spec_Field (.tmp 7), E.t_l_spec_Field⟩, ⟨none, some 9, .move (.tmp 1), E.tInt⟩, ⟨none, some 10, .fieldAddr E.t_spec_Message (.tmp 3) 1, E.tNil⟩, ⟨none, some 11, .load E.tInt (.tmp 10), E.tInt⟩, ⟨none, some 12, .binOp .geq E.tInt (.tmp 11) (.const (.int .i64 0)) E.tInt, E.tB⟩, ⟨none, some 13, .move (.tmp 12), E.tB⟩, ⟨(some (13, true)), some 14, .move (.tmp 1), E.tInt⟩, ⟨(some (13, true)), some 15, .fieldAddr E.t_spec_Message (.tmp 3) 1, E.tNil⟩, ⟨(some (13, true)), some 16, .load E.tInt (.tmp 15), E.tInt⟩, ⟨(some (13, true)), some 17, .binOp .geq E.tInt (.tmp 14) (.tmp 16) E.tInt, E.tB⟩, ⟨none, some 18, .pick (.tmp 13) (.tmp 17) (.const (.bool false)), E.tB⟩, ⟨none, some 19, .load E.t_spec_Tree (.tmp 5), E.t_spec_Tree⟩, ⟨none, some 20, .call { callee := .value (.func E.f_spec_part), args := #[.tmp 8, .tmp 9, .tmp 18, .tmp 19], argTypes := #[E.t_l_spec_Field, E.tInt, E.tB, E.t_spec_Tree] }, E.tBs⟩, ⟨none, some 6, .assign (.tmp 20), E.tBs⟩]) .ret))
def nt_spec_Write : Nat := 21
def rs_spec_Write (E : Env) : List Rv := [.t 6]
def ir_spec_part (E : Env) : Ir := (.seq (.reg [ ⟨none, some 7, .box E.t_spec_Tree (.tmp 3), E.tNil⟩, ⟨none, some 8, .assign (.const (.slice none 0 0)), E.tBs⟩]) (.seq (.reg [ ⟨none, some 9, .assign (.const (.slice none 0 0)), E.tBs⟩, ⟨none, some 10, .assign (.const (.slice none 0 0)), E.tBs⟩]) (.seq (.reg [ ⟨none, some 11, .assign (.const (.int .i64 0)), E.tInt⟩]) (.seq (.seq (.reg [ ⟨none, some 21, .move (.tmp 0), E.t_l_spec_Field⟩, ⟨none, some 22, .call { callee := .builtin .len, args := #[.tmp 21], argTypes := #[E.t_l_spec_Field] }, E.tInt⟩, ⟨none, some 23, .move (.const (.int .i64 0)), E.tInt⟩]) (.block 0 (.loop (.seq (.reg [ ⟨none, some 24, .binOp .lss E.tInt (.tmp 23) (.tmp 22) E.tInt, E.tNil⟩]) (.seq (.cond 24 .skip (.exit 0)) (.seq (.block 1 (.seq (.reg [ ⟨none, some 25, .move (.tmp 23), E.tInt⟩, ⟨none, some 26, .indexAddr E.t_l_spec_Field (.tmp 21) (.tmp 23), E.tNil⟩, ⟨none, some 27, .load E.t_spec_Field (.tmp 26), E.t_spec_Field⟩, ⟨none, some 13, .alloc E.t_spec_Field, E.tNil⟩, ⟨none, some 12, .assign (.tmp 25), E.tInt⟩, ⟨none, none, .store E.t_spec_Field (.tmp 13) (.tmp 27), E.tNil⟩]) (.seq (.reg [ ⟨none, some 28, .fieldAddr E.t_spec_Field (.tmp 13) 4, E.tNil⟩, ⟨none, some 29, .load E.tInt (.tmp 28), E.tInt⟩, ⟨none, some 30, .binOp .lss E.tInt (.tmp 29) (.const (.int .i64 0)) E.tInt, E.tB⟩, ⟨none, some 31, .move (.tmp 30), E.tB⟩, ⟨(some (31, true)), some 32, .load E.t_spec_Field (.tmp 13), E.t_spec_Field⟩, ⟨(some (31, true)), some 33, .move (.tmp 1), E.tInt⟩, ⟨(some (31, true)), some 34, .call { callee := .value (.func E.f_spec_Field_has), args := #[.tmp 32, .tmp 33], argTypes := #[E.t_spec_Field, E.tInt] }, E.tB⟩, ⟨none, some 35, .pick (.tmp 31) (.tmp 34) (.const (.bool false)), E.tB⟩]) (.cond 35 (.regH [ (true, ⟨none, some 36, .move (.tmp 9), E.tBs⟩), (true, ⟨none, some 37, .load E.t_spec_Field (.tmp 13), E.t_spec_Field⟩), (true, ⟨none, some 38, .move (.tmp 1), E.tInt⟩), (true, ⟨none, some 39, .move (.tmp 2), E.tB⟩), (true, ⟨none, some 40, .load E.t_spec_Tree (.tmp 7), E.t_spec_Tree⟩), (true, ⟨none, some 41, .move (.tmp 12), E.tInt⟩), (false, ⟨none, some 42, .call { callee := .value (.func E.f_spec_at), args := #[.tmp 40, .tmp 41], argTypes := #[E.t_spec_Tree, E.tInt] }, E.t_spec_Tree⟩), (false, ⟨none, some 43, .call { callee := .value (.func E.f_spec_field), args := #[.tmp 37, .tmp 38, .tmp 39, .tmp 42], argTypes := #[E.t_spec_Field, E.tInt, E.tB, E.t_spec_Tree] }, E.tBs⟩), (false, ⟨none, some 44, .call { callee := .builtin .append, args := #[.tmp 36, .tmp 43], argTypes := #[E.tBs, E.tBs] }, E.tBs⟩), (true, ⟨none, some 9, .assign (.tmp 44), E.tBs⟩)]) .skip)))) (.reg [ ⟨none, some 45, .binOp .add E.tInt (.tmp 23) (.const (.int .i64 1)) E.tInt, E.tInt⟩, ⟨none, some 23, .move (.tmp 45), E.tInt⟩]))))))) (.seq (.seq (.reg [ ⟨none, some 46, .move (.tmp 2), E.tB⟩, ⟨none, some 47, .unOp .not E.tB (.tmp 46), E.tB⟩]) (.cond 47 (.seq (.reg [ ⟨none, some 48, .move (.tmp 9), E.tBs⟩, ⟨none, some 8, .assign (.tmp 48), E.tBs⟩]) .ret) .skip)) (.seq (.seq (.reg [ ⟨none, some 49, .move (.tmp 0), E.t_l_spec_Field⟩, ⟨none, some 50, .call { callee := .value (.func E.f_spec_known), args := #[.tmp 49], argTypes := #[E.t_l_spec_Field] }, E.tU32⟩, ⟨none, some 51, .convert E.tU32 E.tInt (.tmp 50), E.tInt⟩, ⟨none, some 52, .move (.const (.int .i64 0)), E.tInt⟩]) (.block 2 (.loop (.seq (.reg [ ⟨none, some 53, .binOp .lss E.tInt (.tmp 52) (.tmp 51) E.tInt, E.tB⟩]) (.seq (.cond 53 .skip (.exit 2)) (.seq (.block 3 (.seq (.reg [ ⟨none, some 54, .move (.tmp 52), E.tInt⟩, ⟨none, some 14, .assign (.tmp 54), E.tInt⟩]) (.seq (.reg [ ⟨none, some 55, .move (.tmp 0), E.t_l_spec_Field⟩, ⟨none, some 56, .call { callee := .builtin .len, args := #[.tmp 55], argTypes := #[E.t_l_spec_Field] }, E.tInt⟩, ⟨none, some 57, .move (.const (.int .i64 0)), E.tInt⟩]) (.block 4 (.loop (.seq (.reg [ ⟨none, some 58, .binOp .lss E.tInt (.tmp 57) (.tmp 56) E.tInt, E.tNil⟩]) (.seq (.cond 58 .skip (.exit 4)) (.seq (.block 5 (.seq (.reg [ ⟨none, some 59, .move (.tmp 57), E.tInt⟩, ⟨none, some 60, .indexAddr E.t_l_spec_Field (.tmp 55) (.tmp 57), E.tNil⟩, ⟨none, some 61, .load E.t_spec_Field (.tmp 60), E.t_spec_Field⟩, ⟨none, some 16, .alloc E.t_spec_Field, E.tNil⟩, ⟨none, some 15, .assign (.tmp 59), E.tInt⟩, ⟨none, none, .store E.t_spec_Field (.tmp 16) (.tmp 61), E.tNil⟩]) (.seq (.regH [ (true, ⟨none, some 62, .fieldAddr E.t_spec_Field (.tmp 16) 4, E.tNil⟩), (true, ⟨none, some 63, .load E.tInt (.tmp 62), E.tInt⟩), (true, ⟨none, some 64, .move (.tmp 14), E.tInt⟩), (true, ⟨none, some 65, .binOp .eql E.tInt (.tmp 63) (.tmp 64) E.tInt, E.tB⟩), (true, ⟨none, some 66, .move (.tmp 65), E.tB⟩), (true, ⟨(some (66, true)), some 67, .load E.t_spec_Field (.tmp 16), E.t_spec_Field⟩), (true, ⟨(some (66, true)), some 68, .load E.t_spec_Tree (.tmp 7), E.t_spec_Tree⟩), (true, ⟨(some (66, true)), some 69, .move (.tmp 15), E.tInt⟩), (false, ⟨(some (66, true)), some 70, .call { callee := .value (.func E.f_spec_at), args := #[.tmp 68, .tmp 69], argTypes := #[E.t_spec_Tree, E.tInt] }, E.t_spec_Tree⟩), (false, ⟨(some (66, true)), some 71, .call { callee := .value (.func E.f_spec_usual), args := #[.tmp 67, .tmp 70], argTypes := #[E.t_spec_Field, E.t_spec_Tree] }, E.tB⟩), (true, ⟨(some (66, true)), some 72, .unOp .not E.tB (.tmp 71), E.tB⟩), (true, ⟨none, some 73, .pick (.tmp 66) (.tmp 72) (.const (.bool false)), E.tB⟩)]) (.cond 73 (.seq (.regH [ (true, ⟨none, some 74, .load E.t_spec_Field (.tmp 16), E.t_spec_Field⟩), (true, ⟨none, some 75, .move (.tmp 1), E.tInt⟩), (true, ⟨none, some 76, .move (.tmp 2), E.tB⟩), (true, ⟨none, some 77, .load E.t_spec_Tree (.tmp 7), E.t_spec_Tree⟩), (true, ⟨none, some 78, .move (.tmp 15), E.tInt⟩), (false, ⟨none, some 79, .call { callee := .value (.func E.f_spec_at), args := #[.tmp 77, .tmp 78], argTypes := #[E.t_spec_Tree, E.tInt] }, E.t_spec_Tree⟩), (false, ⟨none, some 80, .call { callee := .value (.func E.f_spec_field), args := #[.tmp 74, .tmp 75, .tmp 76, .tmp 79], argTypes := #[E.t_spec_Field, E.tInt, E.tB, E.t_spec_Tree] }, E.tBs⟩), (true, ⟨none, some 17, .assign (.tmp 80), E.tBs⟩)]) (.seq (.reg [ ⟨none, some 81, .move (.tmp 10), E.tBs⟩, ⟨none, some 82, .move (.tmp 14), E.tInt⟩, ⟨none, some 83, .convert E.tInt E.tU64 (.tmp 82), E.tU64⟩, ⟨none, some 84, .call { callee := .value (.func E.f_spec_Uvarint), args := #[.tmp 83], argTypes := #[E.tU64] }, E.tBs⟩, ⟨none, some 85, .call { callee := .builtin .append, args := #[.tmp 81, .tmp 84], argTypes := #[E.tBs, E.tBs] }, E.tBs⟩, ⟨none, some 86, .move (.tmp 17), E.tBs⟩, ⟨none, some 87, .call { callee := .builtin .len, args := #[.tmp 86], argTypes := #[E.tBs] }, E.tInt⟩, ⟨none, some 88, .convert E.tInt E.tU64 (.tmp 87), E.tU64⟩, ⟨none, some 89, .call { callee := .value (.func E.f_spec_Uvarint), args := #[.tmp 88], argTypes := #[E.tU64] }, E.tBs⟩, ⟨none, some 90, .call { callee := .builtin .append, args := #[.tmp 85, .tmp 89], argTypes := #[E.tBs, E.tBs] }, E.tBs⟩, ⟨none, some 91, .move (.tmp 17), E.tBs⟩, ⟨none, some 92, .call { callee := .builtin .append, args := #[.tmp 90, .tmp 91], argTypes := #[E.tBs, E.tBs] }, E.tBs⟩, ⟨none, some 10, .assign (.tmp 92), E.tBs⟩]) (.reg [ ⟨none, some 93, .move (.tmp 11), E.tInt⟩, ⟨none, some 94, .binOp .add E.tInt (.tmp 93) (.const (.int .i64 1)) E.tInt, E.tInt⟩, ⟨none, some 11, .assign (.tmp 94), E.tInt⟩]))) .skip)))) (.reg [ ⟨none, some 95, .binOp .add E.tInt (.tmp 57) (.const (.int .i64 1)) E.tInt, E.tInt⟩, ⟨none, some 57, .move (.tmp 95), E.tInt⟩]))))))))) (.reg [ ⟨none, some 96, .binOp .add E.tInt (.tmp 52) (.const (.int .i64 1)) E.tInt, E.tInt⟩, ⟨none, some 52, .move (.tmp 96), E.tInt⟩]))))))) (.seq (.seq (.reg [ ⟨none, some 97, .move (.tmp 0), E.t_l_spec_Field⟩, ⟨none, some 98, .fieldAddr E.t_spec_Tree (.tmp 7) 4, E.tNil⟩, ⟨none, some 99, .load E.t_l_spec_Tag (.tmp 98), E.t_l_spec_Tag⟩, ⟨none, some 100, .call { callee := .value (.func E.f_spec_unknown), args := #[.tmp 97, .tmp 99], argTypes := #[E.t_l_spec_Field, E.t_l_spec_Tag] }, E.t_l_spec_Tag⟩, ⟨none, some 101, .call { callee := .builtin .len, args := #[.tmp 100], argTypes := #[E.t_l_spec_Tag] }, E.tInt⟩, ⟨none, some 102, .move (.const (.int .i64 0)), E.tInt⟩]) (.block 6 (.loop (.seq (.reg [ ⟨none, some 103, .binOp .lss E.tInt (.tmp 102) (.tmp 101) E.tInt, E.tNil⟩]) (.seq (.cond 103 .skip (.exit 6)) (.seq (.block 7 (.seq (.reg [ ⟨none, some 104, .indexAddr E.t_l_spec_Tag (.tmp 100) (.tmp 102), E.tNil⟩, ⟨none, some 105, .load E.t_spec_Tag (.tmp 104), E.t_spec_Tag⟩, ⟨none, some 19, .alloc E.t_spec_Tag, E.tNil⟩, ⟨none, none, .store E.t_spec_Tag (.tmp 19) (.tmp 105), E.tNil⟩]) (.seq (.reg [ ⟨none, some 106, .fieldAddr E.t_spec_Tag (.tmp 19) 1, E.tNil⟩, ⟨none, some 107, .load E.tBs (.tmp 106), E.tBs⟩, ⟨none, some 108, .call { callee := .value (.func E.f_spec_whole), args := #[.tmp 107], argTypes := #[E.tBs] }, E.tBs⟩, ⟨none, some 20, .assign (.tmp 108), E.tBs⟩]) (.seq (.reg [ ⟨none, some 109, .move (.tmp 10), E.tBs⟩, ⟨none, some 110, .fieldAddr E.t_spec_Tag (.tmp 19) 0, E.tNil⟩, ⟨none, some 111, .load E.tU32 (.tmp 110), E.tU32⟩, ⟨none, some 112, .convert E.tU32 E.tU64 (.tmp 111), E.tU64⟩, ⟨none, some 113, .call { callee := .value (.func E.f_spec_Uvarint), args := #[.tmp 112], argTypes := #[E.tU64] }, E.tBs⟩, ⟨none, some 114, .call { callee := .builtin .append, args := #[.tmp 109, .tmp 113], argTypes := #[E.tBs, E.tBs] }, E.tBs⟩, ⟨none, some 115, .move (.tmp 20), E.tBs⟩, ⟨none, some 116, .call { callee := .builtin .len, args := #[.tmp 115], argTypes := #[E.tBs] }, E.tInt⟩, ⟨none, some 117, .convert E.tInt E.tU64 (.tmp 116), E.tU64⟩, ⟨none, some 118, .call { callee := .value (.func E.f_spec_Uvarint), args := #[.tmp 117], argTypes := #[E.tU64] }, E.tBs⟩, ⟨none, some 119, .call { callee := .builtin .append, args := #[.tmp 114, .tmp 118], argTypes := #[E.tBs, E.tBs] }, E.tBs⟩, ⟨none, some 120, .move (.tmp 20), E.tBs⟩, ⟨none, some 121, .call { callee := .builtin .append, args := #[.tmp 119, .tmp 120], argTypes := #[E.tBs, E.tBs] }, E.tBs⟩, ⟨none, some 10, .assign (.tmp 121), E.tBs⟩]) (.reg [ ⟨none, some 122, .move (.tmp 11), E.tInt⟩, ⟨none, some 123, .binOp .add E.tInt (.tmp 122) (.const (.int .i64 1)) E.tInt, E.tInt⟩, ⟨none, some 11, .assign (.tmp 123), E.tInt⟩]))))) (.reg [ ⟨none, some 124, .binOp .add E.tInt (.tmp 102) (.const (.int .i64 1)) E.tInt, E.tInt⟩, ⟨none, some 102, .move (.tmp 124), E.tInt⟩]))))))) (.seq (.reg [ ⟨none, some 125, .move (.tmp 9), E.tBs⟩, ⟨none, some 126, .move (.tmp 11), E.tInt⟩, ⟨none, some 127, .convert E.tInt E.tU64 (.tmp 126), E.tU64⟩, ⟨none, some 128, .call { callee := .value (.func E.f_spec_Uvarint), args := #[.tmp 127], argTypes := #[E.tU64] }, E.tBs⟩, ⟨none, some 129, .call { callee := .builtin .append, args := #[.tmp 125, .tmp 128], argTypes := #[E.tBs, E.tBs] }, E.tBs⟩, ⟨none, some 130, .move (.tmp 10), E.tBs⟩, ⟨none, some 131, .call { callee := .builtin .append, args := #[.tmp 129, .tmp 130], argTypes := #[E.tBs, E.tBs] }, E.tBs⟩, ⟨none, some 8, .assign (.tmp 131), E.tBs⟩]) .ret))))))))
def nt_spec_part : Nat := 132
def rs_spec_part (E : Env) : List Rv := [.t 8]
def ir_spec_field (E : Env) : Ir := (.seq (.reg [ ⟨none, some 4, .box E.t_spec_Field (.tmp 0), E.tNil⟩, ⟨none, some 7, .box E.t_spec_Tree (.tmp 3), E.tNil⟩, ⟨none, some 8, .assign (.const (.slice none 0 0)), E.tBs⟩]) (.seq (.reg [ ⟨none, some 13, .load E.t_spec_Field (.tmp 4), E.t_spec_Field⟩, ⟨none, some 14, .move (.tmp 1), E.tInt⟩, ⟨none, some 15, .load E.t_spec_Tree (.tmp 7), E.t_spec_Tree⟩, ⟨none, some 16, .call { callee := .value (.func E.f_spec_Field_null), args := #[.tmp 13, .tmp 14, .tmp 15], argTypes := #[E.t_spec_Field, E.tInt, E.t_spec_Tree] }, E.tB⟩, ⟨none, some 9, .assign (.tmp 16), E.tB⟩]) (.seq (.seq (.reg [ ⟨none, some 17, .fieldAddr E.t_spec_Field (.tmp 4) 0, E.tNil⟩, ⟨none, some 18, .load E.tInt (.tmp 17), E.tInt⟩, ⟨none, some 19, .binOp .eql E.tInt (.tmp 18) (.const (.int .i64 11)) E.tInt, E.tB⟩]) (.cond 19 (.seq (.reg [ ⟨none, some 20, .fieldAddr E.t_spec_Tree (.tmp 7) 3, E.tNil⟩, ⟨none, some 21, .load E.t_l_spec_Tree (.tmp 20), E.t_l_spec_Tree⟩, ⟨none, some 22, .call { callee := .value (.func E.f_spec_things), args := #[.tmp 21], argTypes := #[E.t_l_spec_Tree] }, E.t_l_spec_Tree⟩, ⟨none, some 10, .assign (.tmp 22), E.t_l_spec_Tree⟩]) (.seq (.seq (.reg [ ⟨none, some 23, .move (.tmp 9), E.tB⟩]) (.cond 23 (.reg [ ⟨none, some 10, .assign (.const (.slice none 0 0)), E.t_l_spec_Tree⟩]) .skip)) (.seq (.reg [ ⟨none, some 24, .move (.tmp 2), E.tB⟩, ⟨none, some 25, .move (.tmp 9), E.tB⟩, ⟨none, some 26, .move (.tmp 10), E.t_l_spec_Tree⟩, ⟨none, some 27, .call { callee := .builtin .len, args := #[.tmp 26], argTypes := #[E.t_l_spec_Tree] }, E.tInt⟩, ⟨none, some 28, .call { callee := .value (.func E.f_spec_counted), args := #[.tmp 24, .tmp 25, .tmp 27, .const (.int .i64 4)], argTypes := #[E.tB, E.tB, E.tInt, E.tInt] }, E.tBs⟩, ⟨none, some 11, .assign (.tmp 28), E.tBs⟩]) (.seq (.seq (.reg [ ⟨none, some 29, .move (.tmp 10), E.t_l_spec_Tree⟩, ⟨none, some 30, .call { callee := .builtin .len, args := #[.tmp 29], argTypes := #[E.t_l_spec_Tree] }, E.tInt⟩, ⟨none, some 31, .move (.const (.int .i64 0)), E.tInt⟩]) (.block 0 (.loop (.seq (.reg [ ⟨none, some 32, .binOp .lss E.tInt (.tmp 31) (.tmp 30) E.tInt, E.tNil⟩]) (.seq (.cond 32 .skip (.exit 0)) (.seq (.block 1 (.seq (.reg [ ⟨none, some 33, .move (.tmp 31), E.tInt⟩, ⟨none, some 12, .assign (.tmp 33), E.tInt⟩]) (.regH [ (true, ⟨none, some 34, .move (.tmp 11), E.tBs⟩), (true, ⟨none, some 35, .fieldAddr E.t_spec_Field (.tmp 4) 6, E.tNil⟩), (true, ⟨none, some 36, .load E.tInt (.tmp 35), E.tInt⟩), (true, ⟨none, some 37, .fieldAddr E.t_spec_Field (.tmp 4) 7, E.tNil⟩), (true, ⟨none, some 38, .load E.t_l_spec_Field (.tmp 37), E.t_l_spec_Field⟩), (true, ⟨none, some 39, .move (.tmp 1), E.tInt⟩), (true, ⟨none, some 40, .move (.tmp 2), E.tB⟩), (true, ⟨none, some 41, .move (.tmp 10), E.t_l_spec_Tree⟩), (true, ⟨none, some 42, .move (.tmp 12), E.tInt⟩), (true, ⟨none, some 43, .indexAddr E.t_l_spec_Tree (.tmp 41) (.tmp 42), E.tNil⟩), (true, ⟨none, some 44, .load E.t_spec_Tree (.tmp 43), E.t_spec_Tree⟩), (false, ⟨none, some 45, .call { callee := .value (.func E.f_spec_value), args := #[.tmp 36, .tmp 38, .const (.bool false), .tmp 39, .tmp 40, .tmp 44], argTypes := #[E.tInt, E.t_l_spec_Field, E.tB, E.tInt, E.tB, E.t_spec_Tree] }, E.tBs⟩), (false, ⟨none, some 46, .call { callee := .builtin .append, args := #[.tmp 34, .tmp 45], argTypes := #[E.tBs, E.tBs] }, E.tBs⟩), (true, ⟨none, some 11, .assign (.tmp 46), E.tBs⟩)]))) (.reg [ ⟨none, some 47, .binOp .add E.tInt (.tmp 31) (.const (.int .i64 1)) E.tInt, E.tInt⟩, ⟨none, some 31, .move (.tmp 47), E.tInt⟩]))))))) (.seq (.reg [ ⟨none, some 48, .move (.tmp 11), E.tBs⟩, ⟨none, some 8, .assign (.tmp 48), E.tBs⟩]) .ret))))) .skip)) (.seq (.seq (.reg [ ⟨none, some 49, .fieldAddr E.t_spec_Field (.tmp 4) 0, E.tNil⟩, ⟨none, some 50, .load E.tInt (.tmp 49), E.tInt⟩, ⟨none, some 51, .binOp .eql E.tInt (.tmp 50) (.const (.int .i64 10)) E.tInt, E.tB⟩, ⟨none, some 52, .move (.tmp 51), E.tB⟩, ⟨(some (52, true)), some 53, .fieldAddr E.t_spec_Field (.tmp 4) 3, E.tNil⟩, ⟨(some (52, true)), some 54, .load E.tInt (.tmp 53), E.tInt⟩, ⟨(some (52, true)), some 55, .binOp .geq E.tInt (.tmp 54) (.const (.int .i64 0)) E.tInt, E.tB⟩, ⟨none, some 56, .pick (.tmp 52) (.tmp 55) (.const (.bool false)), E.tB⟩]) (.cond 56 (.seq (.seq (.reg [ ⟨none, some 57, .move (.tmp 9), E.tB⟩]) (.cond 57 (.seq (.reg [ ⟨none, some 58, .call { callee := .value (.func E.f_spec_Fixed), args := #[.const (.int .i64 (-1)), .const (.int .i64 1)], argTypes := #[E.tI64, E.tInt] }, E.tBs⟩, ⟨none, some 8, .assign (.tmp 58), E.tBs⟩]) .ret) .skip)) (.seq (.regH [ (true, ⟨none, some 60, .fieldAddr E.t_spec_Field (.tmp 4) 7, E.tNil⟩), (true, ⟨none, some 61, .load E.t_l_spec_Field (.tmp 60), E.t_l_spec_Field⟩), (true, ⟨none, some 62, .move (.tmp 1), E.tInt⟩), (true, ⟨none, some 63, .move (.tmp 2), E.tB⟩), (true, ⟨none, some 64, .load E.t_spec_Tree (.tmp 7), E.t_spec_Tree⟩), (false, ⟨none, some 59, .call { callee := .value (.func E.f_spec_Fixed), args := #[.const (.int .i64 1), .const (.int .i64 1)], argTypes := #[E.tI64, E.tInt] }, E.tBs⟩), (false, ⟨none, some 65, .call { callee := .value (.func E.f_spec_part), args := #[.tmp 61, .tmp 62, .tmp 63, .tmp 64], argTypes := #[E.t_l_spec_Field, E.tInt, E.tB, E.t_spec_Tree] }, E.tBs⟩), (false, ⟨none, some 66, .call { callee := .builtin .append, args := #[.tmp 59, .tmp 65], argTypes := #[E.tBs, E.tBs] }, E.tBs⟩), (true, ⟨none, some 8, .assign (.tmp 66), E.tBs⟩)]) .ret)) .skip)) (.seq (.reg [ ⟨none, some 67, .fieldAddr E.t_spec_Field (.tmp 4) 0, E.tNil⟩, ⟨none, some 68, .load E.tInt (.tmp 67), E.tInt⟩, ⟨none, some 69, .fieldAddr E.t_spec_Field (.tmp 4) 7, E.tNil⟩, ⟨none, some 70, .load E.t_l_spec_Field (.tmp 69), E.t_l_spec_Field⟩, ⟨none, some 71, .move (.tmp 9), E.tB⟩, ⟨none, some 72, .move (.tmp 1), E.tInt⟩, ⟨none, some 73, .move (.tmp 2), E.tB⟩, ⟨none, some 74, .load E.t_spec_Tree (.tmp 7), E.t_spec_Tree⟩, ⟨none, some 75, .call { callee := .value (.func E.f_spec_value), args := #[.tmp 68, .tmp 70, .tmp 71, .tmp 72, .tmp 73, .tmp 74], argTypes := #[E.tInt, E.t_l_spec_Field, E.tB, E.tInt, E.tB, E.t_spec_Tree] }, E.tBs⟩, ⟨none, some 8, .assign (.tmp 75), E.tBs⟩]) .ret)))))
def nt_spec_field : Nat := 76
def rs_spec_field (E : Env) : List Rv := [.t 8]
def ir_spec_value (E : Env) : Ir := (.seq (.reg [ ⟨none, some 11, .box E.t_spec_Tree (.tmp 5), E.tNil⟩, ⟨none, some 12, .assign (.const (.slice none 0 0)), E.tBs⟩]) (.seq (.seq (.reg [ ⟨none, some 16, .move (.tmp 0), E.tInt⟩]) (.block 0 (.seq (.reg [ ⟨none, some 18, .binOp .eql E.tInt (.tmp 16) (.const (.int .i64 0)) E.tInt, E.tB⟩, ⟨none, some 17, .assign (.tmp 18), E.tB⟩]) (.cond 17 (.seq (.reg [ ⟨none, some 19, .fieldAddr E.t_spec_Tree (.tmp 11) 0, E.tNil⟩, ⟨none, some 20, .load E.tI64 (.tmp 19), E.tI64⟩, ⟨none, some 21, .binOp .and E.tI64 (.tmp 20) (.const (.int .i64 1)) E.tI64, E.tI64⟩, ⟨none, some 22, .convert E.tI64 E.tU8 (.tmp 21), E.tU8⟩, ⟨none, some 23, .buildSlice E.tBs 1 #[(0, .tmp 22)], E.tBs⟩, ⟨none, some 12, .assign (.tmp 23), E.tBs⟩]) .ret) (.seq (.reg [ ⟨none, some 25, .binOp .eql E.tInt (.tmp 16) (.const (.int .i64 7)) E.tInt, E.tB⟩, ⟨none, some 24, .assign (.tmp 25), E.tB⟩]) (.cond 24 (.seq (.reg [ ⟨none, some 26, .makeSlice E.tBs (.const (.int .i64 16)) (.const (.int .i64 16)), E.tBs⟩, ⟨none, some 13, .assign (.tmp 26), E.tBs⟩]) (.seq (.reg [ ⟨none, some 27, .move (.tmp 13), E.tBs⟩, ⟨none, some 28, .fieldAddr E.t_spec_Tree (.tmp 11) 1, E.tNil⟩, ⟨none, some 29, .load E.tBs (.tmp 28), E.tBs⟩, ⟨none, some 30, .call { callee := .builtin .copy, args := #[.tmp 27, .tmp 29], argTypes := #[E.tBs, E.tBs] }, E.tInt⟩]) (.seq (.reg [ ⟨none, some 31, .move (.tmp 13), E.tBs⟩, ⟨none, some 12, .assign (.tmp 31), E.tBs⟩]) .ret))) (.seq (.reg [ ⟨none, some 33, .binOp .eql E.tInt (.tmp 16) (.const (.int .i64 8)) E.tInt, E.tB⟩, ⟨none, some 32, .assign (.tmp 33), E.tB⟩]) (.cond 32 (.seq (.reg [ ⟨none, some 34, .fieldAddr E.t_spec_Tree (.tmp 11) 1, E.tNil⟩, ⟨none, some 35, .load E.tBs (.tmp 34), E.tBs⟩, ⟨none, some 36, .call { callee := .value (.func E.f_spec_whole), args := #[.tmp 35], argTypes := #[E.tBs] }, E.tBs⟩, ⟨none, some 14, .assign (.tmp 36), E.tBs⟩]) (.seq (.seq (.reg [ ⟨none, some 37, .move (.tmp 2), E.tB⟩]) (.cond 37 (.reg [ ⟨none, some 14, .assign (.const (.slice none 0 0)), E.tBs⟩]) .skip)) (.seq (.reg [ ⟨none, some 38, .move (.tmp 4), E.tB⟩, ⟨none, some 39, .move (.tmp 2), E.tB⟩, ⟨none, some 40, .move (.tmp 14), E.tBs⟩, ⟨none, some 41, .call { callee := .builtin .len, args := #[.tmp 40], argTypes := #[E.tBs] }, E.tInt⟩, ⟨none, some 42, .call { callee := .value (.func E.f_spec_counted), args := #[.tmp 38, .tmp 39, .tmp 41, .const (.int .i64 2)], argTypes := #[E.tB, E.tB, E.tInt, E.tInt] }, E.tBs⟩, ⟨none, some 43, .move (.tmp 14), E.tBs⟩, ⟨none, some 44, .call { callee := .builtin .append, args := #[.tmp 42, .tmp 43], argTypes := #[E.tBs, E.tBs] }, E.tBs⟩, ⟨none, some 12, .assign (.tmp 44), E.tBs⟩]) .ret))) (.seq (.reg [ ⟨none, some 46, .binOp .eql E.tInt (.tmp 16) (.const (.int .i64 9)) E.tInt, E.tB⟩, ⟨none, some 45, .assign (.tmp 46), E.tB⟩]) (.cond 45 (.seq (.reg [ ⟨none, some 47, .fieldAddr E.t_spec_Tree (.tmp 11) 1, E.tNil⟩, ⟨none, some 48, .load E.tBs (.tmp 47), E.tBs⟩, ⟨none, some 49, .call { callee := .value (.func E.f_spec_whole), args := #[.tmp 48], argTypes := #[E.tBs] }, E.tBs⟩, ⟨none, some 15, .assign (.tmp 49), E.tBs⟩]) (.seq (.seq (.reg [ ⟨none, some 50, .move (.tmp 2), E.tB⟩]) (.cond 50 (.reg [ ⟨none, some 15, .assign (.const (.slice none 0 0)), E.tBs⟩]) .skip)) (.seq (.reg [ ⟨none, some 51, .move (.tmp 4), E.tB⟩, ⟨none, some 52, .move (.tmp 2), E.tB⟩, ⟨none, some 53, .move (.tmp 15), E.tBs⟩, ⟨none, some 54, .call { callee := .builtin .len, args := #[.tmp 53], argTypes := #[E.tBs] }, E.tInt⟩, ⟨none, some 55, .call { callee := .value (.func E.f_spec_counted), args := #[.tmp 51, .tmp 52, .tmp 54, .const (.int .i64 4)], argTypes := #[E.tB, E.tB, E.tInt, E.tInt] }, E.tBs⟩, ⟨none, some 56, .move (.tmp 15), E.tBs⟩, ⟨none, some 57, .call { callee := .builtin .append, args := #[.tmp 55, .tmp 56], argTypes := #[E.tBs, E.tBs] }, E.tBs⟩, ⟨none, some 12, .assign (.tmp 57), E.tBs⟩]) .ret))) (.seq (.reg [ ⟨none, some 59, .binOp .eql E.tInt (.tmp 16) (.const (.int .i64 10)) E.tInt, E.tB⟩, ⟨none, some 58, .assign (.tmp 59), E.tB⟩]) (.cond 58 (.seq (.reg [ ⟨none, some 60, .move (.tmp 1), E.t_l_spec_Field⟩, ⟨none, some 61, .move (.tmp 3), E.tInt⟩, ⟨none, some 62, .move (.tmp 4), E.tB⟩, ⟨none, some 63, .load E.t_spec_Tree (.tmp 11), E.t_spec_Tree⟩, ⟨none, some 64, .call { callee := .value (.func E.f_spec_part), args := #[.tmp 60, .tmp 61, .tmp 62, .tmp 63], argTypes := #[E.t_l_spec_Field, E.tInt, E.tB, E.t_spec_Tree] }, E.tBs⟩, ⟨none, some 12, .assign (.tmp 64), E.tBs⟩]) .ret) .skip)))))))))))) (.seq (.regH [ (true, ⟨none, some 65, .fieldAddr E.t_spec_Tree (.tmp 11) 0, E.tNil⟩), (true, ⟨none, some 66, .load E.tI64 (.tmp 65), E.tI64⟩), (true, ⟨none, some 67, .move (.tmp 0), E.tInt⟩), (false, ⟨none, some 68, .call { callee := .value (.func E.f_spec_width), args := #[.tmp 67], argTypes := #[E.tInt] }, E.tInt⟩), (false, ⟨none, some 69, .call { callee := .value (.func E.f_spec_Fixed), args := #[.tmp 66, .tmp 68], argTypes := #[E.tI64, E.tInt] }, E.tBs⟩), (true, ⟨none, some 12, .assign (.tmp 69), E.tBs⟩)]) .ret)))
def nt_spec_value : Nat := 70
def rs_spec_value (E : Env) : List Rv := [.t 12]
def ir_spec_at (E : Env) : Ir := (.seq (.reg [ ⟨none, some 2, .box E.t_spec_Tree (.tmp 0), E.tNil⟩, ⟨none, some 4, .alloc E.t_spec_Tree, E.tNil⟩]) (.seq (.seq (.reg [ ⟨none, some 5, .move (.tmp 1), E.tInt⟩, ⟨none, some 6, .fieldAddr E.t_spec_Tree (.tmp 2) 3, E.tNil⟩, ⟨none, some 7, .load E.t_l_spec_Tree (.tmp 6), E.t_l_spec_Tree⟩, ⟨none, some 8, .call { callee := .builtin .len, args := #[.tmp 7], argTypes := #[E.t_l_spec_Tree] }, E.tInt⟩, ⟨none, some 9, .binOp .lss E.tInt (.tmp 5) (.tmp 8) E.tInt, E.tB⟩]) (.cond 9 (.seq (.reg [ ⟨none, some 10, .fieldAddr E.t_spec_Tree (.tmp 2) 3, E.tNil⟩, ⟨none, some 11, .load E.t_l_spec_Tree (.tmp 10), E.t_l_spec_Tree⟩, ⟨none, some 12, .move (.tmp 1), E.tInt⟩, ⟨none, some 13, .indexAddr E.t_l_spec_Tree (.tmp 11) (.tmp 12), E.tNil⟩, ⟨none, some 14, .load E.t_spec_Tree (.tmp 13), E.t_spec_Tree⟩, ⟨none, none, .store E.t_spec_Tree (.tmp 4) (.tmp 14), E.tNil⟩]) .ret) .skip)) (.seq (.reg [ ⟨none, some 15, .build E.t_spec_Tree #[], E.t_spec_Tree⟩, ⟨none, none, .store E.t_spec_Tree (.tmp 4) (.tmp 15), E.tNil⟩]) .ret)))
def nt_spec_at : Nat := 16
def rs_spec_at (E : Env) : List Rv := [.c 4 E.t_spec_Tree]
def ir_spec_known (E : Env) : Ir := (.seq (.reg [ ⟨none, some 2, .assign (.const (.int .u32 0)), E.tU32⟩]) (.seq (.reg [ ⟨none, some 3, .assign (.const (.int .u32 0)), E.tU32⟩]) (.seq (.seq (.reg [ ⟨none, some 6, .move (.tmp 0), E.t_l_spec_Field⟩, ⟨none, some 7, .call { callee := .builtin .len, args := #[.tmp 6], argTypes := #[E.t_l_spec_Field] }, E.tInt⟩, ⟨none, some 8, .move (.const (.int .i64 0)), E.tInt⟩]) (.block 0 (.loop (.seq (.reg [ ⟨none, some 9, .binOp .lss E.tInt (.tmp 8) (.tmp 7) E.tInt, E.tNil⟩]) (.seq (.cond 9 .skip (.exit 0)) (.seq (.block 1 (.seq (.reg [ ⟨none, some 10, .indexAddr E.t_l_spec_Field (.tmp 6) (.tmp 8), E.tNil⟩, ⟨none, some 11, .load E.t_spec_Field (.tmp 10), E.t_spec_Field⟩, ⟨none, some 5, .alloc E.t_spec_Field, E.tNil⟩, ⟨none, none, .store E.t_spec_Field (.tmp 5) (.tmp 11), E.tNil⟩]) (.seq (.reg [ ⟨none, some 12, .fieldAddr E.t_spec_Field (.tmp 5) 4, E.tNil⟩, ⟨none, some 13, .load E.tInt (.tmp 12), E.tInt⟩, ⟨none, some 14, .binOp .geq E.tInt (.tmp 13) (.const (.int .i64 0)) E.tInt, E.tB⟩]) (.cond 14 (.reg [ ⟨none, some 15, .move (.tmp 3), E.tU32⟩, ⟨none, some 16, .fieldAddr E.t_spec_Field (.tmp 5) 4, E.tNil⟩, ⟨none, some 17, .load E.tInt (.tmp 16), E.tInt⟩, ⟨none, some 18, .convert E.tInt E.tU32 (.tmp 17), E.tU32⟩, ⟨none, some 19, .binOp .add E.tU32 (.tmp 18) (.const (.int .u32 1)) E.tU32, E.tU32⟩, ⟨none, some 20, .call { callee := .builtin .max, args := #[.tmp 15, .tmp 19], argTypes := #[E.tU32, E.tU32] }, E.tU32⟩, ⟨none, some 3, .assign (.tmp 20), E.tU32⟩]) .skip)))) (.reg [ ⟨none, some 21, .binOp .add E.tInt (.tmp 8) (.const (.int .i64 1)) E.tInt, E.tInt⟩, ⟨none, some 8, .move (.tmp 21), E.tInt⟩]))))))) (.seq (.reg [ ⟨none, some 22, .move (.tmp 3), E.tU32⟩, ⟨none, some 2, .assign (.tmp 22), E.tU32⟩]) .ret))))
def nt_spec_known : Nat := 23
def rs_spec_known (E : Env) : List Rv := [.t 2]
def ir_spec_usual (E : Env) : Ir := (.seq (.reg [ ⟨none, some 2, .box E.t_spec_Field (.tmp 0), E.tNil⟩, ⟨none, some 3, .box E.t_spec_Tree (.tmp 1), E.tNil⟩, ⟨none, some 4, .assign (.const (.bool false)), E.tB⟩]) (.seq (.seq (.reg [ ⟨none, some 9, .fieldAddr E.t_spec_Field (.tmp 2) 0, E.tNil⟩, ⟨none, some 10, .load E.tInt (.tmp 9), E.tInt⟩]) (.block 0 (.seq (.reg [ ⟨none, some 12, .binOp .eql E.tInt (.tmp 10) (.const (.int .i64 0)) E.tInt, E.tB⟩, ⟨none, some 11, .assign (.tmp 12), E.tB⟩]) (.cond 11 (.seq (.reg [ ⟨none, some 13, .fieldAddr E.t_spec_Tree (.tmp 3) 0, E.tNil⟩, ⟨none, some 14, .load E.tI64 (.tmp 13), E.tI64⟩, ⟨none, some 15, .binOp .and E.tI64 (.tmp 14) (.const (.int .i64 1)) E.tI64, E.tI64⟩, ⟨none, some 16, .fieldAddr E.t_spec_Field (.tmp 2) 5, E.tNil⟩, ⟨none, some 17, .load E.tI64 (.tmp 16), E.tI64⟩, ⟨none, some 18, .binOp .eql E.tI64 (.tmp 15) (.tmp 17) E.tI64, E.tB⟩, ⟨none, some 4, .assign (.tmp 18), E.tB⟩]) .ret) (.seq (.reg [ ⟨none, some 20, .binOp .eql E.tInt (.tmp 10) (.const (.int .i64 7)) E.tInt, E.tB⟩, ⟨none, some 19, .assign (.tmp 20), E.tB⟩]) (.cond 19 (.seq (.seq (.reg [ ⟨none, some 21, .fieldAddr E.t_spec_Tree (.tmp 3) 1, E.tNil⟩, ⟨none, some 22, .load E.tBs (.tmp 21), E.tBs⟩, ⟨none, some 23, .call { callee := .builtin .len, args := #[.tmp 22], argTypes := #[E.tBs] }, E.tInt⟩, ⟨none, some 24, .move (.const (.int .i64 0)), E.tInt⟩]) (.block 1 (.loop (.seq (.reg [ ⟨none, some 25, .binOp .lss E.tInt (.tmp 24) (.tmp 23) E.tInt, E.tNil⟩]) (.seq (.cond 25 .skip (.exit 1)) (.seq (.block 2 (.seq (.reg [ ⟨none, some 26, .move (.tmp 24), E.tInt⟩, ⟨none, some 27, .indexAddr E.tBs (.tmp 22) (.tmp 24), E.tNil⟩, ⟨none, some 28, .load E.tU8 (.tmp 27), E.tU8⟩, ⟨none, some 5, .assign (.tmp 26), E.tInt⟩, ⟨none, some 6, .assign (.tmp 28), E.tU8⟩]) (.seq (.reg [ ⟨none, some 29, .move (.tmp 5), E.tInt⟩, ⟨none, some 30, .binOp .lss E.tInt (.tmp 29) (.const (.int .i64 16)) E.tInt, E.tB⟩, ⟨none, some 31, .move (.tmp 30), E.tB⟩, ⟨(some (31, true)), some 32, .move (.tmp 6), E.tU8⟩, ⟨(some (31, true)), some 33, .binOp .neq E.tU8 (.tmp 32) (.const (.int .u8 0)) E.tU8, E.tB⟩, ⟨none, some 34, .pick (.tmp 31) (.tmp 33) (.const (.bool false)), E.tB⟩]) (.cond 34 (.seq (.reg [ ⟨none, some 4, .assign (.const (.bool false)), E.tB⟩]) .ret) .skip)))) (.reg [ ⟨none, some 35, .binOp .add E.tInt (.tmp 24) (.const (.int .i64 1)) E.tInt, E.tInt⟩, ⟨none, some 24, .move (.tmp 35), E.tInt⟩]))))))) (.seq (.reg [ ⟨none, some 4, .assign (.const (.bool true)), E.tB⟩]) .ret)) (.seq (.seq (.reg [ ⟨none, some 37, .binOp .eql E.tInt (.tmp 10) (.const (.int .i64 8)) E.tInt, E.tB⟩, ⟨none, some 36, .assign (.tmp 37), E.tB⟩]) (.cond 36 .skip (.reg [ ⟨none, some 38, .binOp .eql E.tInt (.tmp 10) (.const (.int .i64 9)) E.tInt, E.tB⟩, ⟨none, some 36, .assign (.tmp 38), E.tB⟩]))) (.cond 36 (.seq (.seq (.reg [ ⟨none, some 39, .fieldAddr E.t_spec_Field (.tmp 2) 3, E.tNil⟩, ⟨none, some 40, .load E.tInt (.tmp 39), E.tInt⟩, ⟨none, some 41, .binOp .geq E.tInt (.tmp 40) (.const (.int .i64 0)) E.tInt, E.tB⟩]) (.cond 41 (.seq (.reg [ ⟨none, some 42, .fieldAddr E.t_spec_Tree (.tmp 3) 2, E.tNil⟩, ⟨none, some 43, .load E.tB (.tmp 42), E.tB⟩, ⟨none, some 4, .assign (.tmp 43), E.tB⟩]) .ret) .skip)) (.seq (.reg [ ⟨none, some 44, .fieldAddr E.t_spec_Tree (.tmp 3) 1, E.tNil⟩, ⟨none, some 45, .load E.tBs (.tmp 44), E.tBs⟩, ⟨none, some 46, .call { callee := .builtin .len, args := #[.tmp 45], argTypes := #[E.tBs] }, E.tInt⟩, ⟨none, some 47, .binOp .eql E.tInt (.tmp 46) (.const (.int .i64 0)) E.tInt, E.tB⟩, ⟨none, some 4, .assign (.tmp 47), E.tB⟩]) .ret)) (.seq (.reg [ ⟨none, some 49, .binOp .eql E.tInt (.tmp 10) (.const (.int .i64 11)) E.tInt, E.tB⟩, ⟨none, some 48, .assign (.tmp 49), E.tB⟩]) (.cond 48 (.seq (.reg [ ⟨none, some 50, .fieldAddr E.t_spec_Tree (.tmp 3) 3, E.tNil⟩, ⟨none, some 51, .load E.t_l_spec_Tree (.tmp 50), E.t_l_spec_Tree⟩, ⟨none, some 52, .call { callee := .builtin .len, args := #[.tmp 51], argTypes := #[E.t_l_spec_Tree] }, E.tInt⟩, ⟨none, some 53, .binOp .eql E.tInt (.tmp 52) (.const (.int .i64 0)) E.tInt, E.tB⟩, ⟨none, some 4, .assign (.tmp 53), E.tB⟩]) .ret) (.seq (.reg [ ⟨none, some 55, .binOp .eql E.tInt (.tmp 10) (.const (.int .i64 10)) E.tInt, E.tB⟩, ⟨none, some 54, .assign (.tmp 55), E.tB⟩]) (.cond 54 (.seq (.seq (.reg [ ⟨none, some 56, .fieldAddr E.t_spec_Field (.tmp 2) 7, E.tNil⟩, ⟨none, some 57, .load E.t_l_spec_Field (.tmp 56), E.t_l_spec_Field⟩, ⟨none, some 58, .call { callee := .builtin .len, args := #[.tmp 57], argTypes := #[E.t_l_spec_Field] }, E.tInt⟩, ⟨none, some 59, .move (.const (.int .i64 0)), E.tInt⟩]) (.block 3 (.loop (.seq (.reg [ ⟨none, some 60, .binOp .lss E.tInt (.tmp 59) (.tmp 58) E.tInt, E.tNil⟩]) (.seq (.cond 60 .skip (.exit 3)) (.seq (.block 4 (.seq (.reg [ ⟨none, some 61, .move (.tmp 59), E.tInt⟩, ⟨none, some 62, .indexAddr E.t_l_spec_Field (.tmp 57) (.tmp 59), E.tNil⟩, ⟨none, some 63, .load E.t_spec_Field (.tmp 62), E.t_spec_Field⟩, ⟨none, some 8, .alloc E.t_spec_Field, E.tNil⟩, ⟨none, some 7, .assign (.tmp 61), E.tInt⟩, ⟨none, none, .store E.t_spec_Field (.tmp 8) (.tmp 63), E.tNil⟩]) (.seq (.regH [ (true, ⟨none, some 64, .load E.t_spec_Field (.tmp 8), E.t_spec_Field⟩), (true, ⟨none, some 65, .load E.t_spec_Tree (.tmp 3), E.t_spec_Tree⟩), (true, ⟨none, some 66, .move (.tmp 7), E.tInt⟩), (false, ⟨none, some 67, .call { callee := .value (.func E.f_spec_at), args := #[.tmp 65, .tmp 66], argTypes := #[E.t_spec_Tree, E.tInt] }, E.t_spec_Tree⟩), (false, ⟨none, some 68, .call { callee := .value (.func E.f_spec_usual), args := #[.tmp 64, .tmp 67], argTypes := #[E.t_spec_Field, E.t_spec_Tree] }, E.tB⟩), (true, ⟨none, some 69, .unOp .not E.tB (.tmp 68), E.tB⟩)]) (.cond 69 (.seq (.reg [ ⟨none, some 4, .assign (.const (.bool false)), E.tB⟩]) .ret) .skip)))) (.reg [ ⟨none, some 70, .binOp .add E.tInt (.tmp 59) (.const (.int .i64 1)) E.tInt, E.tInt⟩, ⟨none, some 59, .move (.tmp 70), E.tInt⟩]))))))) (.seq (.reg [ ⟨none, some 71, .fieldAddr E.t_spec_Field (.tmp 2) 7, E.tNil⟩, ⟨none, some 72, .load E.t_l_spec_Field (.tmp 71), E.t_l_spec_Field⟩, ⟨none, some 73, .fieldAddr E.t_spec_Tree (.tmp 3) 4, E.tNil⟩, ⟨none, some 74, .load E.t_l_spec_Tag (.tmp 73), E.t_l_spec_Tag⟩, ⟨none, some 75, .call { callee := .value (.func E.f_spec_unknown), args := #[.tmp 72, .tmp 74], argTypes := #[E.t_l_spec_Field, E.t_l_spec_Tag] }, E.t_l_spec_Tag⟩, ⟨none, some 76, .call { callee := .builtin .len, args := #[.tmp 75], argTypes := #[E.t_l_spec_Tag] }, E.tInt⟩, ⟨none, some 77, .binOp .eql E.tInt (.tmp 76) (.const (.int .i64 0)) E.tInt, E.tB⟩, ⟨none, some 4, .assign (.tmp 77), E.tB⟩]) .ret)) .skip)))))))))))) (.seq (.regH [ (true, ⟨none, some 78, .fieldAddr E.t_spec_Tree (.tmp 3) 0, E.tNil⟩), (true, ⟨none, some 79, .load E.tI64 (.tmp 78), E.tI64⟩), (true, ⟨none, some 80, .fieldAddr E.t_spec_Field (.tmp 2) 0, E.tNil⟩), (true, ⟨none, some 81, .load E.tInt (.tmp 80), E.tInt⟩), (true, ⟨none, some 84, .fieldAddr E.t_spec_Field (.tmp 2) 5, E.tNil⟩), (true, ⟨none, some 85, .load E.tI64 (.tmp 84), E.tI64⟩), (true, ⟨none, some 86, .fieldAddr E.t_spec_Field (.tmp 2) 0, E.tNil⟩), (true, ⟨none, some 87, .load E.tInt (.tmp 86), E.tInt⟩), (false, ⟨none, some 82, .call { callee := .value (.func E.f_spec_width), args := #[.tmp 81], argTypes := #[E.tInt] }, E.tInt⟩), (false, ⟨none, some 83, .call { callee := .value (.func E.f_spec_Fixed), args := #[.tmp 79, .tmp 82], argTypes := #[E.tI64, E.tInt] }, E.tBs⟩), (false, ⟨none, some 88, .call { callee := .value (.func E.f_spec_width), args := #[.tmp 87], argTypes := #[E.tInt] }, E.tInt⟩), (false, ⟨none, some 89, .call { callee := .value (.func E.f_spec_Fixed), args := #[.tmp 85, .tmp 88], argTypes := #[E.tI64, E.tInt] }, E.tBs⟩), (false, ⟨none, some 90, .call { callee := .value (.func E.f_spec_Same), args := #[.tmp 83, .tmp 89], argTypes := #[E.tBs, E.tBs] }, E.tB⟩), (true, ⟨none, some 4, .assign (.tmp 90), E.tB⟩)]) .ret)))
def nt_spec_usual : Nat := 91
def rs_spec_usual (E : Env) : List Rv := [.t 4]
def ir_spec_Uvarint (E : Env) : Ir := (.seq (.reg [ ⟨none, some 2, .assign (.const (.slice none 0 0)), E.tBs⟩]) (.seq (.reg [ ⟨none, some 3, .assign (.const (.slice none 0 0)), E.tBs⟩]) (.seq (.block 0 (.loop (.seq (.seq (.reg [ ⟨none, some 4, .move (.tmp 0), E.tU64⟩, ⟨none, some 5, .binOp .gtr E.tU64 (.tmp 4) (.const (.int .u64 127)) E.tU64, E.tB⟩]) (.cond 5 .skip (.exit 0))) (.block 1 (.seq (.reg [ ⟨none, some 6, .move (.tmp 3), E.tBs⟩, ⟨none, some 7, .move (.tmp 0), E.tU64⟩, ⟨none, some 8, .binOp .and E.tU64 (.tmp 7) (.const (.int .u64 127)) E.tU64, E.tU64⟩, ⟨none, some 9, .convert E.tU64 E.tU8 (.tmp 8), E.tU8⟩, ⟨none, some 10, .binOp .or E.tU8 (.tmp 9) (.const (.int .u8 128)) E.tU8, E.tU8⟩, ⟨none, some 11, .buildSlice E.tBs 1 #[(0, .tmp 10)], E.tBs⟩, ⟨none, some 12, .call { callee := .builtin .append, args := #[.tmp 6, .tmp 11], argTypes := #[E.tBs, E.tBs] }, E.tBs⟩, ⟨none, some 3, .assign (.tmp 12), E.tBs⟩]) (.reg [ ⟨none, some 13, .move (.tmp 0), E.tU64⟩, ⟨none, some 14, .binOp .shr E.tU64 (.tmp 13) (.const (.int .u64 7)) E.tUint, E.tU64⟩, ⟨none, some 0, .assign (.tmp 14), E.tU64⟩])))))) (.seq (.reg [ ⟨none, some 15, .move (.tmp 3), E.tBs⟩, ⟨none, some 16, .move (.tmp 0), E.tU64⟩, ⟨none, some 17, .convert E.tU64 E.tU8 (.tmp 16), E.tU8⟩, ⟨none, some 18, .buildSlice E.tBs 1 #[(0, .tmp 17)], E.tBs⟩, ⟨none, some 19, .call { callee := .builtin .append, args := #[.tmp 15, .tmp 18], argTypes := #[E.tBs, E.tBs] }, E.tBs⟩, ⟨none, some 2, .assign (.tmp 19), E.tBs⟩]) .ret))))
def nt_spec_Uvarint : Nat := 20
def rs_spec_Uvarint (E : Env) : List Rv := [.t 2]
def ir_spec_unknown (E : Env) : Ir := (.seq (.reg [ ⟨none, some 4, .assign (.const (.slice none 0 0)), E.t_l_spec_Tag⟩]) (.seq (.reg [ ⟨none, some 11, .move (.tmp 0), E.t_l_spec_Field⟩, ⟨none, some 12, .call { callee := .value (.func E.f_spec_known), args := #[.tmp 11], argTypes := #[E.t_l_spec_Field] }, E.tU32⟩, ⟨none, some 5, .assign (.tmp 12), E.tU32⟩]) (.seq (.reg [ ⟨none, some 6, .assign (.const (.slice none 0 0)), E.t_l_spec_Tag⟩]) (.seq (.seq (.reg [ ⟨none, some 13, .move (.tmp 1), E.t_l_spec_Tag⟩, ⟨none, some 14, .move (.tmp 1), E.t_l_spec_Tag⟩, ⟨none, some 15, .call { callee := .builtin .len, args := #[.tmp 14], argTypes := #[E.t_l_spec_Tag] }, E.tInt⟩, ⟨none, some 16, .call { callee := .builtin .min, args := #[.tmp 15, .const (.int .i64 32767)], argTypes := #[E.tInt, E.tInt] }, E.tInt⟩, ⟨none, some 17, .slice E.t_l_spec_Tag (.tmp 13) none (some (.tmp 16)) none, E.t_l_spec_Tag⟩, ⟨none, some 18, .call { callee := .builtin .len, args := #[.tmp 17], argTypes := #[E.t_l_spec_Tag] }, E.tInt⟩, ⟨none, some 19, .move (.const (.int .i64 0)), E.tInt⟩]) (.block 0 (.loop (.seq (.reg [ ⟨none, some 20, .binOp .lss E.tInt (.tmp 19) (.tmp 18) E.tInt, E.tNil⟩]) (.seq (.cond 20 .skip (.exit 0)) (.seq (.block 1 (.seq (.reg [ ⟨none, some 21, .indexAddr E.t_l_spec_Tag (.tmp 17) (.tmp 19), E.tNil⟩, ⟨none, some 22, .load E.t_spec_Tag (.tmp 21), E.t_spec_Tag⟩, ⟨none, some 8, .alloc E.t_spec_Tag, E.tNil⟩, ⟨none, none, .store E.t_spec_Tag (.tmp 8) (.tmp 22), E.tNil⟩]) (.seq (.reg [ ⟨none, some 9, .assign (.const (.int .i64 0)), E.tInt⟩]) (.seq (.block 2 (.loop (.seq (.seq (.regH [ (true, ⟨none, some 23, .move (.tmp 9), E.tInt⟩), (true, ⟨none, some 24, .move (.tmp 6), E.t_l_spec_Tag⟩), (true, ⟨none, some 25, .call { callee := .builtin .len, args := #[.tmp 24], argTypes := #[E.t_l_spec_Tag] }, E.tInt⟩), (true, ⟨none, some 26, .binOp .lss E.tInt (.tmp 23) (.tmp 25) E.tInt, E.tB⟩), (true, ⟨none, some 27, .move (.tmp 26), E.tB⟩), (true, ⟨(some (27, true)), some 28, .move (.tmp 6), E.t_l_spec_Tag⟩), (true, ⟨(some (27, true)), some 29, .move (.tmp 9), E.tInt⟩), (true, ⟨(some (27, true)), some 30, .indexAddr E.t_l_spec_Tag (.tmp 28) (.tmp 29), E.tNil⟩), (true, ⟨(some (27, true)), some 31, .fieldAddr E.t_spec_Tag (.tmp 30) 0, E.tNil⟩), (true, ⟨(some (27, true)), some 32, .load E.tU32 (.tmp 31), E.tU32⟩), (true, ⟨(some (27, true)), some 33, .fieldAddr E.t_spec_Tag (.tmp 8) 0, E.tNil⟩), (true, ⟨(some (27, true)), some 34, .load E.tU32 (.tmp 33), E.tU32⟩), (true, ⟨(some (27, true)), some 35, .binOp .lss E.tU32 (.tmp 32) (.tmp 34) E.tU32, E.tB⟩), (true, ⟨none, some 36, .pick (.tmp 27) (.tmp 35) (.const (.bool false)), E.tB⟩)]) (.cond 36 .skip (.exit 2))) (.block 3 (.reg [ ⟨none, some 37, .move (.tmp 9), E.tInt⟩, ⟨none, some 38, .binOp .add E.tInt (.tmp 37) (.const (.int .i64 1)) E.tInt, E.tInt⟩, ⟨none, some 9, .assign (.tmp 38), E.tInt⟩]))))) (.seq (.seq (.regH [ (true, ⟨none, some 39, .fieldAddr E.t_spec_Tag (.tmp 8) 0, E.tNil⟩), (true, ⟨none, some 40, .load E.tU32 (.tmp 39), E.tU32⟩), (true, ⟨none, some 41, .move (.tmp 5), E.tU32⟩), (true, ⟨none, some 42, .binOp .lss E.tU32 (.tmp 40) (.tmp 41) E.tU32, E.tB⟩), (true, ⟨none, some 43, .move (.tmp 42), E.tB⟩), (true, ⟨(some (43, false)), some 44, .move (.tmp 9), E.tInt⟩), (true, ⟨(some (43, false)), some 45, .move (.tmp 6), E.t_l_spec_Tag⟩), (true, ⟨(some (43, false)), some 46, .call { callee := .builtin .len, args := #[.tmp 45], argTypes := #[E.t_l_spec_Tag] }, E.tInt⟩), (true, ⟨(some (43, false)), some 47, .binOp .lss E.tInt (.tmp 44) (.tmp 46) E.tInt, E.tB⟩), (true, ⟨(some (43, false)), some 48, .move (.tmp 47), E.tB⟩), (true, ⟨(some (48, true)), some 49, .move (.tmp 6), E.t_l_spec_Tag⟩), (true, ⟨(some (48, true)), some 50, .move (.tmp 9), E.tInt⟩), (true, ⟨(some (48, true)), some 51, .indexAddr E.t_l_spec_Tag (.tmp 49) (.tmp 50), E.tNil⟩), (true, ⟨(some (48, true)), some 52, .fieldAddr E.t_spec_Tag (.tmp 51) 0, E.tNil⟩), (true, ⟨(some (48, true)), some 53, .load E.tU32 (.tmp 52), E.tU32⟩), (true, ⟨(some (48, true)), some 54, .fieldAddr E.t_spec_Tag (.tmp 8) 0, E.tNil⟩), (true, ⟨(some (48, true)), some 55, .load E.tU32 (.tmp 54), E.tU32⟩), (true, ⟨(some (48, true)), some 56, .binOp .eql E.tU32 (.tmp 53) (.tmp 55) E.tU32, E.tB⟩), (true, ⟨(some (43, false)), some 57, .pick (.tmp 48) (.tmp 56) (.const (.bool false)), E.tB⟩), (true, ⟨none, some 58, .pick (.tmp 43) (.const (.bool true)) (.tmp 57), E.tB⟩)]) (.cond 58 (.exit 1) .skip)) (.seq (.reg [ ⟨none, some 59, .move (.tmp 6), E.t_l_spec_Tag⟩, ⟨none, some 60, .build E.t_spec_Tag #[], E.t_spec_Tag⟩, ⟨none, some 61, .buildSlice E.t_l_spec_Tag 1 #[(0, .tmp 60)], E.t_l_spec_Tag⟩, ⟨none, some 62, .call { callee := .builtin .append, args := #[.tmp 59, .tmp 61], argTypes := #[E.t_l_spec_Tag, E.t_l_spec_Tag] }, E.t_l_spec_Tag⟩, ⟨none, some 6, .assign (.tmp 62), E.t_l_spec_Tag⟩]) (.seq (.seq (.reg [ ⟨none, some 63, .move (.tmp 6), E.t_l_spec_Tag⟩, ⟨none, some 64, .call { callee := .builtin .len, args := #[.tmp 63], argTypes := #[E.t_l_spec_Tag] }, E.tInt⟩, ⟨none, some 65, .binOp .sub E.tInt (.tmp 64) (.const (.int .i64 1)) E.tInt, E.tInt⟩, ⟨none, some 10, .assign (.tmp 65), E.tInt⟩]) (.block 4 (.loop (.seq (.seq (.reg [ ⟨none, some 66, .move (.tmp 10), E.tInt⟩, ⟨none, some 67, .move (.tmp 9), E.tInt⟩, ⟨none, some 68, .binOp .gtr E.tInt (.tmp 66) (.tmp 67) E.tInt, E.tB⟩]) (.cond 68 .skip (.exit 4))) (.seq (.block 5 (.reg [ ⟨none, some 71, .move (.tmp 6), E.t_l_spec_Tag⟩, ⟨none, some 72, .move (.tmp 10), E.tInt⟩, ⟨none, some 73, .move (.tmp 6), E.t_l_spec_Tag⟩, ⟨none, some 74, .move (.tmp 10), E.tInt⟩, ⟨none, some 75, .binOp .sub E.tInt (.tmp 74) (.const (.int .i64 1)) E.tInt, E.tInt⟩, ⟨none, some 76, .indexAddr E.t_l_spec_Tag (.tmp 73) (.tmp 75), E.tNil⟩, ⟨none, some 77, .load E.t_spec_Tag (.tmp 76), E.t_spec_Tag⟩, ⟨none, some 78, .indexAddr E.t_l_spec_Tag (.tmp 71) (.tmp 72), E.tNil⟩, ⟨none, none, .store E.t_spec_Tag (.tmp 78) (.tmp 77), E.tNil⟩])) (.reg [ ⟨none, some 69, .move (.tmp 10), E.tInt⟩, ⟨none, some 70, .binOp .sub E.tInt (.tmp 69) (.const (.int .i64 1)) E.tInt, E.tInt⟩, ⟨none, some 10, .assign (.tmp 70), E.tInt⟩])))))) (.reg [ ⟨none, some 79, .move (.tmp 6), E.t_l_spec_Tag⟩, ⟨none, some 80, .move (.tmp 9), E.tInt⟩, ⟨none, some 81, .load E.t_spec_Tag (.tmp 8), E.t_spec_Tag⟩, ⟨none, some 82, .indexAddr E.t_l_spec_Tag (.tmp 79) (.tmp 80), E.tNil⟩, ⟨none, none, .store E.t_spec_Tag (.tmp 82) (.tmp 81), E.tNil⟩])))))))) (.reg [ ⟨none, some 83, .binOp .add E.tInt (.tmp 19) (.const (.int .i64 1)) E.tInt, E.tInt⟩, ⟨none, some 19, .move (.tmp 83), E.tInt⟩]))))))) (.seq (.reg [ ⟨none, some 84, .move (.tmp 6), E.t_l_spec_Tag⟩, ⟨none, some 4, .assign (.tmp 84), E.t_l_spec_Tag⟩]) .ret)))))
def nt_spec_unknown : Nat := 85
def rs_spec_unknown (E : Env) : List Rv := [.t 4]
def ir_spec_whole (E : Env) : Ir := (.seq (.reg [ ⟨none, some 2, .assign (.const (.slice none 0 0)), E.tBs⟩]) (.seq (.reg [ ⟨none, some 3, .move (.tmp 0), E.tBs⟩, ⟨none, some 4, .move (.tmp 0), E.tBs⟩, ⟨none, some 5, .call { callee := .builtin .len, args := #[.tmp 4], argTypes := #[E.tBs] }, E.tInt⟩, ⟨none, some 6, .call { callee := .builtin .min, args := #[.tmp 5, .const (.int .i64 32767)], argTypes := #[E.tInt, E.tInt] }, E.tInt⟩, ⟨none, some 7, .slice E.tBs (.tmp 3) none (some (.tmp 6)) none, E.tBs⟩, ⟨none, some 2, .assign (.tmp 7), E.tBs⟩]) .ret))
def nt_spec_whole : Nat := 8
def rs_spec_whole (E : Env) : List Rv := [.t 2]
def ir_spec_things (E : Env) : Ir := (.seq (.reg [ ⟨none, some 2, .assign (.const (.slice none 0 0)), E.t_l_spec_Tree⟩]) (.seq (.reg [ ⟨none, some 3, .move (.tmp 0), E.t_l_spec_Tree⟩, ⟨none, some 4, .move (.tmp 0), E.t_l_spec_Tree⟩, ⟨none, some 5, .call { callee := .builtin .len, args := #[.tmp 4], argTypes := #[E.t_l_spec_Tree] }, E.tInt⟩, ⟨none, some 6, .call { callee := .builtin .min, args := #[.tmp 5, .const (.int .i64 32767)], argTypes := #[E.tInt, E.tInt] }, E.tInt⟩, ⟨none, some 7, .slice E.t_l_spec_Tree (.tmp 3) none (some (.tmp 6)) none, E.t_l_spec_Tree⟩, ⟨none, some 2, .assign (.tmp 7), E.t_l_spec_Tree⟩]) .ret))
def nt_spec_things : Nat := 8
def rs_spec_things (E : Env) : List Rv := [.t 2]
def ir_spec_counted (E : Env) : Ir := (.seq (.reg [ ⟨none, some 8, .assign (.const (.slice none 0 0)), E.tBs⟩]) (.seq (.block 0 (.seq (.reg [ ⟨none, some 10, .move (.tmp 0), E.tB⟩, ⟨none, some 11, .move (.tmp 10), E.tB⟩, ⟨(some (11, true)), some 12, .move (.tmp 1), E.tB⟩, ⟨none, some 13, .pick (.tmp 11) (.tmp 12) (.const (.bool false)), E.tB⟩, ⟨none, some 9, .assign (.tmp 13), E.tB⟩]) (.cond 9 (.seq (.reg [ ⟨none, some 14, .buildSlice E.tBs 1 #[(0, .const (.int .u8 0))], E.tBs⟩, ⟨none, some 8, .assign (.tmp 14), E.tBs⟩]) .ret) (.seq (.reg [ ⟨none, some 16, .move (.tmp 0), E.tB⟩, ⟨none, some 15, .assign (.tmp 16), E.tB⟩]) (.cond 15 (.seq (.reg [ ⟨none, some 17, .move (.tmp 2), E.tInt⟩, ⟨none, some 18, .convert E.tInt E.tU64 (.tmp 17), E.tU64⟩, ⟨none, some 19, .binOp .add E.tU64 (.tmp 18) (.const (.int .u64 1)) E.tU64, E.tU64⟩, ⟨none, some 20, .call { callee := .value (.func E.f_spec_Uvarint), args := #[.tmp 19], argTypes := #[E.tU64] }, E.tBs⟩, ⟨none, some 8, .assign (.tmp 20), E.tBs⟩]) .ret) (.seq (.reg [ ⟨none, some 22, .move (.tmp 1), E.tB⟩, ⟨none, some 21, .assign (.tmp 22), E.tB⟩]) (.cond 21 (.seq (.reg [ ⟨none, some 23, .move (.tmp 3), E.tInt⟩, ⟨none, some 24, .call { callee := .value (.func E.f_spec_Fixed), args := #[.const (.int .i64 (-1)), .tmp 23], argTypes := #[E.tI64, E.tInt] }, E.tBs⟩, ⟨none, some 8, .assign (.tmp 24), E.tBs⟩]) .ret) .skip))))))) (.seq (.reg [ ⟨none, some 25, .move (.tmp 2), E.tInt⟩, ⟨none, some 26, .move (.tmp 3), E.tInt⟩, ⟨none, some 27, .call { callee := .value (.func E.f_spec_Fixed), args := #[.tmp 25, .tmp 26], argTypes := #[E.tI64, E.tInt] }, E.tBs⟩, ⟨none, some 8, .assign (.tmp 27), E.tBs⟩]) .ret)))
def nt_spec_counted : Nat := 28
def rs_spec_counted (E : Env) : List Rv := [.t 8]
def ir_spec_width (E : Env) : Ir := (.seq (.reg [ ⟨none, some 2, .assign (.const (.int .i64 0)), E.tInt⟩]) (.seq (.seq (.reg [ ⟨none, some 3, .move (.tmp 0), E.tInt⟩]) (.block 0 (.seq (.reg [ ⟨none, some 5, .binOp .eql E.tInt (.tmp 3) (.const (.int .i64 1)) E.tInt, E.tB⟩, ⟨none, some 4, .assign (.tmp 5), E.tB⟩]) (.cond 4 (.seq (.reg [ ⟨none, some 2, .assign (.const (.int .i64 1)), E.tInt⟩]) .ret) (.seq (.seq (.reg [ ⟨none, some 7, .binOp .eql E.tInt (.tmp 3) (.const (.int .i64 2)) E.tInt, E.tB⟩, ⟨none, some 6, .assign (.tmp 7), E.tB⟩]) (.cond 6 .skip (.reg [ ⟨none, some 8, .binOp .eql E.tInt (.tmp 3) (.const (.int .i64 5)) E.tInt, E.tB⟩, ⟨none, some 6, .assign (.tmp 8), E.tB⟩]))) (.cond 6 (.seq (.reg [ ⟨none, some 2, .assign (.const (.int .i64 2)), E.tInt⟩]) .ret) (.seq (.reg [ ⟨none, some 10, .binOp .eql E.tInt (.tmp 3) (.const (.int .i64 3)) E.tInt, E.tB⟩, ⟨none, some 9, .assign (.tmp 10), E.tB⟩]) (.cond 9 (.seq (.reg [ ⟨none, some 2, .assign (.const (.int .i64 4)), E.tInt⟩]) .ret) .skip)))))))) (.seq (.reg [ ⟨none, some 2, .assign (.const (.int .i64 8)), E.tInt⟩]) .ret)))
def nt_spec_width : Nat := 11
def rs_spec_width (E : Env) : List Rv := [.t 2]
def ir_spec_Fixed (E : Env) : Ir := (.seq (.reg [ ⟨none, some 4, .assign (.const (.slice none 0 0)), E.tBs⟩]) (.seq (.reg [ ⟨none, some 5, .assign (.const (.slice none 0 0)), E.tBs⟩]) (.seq (.seq (.reg [ ⟨none, some 7, .move (.tmp 1), E.tInt⟩, ⟨none, some 8, .binOp .sub E.tInt (.tmp 7) (.const (.int .i64 1)) E.tInt, E.tInt⟩, ⟨none, some 6, .assign (.tmp 8), E.tInt⟩]) (.block 0 (.loop (.seq (.seq (.reg [ ⟨none, some 9, .move (.tmp 6), E.tInt⟩, ⟨none, some 10, .binOp .geq E.tInt (.tmp 9) (.const (.int .i64 0)) E.tInt, E.tB⟩]) (.cond 10 .skip (.exit 0))) (.seq (.block 1 (.reg [ ⟨none, some 13, .move (.tmp 5), E.tBs⟩, ⟨none, some 14, .move (.tmp 0), E.tI64⟩, ⟨none, some 15, .move (.tmp 6), E.tInt⟩, ⟨none, some 16, .binOp .mul E.tInt (.const (.int .i64 8)) (.tmp 15) E.tInt, E.tInt⟩, ⟨none, some 17, .binOp .shr E.tI64 (.tmp 14) (.tmp 16) E.tInt, E.tI64⟩, ⟨none, some 18, .convert E.tI64 E.tU8 (.tmp 17), E.tU8⟩, ⟨none, some 19, .buildSlice E.tBs 1 #[(0, .tmp 18)], E.tBs⟩, ⟨none, some 20, .call { callee := .builtin .append, args := #[.tmp 13, .tmp 19], argTypes := #[E.tBs, E.tBs] }, E.tBs⟩, ⟨none, some 5, .assign (.tmp 20), E.tBs⟩])) (.reg [ ⟨none, some 11, .move (.tmp 6), E.tInt⟩, ⟨none, some 12, .binOp .sub E.tInt (.tmp 11) (.const (.int .i64 1)) E.tInt, E.tInt⟩, ⟨none, some 6, .assign (.tmp 12), E.tInt⟩])))))) (.seq (.reg [ ⟨none, some 21, .move (.tmp 5), E.tBs⟩, ⟨none, some 4, .assign (.tmp 21), E.tBs⟩]) .ret))))
def nt_spec_Fixed : Nat := 22
def rs_spec_Fixed (E : Env) : List Rv := [.t 4]
def ir_spec_Same (E : Env) : Ir := (.seq (.reg [ ⟨none, some 4, .assign (.const (.bool false)), E.tB⟩]) (.seq (.seq (.reg [ ⟨none, some 6, .move (.tmp 0), E.tBs⟩, ⟨none, some 7, .call { callee := .builtin .len, args := #[.tmp 6], argTypes := #[E.tBs] }, E.tInt⟩, ⟨none, some 8, .move (.tmp 1), E.tBs⟩, ⟨none, some 9, .call { callee := .builtin .len, args := #[.tmp 8], argTypes := #[E.tBs] }, E.tInt⟩, ⟨none, some 10, .binOp .neq E.tInt (.tmp 7) (.tmp 9) E.tInt, E.tB⟩]) (.cond 10 (.seq (.reg [ ⟨none, some 4, .assign (.const (.bool false)), E.tB⟩]) .ret) .skip)) (.seq (.seq (.reg [ ⟨none, some 11, .move (.tmp 0), E.tBs⟩, ⟨none, some 12, .call { callee := .builtin .len, args := #[.tmp 11], argTypes := #[E.tBs] }, E.tInt⟩, ⟨none, some 13, .move (.const (.int .i64 0)), E.tInt⟩]) (.block 0 (.loop (.seq (.reg [ ⟨none, some 14, .binOp .lss E.tInt (.tmp 13) (.tmp 12) E.tInt, E.tNil⟩]) (.seq (.cond 14 .skip (.exit 0)) (.seq (.block 1 (.seq (.reg [ ⟨none, some 15, .move (.tmp 13), E.tInt⟩, ⟨none, some 5, .assign (.tmp 15), E.tInt⟩]) (.seq (.regH [ (true, ⟨none, some 16, .move (.tmp 0), E.tBs⟩), (true, ⟨none, some 17, .move (.tmp 5), E.tInt⟩), (true, ⟨none, some 18, .indexAddr E.tBs (.tmp 16) (.tmp 17), E.tNil⟩), (true, ⟨none, some 19, .load E.tU8 (.tmp 18), E.tU8⟩), (true, ⟨none, some 20, .move (.tmp 1), E.tBs⟩), (true, ⟨none, some 21, .move (.tmp 5), E.tInt⟩), (true, ⟨none, some 22, .indexAddr E.tBs (.tmp 20) (.tmp 21), E.tNil⟩), (true, ⟨none, some 23, .load E.tU8 (.tmp 22), E.tU8⟩), (true, ⟨none, some 24, .binOp .neq E.tU8 (.tmp 19) (.tmp 23) E.tU8, E.tB⟩)]) (.cond 24 (.seq (.reg [ ⟨none, some 4, .assign (.const (.bool false)), E.tB⟩]) .ret) .skip)))) (.reg [ ⟨none, some 25, .binOp .add E.tInt (.tmp 13) (.const (.int .i64 1)) E.tInt, E.tInt⟩, ⟨none, some 13, .move (.tmp 25), E.tInt⟩]))))))) (.seq (.reg [ ⟨none, some 4, .assign (.const (.bool true)), E.tB⟩]) .ret))))
def nt_spec_Same : Nat := 26
def rs_spec_Same (E : Env) : List Rv := [.t 4]
def ir_spec_Field_has (E : Env) : Ir := (.seq (.reg [ ⟨none, some 2, .box E.t_spec_Field (.tmp 0), E.tNil⟩, ⟨none, some 4, .assign (.const (.bool false)), E.tB⟩]) (.seq (.reg [ ⟨none, some 5, .fieldAddr E.t_spec_Field (.tmp 2) 1, E.tNil⟩, ⟨none, some 6, .load E.tInt (.tmp 5), E.tInt⟩, ⟨none, some 7, .move (.tmp 1), E.tInt⟩, ⟨none, some 8, .binOp .leq E.tInt (.tmp 6) (.tmp 7) E.tInt, E.tB⟩, ⟨none, some 9, .move (.tmp 8), E.tB⟩, ⟨(some (9, true)), some 10, .fieldAddr E.t_spec_Field (.tmp 2) 2, E.tNil⟩, ⟨(some (9, true)), some 11, .load E.tInt (.tmp 10), E.tInt⟩, ⟨(some (9, true)), some 12, .binOp .lss E.tInt (.tmp 11) (.const (.int .i64 0)) E.tInt, E.tB⟩, ⟨(some (9, true)), some 13, .move (.tmp 12), E.tB⟩, ⟨(some (13, false)), some 14, .move (.tmp 1), E.tInt⟩, ⟨(some (13, false)), some 15, .fieldAddr E.t_spec_Field (.tmp 2) 2, E.tNil⟩, ⟨(some (13, false)), some 16, .load E.tInt (.tmp 15), E.tInt⟩, ⟨(some (13, false)), some 17, .binOp .leq E.tInt (.tmp 14) (.tmp 16) E.tInt, E.tB⟩, ⟨(some (9, true)), some 18, .pick (.tmp 13) (.const (.bool true)) (.tmp 17), E.tB⟩, ⟨none, some 19, .pick (.tmp 9) (.tmp 18) (.const (.bool false)), E.tB⟩, ⟨none, some 4, .assign (.tmp 19), E.tB⟩]) .ret))
def nt_spec_Field_has : Nat := 20
def rs_spec_Field_has (E : Env) : List Rv := [.t 4]
def ir_spec_Field_null (E : Env) : Ir := (.seq (.reg [ ⟨none, some 3, .box E.t_spec_Field (.tmp 0), E.tNil⟩, ⟨none, some 5, .box E.t_spec_Tree (.tmp 2), E.tNil⟩, ⟨none, some 6, .assign (.const (.bool false)), E.tB⟩]) (.seq (.reg [ ⟨none, some 7, .fieldAddr E.t_spec_Tree (.tmp 5) 2, E.tNil⟩, ⟨none, some 8, .load E.tB (.tmp 7), E.tB⟩, ⟨none, some 9, .move (.tmp 8), E.tB⟩, ⟨(some (9, true)), some 10, .fieldAddr E.t_spec_Field (.tmp 3) 3, E.tNil⟩, ⟨(some (9, true)), some 11, .load E.tInt (.tmp 10), E.tInt⟩, ⟨(some (9, true)), some 12, .binOp .geq E.tInt (.tmp 11) (.const (.int .i64 0)) E.tInt, E.tB⟩, ⟨none, some 13, .pick (.tmp 9) (.tmp 12) (.const (.bool false)), E.tB⟩, ⟨none, some 14, .move (.tmp 13), E.tB⟩, ⟨(some (14, true)), some 15, .move (.tmp 1), E.tInt⟩, ⟨(some (14, true)), some 16, .fieldAddr E.t_spec_Field (.tmp 3) 3, E.tNil⟩, ⟨(some (14, true)), some 17, .load E.tInt (.tmp 16), E.tInt⟩, ⟨(some (14, true)), some 18, .binOp .geq E.tInt (.tmp 15) (.tmp 17) E.tInt, E.tB⟩, ⟨none, some 19, .pick (.tmp 14) (.tmp 18) (.const (.bool false)), E.tB⟩, ⟨none, some 6, .assign (.tmp 19), E.tB⟩]) .ret))
def nt_spec_Field_null : Nat := 20
def rs_spec_Field_null (E : Env) : List Rv := [.t 6]
end Go.Kg

set_option linter.unusedSimpArgs false
set_option linter.unusedVariables false
namespace Go.Kg
open Go
/-- f hands back fresh bytes. -/
def Fresh (u8 : Nat) (w : World) (v : Value) (w' : World) (out : List UInt8) : Prop := OwnB u8 w' w.heap.size v out ∧ Ext none1 w w'
theorem Own.base {w : World} {base base' e s : Nat} {v : Value} {xs : List Value} (h : Own w base' e s v xs) (hb : base ≤ base') : Own w base e s v xs := by
  obtain ⟨n, h1, h2⟩ := h
  refine ⟨n, h1, ?_⟩
  rcases h2 with h | ⟨g, cap, cur, rfl, hg, rest⟩
  · exact .inl h
  · exact .inr ⟨g, cap, cur, rfl, Nat.le_trans hb hg, rest⟩
/-- a fresh row grows on: still fresh -/
theorem Fresh.grow {u8 : Nat} {w w1 w2 : World} {v v2 : Value} {s out : List UInt8} (h : Fresh u8 w v w1 s) (ho : OwnB u8 w2 w.heap.size v2 (s ++ out)) (hg : Grew w1 v w2 v2) : Fresh u8 w v2 w2 (s ++ out) := by
  refine ⟨ho, ⟨hg.ext.os.trans h.2.os, hg.ext.tape.trans h.2.tape, hg.ext.output.trans h.2.output, Nat.le_trans h.2.size hg.ext.size, fun k hk _ => ?_⟩⟩
  rw [hg.ext.block k (Nat.lt_of_lt_of_le hk h.2.size) (fun ho' => by have := (Own.below h.1 ho').1; omega)]
  exact h.2.block k hk (fun h => h)
theorem Fresh.nil {u8 : Nat} {w w' : World} (h : Ext none1 w w') : Fresh u8 w (.slice none 0 0) w' [] := ⟨by simpa [OwnB, cellsOf] using Own.nil w' w.heap.size u8 1, h⟩
theorem Fresh.post {u8 : Nat} {w w1 w2 : World} {v : Value} {s : List UInt8} (h : Fresh u8 w v w1 s) (he : Ext none1 w1 w2) : Fresh u8 w v w2 s := ⟨Own.ext h.1 he (fun _ _ h => h), h.2.trans he⟩
theorem Fresh.pre {u8 : Nat} {w0 w w1 : World} {v : Value} {s : List UInt8} (he : Ext none1 w0 w) (h : Fresh u8 w v w1 s) : Fresh u8 w0 v w1 s := ⟨Own.base h.1 he.size, he.trans h.2⟩
def fixE : Nat → Int → List UInt8
  | 0, _ => []
  | k + 1, n => bval (n.fdiv (2 ^ (8 * k))) :: fixE k n
structure TySp (P : Program) (E : Env) : Prop extends TyWr P E where
  kU8 : kindOf P E.tU8 = .scl
/-- the width of numbers of a kind -/
def widthS (kind : Int) : Nat := if kind = 1 then 1 else if kind = 2 ∨ kind = 5 then 2 else if kind = 3 then 4 else 8
def uvF : Nat → Nat → List UInt8
  | 0, n => [UInt8.ofNat n]
  | k + 1, n => if 127 < n then UInt8.ofNat (n % 128 + 128) :: uvF k (n / 128) else [UInt8.ofNat n]
def uvS (n : Nat) : List UInt8 := uvF n n
end Go.Kg

set_option linter.unusedSimpArgs false
set_option linter.unusedVariables false
namespace Go.Kg
open Go
section
variable {P : Program} {f : Nat → Value} {ty : TypeId} {w : World} {K : Value → World → Prop} {x y : Operand} {xs : Array TypeId} {k : IntKind} {a b : Int}
@[simp] theorem stp_min : stp P f (.call { callee := .builtin .min, args := #[x, y], argTypes := xs }) ty w K = stepF P f (.call { callee := .builtin .min, args := #[x, y], argTypes := xs }) ty w K := (rfl)
@[simp] theorem stp_max : stp P f (.call { callee := .builtin .max, args := #[x, y], argTypes := xs }) ty w K = stepF P f (.call { callee := .builtin .max, args := #[x, y], argTypes := xs }) ty w K := (rfl)
end
@[simp] theorem isB_undef {b : Bool} : isB undef b = false := (rfl)
/-- A field, but for its parts. -/
structure FH where
  kind : Int
  frm : Int
  to : Int
  null : Int
  tag : Int
  dflt : Int
  of_ : Int
def FH.cells (h : FH) : List Value := [.int .i64 h.kind, .int .i64 h.frm, .int .i64 h.to, .int .i64 h.null, .int .i64 h.tag, .int .i64 h.dflt, .int .i64 h.of_]
def FH.has (h : FH) (v : Int) : Bool := decide (h.frm ≤ v) && (decide (h.to < 0) || decide (v ≤ h.to))
def FH.isNull (h : FH) (v : Int) (nul : Bool) : Bool := nul && decide (0 ≤ h.null) && decide (h.null ≤ v)
inductive FS where
  | nil
  | cons (h : FH) (sub rest : FS)
inductive Tr where
  | mk (n : Int) (s : List UInt8) (nul : Bool) (l : List Tr) (u : List (Nat × List UInt8))
def Tr.n : Tr → Int | .mk n _ _ _ _ => n
def Tr.s : Tr → List UInt8 | .mk _ s _ _ _ => s
def Tr.nul : Tr → Bool | .mk _ _ b _ _ => b
def Tr.l : Tr → List Tr | .mk _ _ _ l _ => l
def Tr.u : Tr → List (Nat × List UInt8) | .mk _ _ _ _ u => u
def Tr.none : Tr := .mk 0 [] false [] []
def Tr.at (t : Tr) (i : Nat) : Tr := (t.l[i]?).getD .none
def All : Nat → Prop := fun _ => True
def FsCells (w : World) : List (List Value) → FS → Prop
  | [], .nil => True
  | c :: cs, .cons h sub rest => (∃ sv ls, c = h.cells ++ [sv] ∧ ArrAt w All 8 sv ls ∧ FsCells w (ls.getD []) sub) ∧ FsCells w cs rest
  | _, _ => False
def FsAt (w : World) (v : Value) (F : FS) : Prop := ∃ ls, ArrAt w All 8 v ls ∧ FsCells w (ls.getD []) F
/-- the same, but that a slice without a place may bear any address -/
def ArrE (w : World) (K : Nat → Prop) (sz : Nat) (v : Value) : Option (List (List Value)) → Prop
  | none => ∃ a, v = .slice a 0 0
  | some ls => ArrAt w K sz v (some ls)
theorem ArrAt.toE {w : World} {K : Nat → Prop} {sz : Nat} {v : Value} {ls : Option (List (List Value))} (h : ArrAt w K sz v ls) : ArrE w K sz v ls := by
  cases ls with
  | none => exact ⟨_, h⟩
  | some ls => exact h
theorem ArrE.ext {C K : Nat → Prop} {w w' : World} (he : Ext C w w') (hK : ∀ b, b < w.heap.size → K b → ¬ C b) {sz : Nat} {v : Value} {ls : Option (List (List Value))} (h : ArrE w K sz v ls) : ArrE w' K sz v ls := by
  cases ls with
  | none => exact h
  | some ls => exact ArrAt.ext he hK (show ArrAt w K sz v (some ls) from h)
theorem ArrE.form {w : World} {K : Nat → Prop} {sz : Nat} {v : Value} {ls : Option (List (List Value))} (h : ArrE w K sz v ls) : ∃ a c, v = .slice a (ls.getD []).length c ∧ True ∧ (ls.getD []).length ≤ 1099511627776 := by
  cases ls with
  | none => obtain ⟨a, rfl⟩ := h; exact ⟨a, 0, rfl, trivial, by simp⟩
  | some ls =>
    obtain ⟨a, c, h1, _, h3⟩ := (show ArrAt w K sz v (some ls) from h).form
    exact ⟨a, c, h1, trivial, h3⟩
def UAt (w : World) (v : Value) (u : List (Nat × List UInt8)) : Prop := ∃ ls, ArrE w All 2 v ls ∧ (ls.getD []).length = u.length ∧
  ∀ (i : Nat) c x, (ls.getD [])[i]? = some c → u[i]? = some x → ∃ bv, c = [.int .u32 x.1, bv] ∧ x.1 < 4294967296 ∧ BytesAt w All bv x.2
inductive TreeAt (w : World) : List Value → Tr → Prop where
  | mk {n : Int} {s : List UInt8} {nul : Bool} {l : List Tr} {u : List (Nat × List UInt8)} {sv lv uv : Value} {ls : Option (List (List Value))} (hn : (-9223372036854775808 ≤ n ∧ n < 9223372036854775808) ∧ s.length ≤ 140737488355328)
      (hs : BytesAt w All sv s) (ha : ArrE w All 5 lv ls) (hl : (ls.getD []).length = l.length) (he : ∀ (i : Nat) c t, (ls.getD [])[i]? = some c → l[i]? = some t → TreeAt w c t) (hu : UAt w uv u) :
      TreeAt w [.int .i64 n, sv, .bool nul, lv, uv] (.mk n s nul l u)
theorem FsCells.ext {w w' : World} (he : Ext none1 w w') : ∀ {F : FS} {ls : List (List Value)}, FsCells w ls F → FsCells w' ls F := by
  intro F
  induction F with
  | nil => intro ls h; cases ls with
    | nil => trivial
    | cons c cs => exact h.elim
  | cons h sub rest ihs ihr =>
    intro ls hh
    cases ls with
    | nil => exact hh.elim
    | cons c cs =>
      obtain ⟨⟨sv, l, h1, h2, h3⟩, h4⟩ := hh
      exact ⟨⟨sv, l, h1, h2.ext he (fun _ _ _ h => h), ihs h3⟩, ihr h4⟩
theorem FsAt.ext {w w' : World} (he : Ext none1 w w') {v : Value} {F : FS} (h : FsAt w v F) : FsAt w' v F := by
  obtain ⟨ls, h1, h2⟩ := h; exact ⟨ls, h1.ext he (fun _ _ _ h => h), h2.ext he⟩
theorem UAt.ext {w w' : World} (he : Ext none1 w w') {v : Value} {u : List (Nat × List UInt8)} (h : UAt w v u) : UAt w' v u := by
  obtain ⟨ls, h1, h2, h3⟩ := h
  refine ⟨ls, ArrE.ext he (fun _ _ _ h => h) h1, h2, fun i c x hc hx => ?_⟩
  obtain ⟨bv, a, b, d⟩ := h3 i c x hc hx
  exact ⟨bv, a, b, d.ext he (fun _ _ _ h => h)⟩
theorem TreeAt.ext {w w' : World} (he : Ext none1 w w') {cs : List Value} {t : Tr} (h : TreeAt w cs t) : TreeAt w' cs t := by
  induction h with
  | mk hn hs ha hl _ hu ih => exact .mk hn (hs.ext he (fun _ _ _ h => h)) (ArrE.ext he (fun _ _ _ h => h) ha) hl ih (hu.ext he)
theorem TreeAt.none (w : World) : TreeAt w [.int .i64 0, .slice Option.none 0 0, .bool false, .slice Option.none 0 0, .slice Option.none 0 0] Tr.none :=
  .mk (by simp) (.inl ⟨⟨_, rfl⟩, rfl⟩) (ls := Option.none) ⟨_, rfl⟩ rfl (by simp) ⟨Option.none, ⟨_, rfl⟩, rfl, by simp⟩
/-- What the reference asks of the types. -/
structure TyF (P : Program) (E : Env) : Prop extends TySp P E where
  uBs : P.underlying E.tBs = some (.slice E.tU8)
  kBs : kindOf P E.tBs = .scl
  kInt : kindOf P E.tInt = .scl
  kI64 : kindOf P E.tI64 = .scl
  kB : kindOf P E.tB = .scl
  kU32 : kindOf P E.tU32 = .scl
  kLF : kindOf P E.t_l_spec_Field = .scl
  kLT : kindOf P E.t_l_spec_Tree = .scl
  kLU : kindOf P E.t_l_spec_Tag = .scl
  kF : kindOf P E.t_spec_Field = .agg 8
  kT : kindOf P E.t_spec_Tree = .agg 5
  kU : kindOf P E.t_spec_Tag = .agg 2
  f0 : fldOff P E.t_spec_Field 0 = some 0
  f1 : fldOff P E.t_spec_Field 1 = some 1
  f2 : fldOff P E.t_spec_Field 2 = some 2
  f3 : fldOff P E.t_spec_Field 3 = some 3
  f4 : fldOff P E.t_spec_Field 4 = some 4
  f5 : fldOff P E.t_spec_Field 5 = some 5
  f6 : fldOff P E.t_spec_Field 6 = some 6
  f7 : fldOff P E.t_spec_Field 7 = some 7
  t0 : fldOff P E.t_spec_Tree 0 = some 0
  t1 : fldOff P E.t_spec_Tree 1 = some 1
  t2 : fldOff P E.t_spec_Tree 2 = some 2
  t3 : fldOff P E.t_spec_Tree 3 = some 3
  t4 : fldOff P E.t_spec_Tree 4 = some 4
  u0 : fldOff P E.t_spec_Tag 0 = some 0
  u1 : fldOff P E.t_spec_Tag 1 = some 1
  sF : sliSz P E.t_l_spec_Field = some 8
  sT : sliSz P E.t_l_spec_Tree = some 5
  sU : sliSz P E.t_l_spec_Tag = some 2
  sTr : ∃ fs, P.underlying E.t_spec_Tree = some (.struct fs)
  pT : (places P E.t_spec_Tree).isSome = true
  zF : zeroOf P E.t_spec_Field = some (.agg #[.int .i64 0, .int .i64 0, .int .i64 0, .int .i64 0, .int .i64 0, .int .i64 0, .int .i64 0, .slice Option.none 0 0])
  zT : zeroOf P E.t_spec_Tree = some (.agg #[.int .i64 0, .slice Option.none 0 0, .bool false, .slice Option.none 0 0, .slice Option.none 0 0])
  zU : zeroOf P E.t_spec_Tag = some (.agg #[.int .u32 0, .slice Option.none 0 0])
section
variable {P : Program} {E : Env} (ht : TyF P E)
include ht
end
end Go.Kg

set_option linter.unusedSimpArgs false
set_option linter.unusedVariables false
namespace Go.Kg
open Go
def countedS (flex nul : Bool) (n : Nat) (size : Nat) : List UInt8 :=
  if flex && nul then [0] else if flex then uvS (n + 1) else if nul then fixE size (-1) else fixE size n
/-- the fields of a list, one after another -/
def FS.len : FS → Nat
  | .nil => 0
  | .cons _ _ r => r.len + 1
theorem FsCells.len {w : World} : ∀ {F : FS} {ls : List (List Value)}, FsCells w ls F → ls.length = F.len
  | .nil, [], _ => rfl
  | .cons h sub rest, c :: cs, hh => by simp [FS.len, FsCells.len hh.2]
  | .nil, c :: cs, hh => hh.elim
  | .cons h sub rest, [], hh => hh.elim
/-- the greatest known tag and one -/
def FS.known : FS → Nat
  | .nil => 0
  | .cons h _ r => max (if 0 ≤ h.tag then (h.tag.toNat + 1) % 4294967296 else 0) r.known
section
variable {P : Program} {E : Env} (ht : TyF P E)
include ht
end
end Go.Kg

set_option linter.unusedSimpArgs false
set_option linter.unusedVariables false
namespace Go.Kg
open Go
/-- the fields' heads -/
def FS.heads : FS → List FH
  | .nil => []
  | .cons h _ r => h :: r.heads
def FS.subs : FS → List FS
  | .nil => []
  | .cons _ s r => s :: r.subs
theorem FsCells.get {w : World} : ∀ {F : FS} {ls : List (List Value)} {i : Nat} {c : List Value}, FsCells w ls F → ls[i]? = some c → ∃ h sub sv l, F.heads[i]? = some h ∧ F.subs[i]? = some sub ∧ c = h.cells ++ [sv] ∧ ArrAt w All 8 sv l ∧ FsCells w (l.getD []) sub := by
  intro F
  induction F with
  | nil => intro ls i c hh hc; cases ls with
    | nil => simp at hc
    | cons c cs => exact hh.elim
  | cons h sub rest ihs ihr =>
    intro ls i c hh hc
    cases ls with
    | nil => exact hh.elim
    | cons d cs =>
      obtain ⟨⟨sv, l, h1, h2, h3⟩, h4⟩ := hh
      cases i with
      | zero => simp at hc; subst hc; exact ⟨h, sub, sv, l, rfl, rfl, h1, h2, h3⟩
      | succ i => exact ihr h4 (by simpa using hc)
/-- a number fits 64 bits -/
def fits (n : Int) : Prop := -9223372036854775808 ≤ n ∧ n < 9223372036854775808
def FH.ok (h : FH) : Prop := -1 ≤ h.tag ∧ h.tag < 1000
/-- The known tags, from the left. -/
def knownL (l : List FH) : Nat := l.foldl (fun n h => if 0 ≤ h.tag then max n (h.tag.toNat + 1) else n) 0
@[simp] theorem FH.cells_len7 (h : FH) : h.cells.length = 7 := rfl
theorem FH.cells_one (h : FH) {sv : Value} (hs : sv.oneCell' = true) : allOne (h.cells ++ [sv]) = true := by
  simp only [FH.cells, List.cons_append, List.nil_append, allOne, hs, Bool.and_true]
  rfl
def zField : Array Value := #[.int .i64 0, .int .i64 0, .int .i64 0, .int .i64 0, .int .i64 0, .int .i64 0, .int .i64 0, .slice none 0 0]
section
variable {P : Program} {E : Env} (ht : TyF P E)
include ht
end
end Go.Kg

set_option linter.unusedSimpArgs false
set_option linter.unusedVariables false
namespace Go.Kg
open Go
def SmInv (va vb : Value) (s t : List UInt8) (w : World) (f : Nat → Value) (w' : World) : Prop :=
  ∃ i, i ≤ s.length ∧ s.take i = t.take i ∧ f 13 = .int .i64 i ∧ f 12 = .int .i64 s.length ∧ f 0 = va ∧ f 1 = vb ∧ Ext none1 w w'
theorem take_eq_succ {s t : List UInt8} {i : Nat} {x : UInt8} (h : s.take i = t.take i) (hs : s[i]? = some x) (ht : t[i]? = some x) : s.take (i + 1) = t.take (i + 1) := by
  rw [List.take_add_one, List.take_add_one, h, hs, ht]
end Go.Kg

set_option linter.unusedSimpArgs false
set_option linter.unusedVariables false
namespace Go.Kg
open Go
/-- A field's head, what is written of its parts, and whether these are as by default. -/
structure FE where
  h : FH
  part : Tr → List UInt8
  usual : Tr → Bool
  known : Nat
/-- value -/
def valS (kind : Int) (part : Tr → List UInt8) (nul : Bool) (flex : Bool) (t : Tr) : List UInt8 :=
  if kind = 0 then [bval (t.n % 2)]
  else if kind = 7 then (t.s ++ List.replicate 16 0).take 16
  else if kind = 8 then countedS flex nul (if nul then [] else t.s.take 32767).length 2 ++ (if nul then [] else t.s.take 32767)
  else if kind = 9 then countedS flex nul (if nul then [] else t.s.take 32767).length 4 ++ (if nul then [] else t.s.take 32767)
  else if kind = 10 then part t
  else fixE (widthS kind) t.n
/-- field -/
def fieldS (x : FE) (ver : Int) (flex : Bool) (t : Tr) : List UInt8 :=
  let nul := x.h.isNull ver t.nul
  if x.h.kind = 11 then
    let l := if nul then [] else t.l.take 32767
    countedS flex nul l.length 4 ++ l.flatMap (valS x.h.of_ x.part false flex)
  else if x.h.kind = 10 ∧ 0 ≤ x.h.null then
    if nul then fixE 1 (-1) else fixE 1 1 ++ x.part t
  else valS x.h.kind x.part nul flex t
/-- usual -/
def usualS (x : FE) (t : Tr) : Bool :=
  if x.h.kind = 0 then t.n % 2 == x.h.dflt
  else if x.h.kind = 7 then (t.s.take 16).all (· == 0)
  else if x.h.kind = 8 ∨ x.h.kind = 9 then (if 0 ≤ x.h.null then t.nul else t.s.isEmpty)
  else if x.h.kind = 11 then t.l.isEmpty
  else if x.h.kind = 10 then x.usual t
  else fixE (widthS x.h.kind) t.n == fixE (widthS x.h.kind) x.h.dflt
/-- a tag goes in by rising keys; the first one of a key counts; none below 'least' -/
def insU {α : Type} (least : Nat) (x : Nat × α) (out : List (Nat × α)) : List (Nat × α) :=
  if x.1 < least then out
  else match out with
    | [] => [x]
    | y :: r => if y.1 < x.1 then y :: insU least x r else if y.1 = x.1 then y :: r else x :: y :: r
def unkS {α : Type} (least : Nat) (u : List (Nat × α)) : List (Nat × α) := (u.take 32767).foldl (fun out x => insU least x out) []
def tagS (k : Nat) (b : List UInt8) : List UInt8 := uvS k ++ uvS b.length ++ b
/-- part, of the fields' own texts -/
def partL (l : List FE) (ver : Int) (flex : Bool) (t : Tr) : List UInt8 :=
  let plain := l.zipIdx.flatMap fun (x, i) => if x.h.tag < 0 ∧ x.h.has ver = true then fieldS x ver flex (t.at i) else []
  if flex then
    let kn := (List.range (knownL (l.map (·.h)))).flatMap fun k => l.zipIdx.flatMap fun (x, i) => if x.h.tag = k ∧ usualS x (t.at i) = false then [(k, fieldS x ver flex (t.at i))] else []
    let un := (unkS (knownL (l.map (·.h))) t.u).map fun x => (x.1, x.2.take 32767)
    plain ++ uvS (kn ++ un).length ++ (kn ++ un).flatMap fun x => tagS x.1 x.2
  else plain
def usualL (l : List FE) (t : Tr) : Bool := (l.zipIdx.all fun (x, i) => usualS x (t.at i)) && (unkS (knownL (l.map (·.h))) t.u).isEmpty
def FS.list (ver : Int) (flex : Bool) : FS → List FE
  | .nil => []
  | .cons h sub rest => ⟨h, partL (sub.list ver flex) ver flex, usualL (sub.list ver flex), knownL ((sub.list ver flex).map (·.h))⟩ :: rest.list ver flex
end Go.Kg

set_option linter.unusedSimpArgs false
set_option linter.unusedVariables false
namespace Go.Kg
open Go
section
variable {P : Program} {E : Env} (ht : TyF P E)
include ht
end
end Go.Kg

set_option linter.unusedSimpArgs false
set_option linter.unusedVariables false
namespace Go.Kg
open Go
def tc (p : Nat × Value) : List Value := [.int .u32 p.1, p.2]
def flatT (os : List (Nat × Value)) : List Value := os.flatMap tc
theorem flatT_cons (q : Nat × Value) (os : List (Nat × Value)) : flatT (q :: os) = Value.int .u32 q.1 :: q.2 :: flatT os := rfl
@[simp] theorem flatT_length : ∀ (os : List (Nat × Value)), (flatT os).length = os.length * 2
  | [] => rfl
  | q :: os => by rw [flatT_cons]; simp [flatT_length os]; omega
end Go.Kg

set_option linter.unusedSimpArgs false
set_option linter.unusedVariables false
namespace Go.Kg
open Go
section
variable {P : Program} {f : Nat → Value} {ty : TypeId} {w : World} {K K' : Value → World → Prop}
/-- The ways meet again: what holds there. -/
def meet (R : (Nat → Value) → World → Prop) : Post
  | .normal, f, w => R f w
  | _, _, _ => False
@[simp] theorem meet_normal {R : (Nat → Value) → World → Prop} {f : Nat → Value} {w : World} : meet R .normal f w = R f w := (rfl)
/-- the same, where the way may also leave -/
def meetOr (R : (Nat → Value) → World → Prop) (Q : Post) : Post
  | .normal, f, w => R f w
  | e, f, w => Q e f w
@[simp] theorem meetOr_normal {R : (Nat → Value) → World → Prop} {Q : Post} {f : Nat → Value} {w : World} : meetOr R Q .normal f w = R f w := (rfl)
@[simp] theorem meetOr_ret {R : (Nat → Value) → World → Prop} {Q : Post} {f : Nat → Value} {w : World} : meetOr R Q .ret f w = Q .ret f w := (rfl)
@[simp] theorem meetOr_exit {R : (Nat → Value) → World → Prop} {Q : Post} {f : Nat → Value} {w : World} {i : Nat} : meetOr R Q (.exit i) f w = Q (.exit i) f w := (rfl)
/-- the same, where the way may also leave by one exit -/
def meetX (R X : (Nat → Value) → World → Prop) (id : Nat) : Post
  | .normal, f, w => R f w
  | .exit i, f, w => i = id ∧ X f w
  | _, _, _ => False
@[simp] theorem meetX_normal {R X : (Nat → Value) → World → Prop} {id : Nat} {f : Nat → Value} {w : World} : meetX R X id .normal f w = R f w := (rfl)
@[simp] theorem meetX_exit {R X : (Nat → Value) → World → Prop} {id i : Nat} {f : Nat → Value} {w : World} : meetX R X id (.exit i) f w = (i = id ∧ X f w) := (rfl)
/-- and where it may return -/
def meetR (R X : (Nat → Value) → World → Prop) : Post
  | .normal, f, w => R f w
  | .ret, f, w => X f w
  | _, _, _ => False
@[simp] theorem meetR_normal {R X : (Nat → Value) → World → Prop} {f : Nat → Value} {w : World} : meetR R X .normal f w = R f w := (rfl)
@[simp] theorem meetR_ret {R X : (Nat → Value) → World → Prop} {f : Nat → Value} {w : World} : meetR R X .ret f w = X f w := (rfl)
end
end Go.Kg

set_option linter.unusedSimpArgs false
set_option linter.unusedVariables false
namespace Go.Kg
open Go
structure TyG (P : Program) (E : Env) : Prop extends TyF P E where
  gT : SliI P E.t_l_spec_Tag E.t_spec_Tag 2 32 (.agg #[.int .u32 0, .slice none 0 0])
  uTag : ∃ fs, P.underlying E.t_spec_Tag = some (.struct fs)
  pTag : (places P E.t_spec_Tag).isSome = true
  gTr : SliI P E.t_l_spec_Tree E.t_spec_Tree 5 88 (.agg #[.int .i64 0, .slice none 0 0, .bool false, .slice none 0 0, .slice none 0 0])
section
variable {P : Program} {E : Env} (ht : TyG P E)
include ht
end
end Go.Kg

set_option linter.unusedSimpArgs false
set_option linter.unusedVariables false
set_option linter.unusedSectionVars false
namespace Go.Kg
open Go
/-- An own row of bytes, read. -/
theorem own_bytes {u8 : Nat} {w : World} {base : Nat} {v : Value} {s : List UInt8} (h : OwnB u8 w base v s) : BytesAt w All v s := by
  obtain ⟨n, h1, h2⟩ := h
  have hn : n = s.length := by simpa using h1.symm
  subst hn
  rcases h2 with ⟨rfl, h0⟩ | ⟨g, cap, cur, rfl, hb, hg, hnc, hcm, hcs, htake⟩
  · exact .inl ⟨⟨_, rfl⟩, List.eq_nil_of_length_eq_zero h0⟩
  · refine .inr ⟨g, 0, cap, rfl, hnc, fun _ => trivial, fun i x hx => ?_⟩
    rw [cell_of_blk hg, Nat.zero_add]
    have : (cur.toList.take (s.length * 1))[i]? = some (.int .u8 x.toNat) := by rw [htake]; simp [cellsOf, hx]
    rw [List.getElem?_take] at this
    split at this
    · simpa using this
    · cases this
section
variable {P : Program} {E : Env} (ht : TyF P E)
include ht
end
end Go.Kg

set_option linter.unusedSimpArgs false
set_option linter.unusedVariables false
namespace Go.Kg
open Go
section
variable {P : Program} {E : Env} (ht : TyG P E)
include ht
end
end Go.Kg

set_option linter.unusedSimpArgs false
set_option linter.unusedVariables false
namespace Go.Kg
open Go
section
variable {P : Program} {E : Env} (ht : TyG P E)
include ht
end
end Go.Kg

set_option linter.unusedSimpArgs false
set_option linter.unusedVariables false
namespace Go.Kg
open Go
theorem own_bytesK {u8 : Nat} {w : World} {base : Nat} {v : Value} {s : List UInt8} (h : OwnB u8 w base v s) : BytesAt w (fun b => base ≤ b ∧ b < w.heap.size) v s := by
  have hb := fun b hb => Own.below h (b := b) hb
  rcases own_bytes h with h | ⟨b, o, c, rfl, h2, _, h3⟩
  · exact .inl h
  · exact .inr ⟨b, o, c, rfl, h2, fun _ => hb b rfl, h3⟩
section
variable {P : Program} {E : Env} (ht : TyG P E)
include ht
end
end Go.Kg

set_option linter.unusedSimpArgs false
set_option linter.unusedVariables false
namespace Go.Kg
open Go
def FS.okAll : FS → Prop
  | .nil => True
  | .cons h sub rest => FH.ok h ∧ fits h.dflt ∧ sub.len ≤ 1000 ∧ sub.okAll ∧ rest.okAll
theorem FS.okAll.heads : ∀ {F : FS}, F.okAll → ∀ g ∈ F.heads, FH.ok g
  | .nil, _, g, hg => by cases hg
  | .cons h sub rest, ho, g, hg => by
    rcases List.mem_cons.1 hg with rfl | hg
    · exact ho.1
    · exact FS.okAll.heads ho.2.2.2.2 g hg
/-- The functions of package spec that write. -/
structure SpecFns (P : Program) (E : Env) : Prop where
  Fixed : FnIs P E.f_spec_Fixed nt_spec_Fixed (rs_spec_Fixed E) (ir_spec_Fixed E)
  width : FnIs P E.f_spec_width nt_spec_width (rs_spec_width E) (ir_spec_width E)
  Uvarint : FnIs P E.f_spec_Uvarint nt_spec_Uvarint (rs_spec_Uvarint E) (ir_spec_Uvarint E)
  has : FnIs P E.f_spec_Field_has nt_spec_Field_has (rs_spec_Field_has E) (ir_spec_Field_has E)
  null : FnIs P E.f_spec_Field_null nt_spec_Field_null (rs_spec_Field_null E) (ir_spec_Field_null E)
  whole : FnIs P E.f_spec_whole nt_spec_whole (rs_spec_whole E) (ir_spec_whole E)
  things : FnIs P E.f_spec_things nt_spec_things (rs_spec_things E) (ir_spec_things E)
  counted : FnIs P E.f_spec_counted nt_spec_counted (rs_spec_counted E) (ir_spec_counted E)
  at_ : FnIs P E.f_spec_at nt_spec_at (rs_spec_at E) (ir_spec_at E)
  known : FnIs P E.f_spec_known nt_spec_known (rs_spec_known E) (ir_spec_known E)
  unknown : FnIs P E.f_spec_unknown nt_spec_unknown (rs_spec_unknown E) (ir_spec_unknown E)
  Same : FnIs P E.f_spec_Same nt_spec_Same (rs_spec_Same E) (ir_spec_Same E)
  value : FnIs P E.f_spec_value nt_spec_value (rs_spec_value E) (ir_spec_value E)
  field : FnIs P E.f_spec_field nt_spec_field (rs_spec_field E) (ir_spec_field E)
  usual : FnIs P E.f_spec_usual nt_spec_usual (rs_spec_usual E) (ir_spec_usual E)
  part : FnIs P E.f_spec_part nt_spec_part (rs_spec_part E) (ir_spec_part E)
  Write : FnIs P E.f_spec_Write nt_spec_Write (rs_spec_Write E) (ir_spec_Write E)
section
variable {P : Program} {E : Env} (ht : TyG P E) (hs : SpecFns P E)
include ht hs
end
/-- What a message's type is in memory. -/
structure TyM (P : Program) (E : Env) : Prop extends TyG P E where
  m0 : fldOff P E.t_spec_Message 0 = some 0
  m1 : fldOff P E.t_spec_Message 1 = some 1
section
variable {P : Program} {E : Env} (ht : TyM P E) (hs : SpecFns P E)
include ht hs
end
end Go.Kg

set_option linter.unusedSimpArgs false
set_option linter.unusedVariables false
namespace Go.Kg
open Go
/-- the tags of a tree have numbers of 32 bits -/
inductive Tr.Ok : Tr → Prop where
  | mk {n : Int} {s : List UInt8} {nul : Bool} {l : List Tr} {u : List (Nat × List UInt8)} (hu : ∀ x ∈ u, x.1 < 4294967296) (hl : ∀ t ∈ l, Tr.Ok t) : Tr.Ok (.mk n s nul l u)
theorem Tr.Ok.l {t : Tr} (h : t.Ok) : ∀ x ∈ t.l, x.Ok := by cases h with | mk _ hl => exact hl
theorem Tr.Ok.u {t : Tr} (h : t.Ok) : ∀ x ∈ t.u, x.1 < 4294967296 := by cases h with | mk hu _ => exact hu
theorem Tr.Ok.none : Tr.none.Ok := .mk (by simp) (by simp)
theorem Tr.Ok.at {t : Tr} (h : t.Ok) (i : Nat) : (t.at i).Ok := by
  unfold Tr.at
  cases hi : t.l[i]? with
  | none => exact Tr.Ok.none
  | some x => exact h.l x (List.mem_of_getElem? hi)
theorem TreeAt.ok {w : World} : ∀ {t : Tr} {cs : List Value}, TreeAt w cs t → t.Ok := by
  intro t cs h
  induction h with
  | mk hn hs ha hl he hu ih =>
    rename_i n s nul l u sv lv uv ls
    refine .mk ?_ ?_
    · obtain ⟨ls', _, hlen, hx⟩ := hu
      intro x hxm
      obtain ⟨i, hi⟩ := List.getElem?_of_mem hxm
      have hlt := (List.getElem?_eq_some_iff.1 hi).1
      obtain ⟨c, hc⟩ : ∃ c, (ls'.getD [])[i]? = some c := ⟨_, List.getElem?_eq_getElem (by omega)⟩
      exact (hx i c x hc hi).choose_spec.2.1
    · intro x hxm
      obtain ⟨i, hi⟩ := List.getElem?_of_mem hxm
      have hlt := (List.getElem?_eq_some_iff.1 hi).1
      obtain ⟨c, hc⟩ : ∃ c, (ls.getD [])[i]? = some c := ⟨_, List.getElem?_eq_getElem (by omega)⟩
      exact ih i c x hc hi
end Go.Kg

set_option linter.unusedSimpArgs false
set_option linter.unusedVariables false
namespace Go.Kg
open Go
end Go.Kg

set_option linter.unusedSimpArgs false
set_option linter.unusedVariables false
set_option linter.unusedSectionVars false
namespace Go.Kg
open Go
end Go.Kg

set_option linter.unusedSimpArgs false
set_option linter.unusedVariables false
set_option linter.unusedSectionVars false
namespace Go.Kg
open Go
/-- What a known tag holds. d: a number's default; same, mk: the numbers of zzSame and of the function that makes the default. -/
inductive Kn where
  | prim (p : Prim) (d : Int)
  | arr (sT T PT sz df : Nat) (e : Sch)
  | str (T PT sz df same mk : Nat) (e : Sch)
/-- A known tag: its number, its field's place, its first cell. -/
structure KF where
  num : Nat
  k : Nat
  o : Nat
  c : Kn
def Kn.T : Kn → Type
  | .prim p _ => p.T
  | .arr _ _ _ _ _ e => Option (List e.T)
  | .str _ _ _ _ _ _ e => e.T
def KsT : List KF → Type
  | [] => Unit
  | x :: l => x.c.T × KsT l
/-- what zzSame may compare -/
def Prim.eqS : Prim → Bool
  | .i8 | .i16 | .i32 | .i64 | .str => true
  | _ => false
/-- is a number as by default -/
def Prim.isD : (p : Prim) → Int → p.T → Bool
  | .bool, d, b => (show Bool from b) == decide (d ≠ 0)
  | .i8, d, n => (show Int from n) == d
  | .i16, d, n => (show Int from n) == d
  | .u16, d, n => (show Int from n) == d
  | .i32, d, n => (show Int from n) == d
  | .i64, d, n => (show Int from n) == d
  | .uuid, _, l => (show List UInt8 from l) == List.replicate 16 0
  | .str, _, l => (show List UInt8 from l).isEmpty
  | .bytes, _, l => (show List UInt8 from l).isEmpty
  | .nstr, _, o => (show Option (List UInt8) from o).isNone
  | .nbytes, _, o => (show Option (List UInt8) from o).isNone
theorem Prim.isD_dfl (p : Prim) (d : Int) : p.isD d (p.dfl d) = true := by
  cases p <;> simp [Prim.isD, Prim.dfl]
/-- a struct of numbers, texts and tags: as by default -/
def Sch.isD : (S : Sch) → S.T → Bool
  | .fin, _ => true
  | .tags _ _, l => (show TagL from l).isEmpty
  | .prim _ _ _ p _ d rest, (x, r) => p.isD d x && rest.isD r
  | .arrP _ _ _ _ _ _ rest, (a, r) => a.isNone && rest.isD r
  | .arrS _ _ _ _ _ _ _ _ _ _ rest, (a, r) => a.isNone && rest.isD r
  | .sub _ _ _ _ _ _ _ e rest, (x, r) => e.isD x && rest.isD r
  | .opt _ _ _ _ _ _ _ _ _ rest, (a, r) => a.isNone && rest.isD r
  | .cus _, _ => true
theorem Sch.isD_dfl : ∀ S : Sch, S.isD S.dfl = true := by
  intro S
  induction S with
  | fin => rfl
  | tags k o => rfl
  | prim g k o p en d rest ih => simp [Sch.isD, Sch.dfl, Prim.isD_dfl, ih]
  | arrP g k o sT nul p rest ih => simp [Sch.isD, Sch.dfl, ih]
  | arrS g k o sT nul T PT sz df e rest ihe ih => simp [Sch.isD, Sch.dfl, ih]
  | sub g k o T PT sz df e rest ihe ih => simp [Sch.isD, Sch.dfl, ihe, ih]
  | opt g k o T PT PP sz df e rest ihe ih => simp [Sch.isD, Sch.dfl, ih]
  | cus c => rfl
def Kn.dfl : (c : Kn) → c.T
  | .prim p d => p.dfl d
  | .arr _ _ _ _ _ _ => none
  | .str _ _ _ _ _ _ e => e.dfl
/-- is it written -/
def Kn.set : (c : Kn) → c.T → Bool
  | .prim p d, x => !p.isD d x
  | .arr _ _ _ _ _ _, a => !(a.getD []).isEmpty
  | .str _ _ _ _ _ _ e, x => !e.isD x
theorem Kn.set_dfl (c : Kn) : c.set c.dfl = false := by
  cases c <;> simp [Kn.set, Kn.dfl, Prim.isD_dfl, Sch.isD_dfl]
def Kn.wr (ver : Int) : (c : Kn) → c.T → List UInt8
  | .prim p _, x => p.wr true x
  | .arr _ _ _ _ _ e, a => lenW none true (a.getD []).length a.isNone ++ (a.getD []).flatMap (e.wr ver true)
  | .str _ _ _ _ _ _ e, x => e.wr ver true x
def kTag (n : Nat) (b : List UInt8) : List UInt8 := uvOut n ++ uvOut (b.length % 4294967296) ++ b
def ksN : (l : List KF) → KsT l → Nat
  | [], _ => 0
  | x :: l, (v, r) => (if x.c.set v then 1 else 0) + ksN l r
def ksW (ver : Int) : (l : List KF) → KsT l → List UInt8
  | [], _ => []
  | x :: l, (v, r) => (if x.c.set v then kTag x.num (x.c.wr ver v) else []) ++ ksW ver l r
/-- the section of tags -/
def secW (ver : Int) (fl : Bool) (l : List KF) (x : KsT l) (u : TagL) : List UInt8 :=
  if fl then uvOut ((ksN l x + u.length) % 4294967296) ++ ksW ver l x ++ tagsOut u else []
/-- err: an error is handed back at once; dup: a list is read a second time (nothing is said of that) -/
inductive KO (α : Type) where
  | err
  | dup
  | ok (x : α)
def KO.map {α β : Type} (f : α → β) : KO α → KO β
  | .err => .err
  | .dup => .dup
  | .ok x => .ok (f x)
theorem KO.map_map {α β γ : Type} (f : α → β) (g : β → γ) (x : KO α) : (x.map f).map g = x.map (fun a => g (f a)) := by cases x <;> rfl
/-- what a reader of its own gives, and 'return err' -/
def KO.of {α : Type} : Option (α × RS) → KO α
  | none => .err
  | some (x, rs) => if rs.bad then .err else .ok x
def Kn.rd (ver : Int) : (c : Kn) → c.T → RS → KO c.T
  | .prim p _, _, rs => KO.of (some (p.rd true rs))
  | .arr _ _ _ _ _ e, a, rs => if (lenRd true rs).2.bad then .err else if (show Option (List e.T) from a).isSome then .dup else KO.of (arrRd none ver true (e.rd ver true) rs)
  | .str _ _ _ _ _ _ e, _, rs => KO.of (e.rd ver true rs)
/-- ok none: the number is not known -/
def ksStep (ver : Int) : (l : List KF) → Nat → KsT l → RS → KO (Option (KsT l))
  | [], _, _, _ => .ok none
  | x :: l, key, (v, r), rs => if key = x.num then (x.c.rd ver v rs).map (fun y => some (y, r)) else (ksStep ver l key r rs).map (Option.map fun r => (v, r))
/-- so many tags; st: what a number and its octets do -/
def kLoop {σ : Type} (st : Nat → σ → RS → KO (Option σ)) : Nat → σ → TagL → RS → Option (Option (σ × TagL) × RS)
  | 0, s, u, rs => some (some (s, u), rs)
  | n + 1, s, u, rs =>
    let a := rdUv rs
    let b := rdUv a.2
    let c := rdSpan b.1 b.2
    match st a.1 s ⟨c.1, false, c.2.nn⟩ with
    | .err => none
    | .dup => some (none, c.2)
    | .ok none => kLoop st n s (setTag a.1 c.1 u) c.2
    | .ok (some s') => kLoop st n s' u c.2
def ksDfl : (l : List KF) → KsT l
  | [] => ()
  | x :: l => (x.c.dfl, ksDfl l)
def secRd (ver : Int) (fl : Bool) (l : List KF) (rs : RS) : Option (Option (KsT l × TagL) × RS) :=
  if fl then kLoop (ksStep ver l) (rdUv rs).1 (ksDfl l) [] (rdUv rs).2 else some (some (ksDfl l, []), rs)
theorem good_kLoop {σ : Type} (st : Nat → σ → RS → KO (Option σ)) : ∀ (n : Nat) (s : σ) (u : TagL), GoodO (kLoop st n s u)
  | 0, s, u => GoodO.pure _
  | n + 1, s, u => by
    have hs : ∀ (a : Nat) (v : List UInt8) (nn : Bool), GoodO (fun rs => match st a s ⟨v, false, nn⟩ with
        | .err => none
        | .dup => some (none, rs)
        | .ok none => kLoop st n s (setTag a v u) rs
        | .ok (some s') => kLoop st n s' u rs) := by
      intro a v nn
      cases st a s ⟨v, false, nn⟩ with
      | err => exact ⟨fun p z nn y rs e _ => (by cases e), fun rs y rs' e _ => (by cases e)⟩
      | dup => exact GoodO.pure _
      | ok o =>
        cases o with
        | none => exact good_kLoop st n _ _
        | some s' => exact good_kLoop st n _ _
    refine ⟨fun p z nn y rs e hb => ?_, fun rs y rs' e hb => ?_⟩
    · simp only [kLoop] at e ⊢
      have hc : (rdSpan (rdUv (rdUv ⟨p, false, nn⟩).2).1 (rdUv (rdUv ⟨p, false, nn⟩).2).2).2.bad = false := by
        cases hx : (rdSpan (rdUv (rdUv ⟨p, false, nn⟩).2).1 (rdUv (rdUv ⟨p, false, nn⟩).2).2).2.bad
        · rfl
        · have := (hs _ _ _).bad _ _ _ e hx
          rw [this] at hb; cases hb
      have hbb : (rdUv (rdUv ⟨p, false, nn⟩).2).2.bad = false := by
        cases hx : (rdUv (rdUv ⟨p, false, nn⟩).2).2.bad
        · rfl
        · have := (good_span ((rdUv (rdUv ⟨p, false, nn⟩).2).1 : Int)).bad _ hx
          rw [this] at hc; cases hc
      have ha : (rdUv ⟨p, false, nn⟩).2.bad = false := by
        cases hx : (rdUv ⟨p, false, nn⟩).2.bad
        · rfl
        · have := good_uv.bad _ hx
          rw [this] at hbb; cases hbb
      rw [good_uv.ext p z nn ha]
      have ea := RS.eta _ ha
      rw [ea] at hbb hc e
      rw [good_uv.ext _ z _ hbb]
      have eb := RS.eta _ hbb
      rw [eb] at hc e
      rw [(good_span _).ext _ z _ hc]
      have ec := RS.eta _ hc
      rw [ec] at e
      exact (hs _ _ _).ext _ z _ _ _ e hb
    · simp only [kLoop] at e
      exact (hs _ _ _).bad _ _ _ e ((good_span _).bad _ (good_uv.bad _ (good_uv.bad _ hb)))
theorem good_sec (ver : Int) (fl : Bool) (l : List KF) : GoodO (secRd ver fl l) := by
  cases fl
  · exact GoodO.pure _
  · exact good_uv.toO.bind (h := fun (n : Nat) rs => kLoop (ksStep ver l) n (ksDfl l) [] rs) (fun n => good_kLoop _ _ _ _)
end Go.Kg

set_option linter.unusedSimpArgs false
set_option linter.unusedVariables false
set_option linter.unusedSectionVars false
namespace Go.Kg
open Go
def Kn.wf (ver : Int) : (c : Kn) → c.T → Prop
  | .prim p _, x => p.wf x
  | .arr _ _ _ _ _ e, a => arrWf none ver a ∧ ∀ x ∈ a.getD [], e.wf ver true x
  | .str _ _ _ _ _ _ e, x => e.wf ver true x
/-- only numbers, texts and tags, and all of them stand at this version -/
def Sch.flat (ver : Int) : Sch → Bool
  | .fin => true
  | .tags _ _ => true
  | .prim g _ _ _ _ _ rest => g.on ver && rest.flat ver
  | _ => false
def Kn.posE (ver : Int) : Kn → Bool
  | .prim _ _ => true
  | .arr _ _ _ _ _ e => e.pos ver true && e.posE ver true
  | .str _ _ _ _ _ _ e => e.flat ver
def Kn.TagsOk (ok : TagL → Prop) : (c : Kn) → c.T → Prop
  | .prim _ _, _ => True
  | .arr _ _ _ _ _ e, a => ∀ (i : Nat) y, (a.getD [])[i]? = some y → e.TagsOk ok y
  | .str _ _ _ _ _ _ e, x => e.TagsOk ok x
def KsOk (ok : TagL → Prop) : (l : List KF) → KsT l → Prop
  | [], _ => True
  | x :: l, (v, r) => x.c.TagsOk ok v ∧ KsOk ok l r
def KsWf (ver : Int) : (l : List KF) → KsT l → Prop
  | [], _ => True
  | x :: l, (v, r) => (x.c.wf ver v ∧ (x.c.set v = true → (x.c.wr ver v).length < 4294967296)) ∧ KsWf ver l r
theorem sortTags_nil {l : TagL} : (sortTags l).isEmpty = l.isEmpty := by
  have := sortTags_len l
  cases l with
  | nil => rfl
  | cons x l => cases h : sortTags (x :: l) with
    | nil => rw [h] at this; simp at this
    | cons y m => rfl
theorem rd_flat (ver : Int) : ∀ (S : Sch) (x : S.T), S.flat ver = true → S.wf ver true x → ∀ r nn, ∃ y nn', S.rd ver true ⟨S.wr ver true x ++ r, false, nn⟩ = some (y, ⟨r, false, nn'⟩) ∧ S.wr ver true y = S.wr ver true x ∧ S.TagsOk tagsOk y ∧ S.isD y = S.isD x := by
  intro S
  induction S with
  | fin => intro x _ _ r nn; exact ⟨(), nn, rfl, rfl, trivial, rfl⟩
  | tags k o =>
    intro x _ h r nn
    obtain ⟨n1, e⟩ := rd_tags x (h rfl) r nn
    exact ⟨sortTags x, n1, congrArg some e, tags_sort x, tagsOk_sort (h rfl), sortTags_nil⟩
  | prim g k o p en d rest ih =>
    rintro ⟨x, xr⟩ hp ⟨h1, h2⟩ r nn
    simp only [Sch.flat, Bool.and_eq_true] at hp
    have hg := hp.1
    obtain ⟨n1, e1⟩ := rd_prim p true x (h1 hg) (rest.wr ver true xr ++ r) nn
    obtain ⟨y, n2, e2, e3, e4, e5⟩ := ih xr hp.2 h2 r n1
    refine ⟨(x, y), n2, ?_, ?_, e4, ?_⟩
    · simp only [Sch.rd, Sch.wr, if_pos hg, List.append_assoc, e1, e2]; rfl
    · simp only [Sch.wr, e3]
    · simp only [Sch.isD, e5]
  | arrP g k o sT nul p rest ih => intro x h; cases h
  | arrS g k o sT nul T PT sz df e rest ihe ih => intro x h; cases h
  | sub g k o T PT sz df e rest ihe ih => intro x h; cases h
  | opt g k o T PT PP sz df e rest ihe ih => intro x h; cases h
  | cus c => intro x h; cases h
theorem rd_kn (ver : Int) (c : Kn) (x : c.T) (hp : c.posE ver = true) (hw : c.wf ver x) (hset : c.set x = true) (nn : Bool) : ∃ y, c.rd ver c.dfl ⟨c.wr ver x, false, nn⟩ = .ok y ∧ c.wr ver y = c.wr ver x ∧ c.set y = true ∧ c.TagsOk tagsOk y := by
  cases c with
  | prim p d =>
    obtain ⟨n1, e1⟩ := rd_prim p true x hw [] nn
    rw [List.append_nil] at e1
    refine ⟨x, ?_, rfl, hset, trivial⟩
    show KO.of (some (p.rd true ⟨p.wr true x, false, nn⟩)) = _
    rw [e1]; rfl
  | str T PT sz df sm mk e =>
    obtain ⟨y, n1, e1, e2, e3, e4⟩ := rd_flat ver e x hp hw [] nn
    rw [List.append_nil] at e1
    refine ⟨y, ?_, e2, ?_, e3⟩
    · show KO.of (e.rd ver true ⟨e.wr ver true x, false, nn⟩) = _
      rw [e1]; rfl
    · have h' : (!e.isD x) = true := hset
      show (!e.isD y) = true
      rw [e4]; exact h'
  | arr sT T PT sz df e =>
    have hp' : e.pos ver true = true ∧ e.posE ver true = true := by simpa [Kn.posE] using hp
    obtain ⟨ha, hW⟩ := hw
    obtain ⟨b, n1, e1, e1', eT⟩ := rd_arr (f := e.rd ver true) (g := e.wr ver true) (W := e.wf ver true) (T := e.TagsOk tagsOk) (fun x hx r nn => rd_sch ver true e x hp'.2 hx r nn) (fun x hx => sch_pos ver true e x hp'.1 hx) (nul := none) (ver := ver) (fl := true) x ha hW [] nn
    rw [List.append_nil] at e1
    have hne : (x.getD []).length ≠ 0 := by
      intro h0
      have h1 : x.getD [] = [] := List.length_eq_zero_iff.1 h0
      have hs : (!(x.getD []).isEmpty) = true := hset
      rw [h1] at hs; cases hs
    have hflat := flat_len (g := e.wr ver true) (x.getD []) (fun z hz => sch_pos ver true e z hp'.1 (hW z hz))
    refine ⟨b, ?_, e1', ?_, fun i y hy => eT y (List.mem_of_getElem? hy)⟩
    · have hl : (lenRd true ⟨lenW none true (x.getD []).length x.isNone ++ (x.getD []).flatMap (e.wr ver true), false, nn⟩).2.bad = false := by
        rw [lenRd_W ha.1 hflat]
      show (if (lenRd true ⟨lenW none true (x.getD []).length x.isNone ++ (x.getD []).flatMap (e.wr ver true), false, nn⟩).2.bad = true then KO.err else if (none : Option (List e.T)).isSome = true then KO.dup else KO.of (arrRd none ver true (e.rd ver true) ⟨lenW none true (x.getD []).length x.isNone ++ (x.getD []).flatMap (e.wr ver true), false, nn⟩)) = _
      rw [hl, e1]; rfl
    · show (!(b.getD []).isEmpty) = true
      cases hb : b.getD [] with
      | cons y l => rfl
      | nil =>
        exfalso
        rw [hb] at e1'
        have h3 := congrArg List.length e1'
        simp only [lenW, if_true, wCLen, List.length_nil, List.flatMap_nil, List.append_nil, List.length_append] at h3
        have h4 : (uvOut ((0 + 1) % 4294967296)).length = 1 := by decide
        have h5 : 1 ≤ (uvOut (((x.getD []).length + 1) % 4294967296)).length := by simp only [uvOut]; exact uvE_pos
        rw [h4] at h3
        omega
/-- unknown tags, one behind the other -/
theorem kLoop_tags {σ : Type} (st : Nat → σ → RS → KO (Option σ)) (s : σ) : ∀ (l acc : TagL) (r : List UInt8) (nn : Bool), (∀ t ∈ l, ∀ rs, st t.1 s rs = .ok none) → (∀ x ∈ l, x.1 < 4294967296 ∧ x.2.length ≤ 32767) → ((acc ++ l).map (·.1)).Nodup →
    ∃ nn', kLoop st l.length s acc ⟨l.flatMap tagW ++ r, false, nn⟩ = some (some (s, acc ++ l), ⟨r, false, nn'⟩)
  | [], acc, r, nn, _, _, _ => ⟨nn, by simp [kLoop]⟩
  | x :: l, acc, r, nn, hst, h, hn => by
    have hnew : ∀ y ∈ acc, y.1 ≠ x.1 := by
      intro y hy he
      rw [List.map_append, List.nodup_append] at hn
      exact hn.2.2 _ (List.mem_map.2 ⟨y, hy, rfl⟩) _ (List.mem_map.2 ⟨x, List.mem_cons_self, rfl⟩) he
    obtain ⟨k, v⟩ := x
    have hx := h (k, v) List.mem_cons_self
    simp only at hx
    obtain ⟨n2, e2⟩ := kLoop_tags st s l (acc ++ [(k, v)]) r true (fun t ht => hst t (List.mem_cons_of_mem _ ht)) (fun y hy => h y (List.mem_cons_of_mem _ hy)) (by simpa using hn)
    refine ⟨n2, ?_⟩
    have e : v.length % 4294967296 = v.length := Nat.mod_eq_of_lt (by omega)
    simp only [List.flatMap_cons, List.append_assoc, List.length_cons, kLoop, tagW, e]
    rw [rdUv_out hx.1]
    simp only
    rw [rdUv_out (by omega)]
    simp only
    rw [span_all rfl]
    simp only
    rw [hst (k, v) List.mem_cons_self]
    simp only
    rw [setTag_new k v acc hnew, e2]
    simp
theorem kLoop_W {σ : Type} (ver : Int) : ∀ (l : List KF) (x : KsT l) (st : Nat → σ → RS → KO (Option σ)) (put : KsT l → σ) (u : TagL) (r : List UInt8) (nn : Bool),
    (∀ key ∈ l.map (·.num), ∀ s rs, st key (put s) rs = (ksStep ver l key s rs).map (Option.map put)) → (∀ t ∈ u, ∀ s rs, st t.1 (put s) rs = .ok none) →
    (l.map (·.num)).Nodup → (∀ f ∈ l, f.num < 4294967296 ∧ f.c.posE ver = true) → KsWf ver l x → (∀ y ∈ u, y.1 < 4294967296 ∧ y.2.length ≤ 32767) → (u.map (·.1)).Nodup →
    ∃ y nn', kLoop st (ksN l x + u.length) (put (ksDfl l)) [] ⟨ksW ver l x ++ (u.flatMap tagW ++ r), false, nn⟩ = some (some (put y, u), ⟨r, false, nn'⟩) ∧ ksW ver l y = ksW ver l x ∧ ksN l y = ksN l x ∧ KsOk tagsOk l y
  | [], x, st, put, u, r, nn, hst, hun, _, _, _, hu, hnu => by
    obtain ⟨n1, e1⟩ := kLoop_tags st (put ()) u [] r nn (fun t ht rs => hun t ht () rs) hu (by simpa using hnu)
    refine ⟨(), n1, ?_, rfl, rfl, trivial⟩
    simpa [ksN, ksW, ksDfl] using e1
  | f :: l, (v, xr), st, put, u, r, nn, hst, hun, hnd, hf, ⟨hw, hwr⟩, hu, hnu => by
    simp only [List.map_cons, List.nodup_cons] at hnd
    have hf0 := hf f List.mem_cons_self
    have step' : ∀ (y0 : f.c.T), ∀ key ∈ l.map (·.num), ∀ s rs, st key (put (y0, s)) rs = (ksStep ver l key s rs).map (Option.map fun r => put (y0, r)) := by
      intro y0 key hk s rs
      rw [hst key (List.mem_cons_of_mem _ hk) (y0, s) rs]
      have hne : ¬ key = f.num := fun h => hnd.1 (h ▸ hk)
      simp only [ksStep, if_neg hne, KO.map_map]
      congr 1
      funext a
      cases a <;> rfl
    have IH := fun (y0 : f.c.T) (nn : Bool) => kLoop_W ver l xr st (fun r => put (y0, r)) u r nn (step' y0) (fun t ht s rs => hun t ht (y0, s) rs) hnd.2 (fun g hg => hf g (List.mem_cons_of_mem _ hg)) hwr hu hnu
    by_cases hs : f.c.set v = true
    · obtain ⟨y0, e1, e2, e3, e4⟩ := rd_kn ver f.c v hf0.2 hw.1 hs true
      obtain ⟨yr, n2, a1, a2, a3, a4⟩ := IH y0 true
      refine ⟨(y0, yr), n2, ?_, ?_, ?_, e4, a4⟩
      · have hn : ksN (f :: l) (v, xr) + u.length = (ksN l xr + u.length) + 1 := by simp only [ksN, hs, if_true]; omega
        have hlt := hw.2 hs
        have em : (f.c.wr ver v).length % 4294967296 = (f.c.wr ver v).length := Nat.mod_eq_of_lt hlt
        rw [hn]
        simp only [ksW, hs, if_true, kTag, List.append_assoc, kLoop, em, ksDfl]
        rw [rdUv_out hf0.1]
        simp only
        rw [rdUv_out hlt]
        simp only
        rw [span_all rfl]
        simp only
        rw [hst f.num (by simp) (f.c.dfl, ksDfl l)]
        simp only [ksStep, if_true, e1, KO.map, Option.map_some]
        exact a1
      · simp only [ksW, hs, e3, if_true, kTag, e2, a2]
      · simp only [ksN, hs, e3, a3]
    · have hs' : f.c.set v = false := by simpa using hs
      obtain ⟨yr, n2, a1, a2, a3, a4⟩ := IH f.c.dfl nn
      refine ⟨(f.c.dfl, yr), n2, ?_, ?_, ?_, ?_, a4⟩
      · simpa only [ksN, ksW, hs', Bool.false_eq_true, if_false, List.nil_append, Nat.zero_add, ksDfl] using a1
      · simp only [ksW, hs', f.c.set_dfl, Bool.false_eq_true, if_false, a2]
      · simp only [ksN, hs', f.c.set_dfl, a3]
      · have ok0 : tagsOk [] := ⟨by simp, by simp, by simp⟩
        cases hc : f.c with
        | prim p d => trivial
        | arr sT T PT sz df e => intro i y hy; simp [Kn.dfl] at hy
        | str T PT sz df sm mk e => exact Sch.TagsOk_mono (fun l h => by subst h; exact ok0) e e.tagsD
/-- what the section's parts must be -/
structure SecOk (ver : Int) (l : List KF) : Prop where
  nd : (l.map (·.num)).Nodup
  ok : ∀ f ∈ l, f.num < 4294967296 ∧ f.c.posE ver = true
  len : l.length ≤ 1000
theorem ksN_le : ∀ (l : List KF) (x : KsT l), ksN l x ≤ l.length
  | [], _ => Nat.le_refl _
  | f :: l, (v, r) => by have := ksN_le l r; simp only [ksN, List.length_cons]; split <;> omega
theorem rd_sec {ver : Int} {l : List KF} (hl : SecOk ver l) (x : KsT l) (u : TagL) (hw : KsWf ver l x) (hu : tagsOk u) (hun : ∀ t ∈ u, t.1 ∉ l.map (·.num)) (r : List UInt8) (nn : Bool) :
    ∃ y nn', secRd ver true l ⟨secW ver true l x u ++ r, false, nn⟩ = some (some (y, sortTags u), ⟨r, false, nn'⟩) ∧ secW ver true l y (sortTags u) = secW ver true l x u ∧ KsOk tagsOk l y := by
  have hn := ksN_le l x
  have h1 := hl.len
  have h2 := hu.1
  have hs := tagsOk_sort hu
  have hunk : ∀ (key : Nat), key ∉ l.map (·.num) → ∀ (l' : List KF), (∀ f ∈ l', f.num ∈ l.map (·.num)) → ∀ (s : KsT l') rs, ksStep ver l' key s rs = .ok none := by
    intro key hk l'
    induction l' with
    | nil => intro _ s rs; rfl
    | cons f l' ih =>
      intro hsub s rs
      obtain ⟨v, s⟩ := s
      have : ¬ key = f.num := fun h => hk (h ▸ hsub f List.mem_cons_self)
      simp only [ksStep, if_neg this, ih (fun g hg => hsub g (List.mem_cons_of_mem _ hg))]
      rfl
  obtain ⟨y, n1, e1, e2, e3, e4⟩ := kLoop_W ver l x (ksStep ver l) id (sortTags u) r true (fun key hk s rs => by
      have h : KO.map (Option.map id) (ksStep ver l key s rs) = ksStep ver l key s rs := by
        cases ksStep ver l key s rs with
        | ok o => cases o <;> rfl
        | err => rfl
        | dup => rfl
      exact h.symm)
    (fun t ht s rs => hunk t.1 (hun t ((sortTags_mem u t).1 ht)) l (fun f hf => List.mem_map.2 ⟨f, hf, rfl⟩) s rs) hl.nd hl.ok hw hs.2.2 hs.2.1
  refine ⟨y, n1, ?_, ?_, e4⟩
  · have hm : (ksN l x + u.length) % 4294967296 = ksN l x + (sortTags u).length := by rw [sortTags_len]; omega
    simp only [secRd, secW, if_true, List.append_assoc, hm]
    rw [rdUv_out (by rw [sortTags_len]; omega)]
    have e0 : tagsOut u = (sortTags u).flatMap tagW := rfl
    rw [e0]
    exact e1
  · simp only [secW, if_true, e2, e3, sortTags_len, tagsOut_sort]
theorem fine_uv {rs : RS} (h : rs.fine) : (rdUv rs).2.fine := by
  unfold rdUv
  split
  · rename_i n r hu
    intro hb
    have := h hb
    rw [this] at hu
    cases hu
  · intro _; rfl
theorem fine_span {l : Int} {rs : RS} (h : rs.fine) : (rdSpan l rs).2.fine := by
  unfold rdSpan
  split
  · intro _; rfl
  · intro hb
    have := h hb
    simp [this]
end Go.Kg

set_option linter.unusedSimpArgs false
set_option linter.unusedVariables false
set_option linter.unusedSectionVars false
namespace Go.Kg
open Go
def Fine {α : Type} (g : RS → α × RS) : Prop := ∀ rs, rs.fine → (g rs).2.fine
theorem Fine.pure {α : Type} (x : Bool → α) : Fine (fun rs => (x rs.nn, rs)) := fun rs h => h
theorem Fine.bind {α β : Type} {g : RS → α × RS} {h : α → RS → β × RS} (hg : Fine g) (hh : ∀ a, Fine (h a)) : Fine (fun rs => h (g rs).1 (g rs).2) := fun rs hf => hh _ _ (hg rs hf)
theorem Fine.map {α β : Type} {g : RS → α × RS} (hg : Fine g) (f : α → Bool → β) : Fine (fun rs => (f (g rs).1 (g rs).2.nn, (g rs).2)) := fun rs hf => hg rs hf
theorem fine_fail : RS.fail.fine := fun _ => rfl
theorem fine_fixed (k : Nat) : Fine (rdFixed k) := by
  intro rs h
  unfold rdFixed
  split
  · exact fine_fail
  · intro hb
    have := h hb
    simp [this]
theorem fine_cap (n : Int) : Fine (capLen n) := by
  intro rs h
  unfold capLen
  split
  · exact fine_fail
  · exact h
theorem fine_lenRd (fl : Bool) : Fine (lenRd fl) := by
  cases fl
  · exact (fine_fixed 4).bind (h := fun (a : Nat) rs => capLen (i32 a) rs) (fun a => fine_cap _)
  · exact Fine.bind (g := rdUv) (fun rs h => fine_uv h) (h := fun (a : Nat) rs => capLen (IntKind.i32.wrap (i32 a - 1)) rs) (fun a => fine_cap _)
theorem fine_spanR (l : Int) : Fine (rdSpan l) := fun rs h => fine_span h
theorem fine_uvR : Fine rdUv := fun rs h => fine_uv h
theorem fine_opt {g : RS → List UInt8 × RS} (h : Fine g) : Fine (fun rs => optOf (g rs)) := fun rs hf => h rs hf
theorem fine_prim (p : Prim) (fl : Bool) : Fine (p.rd fl) := by
  cases p with
  | bool => exact (fine_fixed 1).map (fun a _ => boolOf a)
  | i8 => exact (fine_fixed 1).map (fun a _ => IntKind.i8.wrap a)
  | i16 => exact (fine_fixed 2).map (fun a _ => IntKind.i16.wrap a)
  | u16 => exact (fine_fixed 2).map (fun a _ => (a : Int))
  | i32 => exact (fine_fixed 4).map (fun a _ => IntKind.i32.wrap a)
  | i64 => exact (fine_fixed 8).map (fun a _ => IntKind.i64.wrap a)
  | uuid => exact (fine_spanR 16).map (fun a _ => if a.length = 16 then a else List.replicate 16 0)
  | str =>
    cases fl
    · exact (fine_fixed 2).bind (h := fun (a : Nat) rs => rdSpan (i16 a) rs) (fun a => fine_spanR _)
    · exact fine_uvR.bind (h := fun (a : Nat) rs => rdSpan ((a : Int) - 1) rs) (fun a => fine_spanR _)
  | nstr =>
    cases fl
    · refine (fine_fixed 2).bind (h := fun (a : Nat) rs => if i16 a < 0 then (none, rs) else (some (rdSpan (i16 a) rs).1, (rdSpan (i16 a) rs).2)) (fun a => ?_)
      by_cases h : i16 a < 0
      · simp only [if_pos h]; exact Fine.pure (fun _ => none)
      · simp only [if_neg h]; exact (fine_spanR _).map (fun a _ => some a)
    · refine fine_uvR.bind (h := fun (a : Nat) rs => if (a : Int) - 1 < 0 then (none, rs) else (some (rdSpan ((a : Int) - 1) rs).1, (rdSpan ((a : Int) - 1) rs).2)) (fun a => ?_)
      by_cases h : (a : Int) - 1 < 0
      · simp only [if_pos h]; exact Fine.pure (fun _ => none)
      · simp only [if_neg h]; exact (fine_spanR _).map (fun a _ => some a)
  | bytes =>
    cases fl
    · refine (fine_fixed 4).bind (h := fun (a : Nat) rs => if i32 a = -1 then ([], rs) else rdSpan (i32 a) rs) (fun a => ?_)
      by_cases h : i32 a = -1
      · simp only [if_pos h]; exact Fine.pure (fun _ => [])
      · simp only [if_neg h]; exact fine_spanR _
    · refine fine_uvR.bind (h := fun (a : Nat) rs => if a = 0 then ([], rs) else rdSpan ((a : Int) - 1) rs) (fun a => ?_)
      by_cases h : a = 0
      · simp only [if_pos h]; exact Fine.pure (fun _ => [])
      · simp only [if_neg h]; exact fine_spanR _
  | nbytes =>
    cases fl
    · refine (fine_fixed 4).bind (h := fun (a : Nat) rs => if i32 a < 0 then (none, rs) else optOf (rdSpan (i32 a) rs)) (fun a => ?_)
      by_cases h : i32 a < 0
      · simp only [if_pos h]; exact Fine.pure (fun _ => none)
      · simp only [if_neg h]; exact fine_opt (fine_spanR _)
    · refine fine_uvR.bind (h := fun (a : Nat) rs => if (a : Int) - 1 < 0 then (none, rs) else optOf (rdSpan ((a : Int) - 1) rs)) (fun a => ?_)
      by_cases h : (a : Int) - 1 < 0
      · simp only [if_pos h]; exact Fine.pure (fun _ => none)
      · simp only [if_neg h]; exact fine_opt (fine_spanR _)
theorem fine_tag (l : TagL) : Fine (rdTag l) := fun rs h => fine_span (fine_uv (fine_uv h))
theorem fine_tagN : ∀ (n : Nat) (l : TagL), Fine (rdTagN n l)
  | 0, l => fun rs h => h
  | n + 1, l => fun rs h => fine_tagN n _ _ (fine_tag l rs h)
theorem fine_tags : Fine rdTags := fun rs h => fine_tagN _ _ _ (fine_uv h)
theorem fine_N {α : Type} {f : RS → Option (α × RS)} (hf : FineO f) : ∀ n, FineO (rdN f n)
  | 0 => fun rs y rs' h e => by simp only [rdN, Option.some.injEq, Prod.mk.injEq] at e; exact e.2 ▸ h
  | n + 1 => by
    intro rs y rs' h e
    simp only [rdN] at e
    split at e
    · cases e
    · rename_i x rs1 h1
      split at e
      · cases e
      · rename_i l rs2 h2
        simp only [Option.some.injEq, Prod.mk.injEq] at e
        obtain ⟨_, rfl⟩ := e
        exact fine_N hf n _ _ _ (hf _ _ _ h h1) h2
theorem fine_arr {α : Type} {nul : Option Nat} {ver : Int} {fl : Bool} {f : RS → Option (α × RS)} (hf : FineO f) : FineO (arrRd nul ver fl f) := by
  intro rs y rs' h e
  have hl := fine_lenRd fl rs h
  simp only [arrRd] at e
  split at e
  · cases e
  · split at e
    · split at e
      · cases e
      · rename_i l rs2 h2
        simp only [Option.some.injEq, Prod.mk.injEq] at e
        obtain ⟨_, rfl⟩ := e
        exact fine_N hf _ _ _ _ hl h2
    · simp only [Option.some.injEq, Prod.mk.injEq] at e
      obtain ⟨_, rfl⟩ := e
      exact hl
theorem fine_optRd {α : Type} {f : RS → Option (α × RS)} (hf : FineO f) : FineO (optRd f) := by
  intro rs y rs' h e
  have hl := fine_prim .i8 false rs h
  simp only [optRd] at e
  split at e
  · simp only [Option.some.injEq, Prod.mk.injEq] at e; obtain ⟨_, rfl⟩ := e; exact hl
  · split at e
    · simp only [Option.some.injEq, Prod.mk.injEq] at e; obtain ⟨_, rfl⟩ := e; exact hl
    · obtain ⟨⟨a, r1⟩, e1, e2⟩ := Option.map_eq_some_iff.1 e
      simp only [Prod.mk.injEq] at e2
      obtain ⟨_, rfl⟩ := e2
      exact hf _ _ _ hl e1
theorem FineO.mapB {α β : Type} {o : Option (α × RS)} {f : α → β} {rs' : RS} {y : β} (h : ∀ x r, o = some (x, r) → r.fine) (e : (o.map fun y => (f y.1, y.2)) = some (y, rs')) : rs'.fine := by
  obtain ⟨⟨a, r1⟩, e1, e2⟩ := Option.map_eq_some_iff.1 e
  simp only [Prod.mk.injEq] at e2
  obtain ⟨_, rfl⟩ := e2
  exact h _ _ e1
theorem fine_sch (ver : Int) (fl : Bool) : ∀ S : Sch, FineO (S.rd ver fl) := by
  intro S
  induction S with
  | fin => intro rs y rs' h e; cases e; exact h
  | tags k o =>
    intro rs y rs' h e
    have e' : (if fl then rdTags rs else ([], rs)) = (y, rs') := Option.some.inj e
    cases fl
    · cases e'; exact h
    · simp only [if_true] at e'
      have := fine_tags rs h
      rw [e'] at this; exact this
  | prim g k o p en d rest ih =>
    intro rs y rs' h e
    simp only [Sch.rd] at e
    split at e
    · exact FineO.mapB (f := fun y => ((p.rd fl rs).1, y)) (fun x r hx => ih _ _ _ (fine_prim p fl rs h) hx) e
    · exact FineO.mapB (f := fun y => (p.dfl d, y)) (fun x r hx => ih _ _ _ h hx) e
  | arrP g k o sT nul p rest ih =>
    intro rs y rs' h e
    simp only [Sch.rd] at e
    split at e
    · split at e
      · cases e
      · rename_i a rs1 h1
        exact FineO.mapB (f := fun y => (a, y)) (fun x r hx => ih _ _ _ (fine_arr (f := fun rs => some (p.rd fl rs)) (fun rs y rs' h e => by
          have e' : p.rd fl rs = (y, rs') := Option.some.inj e
          have := fine_prim p fl rs h
          rw [e'] at this; exact this) _ _ _ h h1) hx) e
    · exact FineO.mapB (f := fun y => (none, y)) (fun x r hx => ih _ _ _ h hx) e
  | arrS g k o sT nul T PT sz df S rest ihe ih =>
    intro rs y rs' h e
    simp only [Sch.rd] at e
    split at e
    · split at e
      · cases e
      · rename_i a rs1 h1
        exact FineO.mapB (f := fun y => (a, y)) (fun x r hx => ih _ _ _ (fine_arr ihe _ _ _ h h1) hx) e
    · exact FineO.mapB (f := fun y => (none, y)) (fun x r hx => ih _ _ _ h hx) e
  | sub g k o T PT sz df S rest ihe ih =>
    intro rs y rs' h e
    simp only [Sch.rd] at e
    split at e
    · split at e
      · cases e
      · rename_i a rs1 h1
        exact FineO.mapB (f := fun y => (a, y)) (fun x r hx => ih _ _ _ (ihe _ _ _ h h1) hx) e
    · exact FineO.mapB (f := fun y => (S.dfl, y)) (fun x r hx => ih _ _ _ h hx) e
  | opt g k o T PT PP sz df S rest ihe ih =>
    intro rs y rs' h e
    simp only [Sch.rd] at e
    split at e
    · split at e
      · cases e
      · rename_i a rs1 h1
        exact FineO.mapB (f := fun y => (a, y)) (fun x r hx => ih _ _ _ (fine_optRd ihe _ _ _ h h1) hx) e
    · exact FineO.mapB (f := fun y => (none, y)) (fun x r hx => ih _ _ _ h hx) e
  | cus c => exact c.fine ver fl
/-- S: its plain fields, up to fin; ks: its known tags; tk, to: where the unknown ones stand. -/
structure KM where
  S : Sch
  ks : List KF
  tk : Nat
  to : Nat
def KM.T (M : KM) : Type := M.S.T × KsT M.ks × TagL
def KM.wr (ver : Int) (fl : Bool) (M : KM) (x : M.T) : List UInt8 := M.S.wr ver fl x.1 ++ secW ver fl M.ks x.2.1 x.2.2
/-- some (none, _): as in kLoop -/
def KM.rd (ver : Int) (fl : Bool) (M : KM) (rs : RS) : Option (Option M.T × RS) := (M.S.rd ver fl rs).bind fun a => (secRd ver fl M.ks a.2).map fun b => (b.1.map fun y => (a.1, y.1, y.2), b.2)
def KM.TagsOk (ok : TagL → Prop) (M : KM) (x : M.T) : Prop := M.S.TagsOk ok x.1 ∧ KsOk ok M.ks x.2.1 ∧ ok x.2.2
structure KM.Ok (ver : Int) (fl : Bool) (M : KM) : Prop where
  S : M.S.posE ver fl = true
  sec : fl = true → SecOk ver M.ks
structure KM.wf (ver : Int) (fl : Bool) (M : KM) (x : M.T) : Prop where
  S : M.S.wf ver fl x.1
  ks : fl = true → KsWf ver M.ks x.2.1
  u : fl = true → tagsOk x.2.2
  un : fl = true → ∀ t ∈ x.2.2, t.1 ∉ M.ks.map (·.num)
theorem KsOk_dfl : ∀ l : List KF, KsOk tagsOk l (ksDfl l)
  | [] => trivial
  | f :: l => by
    have ok0 : tagsOk [] := ⟨by simp, by simp, by simp⟩
    refine ⟨?_, KsOk_dfl l⟩
    cases hc : f.c with
    | prim p d => trivial
    | arr sT T PT sz df e => intro i y hy; simp [Kn.dfl] at hy
    | str T PT sz df sm mk e => exact Sch.TagsOk_mono (fun l h => by subst h; exact ok0) e e.tagsD
end Go.Kg

set_option linter.unusedSimpArgs false
set_option linter.unusedVariables false
namespace Go.Kg
open Go
def Prim.fR (E : Env) : Prim → Bool → Nat
  | .bool, _ => E.f_pkbin_Reader_Bool
  | .i8, _ => E.f_pkbin_Reader_Int8
  | .i16, _ => E.f_pkbin_Reader_Int16
  | .u16, _ => E.f_pkbin_Reader_Uint16
  | .i32, _ => E.f_pkbin_Reader_Int32
  | .i64, _ => E.f_pkbin_Reader_Int64
  | .uuid, _ => E.f_pkbin_Reader_Uuid
  | .str, false => E.f_pkbin_Reader_String
  | .str, true => E.f_pkbin_Reader_CompactString
  | .nstr, false => E.f_pkbin_Reader_NullableString
  | .nstr, true => E.f_pkbin_Reader_CompactNullableString
  | .bytes, false => E.f_pkbin_Reader_Bytes
  | .bytes, true => E.f_pkbin_Reader_CompactBytes
  | .nbytes, false => E.f_pkbin_Reader_NullableBytes
  | .nbytes, true => E.f_pkbin_Reader_CompactNullableBytes
def Prim.fU (C : CfgR) : Prim → Bool → Nat
  | .str, false => C.u.1
  | .str, true => C.u.2.1
  | .nstr, false => C.u.2.2.1
  | .nstr, true => C.u.2.2.2
  | _, _ => 0
/-- v = b.F() -/
def callR (C : CfgR) (p : Prim) (f l t : Nat) : Ir :=
  .reg (⟨none, some t, .call { callee := .value (.func f), args := #[.tmp C.rs], argTypes := #[C.E.tRd] }, p.ty C.E⟩ :: putL C.toCfg p (p.ty C.E) l t)
/-- if the slot s {a} else {b} -/
def condI (C : CfgR) (s t : Nat) (a b : Ir) : Ir := .seq (.reg [⟨none, some t, .move (.tmp s), C.E.tB⟩]) (.cond t a b)
def zeroV : Prim → Value
  | .str => .string ⟨#[]⟩
  | .nstr => .pointer none
  | _ => .slice none 0 0
def Prim.uns : Prim → Bool
  | .str | .nstr => true
  | _ => false
/-- reading into the local l; so many temporaries -/
def readI (C : CfgR) (p : Prim) (l t : Nat) : List Ir :=
  match p with
  | .str => .reg [⟨none, some l, .assign (.const (zeroV p)), p.ty C.E⟩] ::
    [if C.fx then condI C 2 t (condI C 9 (t + 1) (callR C p (p.fU C true) l (t + 2)) (callR C p (p.fU C false) l (t + 3))) (condI C 9 (t + 4) (callR C p (p.fR C.E true) l (t + 5)) (callR C p (p.fR C.E false) l (t + 6)))
      else condI C 2 t (callR C p (p.fU C false) l (t + 1)) (callR C p (p.fR C.E false) l (t + 2))]
  | .nstr => .reg [⟨none, some l, .assign (.const (zeroV p)), p.ty C.E⟩] ::
    [if C.fx then condI C 9 t (condI C 2 (t + 1) (callR C p (p.fU C true) l (t + 2)) (callR C p (p.fR C.E true) l (t + 3))) (condI C 2 (t + 4) (callR C p (p.fU C false) l (t + 5)) (callR C p (p.fR C.E false) l (t + 6)))
      else condI C 2 t (callR C p (p.fU C false) l (t + 1)) (callR C p (p.fR C.E false) l (t + 2))]
  | .bytes | .nbytes => if C.fx then .reg [⟨none, some l, .assign (.const (zeroV p)), p.ty C.E⟩] :: [condI C 9 t (callR C p (p.fR C.E true) l (t + 1)) (callR C p (p.fR C.E false) l (t + 2))]
      else [callR C p (p.fR C.E false) l t]
  | _ => [callR C p (p.fR C.E false) l t]
def readN (C : CfgR) (p : Prim) : Nat :=
  match p with
  | .str | .nstr => if C.fx then 7 else 3
  | .bytes | .nbytes => if C.fx then 3 else 1
  | _ => 1
/-- s.F = v -/
def storeR (C : CfgR) (T PT pv k ty l t : Nat) (p : Prim) : List Ro :=
  [⟨none, some t, .move (.tmp pv), PT⟩, getL C.toCfg p l (t + 1), ⟨none, some (t + 2), .nilCheck (.tmp t), C.E.tNil⟩, ⟨none, some (t + 3), .fieldAddr T (.tmp (t + 2)) k, C.E.tNil⟩, ⟨none, none, .store ty (.tmp (t + 3)) (.tmp (t + 1)), C.E.tNil⟩]
/-- the same of a type's own -/
def storeT (C : CfgR) (T PT pv k ty l t : Nat) : List Ro :=
  [⟨none, some t, .move (.tmp pv), PT⟩, ⟨none, some (t + 1), .move (.tmp l), ty⟩, ⟨none, some (t + 2), .nilCheck (.tmp t), C.E.tNil⟩, ⟨none, some (t + 3), .fieldAddr T (.tmp (t + 2)) k, C.E.tNil⟩, ⟨none, none, .store ty (.tmp (t + 3)) (.tmp (t + 1)), C.E.tNil⟩]
def lenIR (C : CfgR) (l t : Nat) : Ir :=
  let c (f t : Nat) : Ir := .reg [⟨none, some t, .call { callee := .value (.func f), args := #[.tmp C.rs], argTypes := #[C.E.tRd] }, C.E.tI32⟩, ⟨none, some l, .assign (.tmp t), C.E.tI32⟩]
  if C.fx then condI C 9 t (c C.E.f_pkbin_Reader_CompactArrayLen (t + 1)) (c C.E.f_pkbin_Reader_ArrayLen (t + 2)) else c C.E.f_pkbin_Reader_ArrayLen t
def lenIN (C : CfgR) : Nat := if C.fx then 3 else 1
/-- return b.Complete() -/
def completeI (C : CfgR) (t : Nat) : List Ir := [.reg [⟨none, some t, .call { callee := .value (.func C.E.f_pkbin_Reader_Complete), args := #[.tmp C.rs], argTypes := #[C.E.tRd] }, C.E.tErr⟩, ⟨none, some 6, .assign (.tmp t), C.E.tErr⟩], .ret]
def okI (C : CfgR) (t : Nat) : Ir :=
  .seq (.reg [⟨none, some t, .call { callee := .value (.func C.E.f_pkbin_Reader_Ok), args := #[.tmp C.rs], argTypes := #[C.E.tRd] }, C.E.tB⟩, ⟨none, some (t + 1), .unOp .not C.E.tB (.tmp t), C.E.tB⟩]) (.cond (t + 1) (seqL (completeI C (t + 2))) .skip)
/-- if version < m || l == 0 {a = []T{}} -/
def nulI (C : CfgR) (m sT l t : Nat) : Ir :=
  .seq (.reg [⟨none, some t, .move (.tmp 8), C.E.tI16⟩, ⟨none, some (t + 1), .binOp .lss C.E.tI16 (.tmp t) (.const (.int .i16 m)) C.E.tI16, C.E.tB⟩, ⟨none, some (t + 2), .move (.tmp (t + 1)), C.E.tB⟩,
      ⟨some (t + 2, false), some (t + 3), .move (.tmp (l + 2)), C.E.tI32⟩, ⟨some (t + 2, false), some (t + 4), .binOp .eql C.E.tI32 (.tmp (t + 3)) (.const (.int .i32 0)) C.E.tI32, C.E.tB⟩, ⟨none, some (t + 5), .pick (.tmp (t + 2)) (.const (.bool true)) (.tmp (t + 4)), C.E.tB⟩])
    (.cond (t + 5) (.reg [⟨none, some (t + 6), .buildSlice sT 0 #[], sT⟩, ⟨none, some (l + 1), .assign (.tmp (t + 6)), sT⟩]) .skip)
def nulN : Option Nat → Nat
  | none => 0
  | some _ => 7
/-- a list's field, up to the loop: l: v, l + 1: a, l + 2: the length; the loop starts at t + headN -/
def headR (C : CfgR) (T PT pv k sT l t : Nat) (nul : Option Nat) : List Ir :=
  let t1 := t + 5 + lenIN C
  let t2 := t1 + nulN nul
  [loadI C.toCfg T PT pv k sT l t .i8, .reg [⟨none, some (t + 4), .move (.tmp l), sT⟩, ⟨none, some (l + 1), .assign (.tmp (t + 4)), sT⟩], .reg [⟨none, some (l + 2), .assign (.const (.int .i32 0)), C.E.tI32⟩], lenIR C (l + 2) (t + 5)] ++
  (match nul with | none => [] | some m => [nulI C m sT l t1]) ++
  [okI C t2, .reg [⟨none, some (t2 + 3), .move (.tmp (l + 1)), sT⟩, ⟨none, some (t2 + 4), .slice sT (.tmp (t2 + 3)) none (some (.const (.int .i64 0))) none, sT⟩, ⟨none, some (l + 1), .assign (.tmp (t2 + 4)), sT⟩],
   .seq (.reg [⟨none, some (t2 + 5), .move (.tmp (l + 2)), C.E.tI32⟩, ⟨none, some (t2 + 6), .binOp .gtr C.E.tI32 (.tmp (t2 + 5)) (.const (.int .i32 0)) C.E.tI32, C.E.tB⟩])
    (.cond (t2 + 6) (.reg [⟨none, some (t2 + 7), .move (.tmp (l + 1)), sT⟩, ⟨none, some (t2 + 8), .move (.tmp (l + 2)), C.E.tI32⟩,
      ⟨none, some (t2 + 9), .call { callee := .builtin .append, args := #[.tmp (t2 + 7), .tmp (t2 + 8)], argTypes := #[sT, C.E.tI32] }, sT⟩, ⟨none, some (l + 1), .assign (.tmp (t2 + 9)), sT⟩]) .skip)]
def headN (C : CfgR) (nul : Option Nat) : Nat := 5 + lenIN C + nulN nul + 10
/-- for i := int32(0); i < l; i++: the body starts at t + 5 -/
def forI (C : CfgR) (l t k : Nat) (body : Ir) : Ir :=
  .seq (.reg [⟨none, some (l + 3), .assign (.const (.int .i32 0)), C.E.tI32⟩])
    (.block k (.loop (.seq (.seq (.reg [⟨none, some t, .move (.tmp (l + 3)), C.E.tI32⟩, ⟨none, some (t + 1), .move (.tmp (l + 2)), C.E.tI32⟩, ⟨none, some (t + 2), .binOp .lss C.E.tI32 (.tmp t) (.tmp (t + 1)) C.E.tI32, C.E.tB⟩]) (.cond (t + 2) .skip (.exit k)))
      (.seq (.block (k + 1) body) (.reg [⟨none, some (t + 3), .move (.tmp (l + 3)), C.E.tI32⟩, ⟨none, some (t + 4), .binOp .add C.E.tI32 (.tmp (t + 3)) (.const (.int .i32 1)) C.E.tI32, C.E.tI32⟩, ⟨none, some (l + 3), .assign (.tmp (t + 4)), C.E.tI32⟩])))))
/-- v = a; s.F = v -/
def tailR (C : CfgR) (T PT pv k sT l t : Nat) : List Ir :=
  [.reg [⟨none, some t, .move (.tmp (l + 1)), sT⟩, ⟨none, some l, .assign (.tmp t), sT⟩], .reg (storeT C T PT pv k sT l (t + 1))]
/-- v := &a[i]; v.Default(); s := v -/
def elemR (C : CfgR) (sT PT' df l t : Nat) : List Ir :=
  [.reg [⟨none, some t, .move (.tmp (l + 1)), sT⟩, ⟨none, some (t + 1), .move (.tmp (l + 3)), C.E.tI32⟩, ⟨none, some (t + 2), .indexAddr sT (.tmp t) (.tmp (t + 1)), C.E.tNil⟩, ⟨none, some (l + 4), .assign (.tmp (t + 2)), PT'⟩],
   .reg [⟨none, some (t + 3), .move (.tmp (l + 4)), PT'⟩, ⟨none, some (t + 4), .call { callee := .value (.func df), args := #[.tmp (t + 3)], argTypes := #[PT'] }, C.E.tNil⟩],
   .reg [⟨none, some (t + 5), .move (.tmp (l + 4)), PT'⟩, ⟨none, some (l + 5), .assign (.tmp (t + 5)), PT'⟩]]
def storeE (C : CfgR) (p : Prim) (sT l t : Nat) : Ir :=
  .reg [⟨none, some t, .move (.tmp (l + 1)), sT⟩, ⟨none, some (t + 1), .move (.tmp (l + 3)), C.E.tI32⟩, getL C.toCfg p (l + 4) (t + 2), ⟨none, some (t + 3), .indexAddr sT (.tmp t) (.tmp (t + 1)), C.E.tNil⟩, ⟨none, none, .store (p.ty C.E) (.tmp (t + 3)) (.tmp (t + 2)), C.E.tNil⟩]
def tagsR (C : CfgR) (T PT pv k t : Nat) : Ir :=
  condI C 9 t (.reg [⟨none, some (t + 1), .move (.tmp pv), PT⟩, ⟨none, some (t + 2), .call { callee := .value (.func C.E.f_kmsg_internalReadTags), args := #[.tmp C.rs], argTypes := #[C.E.tPRd] }, C.E.t_kmsg_Tags⟩,
    ⟨none, some (t + 3), .nilCheck (.tmp (t + 1)), C.E.tNil⟩, ⟨none, some (t + 4), .fieldAddr T (.tmp (t + 3)) k, C.E.tNil⟩, ⟨none, none, .store C.E.t_kmsg_Tags (.tmp (t + 4)) (.tmp (t + 2)), C.E.tNil⟩]) .skip
/-- v := &s.F; v.Default(); s := v -/
def subR (C : CfgR) (T PT pv k PT' df l t : Nat) : List Ir :=
  [.reg (addrR C.toCfg T PT pv k t ++ [⟨none, some l, .assign (.tmp (t + 2)), PT'⟩]),
   .reg [⟨none, some (t + 3), .move (.tmp l), PT'⟩, ⟨none, some (t + 4), .call { callee := .value (.func df), args := #[.tmp (t + 3)], argTypes := #[PT'] }, C.E.tNil⟩],
   .reg [⟨none, some (t + 5), .move (.tmp l), PT'⟩, ⟨none, some (l + 1), .assign (.tmp (t + 5)), PT'⟩]]
/-- if present != -1 && b.Ok() -/
def presI (C : CfgR) (l t : Nat) (body : Ir) : Ir :=
  .seq (.reg [⟨none, some t, .move (.tmp l), C.E.tI8⟩, ⟨none, some (t + 1), .binOp .neq C.E.tI8 (.tmp t) (.const (.int .i8 (-1))) C.E.tI8, C.E.tB⟩, ⟨none, some (t + 2), .move (.tmp (t + 1)), C.E.tB⟩,
      ⟨some (t + 2, true), some (t + 3), .call { callee := .value (.func C.E.f_pkbin_Reader_Ok), args := #[.tmp C.rs], argTypes := #[C.E.tRd] }, C.E.tB⟩, ⟨none, some (t + 4), .pick (.tmp (t + 2)) (.tmp (t + 3)) (.const (.bool false)), C.E.tB⟩])
    (.cond (t + 4) body .skip)
/-- s.F = new(T'); v := s.F; v.Default(); s := v -/
def optR (C : CfgR) (T PT pv k T' PT' df l t : Nat) : List Ir :=
  [.reg [⟨none, some t, .move (.tmp pv), PT⟩, ⟨none, some (t + 1), .alloc T', PT'⟩, ⟨none, some (t + 2), .nilCheck (.tmp t), C.E.tNil⟩, ⟨none, some (t + 3), .fieldAddr T (.tmp (t + 2)) k, C.E.tNil⟩, ⟨none, none, .store PT' (.tmp (t + 3)) (.tmp (t + 1)), C.E.tNil⟩],
   .reg (addrR C.toCfg T PT pv k (t + 4) ++ [⟨none, some (t + 7), .load PT' (.tmp (t + 6)), PT'⟩, ⟨none, some (l + 1), .assign (.tmp (t + 7)), PT'⟩]),
   .reg [⟨none, some (t + 8), .move (.tmp (l + 1)), PT'⟩, ⟨none, some (t + 9), .call { callee := .value (.func df), args := #[.tmp (t + 8)], argTypes := #[PT'] }, C.E.tNil⟩],
   .reg [⟨none, some (t + 10), .move (.tmp (l + 1)), PT'⟩, ⟨none, some (l + 2), .assign (.tmp (t + 10)), PT'⟩]]
def Sch.genR (C : CfgR) (T PT pv : Nat) : Sch → Ct → List Ir × Ct
  | .fin, c => ([], c)
  | .tags k _, c => ([tagsR C T PT pv k c.t], ⟨c.l, c.t + 5, c.k⟩)
  | .prim g k _ p en _ rest, c =>
    let t := c.t + gdN g
    let (b, c') := if en = 0 then (readI C p c.l t ++ [.reg (storeR C T PT pv k (p.ty C.E) c.l (t + readN C p) p)], (⟨c.l + 1, t + readN C p + 4, c.k⟩ : Ct))
      else ([.reg [⟨none, some c.l, .assign (.const (.int .i8 0)), en⟩], seqL [callR C p (p.fR C.E false) (c.l + 1) t, .reg [⟨none, some (t + 1), .move (.tmp (c.l + 1)), p.ty C.E⟩, ⟨none, some c.l, .assign (.tmp (t + 1)), en⟩]],
        .reg [⟨none, some (t + 2), .move (.tmp c.l), en⟩, ⟨none, some (c.l + 2), .assign (.tmp (t + 2)), en⟩], .reg (storeT C T PT pv k en (c.l + 2) (t + 3))], ⟨c.l + 3, t + 7, c.k⟩)
    let (r, c'') := rest.genR C T PT pv c'
    (gdI (toR C) g c.t (seqL b) :: r, c'')
  | .arrP g k _ sT nul p rest, c =>
    let t := c.t + gdN g
    let t1 := t + headN C nul
    let body := seqL (readI C p (c.l + 4) (t1 + 5) ++ [storeE C p sT c.l (t1 + 5 + readN C p)])
    let t2 := t1 + 5 + readN C p + 4
    let (r, c'') := rest.genR C T PT pv ⟨c.l + 5, t2 + 5, c.k + 2⟩
    (gdI (toR C) g c.t (seqL (headR C T PT pv k sT c.l t nul ++ [forI C c.l t1 c.k body] ++ tailR C T PT pv k sT c.l t2)) :: r, c'')
  | .arrS g k _ sT nul T' PT' _ df e rest, c =>
    let t := c.t + gdN g
    let t1 := t + headN C nul
    let (eb, c1) := e.genR C T' PT' (c.l + 5) ⟨c.l + 6, t1 + 11, c.k + 2⟩
    let body := seqL (elemR C sT PT' df c.l (t1 + 5) ++ eb)
    let (r, c'') := rest.genR C T PT pv ⟨c1.l, c1.t + 5, c1.k⟩
    (gdI (toR C) g c.t (seqL (headR C T PT pv k sT c.l t nul ++ [forI C c.l t1 c.k body] ++ tailR C T PT pv k sT c.l c1.t)) :: r, c'')
  | .sub g k _ T' PT' _ df e rest, c =>
    let t := c.t + gdN g
    let (eb, c1) := e.genR C T' PT' (c.l + 1) ⟨c.l + 2, t + 6, c.k⟩
    let (r, c'') := rest.genR C T PT pv c1
    (gdI (toR C) g c.t (seqL (subR C T PT pv k PT' df c.l t ++ eb)) :: r, c'')
  | .opt g k _ T' PT' _ _ df e rest, c =>
    let t := c.t + gdN g
    let (eb, c1) := e.genR C T' PT' (c.l + 2) ⟨c.l + 3, t + 17, c.k⟩
    let (r, c'') := rest.genR C T PT pv c1
    (gdI (toR C) g c.t (seqL [callR C .i8 (Prim.i8.fR C.E false) c.l t, presI C c.l (t + 1) (seqL (optR C T PT pv k T' PT' df c.l (t + 6) ++ eb))]) :: r, c'')
  | .cus u, c => u.genR C T PT pv c
where toR (C : CfgR) : Cfg := { C.toCfg with sv := 8, sf := 9 }
/-- readFrom. kv: the version is read first; df: the number of Default; nl: how many locals there are -/
def ctR (C : CfgR) (kv : Bool) (nl : Nat) : Ct := ⟨if C.fx then 11 else 10, nl + 9 + (if kv then 4 else 0) + (if C.fx then 4 else 1), 0⟩
def msgR (C : CfgR) (T PT flex df : Nat) (kv : Bool) (S : Sch) (nl : Nat) : Ir :=
  let t := nl + (if kv then 4 else 0)
  let h : List Ir := [.reg [⟨none, some 6, .assign (.const .nilIface), C.E.tErr⟩],
    .reg [⟨none, some nl, .move (.tmp 0), PT⟩, ⟨none, some (nl + 1), .call { callee := .value (.func df), args := #[.tmp nl], argTypes := #[PT] }, C.E.tNil⟩],
    .reg [⟨none, some (nl + 2), .move (.tmp 1), C.E.tBs⟩, ⟨none, some (nl + 3), .build C.E.tRd #[(0, .tmp (nl + 2))], C.E.tRd⟩, ⟨none, some 7, .alloc C.E.tRd, C.E.tNil⟩, ⟨none, none, .store C.E.tRd (.tmp 7) (.tmp (nl + 3)), C.E.tNil⟩]]
  let kvI : List Ir := if kv then [.reg [⟨none, some (nl + 4), .move (.tmp 0), PT⟩, ⟨none, some (nl + 5), .call { callee := .value (.func C.E.f_pkbin_Reader_Int16), args := #[.tmp 7], argTypes := #[C.E.tRd] }, C.E.tI16⟩,
    ⟨none, some (nl + 6), .nilCheck (.tmp (nl + 4)), C.E.tNil⟩, ⟨none, some (nl + 7), .fieldAddr T (.tmp (nl + 6)) 0, C.E.tNil⟩, ⟨none, none, .store C.E.tI16 (.tmp (nl + 7)) (.tmp (nl + 5)), C.E.tNil⟩]] else []
  let v : List Ir := [.reg (addrR C.toCfg T PT 0 0 (t + 4) ++ [⟨none, some (t + 7), .load C.E.tI16 (.tmp (t + 6)), C.E.tI16⟩, ⟨none, some 8, .assign (.tmp (t + 7)), C.E.tI16⟩]),
    .reg [⟨none, some (t + 8), .move (.tmp 8), C.E.tI16⟩]]
  let fl : List Ir := if C.fx then [.reg [⟨none, some (t + 9), .move (.tmp 8), C.E.tI16⟩, ⟨none, some (t + 10), .binOp .geq C.E.tI16 (.tmp (t + 9)) (.const (.int .i16 flex)) C.E.tI16, C.E.tB⟩, ⟨none, some 9, .assign (.tmp (t + 10)), C.E.tB⟩],
    .reg [⟨none, some (t + 11), .move (.tmp 9), C.E.tB⟩]] else []
  let pv := if C.fx then 10 else 9
  let t' := t + (if C.fx then 12 else 9)
  let s : List Ir := [.reg [⟨none, some t', .move (.tmp 0), PT⟩, ⟨none, some pv, .assign (.tmp t'), PT⟩]]
  let (b, c) := S.genR C T PT pv (ctR C kv nl)
  seqL (h ++ kvI ++ v ++ fl ++ s ++ b ++ completeI C c.t)
end Go.Kg

set_option linter.unusedSimpArgs false
set_option linter.unusedVariables false
namespace Go.Kg
open Go
def Prim.constV : Prim → Int → Value
  | .bool, d => .bool (decide (d ≠ 0))
  | .i8, d => .int .i8 d
  | .i16, d => .int .i16 d
  | .u16, d => .int .u16 d
  | .i32, d => .int .i32 d
  | .i64, d => .int .i64 d
  | .nstr, _ => .pointer none
  | .str, _ => .string ⟨#[]⟩
  | _, _ => .slice none 0 0
def Prim.szW : Prim → Nat
  | .bool | .i8 => 1
  | .i16 | .u16 => 2
  | .i32 => 4
  | .i64 => 8
  | .uuid => 16
  | _ => 0
/-- toEncode = append(toEncode, n) -/
def encI (C : Cfg) (sl L n t : Nat) : Ir :=
  .reg [⟨none, some t, .move (.tmp L), sl⟩, ⟨none, some (t + 1), .buildSlice sl 1 #[(0, .const (.int .u32 n))], sl⟩, ⟨none, some (t + 2), .call { callee := .builtin .append, args := #[.tmp t, .tmp (t + 1)], argTypes := #[sl, sl] }, sl⟩, ⟨none, some L, .assign (.tmp (t + 2)), sl⟩]
/-- is it written: the operations, where the answer stands, how many temporaries -/
def preR (C : Cfg) (T PT pv : Nat) (f : KF) (t : Nat) : Ir × Nat :=
  match f.c with
  | .prim .uuid _ => (.reg (addrR C T PT pv f.k t ++ [⟨none, some (t + 3), .load C.E.tUu (.tmp (t + 2)), C.E.tUu⟩, ⟨none, some (t + 4), .build C.E.tUu #[], C.E.tUu⟩, ⟨none, some (t + 5), .binOp .neq C.E.tUu (.tmp (t + 3)) (.tmp (t + 4)) C.E.tUu, C.E.tB⟩]), 5)
  | .prim p d => (.reg (addrR C T PT pv f.k t ++ [⟨none, some (t + 3), .load (p.ty C.E) (.tmp (t + 2)), p.ty C.E⟩, ⟨none, some (t + 4), .binOp .neq (p.ty C.E) (.tmp (t + 3)) (.const (p.constV d)) (p.ty C.E), C.E.tB⟩]), 4)
  | .arr sT _ _ _ _ _ => (.reg (addrR C T PT pv f.k t ++ [⟨none, some (t + 3), .load sT (.tmp (t + 2)), sT⟩, ⟨none, some (t + 4), .call { callee := .builtin .len, args := #[.tmp (t + 3)], argTypes := #[sT] }, C.E.tInt⟩, ⟨none, some (t + 5), .binOp .gtr C.E.tInt (.tmp (t + 4)) (.const (.int .i64 0)) C.E.tInt, C.E.tB⟩]), 5)
  | .str T' _ _ _ same mk _ => (.regH (List.map (fun o : Ro => (true, o)) (addrR C T PT pv f.k t ++ [⟨none, some (t + 3), .load T' (.tmp (t + 2)), T'⟩]) ++
      [(false, ⟨none, some (t + 4), .call { callee := .value (.func mk), args := #[], argTypes := #[] }, T'⟩), (false, ⟨none, some (t + 5), .call { callee := .value (.func same), args := #[.tmp (t + 3), .tmp (t + 4)], argTypes := #[T', T'] }, C.E.tB⟩), (true, ⟨none, some (t + 6), .unOp .not C.E.tB (.tmp (t + 5)), C.E.tB⟩)]), 6)
def preW (C : Cfg) (T PT pv sl L : Nat) : List KF → Nat → List Ir × Nat
  | [], t => ([], t)
  | f :: r, t =>
    let n := (preR C T PT pv f t).2
    let (q, t') := preW C T PT pv sl L r (t + n + 4)
    (.seq (preR C T PT pv f t).1 (.cond (t + n) (encI C sl L f.num (t + n + 1)) .skip) :: q, t')
/-- dst = kbin.AppendUvarint(dst, n) -/
def uvI (C : Cfg) (n t : Nat) : Ir := .reg [⟨none, some t, .move (.tmp 1), C.E.tBs⟩, ⟨none, some (t + 1), .call { callee := .value (.func C.E.f_kbin_AppendUvarint), args := #[.tmp t, .const (.int .u32 n)], argTypes := #[C.E.tBs, C.E.tU32] }, C.E.tBs⟩, ⟨none, some 1, .assign (.tmp (t + 1)), C.E.tBs⟩]
/-- if !sized {dst = kbin.AppendUvarint(dst[:lenAt], uint32(len(dst[lenAt:]))); sized = true; goto lab} -/
def sizedI (C : Cfg) (s lab t : Nat) : Ir :=
  .seq (.reg [⟨none, some t, .move (.tmp s), C.E.tB⟩, ⟨none, some (t + 1), .unOp .not C.E.tB (.tmp t), C.E.tB⟩])
    (.cond (t + 1) (seqL [.regH [(true, ⟨none, some (t + 2), .move (.tmp 1), C.E.tBs⟩), (true, ⟨none, some (t + 3), .move (.tmp (s + 1)), C.E.tInt⟩), (true, ⟨none, some (t + 4), .slice C.E.tBs (.tmp (t + 2)) none (some (.tmp (t + 3))) none, C.E.tBs⟩),
      (true, ⟨none, some (t + 5), .move (.tmp 1), C.E.tBs⟩), (true, ⟨none, some (t + 6), .move (.tmp (s + 1)), C.E.tInt⟩), (true, ⟨none, some (t + 7), .slice C.E.tBs (.tmp (t + 5)) (some (.tmp (t + 6))) none none, C.E.tBs⟩),
      (true, ⟨none, some (t + 8), .call { callee := .builtin .len, args := #[.tmp (t + 7)], argTypes := #[C.E.tBs] }, C.E.tInt⟩), (true, ⟨none, some (t + 9), .convert C.E.tInt C.E.tU32 (.tmp (t + 8)), C.E.tU32⟩),
      (false, ⟨none, some (t + 10), .call { callee := .value (.func C.E.f_kbin_AppendUvarint), args := #[.tmp (t + 4), .tmp (t + 9)], argTypes := #[C.E.tBs, C.E.tU32] }, C.E.tBs⟩), (true, ⟨none, some 1, .assign (.tmp (t + 10)), C.E.tBs⟩)],
      .reg [⟨none, some s, .assign (.const (.bool true)), C.E.tB⟩], .goto lab]) .skip)
/-- a text written twice: the first time to learn its length. l: what is loaded; l + 1: sized; l + 2: lenAt -/
def twiceI (C : Cfg) (load : Ir) (num l lab t : Nat) (body : List Ir) : Ir :=
  .scope (seqL ([load, uvI C num t, .reg [⟨none, some (l + 1), .assign (.const (.bool false)), C.E.tB⟩], .reg [⟨none, some (t + 2), .move (.tmp 1), C.E.tBs⟩, ⟨none, some (t + 3), .call { callee := .builtin .len, args := #[.tmp (t + 2)], argTypes := #[C.E.tBs] }, C.E.tInt⟩, ⟨none, some (l + 2), .assign (.tmp (t + 3)), C.E.tInt⟩], .label lab] ++ body)) lab (.seq .skip (seqL body))
/-- a struct in a variable of its own: its fields' addresses are one operation -/
def tagsWL (C : Cfg) (T l k t : Nat) : Ir :=
  flexI C t (.seq (.reg ([⟨none, some (t + 1), .move (.tmp 1), C.E.tBs⟩, ⟨none, some (t + 2), .fieldAddr T (.tmp l) k, C.E.tNil⟩, ⟨none, some (t + 3), .call { callee := .value (.func C.E.f_pkmsg_Tags_Len), args := #[.tmp (t + 2)], argTypes := #[C.E.t_kmsg_Tags] }, C.E.tInt⟩,
      ⟨none, some (t + 4), .convert C.E.tInt C.E.tU32 (.tmp (t + 3)), C.E.tU32⟩, ⟨none, some (t + 5), .binOp .add C.E.tU32 (.const (.int .u32 0)) (.tmp (t + 4)) C.E.tU32, C.E.tU32⟩,
      ⟨none, some (t + 6), .call { callee := .value (.func C.E.f_kbin_AppendUvarint), args := #[.tmp (t + 1), .tmp (t + 5)], argTypes := #[C.E.tBs, C.E.tU32] }, C.E.tBs⟩, ⟨none, some 1, .assign (.tmp (t + 6)), C.E.tBs⟩]))
    (.reg [⟨none, some (t + 7), .fieldAddr T (.tmp l) k, C.E.tNil⟩, ⟨none, some (t + 8), .move (.tmp 1), C.E.tBs⟩, ⟨none, some (t + 9), .call { callee := .value (.func C.E.f_pkmsg_Tags_AppendEach), args := #[.tmp (t + 7), .tmp (t + 8)], argTypes := #[C.E.t_kmsg_Tags, C.E.tBs] }, C.E.tBs⟩,
      ⟨none, some 1, .assign (.tmp (t + 9)), C.E.tBs⟩])) .skip
def Sch.genWL (C : Cfg) (T l : Nat) : Sch → Ct → List Ir × Ct
  | .tags k _, c => ([tagsWL C T l k c.t], ⟨c.l, c.t + 10, c.k⟩)
  | .prim _ k _ p _ _ rest, c =>
    let (r, c'') := rest.genWL C T l ⟨c.l + 1, c.t + 2 + emitN C p, c.k⟩
    (.seq (.reg [⟨none, some c.t, .fieldAddr T (.tmp l) k, C.E.tNil⟩, ⟨none, some (c.t + 1), .load (p.ty C.E) (.tmp c.t), p.ty C.E⟩, ⟨none, some c.l, .assign (.tmp (c.t + 1)), p.ty C.E⟩]) (emitW C p c.l (c.t + 2)) :: r, c'')
  | _, c => ([], c)
/-- case n: .. ; lab: how many labels there were -/
def caseW (C : Cfg) (T PT pv : Nat) (f : KF) (c : Ct) (lab : Nat) : Ir × Ct × Nat :=
  match f.c with
  | .prim p _ => if p.text then (twiceI C (loadI C T PT pv f.k (p.ty C.E) c.l c.t p) f.num c.l lab (c.t + 4) [emitW C p c.l (c.t + 8), sizedI C (c.l + 1) lab (c.t + 8 + emitN C p)], ⟨c.l + 3, c.t + 8 + emitN C p + 11, c.k⟩, lab + 1)
    else (seqL [loadI C T PT pv f.k (p.ty C.E) c.l c.t p, uvI C f.num (c.t + 4), uvI C p.szW (c.t + 6), emitW C p c.l (c.t + 8)], ⟨c.l + 1, c.t + 8 + emitN C p, c.k⟩, lab)
  | .arr sT T' PT' _ _ e =>
    let t := c.t + 8
    let t1 := t + lenN C none
    let (eb, c1) := e.genW C T' PT' (c.l + 4) ⟨c.l + 5, t1 + 8, c.k + 2⟩
    let body := seqL (idxI C (c.l + 3) (t1 + 4) (t1 + 2) ::
      .reg [⟨none, some (t1 + 5), .move (.tmp c.l), sT⟩, ⟨none, some (t1 + 6), .move (.tmp (c.l + 3)), C.E.tInt⟩, ⟨none, some (t1 + 7), .indexAddr sT (.tmp (t1 + 5)) (.tmp (t1 + 6)), C.E.tNil⟩, ⟨none, some (c.l + 4), .assign (.tmp (t1 + 7)), PT'⟩] :: eb)
    (twiceI C (loadI C T PT pv f.k sT c.l c.t .i8) f.num c.l lab (c.t + 4) [lenI C none sT c.l t, rangeI C sT c.l t1 c1.t c.k body, sizedI C (c.l + 1) lab (c1.t + 1)], ⟨c1.l, c1.t + 12, c1.k⟩, lab + 1)
  | .str T' PT' _ _ _ _ e =>
    let (eb, c1) := e.genWL C T' c.l ⟨c.l + 3, c.t + 8, c.k⟩
    (twiceI C (.reg (addrR C T PT pv f.k c.t ++ [⟨none, some (c.t + 3), .load T' (.tmp (c.t + 2)), T'⟩, ⟨none, some c.l, .alloc T', C.E.tNil⟩, ⟨none, none, .store T' (.tmp c.l) (.tmp (c.t + 3)), C.E.tNil⟩])) f.num c.l lab (c.t + 4) (eb ++ [sizedI C (c.l + 1) lab c1.t]), ⟨c1.l, c1.t + 11, c1.k⟩, lab + 1)
def casesW (C : Cfg) (T PT pv key : Nat) : List KF → Ct → Nat → Ir × Ct
  | [], c, _ => (.skip, c)
  | f :: r, c, lab =>
    let (b, c1, lab1) := caseW C T PT pv f ⟨c.l, c.t + 2, c.k⟩ lab
    let (q, c2) := casesW C T PT pv key r c1 lab1
    (seqL [.reg [⟨none, some (c.t + 1), .binOp .eql C.E.tU32 (.tmp key) (.const (.int .u32 f.num)) C.E.tU32, C.E.tB⟩, ⟨none, some c.t, .assign (.tmp (c.t + 1)), C.E.tB⟩], .cond c.t b q], c2)
/-- The section. sl: []uint32 -/
def secWI (C : Cfg) (T PT pv sl : Nat) (ks : List KF) (tk : Nat) (c : Ct) (lab0 : Nat := 0) : Ir × Ct :=
  let (pre, t) := preW C T PT pv sl c.l ks (c.t + 1)
  let t1 := t + 10
  let (cs, c1) := casesW C T PT pv (t1 + 6) ks ⟨c.l + 3, t1 + 7, c.k + 3⟩ lab0
  let body := seqL [.reg [⟨none, some (t1 + 4), .indexAddr sl (.tmp t1) (.tmp (t1 + 2)), C.E.tNil⟩, ⟨none, some (t1 + 5), .load C.E.tU32 (.tmp (t1 + 4)), C.E.tU32⟩, ⟨none, some (c.l + 2), .assign (.tmp (t1 + 5)), C.E.tU32⟩],
    .reg [⟨none, some (t1 + 6), .move (.tmp (c.l + 2)), C.E.tU32⟩], .block (c.k + 2) cs]
  let t2 := c1.t + 1
  (flexI C c.t (seqL ([.reg [⟨none, some c.l, .assign (.const (.slice none 0 0)), sl⟩]] ++ pre ++
    [.reg ([⟨none, some t, .move (.tmp 1), C.E.tBs⟩, ⟨none, some (t + 1), .move (.tmp c.l), sl⟩, ⟨none, some (t + 2), .call { callee := .builtin .len, args := #[.tmp (t + 1)], argTypes := #[sl] }, C.E.tInt⟩] ++ addrR C T PT pv tk (t + 3) ++
      [⟨none, some (t + 6), .call { callee := .value (.func C.E.f_pkmsg_Tags_Len), args := #[.tmp (t + 5)], argTypes := #[C.E.t_kmsg_Tags] }, C.E.tInt⟩, ⟨none, some (t + 7), .binOp .add C.E.tInt (.tmp (t + 2)) (.tmp (t + 6)) C.E.tInt, C.E.tInt⟩, ⟨none, some (t + 8), .convert C.E.tInt C.E.tU32 (.tmp (t + 7)), C.E.tU32⟩,
       ⟨none, some (t + 9), .call { callee := .value (.func C.E.f_kbin_AppendUvarint), args := #[.tmp t, .tmp (t + 8)], argTypes := #[C.E.tBs, C.E.tU32] }, C.E.tBs⟩, ⟨none, some 1, .assign (.tmp (t + 9)), C.E.tBs⟩]),
     rangeI C sl c.l t1 c1.t c.k body,
     .reg (addrR C T PT pv tk t2 ++ [⟨none, some (t2 + 3), .move (.tmp 1), C.E.tBs⟩, ⟨none, some (t2 + 4), .call { callee := .value (.func C.E.f_pkmsg_Tags_AppendEach), args := #[.tmp (t2 + 2), .tmp (t2 + 3)], argTypes := #[C.E.t_kmsg_Tags, C.E.tBs] }, C.E.tBs⟩, ⟨none, some 1, .assign (.tmp (t2 + 4)), C.E.tBs⟩])])) .skip,
   ⟨c1.l, t2 + 5, c1.k⟩)
/-- a known tag's field, as a schema -/
def KF.sch (f : KF) : Sch := match f.c with
  | .prim p d => .prim ⟨none, none⟩ f.k f.o p 0 d .fin
  | .arr sT T PT sz df e => .arrS ⟨none, none⟩ f.k f.o sT none T PT sz df e .fin
  | .str T PT sz df _ _ e => .sub ⟨none, none⟩ f.k f.o T PT sz df e .fin
def knR (C : CfgR) (T PT pv : Nat) (f : KF) (c : Ct) : List Ir × Ct :=
  match f.c with
  | .prim p _ => (readI C p c.l c.t ++ [.reg (storeR C T PT pv f.k (p.ty C.E) c.l (c.t + readN C p) p)], ⟨c.l + 1, c.t + readN C p + 4, c.k⟩)
  | .arr sT T' PT' _ df e =>
    let t1 := c.t + headN C none
    let (eb, c1) := e.genR C T' PT' (c.l + 5) ⟨c.l + 6, t1 + 11, c.k + 2⟩
    (headR C T PT pv f.k sT c.l c.t none ++ [forI C c.l t1 c.k (seqL (elemR C sT PT' df c.l (t1 + 5) ++ eb))] ++ tailR C T PT pv f.k sT c.l c1.t, ⟨c1.l, c1.t + 5, c1.k⟩)
  | .str T' PT' _ df _ _ e =>
    let (eb, c1) := e.genR C T' PT' (c.l + 1) ⟨c.l + 2, c.t + 6, c.k⟩
    (subR C T PT pv f.k PT' df c.l c.t ++ eb, c1)
theorem knR_sch (C : CfgR) (T PT pv : Nat) (f : KF) (c : Ct) : f.sch.genR C T PT pv c = ([seqL (knR C T PT pv f c).1], (knR C T PT pv f c).2) := by
  obtain ⟨num, k, o, cc⟩ := f
  cases cc <;> rfl
def openI (C : CfgR) (l t : Nat) : Ir :=
  .reg [⟨none, some t, .call { callee := .value (.func C.E.f_pkbin_Reader_Uvarint), args := #[.tmp C.rs], argTypes := #[C.E.tRd] }, C.E.tU32⟩, ⟨none, some (t + 1), .convert C.E.tU32 C.E.tInt (.tmp t), C.E.tInt⟩,
    ⟨none, some (t + 2), .call { callee := .value (.func C.E.f_pkbin_Reader_Span), args := #[.tmp C.rs, .tmp (t + 1)], argTypes := #[C.E.tRd, C.E.tInt] }, C.E.tBs⟩, ⟨none, some (t + 3), .build C.E.tRd #[(0, .tmp (t + 2))], C.E.tRd⟩, ⟨none, some l, .alloc C.E.tRd, C.E.tNil⟩, ⟨none, none, .store C.E.tRd (.tmp l) (.tmp (t + 3)), C.E.tNil⟩]
/-- if err := b.Complete(); err != nil {return err} -/
def errI (C : CfgR) (r l t : Nat) : List Ir :=
  [.reg [⟨none, some t, .call { callee := .value (.func C.E.f_pkbin_Reader_Complete), args := #[.tmp r], argTypes := #[C.E.tRd] }, C.E.tErr⟩, ⟨none, some l, .assign (.tmp t), C.E.tErr⟩],
   .seq (.reg [⟨none, some (t + 1), .move (.tmp l), C.E.tErr⟩, ⟨none, some (t + 2), .binOp .neq C.E.tErr (.tmp (t + 1)) (.const .nilIface) C.E.tErr, C.E.tB⟩]) (.cond (t + 2) (seqL [.reg [⟨none, some (t + 3), .move (.tmp l), C.E.tErr⟩, ⟨none, some 6, .assign (.tmp (t + 3)), C.E.tErr⟩], .ret]) .skip)]
def casesR (C : CfgR) (T PT pv key : Nat) (d : Ir) : List KF → Ct → Ir × Ct
  | [], c => (d, c)
  | f :: r, c =>
    let (b, c1) := knR { C with rs := c.l } T PT pv f ⟨c.l + 1, c.t + 6, c.k⟩
    let (q, c2) := casesR C T PT pv key d r ⟨c1.l + 1, c1.t + 4, c1.k⟩
    (seqL [.reg [⟨none, some (c.t + 1), .binOp .eql C.E.tU32 (.tmp key) (.const (.int .u32 f.num)) C.E.tU32, C.E.tB⟩, ⟨none, some c.t, .assign (.tmp (c.t + 1)), C.E.tB⟩], .cond c.t (seqL ([openI C c.l (c.t + 2)] ++ b ++ errI C c.l c1.l c1.t)) q], c2)
/-- default: s.UnknownTags.Set(key, b.Span(int(b.Uvarint()))) -/
def unkR (C : CfgR) (T PT pv tk lk t : Nat) : Ir :=
  .regH [(true, ⟨none, some t, .move (.tmp pv), PT⟩), (true, ⟨none, some (t + 1), .nilCheck (.tmp t), C.E.tNil⟩), (true, ⟨none, some (t + 2), .fieldAddr T (.tmp (t + 1)) tk, C.E.tNil⟩), (true, ⟨none, some (t + 3), .move (.tmp lk), C.E.tU32⟩),
    (false, ⟨none, some (t + 4), .call { callee := .value (.func C.E.f_pkbin_Reader_Uvarint), args := #[.tmp C.rs], argTypes := #[C.E.tRd] }, C.E.tU32⟩), (true, ⟨none, some (t + 5), .convert C.E.tU32 C.E.tInt (.tmp (t + 4)), C.E.tInt⟩),
    (false, ⟨none, some (t + 6), .call { callee := .value (.func C.E.f_pkbin_Reader_Span), args := #[.tmp C.rs, .tmp (t + 5)], argTypes := #[C.E.tRd, C.E.tInt] }, C.E.tBs⟩), (false, ⟨none, some (t + 7), .call { callee := .value (.func C.E.f_pkmsg_Tags_Set), args := #[.tmp (t + 2), .tmp (t + 3), .tmp (t + 6)], argTypes := #[C.E.t_kmsg_Tags, C.E.tU32, C.E.tBs] }, C.E.tNil⟩)]
def secRI (C : CfgR) (T PT pv : Nat) (ks : List KF) (tk : Nat) (c : Ct) : Ir × Ct :=
  let t := c.t
  let (cs, c1) := casesR C T PT pv (t + 7) (unkR C T PT pv tk (c.l + 1) (t + 8)) ks ⟨c.l + 2, t + 16, c.k + 3⟩
  (condI C 9 t (seqL [.reg [⟨none, some (t + 1), .call { callee := .value (.func C.E.f_pkbin_Reader_Uvarint), args := #[.tmp C.rs], argTypes := #[C.E.tRd] }, C.E.tU32⟩, ⟨none, some c.l, .assign (.tmp (t + 1)), C.E.tU32⟩],
    .block c.k (.loop (.seq (.seq (.reg [⟨none, some (t + 2), .move (.tmp c.l), C.E.tU32⟩, ⟨none, some (t + 3), .binOp .gtr C.E.tU32 (.tmp (t + 2)) (.const (.int .u32 0)) C.E.tU32, C.E.tB⟩]) (.cond (t + 3) .skip (.exit c.k)))
      (.seq (.block (c.k + 1) (seqL [.reg [⟨none, some (t + 6), .call { callee := .value (.func C.E.f_pkbin_Reader_Uvarint), args := #[.tmp C.rs], argTypes := #[C.E.tRd] }, C.E.tU32⟩, ⟨none, some (c.l + 1), .assign (.tmp (t + 6)), C.E.tU32⟩], .reg [⟨none, some (t + 7), .move (.tmp (c.l + 1)), C.E.tU32⟩], .block (c.k + 2) cs]))
        (.reg [⟨none, some (t + 4), .move (.tmp c.l), C.E.tU32⟩, ⟨none, some (t + 5), .binOp .sub C.E.tU32 (.tmp (t + 4)) (.const (.int .u32 1)) C.E.tU32, C.E.tU32⟩, ⟨none, some c.l, .assign (.tmp (t + 5)), C.E.tU32⟩]))))]) .skip, c1)
end Go.Kg

set_option linter.unusedSimpArgs false
set_option linter.unusedVariables false
set_option linter.unusedSectionVars false
namespace Go.Kg
open Go
structure TyUuE (P : Program) (E : Env) : Prop extends TyUu P E where
  g : P.eqGuardType P.depth E.tUu = false
  u8 : P.underlying E.tU8 = some (.int .u8)
  k8 : kindOf P E.tU8 = .scl
  i8 : ∃ i, P.info? E.tU8 = some i
  c8 : P.cellsOf E.tU8 = 1
theorem wp_reg2 {P : Program} {Q : Post} {l1 l2 : List Ro} {f : Nat → Value} {w : World} (h : regW P (fun f w => regWp P (Q .normal) l2 f w) l1 f w) : (Ir.reg (l1 ++ l2)).wp P Q f w := by
  have key : ∀ (l1 : List Ro) (f : Nat → Value) (w : World), regWp P (fun f w => regWp P (Q .normal) l2 f w) l1 f w → regWp P (Q .normal) (l1 ++ l2) f w := by
    intro l1
    induction l1 with
    | nil => intro f w h; exact h
    | cons o r ih =>
      intro f w h
      rw [List.cons_append, regWp_cons]
      rw [regWp_cons] at h
      split
      · rename_i hw; rw [if_pos hw] at h; exact stepF_mono (fun v w hq => ih _ _ hq) h
      · rename_i hw; rw [if_neg hw] at h; exact ih _ _ h
  exact key l1 f w (regW_sound l1 h)
section
variable {P : Program} {E : Env} (ht : TyUuE P E) {f : Nat → Value} {ty : TypeId} {w : World} {K : Value → World → Prop}
include ht
theorem run_items16 (w : World) (d : Nat) (l m : List UInt8) : ∀ is : List Nat, (∀ i ∈ is, i < l.length ∧ i < m.length) →
    (Op.eqItems (d + 1) E.tU8 1 (cellsOf l).toArray (cellsOf m).toArray is).run P w = .ok (is.all fun i => l[i]? == m[i]?) w := by
  intro is
  induction is with
  | nil => intro _; simp [Op.eqItems]
  | cons i is ih =>
    intro h
    obtain ⟨h1, h2⟩ := h i List.mem_cons_self
    have p1 : ∀ (l : List UInt8) (hi : i < l.length), (part E.tU8 (cellsOf l).toArray (i * 1)).run P w = .ok (.int .u8 (l[i].toNat : Int)) w := by
      intro l hi
      refine run_part ?_
      simp [part?, ht.k8, cellsOf, hi]
    simp only [Op.eqItems, Sem.run_bind, p1 l h1, p1 m h2, Result.andThen_ok, run_equalIn_int w d E.tU8 .u8 .u8 _ _ ht.u8]
    have e : ((l[i].toNat : Int) == (m[i].toNat : Int)) = (l[i]? == m[i]?) := by
      rw [List.getElem?_eq_getElem h1, List.getElem?_eq_getElem h2]
      by_cases hx : l[i] = m[i]
      · simp [hx]
      · have : ¬ l[i].toNat = m[i].toNat := fun h => hx (UInt8.toNat_inj.1 h)
        have e1 : ((l[i].toNat : Int) == (m[i].toNat : Int)) = false := by
          rw [beq_eq_false_iff_ne]; omega
        have e2 : (some l[i] == some m[i]) = false := by simpa using hx
        rw [e1, e2]
    rw [e]
    have ih' := ih (fun j hj => h j (List.mem_cons_of_mem _ hj))
    cases hh : (l[i]? == m[i]?)
    · simp [hh]
    · simp only [Bool.not_true, Bool.false_eq_true, if_false, List.all_cons, hh, Bool.true_and]
      exact ih'
theorem all_range16 {l m : List UInt8} (hl : l.length = 16) (hm : m.length = 16) : ((List.range 16).all fun i => l[i]? == m[i]?) = (l == m) := by
  by_cases h : l = m
  · subst h; simp
  · have : ((List.range 16).all fun i => l[i]? == m[i]?) = false := by
      rw [List.all_eq_false]
      apply Classical.byContradiction
      intro hn
      apply h
      apply List.ext_getElem?
      intro i
      by_cases hi : i < 16
      · have := fun hx => hn ⟨i, by simpa using hi, hx⟩
        simpa using this
      · rw [List.getElem?_eq_none (by omega), List.getElem?_eq_none (by omega)]
    rw [this]
    simpa using h
theorem st_neq16 {x y : Operand} {yT : TypeId} {l m : List UInt8} (hl : l.length = 16) (hm : m.length = 16) (hx : evF f x = .agg (cellsOf l).toArray) (hy : evF f y = .agg (cellsOf m).toArray) (h : K (.bool !(l == m)) w) : stepF P f (.binOp .neq E.tUu x y yT) ty w K := by
  obtain ⟨i, hi⟩ := ht.i8
  refine (stepF_ok (v := .bool !(l == m)) (w' := w) ?_).mpr h
  unfold runF execOp
  simp only [hx, hy, run_eqGuard_agg w .neq E.tUu x y _ _ ht.g, Sem.run_bind, Result.andThen_ok, run_neq_struct, run_equalIn_array w 9999 _ _ ht.uUu hi, ht.c8]
  rw [show (9999 : Nat) = 9998 + 1 from rfl, run_items16 ht w 9998 l m (List.range 16) (by intro i hi; simp at hi; omega), all_range16 ht hl hm]
  simp
theorem st_build16 (h : K (.agg z16) w) : stepF P f (.build E.tUu #[]) ty w K := by
  obtain ⟨i, hi⟩ := ht.i8
  refine (stepF_ok (v := .agg z16) (w' := w) ?_).mpr h
  have hz : (zeroValue E.tUu).run P w = .ok (.agg z16) w := by
    have := ht.zUu
    unfold zeroOf at this
    obtain ⟨j, hj, hz⟩ := Option.bind_eq_some_iff.1 this
    simp [zeroValue, typeInfo, hj, hz]
  simp [runF, execOp, Instr.build, hz, run_underlying ht.uUu, sizeOf, typeInfo, hi, Instr.fill, Value.cells]
end
end Go.Kg

set_option linter.unusedSimpArgs false
set_option linter.unusedVariables false
set_option linter.unusedSectionVars false
namespace Go.Kg
open Go
/-- the cells of a struct within a block -/
theorem segL_get {c : Array Value} {a n j : Nat} (h : j < n) : (segL c a n)[j]? = c[a + j]? := by simp [segL, List.getElem?_take, h, List.getElem?_drop]
theorem segL_none {c : Array Value} {a n j : Nat} (h : n ≤ j) : (segL c a n)[j]? = none := by simp [segL, List.getElem?_take]; omega
section
variable {P : Program} {C : CfgR} {R : Rdr}
theorem RW.ext {b : Nat} {w w' : World} (h : RW C R b w) (he : Ext (CB R b) w w') : RW C R b w' :=
  ⟨⟨h.lt.1, h.lt.2.1, h.lt.2.2.1, Nat.le_trans h.lt.2.2.2 he.size⟩, h.ne, he.cell h.err (by rintro (h1 | h1); exact h.errN.1 h1; exact h.errN.2 h1), h.errN⟩
theorem RW.keepK {b : Nat} {w : World} (h : RW C R b w) : ∀ k, k < w.heap.size → RK R k → ¬ CB R b k := by
  obtain ⟨⟨h1, h2, h3, h4⟩, ⟨h5, h6, h7⟩, _, _⟩ := h
  rintro k _ (hk | hk) (hc | hc) <;> omega
theorem FrR.keep {f f' : Nat → Value} {pv b a n : Nat} {ver : Int} {fl : Bool} (h : FrR C R f pv b a ver fl n) {t : Nat} (hk : Keeps f f' t) (ht : n ≤ t) : FrR C R f' pv b a ver fl n := by
  have h1 := h.ptrN
  have h2 := h.nN
  have h3 := h.rsN
  exact ⟨(hk _ (by omega) (by omega)).trans h.ptr, h1, h.v0, (hk _ (by omega) (by omega)).trans h.ver, fun hx => (hk _ (by omega) (by omega)).trans (h.flg hx), h.flN, (hk _ (by omega) (by omega)).trans h.rd, (hk _ (by omega) (by omega)).trans h.us, h2, h3⟩
theorem FrR.up {f : Nat → Value} {pv b a n m : Nat} {ver : Int} {fl : Bool} (h : FrR C R f pv b a ver fl n) (hm : n ≤ m) : FrR C R f pv b a ver fl m :=
  ⟨h.ptr, ⟨h.ptrN.1, by have := h.ptrN; omega⟩, h.v0, h.ver, h.flg, h.flN, h.rd, h.us, by have := h.nN; omega, ⟨h.rsN.1, by have := h.rsN; omega⟩⟩
/-- only the reader's block has turned (and new ones) -/
theorem StR.ext1 {b a n : Nat} {w w' : World} {cc : Array Value} {e : TypeId} {rs rs' : RS} (h : StR C R b a n w cc e rs) (he : Ext (· = R.pb) w w') (hr : RdAt C.E.tRd w' R.pb R.D rs') : StR C R b a n w' cc e rs' :=
  ⟨he.old h.blk (fun h' => h.rw_.ne.2.2 h'.symm), h.fit, hr, h.rw_.ext (he.mono (fun _ _ h => .inl h))⟩
theorem RdTo.trans {b a n lo lo' : Nat} {w w1 w2 : World} {cc c1 c2 : Array Value} {e : TypeId} {f f1 f2 : Nat → Value} {l m t l' m' t' : Nat} {r1 r2 : RS} (x : RdTo C R b a n lo w cc e f l m t r1 f1 w1 c1) (y : RdTo C R b a n lo' w1 c1 e f1 l' m' t' r2 f2 w2 c2)
    (hlo : lo ≤ lo') (hl : l ≤ l') (hm : m ≤ m') (ht : t ≤ t') : RdTo C R b a n lo w cc e f l m' t r2 f2 w2 c2 :=
  ⟨x.ext.trans y.ext, y.st, y.size.trans x.size, fun j hj => (y.same j (by omega)).trans (x.same j hj), x.keep.trans y.keep hl hm ht⟩
/-- A field stands in a struct's cells. -/
def FldAt (w : World) (R : Rdr) (cs : List Value) (o : Nat) (p : Prim) (x : p.T) : Prop := ∃ v, seg cs o v.cells.toList ∧ p.rep1 w (RK R) v x
theorem rep1_sz {w : World} {K : Nat → Prop} {p : Prim} {u : Value} {x : p.T} (h : p.rep1 w K u x) : u.cells.size = p.sz := by
  have := rep1_one h
  by_cases hp : p = .uuid
  · subst hp
    simp only [if_true] at this
    obtain ⟨c, rfl, hc, _⟩ := this
    exact hc
  · simp only [if_neg hp] at this
    have h2 : p.sz = 1 := by cases p <;> first | rfl | exact absurd rfl hp
    rw [h2]
    cases u <;> simp_all [Value.oneCell', Value.cells]
theorem FldAt.move {w w' : World} {cs cs' : List Value} {o : Nat} {p : Prim} {x : p.T} (h : FldAt w R cs o p x) {Cx : Nat → Prop} (he : Ext Cx w w') (hK : ∀ k, k < w.heap.size → RK R k → ¬ Cx k) (hc : ∀ j, o ≤ j → j < o + p.sz → cs'[j]? = cs[j]?) : FldAt w' R cs' o p x := by
  obtain ⟨v, h1, h2⟩ := h
  refine ⟨v, fun j u hj => ?_, Prim.rep1_ext he hK h2⟩
  rw [hc (o + j) (by omega)]
  · exact h1 j u hj
  · have := (List.getElem?_eq_some_iff.1 hj).1
    have h3 := rep1_sz h2
    simp at this
    omega
def PrimR (P : Program) (C : CfgR) (p : Prim) : Prop := ∀ fl, (fl = true → C.fx = true) → ∀ w pb D rs, pb ≠ D → D < w.heap.size → RdAt C.E.tRd w pb D rs →
  Ret P (p.fR C.E fl) #[.pointer (some ⟨pb, 0, none⟩)] w fun v w' => p.rep1 w' (fun b => b = D ∨ w.heap.size ≤ b) v (p.rd fl rs).1 ∧ Ext (· = pb) w w' ∧ RdAt C.E.tRd w' pb D (p.rd fl rs).2
def LenRC (P : Program) (C : CfgR) : Prop := ∀ fl, (fl = true → C.fx = true) → ∀ w pb D rs, pb ≠ D → RdAt C.E.tRd w pb D rs →
  Ret P (if fl then C.E.f_pkbin_Reader_CompactArrayLen else C.E.f_pkbin_Reader_ArrayLen) #[.pointer (some ⟨pb, 0, none⟩)] w fun v w' => v = .int .i32 (lenRd fl rs).1 ∧ Ext (· = pb) w w' ∧ RdAt C.E.tRd w' pb D (lenRd fl rs).2
structure EndC0 (P : Program) (C : CfgR) : Prop where
  complete : ∀ w pb D rs ev, RdAt C.E.tRd w pb D rs → (rs.bad = true → w.cell? ⟨C.E.g_kbin_ErrNotEnoughData, 0, none⟩ = some ev) → Ret P C.E.f_pkbin_Reader_Complete #[.pointer (some ⟨pb, 0, none⟩)] w fun v w' => v = (if rs.bad then ev else .nilIface) ∧ w' = w
structure EndC (P : Program) (C : CfgR) : Prop extends EndC0 P C where
  ok : ∀ w pb D rs, RdAt C.E.tRd w pb D rs → Ret P C.E.f_pkbin_Reader_Ok #[.pointer (some ⟨pb, 0, none⟩)] w fun v w' => v = .bool !rs.bad ∧ w' = w
def TagsRC (P : Program) (C : CfgR) : Prop := ∀ w pb D rs, pb ≠ D → D < w.heap.size → RdAt C.E.tRd w pb D rs →
  Ret P C.E.f_kmsg_internalReadTags #[.pointer (some ⟨pb, 0, none⟩)] w fun v w' => (∃ u, v = .agg #[u] ∧ TagsAt w' (fun b => b = D ∨ w.heap.size ≤ b) u (rdTags rs).1) ∧ Ext (· = pb) w w' ∧ RdAt C.E.tRd w' pb D (rdTags rs).2
structure TyR (P : Program) (C : CfgR) : Prop where
  c : TyC P (Sch.genR.toR C)
  uu : isAgg16 (kindOf P C.E.tUu) = true → TyUu P C.E
  kTags : kindOf P C.E.t_kmsg_Tags = .agg 1
  i32 : intKind? P C.E.tI32 = some .i32
variable {Q : Post} {f : Nat → Value} {w : World}
theorem r_call (ht : TyR P C) {p : Prim} (hq : p = .uuid → isAgg16 (kindOf P C.E.tUu) = true) {g l t : Nat} {b a n : Nat} {cc : Array Value} {e : TypeId} {rs : RS} {x : p.T} {rs' : RS} (hs : StR C R b a n w cc e rs) (h7 : f C.rs = .pointer (some ⟨R.pb, 0, none⟩)) (hl : l < t) (hl7 : 9 < l)
    (hP : Ret P g #[.pointer (some ⟨R.pb, 0, none⟩)] w fun v w' => p.rep1 w' (fun b => b = R.D ∨ w.heap.size ≤ b) v x ∧ Ext (· = R.pb) w w' ∧ RdAt C.E.tRd w' R.pb R.D rs')
    (h : ∀ f' w' u, LocVal w' f' p l u → p.rep1 w' (RK R) u x → Ext (· = R.pb) w w' → RdAt C.E.tRd w' R.pb R.D rs' → (∀ y, y < t → y ≠ l → f' y = f y) → Q .normal f' w') : (callR C p g l t).wp P Q f w := by
  have e3 : (t = l) = False := by simp; omega
  have keep : ∀ a b, ∀ y, y < t → y ≠ l → upd (upd f t a) l b y = f y := by
    intro a b y hy hy2
    have x4 : (y = t) = False := by simp; omega
    simp [x4, hy2]
  have hK : ∀ k, k = R.D ∨ w.heap.size ≤ k → RK R k := by
    rintro k (h | h)
    · exact .inl h
    · exact .inr (Nat.le_trans hs.rw_.lt.2.2.2 h)
  refine wp_reg ?_
  by_cases hp : p = .uuid
  · subst hp
    have hz : zeroOf P C.E.tUu = some (.agg z16) := (ht.uu (hq rfl)).zUu
    simp [callR, putL, h7]
    refine hP.mono ?_
    rintro v w1 ⟨h1, h2, h3⟩
    have hone := rep1_one h1
    simp only [if_true] at hone
    obtain ⟨c, rfl, hc16, hone⟩ := hone
    simp [hz, Value.cells, e3, store_agg (ht.uu (hq rfl)).kUu, hc16, hone, putK_blk alloc_new, z16_size]
    have hE : Ext none1 w1 ((w1.alloc (.cells z16 C.E.tUu)).setBlk w1.heap.size (.cells (over z16 0 c.toList) C.E.tUu (0, 0))) := ((Ext.refl none1 w1).alloc _).setBlk (.inl (Nat.le_refl _)) _
    refine h _ _ (.agg c) ?_ ?_ (h2.trans (hE.mono (fun _ _ h => h.elim))) (h3.ext hE (fun h => h) (fun h => h)) (keep _ _)
    · simp only [LocVal, if_true]
      refine ⟨w1.heap.size, c, C.E.tUu, (0, 0), by simp, ?_, rfl, hc16⟩
      have hov : over z16 0 c.toList = c := by
        have hd : z16.toList.drop (0 + c.toList.length) = [] := List.drop_eq_nil_of_le (by simp [z16_size, hc16])
        simp only [over, hd]; simp
      rw [hov]
      exact setBlk_same alloc_new
    · exact Prim.rep1_ext hE (fun _ _ _ h => h) (Prim.rep1_mono hK h1)
  · simp [callR, putL, hp, h7]
    refine hP.mono ?_
    rintro v w1 ⟨h1, h2, h3⟩
    exact h _ _ v (by simp [LocVal, hp]) (Prim.rep1_mono hK h1) h2 h3 (by simpa using keep _ _)
theorem r_cond {s t : Nat} {a b : Ir} {v : Bool} (hf : f s = .bool v) (hs : s < t) (ha : v = true → ∀ f', (∀ y, y < t → f' y = f y) → a.wp P Q f' w) (hb : v = false → ∀ f', (∀ y, y < t → f' y = f y) → b.wp P Q f' w) : (condI C s t a b).wp P Q f w := by
  refine wp_seqI (wp_reg ?_)
  simp [hf]
  have k : ∀ y, y < t → upd f t (.bool v) y = f y := fun y hy => by rw [upd_apply, if_neg (by omega)]
  cases v
  · exact .inr ⟨by simp, hb rfl _ k⟩
  · exact .inl ⟨by simp, ha rfl _ k⟩
theorem seqL_one {x : Ir} (h : x.wp P Q f w) : (seqL [x]).wp P Q f w := h
/-- v = b.F() in all its forms -/
theorem r_read (ht : TyR P C) {p : Prim} (hq : p = .uuid → isAgg16 (kindOf P C.E.tUu) = true) {l t : Nat} {b a n pv b2 a2 : Nat} {ver : Int} {fl : Bool} {cc : Array Value} {e : TypeId} {rs : RS} (hP : PrimR P C p) (hs : StR C R b a n w cc e rs) (hf : FrR C R f pv b2 a2 ver fl l) (hl : l < t)
    (hA : ∀ f' w' u, LocVal w' f' p l u → p.rep1 w' (RK R) u (p.rd fl rs).1 → Ext (· = R.pb) w w' → RdAt C.E.tRd w' R.pb R.D (p.rd fl rs).2 → (∀ y, y < t → y ≠ l → f' y = f y) → Q .normal f' w') : (seqL (readI C p l t)).wp P Q f w := by
  have hn := hf.nN
  have hrs := hf.rsN
  have hD : R.D < w.heap.size := Nat.lt_of_lt_of_le hs.rw_.lt.2.2.1 hs.rw_.lt.2.2.2
  have main : ∀ (f1 : Nat → Value) (t1 : Nat) (fl' : Bool), (fl' = true → C.fx = true) → p.rd fl' rs = p.rd fl rs → t ≤ t1 → (∀ y, y < t → y ≠ l → f1 y = f y) → (callR C p (p.fR C.E fl') l t1).wp P Q f1 w := by
    intro f1 t1 fl' hx hrd ht1 hk
    have hc := hP fl' hx w R.pb R.D rs hs.rw_.ne.1 hD hs.rd
    rw [hrd] at hc
    refine r_call ht hq hs ((hk C.rs (by omega) (by omega)).trans hf.rd) (by omega) (by omega) hc ?_
    intro f' w' u h1 h2 h3 h4 h5
    exact hA f' w' u h1 h2 h3 h4 (fun y hy hyl => (h5 y (by omega) hyl).trans (hk y hy hyl))
  have k1 : ∀ (v : Value) (f1 : Nat → Value) (t1 : Nat), t ≤ t1 → (∀ y, y < t1 → f1 y = upd f l v y) → ∀ y, y < t → y ≠ l → f1 y = f y := fun v f1 t1 h1 h y hy hyl => by rw [h y (by omega), upd_apply, if_neg hyl]
  have plain : ∀ fl', p.uns = false → (p ≠ .bytes ∧ p ≠ .nbytes) → p.rd fl' rs = p.rd fl rs := by intro fl' h1 h2; cases p <;> first | rfl | exact absurd rfl h2.1 | exact absurd rfl h2.2 | cases h1
  -- one form for texts of both flags
  have two : ∀ (v : Value), p.uns = false → (if C.fx then Ir.reg [⟨none, some l, .assign (.const v), p.ty C.E⟩] :: [condI C 9 t (callR C p (p.fR C.E true) l (t + 1)) (callR C p (p.fR C.E false) l (t + 2))] else [callR C p (p.fR C.E false) l t]) = readI C p l t → (seqL (readI C p l t)).wp P Q f w := by
    intro v _ hr
    rw [← hr]
    by_cases hx : C.fx = true
    · rw [if_pos hx]
      refine seqL_cons (wp_reg ?_)
      simp
      show (condI C 9 t _ _).wp P _ _ w
      refine r_cond (v := fl) (by rw [upd_apply, if_neg (by omega)]; exact hf.flg hx) (by omega) ?_ ?_
      · rintro rfl f1 h1
        exact main f1 (t + 1) true (fun _ => hx) rfl (by omega) (k1 v f1 t (Nat.le_refl _) h1)
      · rintro rfl f1 h1
        exact main f1 (t + 2) false (by simp) rfl (by omega) (k1 v f1 t (Nat.le_refl _) h1)
    · have hx' : C.fx = false := by simpa using hx
      rw [if_neg hx]
      have := hf.flN hx'
      subst this
      exact main f t false (by simp) rfl (Nat.le_refl _) (fun _ _ _ => rfl)
  cases p with
  | str =>
    simp only [readI]
    refine seqL_cons (wp_reg ?_)
    simp
    show (if C.fx = true then _ else _ : Ir).wp P _ _ w
    have us : upd f l (zeroV .str) 2 = .bool false := by rw [upd_apply, if_neg (by omega)]; exact hf.us
    by_cases hx : C.fx = true
    · rw [if_pos hx]
      refine r_cond (v := false) us (by omega) (by simp) ?_
      rintro _ f1 h1
      refine r_cond (v := fl) (by rw [h1 9 (by omega), upd_apply, if_neg (by omega)]; exact hf.flg hx) (by omega) ?_ ?_
      · rintro rfl f2 h2
        exact main f2 (t + 5) true (fun _ => hx) rfl (by omega) (fun y hy hyl => (h2 y (by omega)).trans (k1 _ f1 t (Nat.le_refl _) h1 y hy hyl))
      · rintro rfl f2 h2
        exact main f2 (t + 6) false (by simp) rfl (by omega) (fun y hy hyl => (h2 y (by omega)).trans (k1 _ f1 t (Nat.le_refl _) h1 y hy hyl))
    · have hx' : C.fx = false := by simpa using hx
      rw [if_neg hx]
      have := hf.flN hx'
      subst this
      refine r_cond (v := false) us (by omega) (by simp) ?_
      rintro _ f1 h1
      exact main f1 (t + 2) false (by simp) rfl (by omega) (k1 _ f1 t (Nat.le_refl _) h1)
  | nstr =>
    simp only [readI]
    refine seqL_cons (wp_reg ?_)
    simp
    show (if C.fx = true then _ else _ : Ir).wp P _ _ w
    have us : upd f l (zeroV .nstr) 2 = .bool false := by rw [upd_apply, if_neg (by omega)]; exact hf.us
    by_cases hx : C.fx = true
    · rw [if_pos hx]
      refine r_cond (v := fl) (by rw [upd_apply, if_neg (by omega)]; exact hf.flg hx) (by omega) ?_ ?_
      · rintro rfl f1 h1
        refine r_cond (v := false) (by rw [h1 2 (by omega)]; exact us) (by omega) (by simp) ?_
        rintro _ f2 h2
        exact main f2 (t + 3) true (fun _ => hx) rfl (by omega) (fun y hy hyl => (h2 y (by omega)).trans (k1 _ f1 t (Nat.le_refl _) h1 y hy hyl))
      · rintro rfl f1 h1
        refine r_cond (v := false) (by rw [h1 2 (by omega)]; exact us) (by omega) (by simp) ?_
        rintro _ f2 h2
        exact main f2 (t + 6) false (by simp) rfl (by omega) (fun y hy hyl => (h2 y (by omega)).trans (k1 _ f1 t (Nat.le_refl _) h1 y hy hyl))
    · have hx' : C.fx = false := by simpa using hx
      rw [if_neg hx]
      have := hf.flN hx'
      subst this
      refine r_cond (v := false) us (by omega) (by simp) ?_
      rintro _ f1 h1
      exact main f1 (t + 2) false (by simp) rfl (by omega) (k1 _ f1 t (Nat.le_refl _) h1)
  | bytes => exact two (zeroV .bytes) rfl rfl
  | nbytes => exact two (zeroV .nbytes) rfl rfl
  | _ => exact main f t false (by simp) (plain false rfl (by simp)) (Nat.le_refl _) (fun _ _ _ => rfl)
theorem over_get {c : Array Value} {o : Nat} {vs : List Value} (h : o + vs.length ≤ c.size) (j : Nat) : (over c o vs)[j]? = if j < o then c[j]? else if j < o + vs.length then vs[j - o]? else c[j]? := by
  have hl : (c.toList.take o).length = o := by simp; omega
  simp only [over, List.getElem?_toArray, List.append_assoc]
  by_cases h1 : j < o
  · rw [if_pos h1, List.getElem?_append_left (by omega), List.getElem?_take, if_pos h1]; simp
  · rw [if_neg h1, List.getElem?_append_right (by omega), hl]
    by_cases h2 : j < o + vs.length
    · rw [if_pos h2, List.getElem?_append_left (by omega)]
    · rw [if_neg h2, List.getElem?_append_right (by omega), List.getElem?_drop, show o + vs.length + (j - o - vs.length) = j by omega]; simp
theorem over_size {c : Array Value} {o : Nat} {vs : List Value} (h : o + vs.length ≤ c.size) : (over c o vs).size = c.size := by simp [over]; omega
/-- what a store leaves: u's cells stand at o -/
structure Put (cc : Array Value) (o : Nat) (u : Value) (cc' : Array Value) : Prop where
  size : cc'.size = cc.size
  same : ∀ j, (j < o ∨ o + u.cells.size ≤ j) → cc'[j]? = cc[j]?
  new : ∀ j v, u.cells.toList[j]? = some v → cc'[o + j]? = some v
theorem put_one {cc : Array Value} {o : Nat} {u : Value} (h1 : u.oneCell' = true) (ho : o < cc.size) : Put cc o u (cc.setIfInBounds o u) := by
  have huc : u.cells = #[u] := by cases u <;> simp_all [Value.oneCell', Value.cells]
  refine ⟨by simp, fun j hj => ?_, fun j v hj => ?_⟩
  · rw [huc] at hj
    simp at hj
    rw [Array.getElem?_setIfInBounds, if_neg (by omega)]
  · rw [huc] at hj
    cases j with
    | zero => simp at hj; subst hj; simp [Array.getElem?_setIfInBounds, ho]
    | succ j => simp at hj
theorem put_over {cc : Array Value} {o : Nat} {c : Array Value} (ho : o + c.size ≤ cc.size) : Put cc o (.agg c) (over cc o c.toList) := by
  have ho' : o + c.toList.length ≤ cc.size := by simpa using ho
  refine ⟨over_size ho', fun j hj => ?_, fun j v hj => ?_⟩
  · rw [over_get ho']
    simp [Value.cells] at hj
    split
    · rfl
    · rw [if_neg (by simp; omega)]
  · have hj' : j < c.size := by have := (List.getElem?_eq_some_iff.1 hj).1; simpa [Value.cells] using this
    rw [over_get ho', if_neg (by omega), if_pos (by simp; omega), show o + j - o = j by omega]
    exact hj
/-- s.F = v -/
theorem r_store (ht : TyR P C) {T PT pv k o l t b a : Nat} {p : Prim} {u : Value} {cc : Array Value} {e : TypeId} (hpv : f pv = .pointer (some ⟨b, a, none⟩)) (hF : fldOff P T k = some o) (hk : p.kOk P (p.ty C.E) = true) (hlv : LocVal w f p l u)
    (hu : if p = .uuid then ∃ c : Array Value, u = .agg c ∧ c.size = 16 ∧ allOne c.toList = true else u.oneCell' = true) (hpt : pv < t) (hl : l < t) (hb : w.heap[b]? = some (.cells cc e (0, 0))) (ho : a + o + u.cells.size ≤ cc.size)
    (h : ∀ f' cc', Put cc (a + o) u cc' → (∀ y, y < t → f' y = f y) → Q .normal f' (w.setBlk b (.cells cc' e (0, 0)))) : (Ir.reg (storeR C T PT pv k (p.ty C.E) l t p)).wp P Q f w := by
  have e3 : ∀ n, (l = t + n) = False := by intro n; simp; omega
  have e4 : (l = t) = False := by simp; omega
  have keep : ∀ a b c d, ∀ y, y < t → upd (upd (upd (upd f t a) (t + 1) b) (t + 2) c) (t + 3) d y = f y := by
    intro a b c d y hy
    have x3 : ∀ n, (y = t + n) = False := by intro n; simp; omega
    have x4 : (y = t) = False := by simp; omega
    simp [x3, x4]
  refine wp_reg ?_
  by_cases hp : p = .uuid
  · subst hp
    simp only [if_true] at hu
    obtain ⟨c, rfl, hc16, hone⟩ := hu
    simp only [LocVal, if_true] at hlv
    obtain ⟨b', cs', e', fz', hf, hbk, hcs, h16⟩ := hlv
    cases hcs
    have hk' : kindOf P C.E.tUu = .agg 16 := (ht.uu (kOk_uu hk rfl)).kUu
    have lB := cellsFrom_row hbk
    rw [h16] at lB
    have ho' : a + o + 16 ≤ cc.size := by simpa [Value.cells, hc16] using ho
    simp [storeR, getL, hpv, hf, e3, e4, hF, Addr.add_mk, ld_agg hk', lB, Prim.ty, store_agg hk', hc16, hone, putK_blk hb]
    exact ⟨by omega, h _ _ (put_over (by omega)) (keep _ _ _ _)⟩
  · simp only [if_neg hp] at hu
    simp only [LocVal, if_neg hp] at hlv
    have hk' : kindOf P (p.ty C.E) = .scl := by simp only [Prim.kOk, if_neg hp] at hk; exact isScl_spec hk
    have huc : u.cells = #[u] := by cases u <;> simp_all [Value.oneCell', Value.cells]
    have ho' : a + o + 1 ≤ cc.size := by simpa [huc] using ho
    simp [storeR, getL, hp, hpv, hlv, e3, e4, hF, Addr.add_mk, store_scl hk', hu, put1K_blk hb]
    exact ⟨by omega, h _ _ (put_one hu (by omega)) (keep _ _ _ _)⟩
/-- the same of a type's own, one cell -/
theorem r_storeT {T PT pv k o l t b a ty : Nat} {u : Value} {cc : Array Value} {e : TypeId} (hpv : f pv = .pointer (some ⟨b, a, none⟩)) (hF : fldOff P T k = some o) (hk : isScl (kindOf P ty) = true) (hlv : f l = u) (hu : u.oneCell' = true)
    (hpt : pv < t) (hl : l < t) (hb : w.heap[b]? = some (.cells cc e (0, 0))) (ho : a + o + 1 ≤ cc.size)
    (h : ∀ f' cc', Put cc (a + o) u cc' → (∀ y, y < t → f' y = f y) → Q .normal f' (w.setBlk b (.cells cc' e (0, 0)))) : (Ir.reg (storeT C T PT pv k ty l t)).wp P Q f w := by
  have e3 : ∀ n, (l = t + n) = False := by intro n; simp; omega
  have e4 : (l = t) = False := by simp; omega
  refine wp_reg ?_
  simp [storeT, hpv, hlv, e3, e4, hF, Addr.add_mk, store_scl (isScl_spec hk), hu, put1K_blk hb]
  refine ⟨by omega, h _ _ (put_one hu (by omega)) ?_⟩
  intro y hy
  have x3 : ∀ n, (y = t + n) = False := by intro n; simp; omega
  have x4 : (y = t) = False := by simp; omega
  simp [x3, x4]
/-- a field was put -/
theorem RdTo.put {b a n lo o : Nat} {cc cc' : Array Value} {e : TypeId} {f' : Nat → Value} {l m t : Nat} {rs : RS} {u : Value} (hs : StR C R b a n w cc e rs) (hp : Put cc (a + o) u cc') (hlo : lo ≤ o) (hn : o + u.cells.size ≤ n) (hk : KeepR f f' l m t) :
    RdTo C R b a n lo w cc e f l m t rs f' (w.setBlk b (.cells cc' e (0, 0))) cc' := by
  have hE : Ext (· = b) w (w.setBlk b (.cells cc' e (0, 0))) := (Ext.refl (fun k => k = b) w).setBlk (b := b) (Or.inr rfl) _
  have hE' : Ext (CB R b) w (w.setBlk b (.cells cc' e (0, 0))) := hE.mono (fun _ _ h => .inr h)
  exact ⟨hE', ⟨setBlk_same hs.blk, by rw [hp.size]; exact hs.fit, hs.rd.ext hE (fun h => hs.rw_.ne.2.2 h) (fun h => hs.rw_.ne.2.1 h.symm), hs.rw_.ext hE'⟩, hp.size, fun j hj => hp.same j (by omega), hk⟩
theorem FldAt.put {b a n o : Nat} {cc cc' : Array Value} {e : TypeId} {rs : RS} {p : Prim} {u : Value} {x : p.T} (hs : StR C R b a n w cc e rs) (hp : Put cc (a + o) u cc') (hn : o + u.cells.size ≤ n) (hr : p.rep1 w (RK R) u x) : FldAt (w.setBlk b (.cells cc' e (0, 0))) R (segL cc' a n) o p x := by
  have hE : Ext (· = b) w (w.setBlk b (.cells cc' e (0, 0))) := (Ext.refl (fun k => k = b) w).setBlk (b := b) (Or.inr rfl) _
  refine ⟨u, fun j v hj => ?_, Prim.rep1_ext hE (fun k hk1 hk2 hk3 => hs.rw_.keepK k hk1 hk2 (.inr hk3)) hr⟩
  have hj' : j < u.cells.size := by have := (List.getElem?_eq_some_iff.1 hj).1; simpa using this
  rw [segL_get (by omega), ← Nat.add_assoc]
  exact hp.new j v hj
end
end Go.Kg

set_option linter.unusedSimpArgs false
set_option linter.unusedVariables false
set_option linter.unusedSectionVars false
namespace Go.Kg
open Go
/-- what stands in a new element -/
def sliZ (P : Program) (sT : TypeId) : Option (Array Value) := match P.underlying sT with
  | some (.slice e) => match P.info? e with
    | some i => if i.bytes ≤ 131072 ∧ 0 < i.size then match i.zero with
      | some z => if z.cells.size = i.size then some z.cells else none
      | none => none
      else none
    | none => none
  | _ => none
def sliOk (P : Program) (sT sz : Nat) : Bool := sliSz P sT == some sz && match sliZ P sT with
  | some z => z.size == sz
  | none => false
def elemOk (P : Program) (C : Cfg) (sT : Nat) (e : Sch) : Bool := match sliZ P sT with
  | some z => e.chkD (setD 0 (e.dst C) z).toList
  | none => false
/-- a list may be null at no version, or at each -/
def nulZ (fx : Bool) : Option Nat → Bool
  | none => true
  | some m => fx && m == 0
/-- what new(T) makes -/
def optOk (P : Program) (C : Cfg) (T sz : Nat) (e : Sch) : Bool := match zeroOf P T with
  | some v => v.cells.size == sz && e.chkD (setD 0 (e.dst C) v.cells).toList
  | none => false
def Sch.tyR (P : Program) (C : CfgR) : Nat → Nat → Nat → Sch → Bool
  | _, _, _, .fin => true
  | T, n, lo, .tags k o => C.fx && fldOff P T k == some o && decide (lo ≤ o) && decide (o + 1 ≤ n)
  | T, n, lo, .prim _ k o p en _ rest => fldOff P T k == some o && p.kOk P (p.ty C.E) && (en == 0 || (p == .i8 && isScl (kindOf P en))) && decide (lo ≤ o) && decide (o + p.sz ≤ n) && rest.tyR P C T n (o + p.sz)
  | T, n, lo, .arrP _ k o sT nul p rest => nulZ C.fx nul && fldOff P T k == some o && isScl (kindOf P sT) && sliOk P sT p.sz && p.kOk P (p.ty C.E) && decide (lo ≤ o) && decide (o + 1 ≤ n) && rest.tyR P C T n (o + 1)
  | T, n, lo, .arrS _ k o sT nul T' _ sz _ e rest => nulZ C.fx nul && fldOff P T k == some o && isScl (kindOf P sT) && sliOk P sT sz && elemOk P C.toCfg sT e && defOk P T' sz (e.dst C.toCfg) && e.tyR P C T' sz 0 && decide (lo ≤ o) && decide (o + 1 ≤ n) && rest.tyR P C T n (o + 1)
  | T, n, lo, .sub _ k o T' _ sz _ e rest => fldOff P T k == some o && (e.dst C.toCfg).isEmpty && e.tyR P C T' sz 0 && decide (lo ≤ o) && decide (o + sz ≤ n) && rest.tyR P C T n (o + sz)
  | T, n, lo, .opt _ k o T' PT' _ sz _ e rest => fldOff P T k == some o && isScl (kindOf P PT') && isScl (kindOf P C.E.tI8) && optOk P C.toCfg T' sz e && defOk P T' sz (e.dst C.toCfg) && e.tyR P C T' sz 0 && decide (lo ≤ o) && decide (o + 1 ≤ n) && rest.tyR P C T n (o + 1)
  | T, n, lo, .cus c => c.tyB P C.toCfg T && c.own.all fun j => decide (lo ≤ j) && decide (j < n)
def DefRC (P : Program) (C : Cfg) (sz df : Nat) (e : Sch) : Prop := ∀ w (b a : Nat) c et, w.heap[b]? = some (.cells c et (0, 0)) → a + sz ≤ c.size → Ret P df #[.pointer (some ⟨b, a, none⟩)] w fun _ w' => w' = w.setBlk b (.cells (setD a (e.dst C) c) et (0, 0))
def Sch.NeedR (P : Program) (C : CfgR) : Sch → Prop
  | .fin => True
  | .tags _ _ => TagsRC P C
  | .prim _ _ _ p _ _ rest => PrimR P C p ∧ rest.NeedR P C
  | .arrP _ _ _ _ _ p rest => PrimR P C p ∧ LenRC P C ∧ EndC P C ∧ rest.NeedR P C
  | .arrS _ _ _ _ _ _ _ sz df e rest => LenRC P C ∧ EndC P C ∧ DefRC P C.toCfg sz df e ∧ e.NeedR P C ∧ rest.NeedR P C
  | .sub _ _ _ _ _ sz df e rest => DefRC P C.toCfg sz df e ∧ e.NeedR P C ∧ rest.NeedR P C
  | .opt _ _ _ _ _ _ sz df e rest => PrimR P C .i8 ∧ EndC P C ∧ DefRC P C.toCfg sz df e ∧ e.NeedR P C ∧ rest.NeedR P C
  | .cus c => ∀ l, c.SoundR P { C with rs := l }
theorem prim_chkD_congr {cs cs' : List Value} {o : Nat} {p : Prim} {d : Int} (h : ∀ j, o ≤ j → j < o + p.sz → cs'[j]? = cs[j]?) (hc : p.chkD cs o d = true) : p.chkD cs' o d = true := by
  cases p with
  | uuid =>
    have : ∀ n, n ≤ 16 → zeros16 cs o n = true → zeros16 cs' o n = true := by
      intro n
      induction n with
      | zero => intro _ _; rfl
      | succ n ih =>
        intro hn hz
        simp only [zeros16, Bool.and_eq_true] at hz ⊢
        rw [h (o + n) (by omega) (by simp [Prim.sz]; omega)]
        exact ⟨hz.1, ih (by omega) hz.2⟩
    exact this 16 (Nat.le_refl _) hc
  | _ =>
    have h0 := h o (Nat.le_refl _) (by simp [Prim.sz])
    simp only [Prim.chkD] at hc ⊢
    rw [h0]; exact hc
theorem chkD_congr {P : Program} {C : CfgR} {cs cs' : List Value} : ∀ (S : Sch) {T n lo : Nat}, S.tyR P C T n lo = true → (∀ j, lo ≤ j → j < n → cs'[j]? = cs[j]?) → S.chkD cs = true → S.chkD cs' = true := by
  intro S
  induction S generalizing cs cs' with
  | fin => intros; rfl
  | tags k o =>
    intro T n lo ht h hc
    simp only [Sch.tyR, Bool.and_eq_true, decide_eq_true_eq] at ht
    simp only [Sch.chkD] at hc ⊢
    rw [h o (by omega) (by omega)]; exact hc
  | prim g k o p en d rest ih =>
    intro T n lo ht h hc
    simp only [Sch.tyR, Bool.and_eq_true, decide_eq_true_eq] at ht
    simp only [Sch.chkD, Bool.and_eq_true] at hc ⊢
    exact ⟨prim_chkD_congr (fun j h1 h2 => h j (by omega) (by omega)) hc.1, ih ht.2 (fun j h1 h2 => h j (by omega) h2) hc.2⟩
  | arrP g k o sT nul p rest ih =>
    intro T n lo ht h hc
    simp only [Sch.tyR, Bool.and_eq_true, decide_eq_true_eq] at ht
    simp only [Sch.chkD, Bool.and_eq_true] at hc ⊢
    rw [h o (by omega) (by omega)]
    exact ⟨hc.1, ih ht.2 (fun j h1 h2 => h j (by omega) h2) hc.2⟩
  | arrS g k o sT nul T' PT sz df e rest ihe ih =>
    intro T n lo ht h hc
    simp only [Sch.tyR, Bool.and_eq_true, decide_eq_true_eq] at ht
    simp only [Sch.chkD, Bool.and_eq_true] at hc ⊢
    rw [h o (by omega) (by omega)]
    exact ⟨hc.1, ih ht.2 (fun j h1 h2 => h j (by omega) h2) hc.2⟩
  | sub g k o T' PT sz df e rest ihe ih =>
    intro T n lo ht h hc
    simp only [Sch.tyR, Bool.and_eq_true, decide_eq_true_eq] at ht
    simp only [Sch.chkD, Bool.and_eq_true] at hc ⊢
    refine ⟨ihe ht.1.1.1.2 (fun j h1 h2 => ?_) hc.1, ih ht.2 (fun j h1 h2 => h j (by omega) h2) hc.2⟩
    rw [List.getElem?_take, List.getElem?_take, if_pos h2, if_pos h2, List.getElem?_drop, List.getElem?_drop]
    exact h _ (by omega) (by omega)
  | opt g k o T' PT PP sz df e rest ihe ih =>
    intro T n lo ht h hc
    simp only [Sch.tyR, Bool.and_eq_true, decide_eq_true_eq] at ht
    simp only [Sch.chkD, Bool.and_eq_true] at hc ⊢
    rw [h o (by omega) (by omega)]
    exact ⟨hc.1, ih ht.2 (fun j h1 h2 => h j (by omega) h2) hc.2⟩
  | cus c =>
    intro T n lo ht h hc
    simp only [Sch.tyR, Bool.and_eq_true, List.all_eq_true, decide_eq_true_eq] at ht
    exact c.chk_own (fun j hj => h j (ht.2 j hj).1 (ht.2 j hj).2) hc
section
variable {P : Program} {C : CfgR}
def SoundR (P : Program) (C : CfgR) (S : Sch) : Prop := ∀ (T PT pv : Nat) (c : Ct) (Q : Post) (f : Nat → Value) (w : World) (b a n lo : Nat) (cc : Array Value) (e : TypeId) (ver : Int) (fl : Bool) (R : Rdr) (rs : RS),
  S.tyR P C T n lo = true → S.NeedR P C → FrR C R f pv b a ver fl c.l → (S.genR C T PT pv c).2.l ≤ c.t → StR C R b a n w cc e rs → S.chkD (segL cc a n) = true →
  (S.rd ver fl rs = none → ∀ f' w', f' 6 = R.ev → Ext (CB R b) w w' → Q .ret f' w') →
  (∀ x rs', S.rd ver fl rs = some (x, rs') → ∀ f' w' cc', RdTo C R b a n lo w cc e f c.l (S.genR C T PT pv c).2.l c.t rs' f' w' cc' → S.Rep w' (RK R) (segL cc' a n) x → Q .normal f' w') →
  (seqL (S.genR C T PT pv c).1).wp P Q f w
theorem genR_mono : ∀ (S : Sch) (T PT pv : Nat) (c : Ct), c.l ≤ (S.genR C T PT pv c).2.l ∧ c.t ≤ (S.genR C T PT pv c).2.t := by
  intro S
  induction S with
  | fin => intro T PT pv c; exact ⟨Nat.le_refl _, Nat.le_refl _⟩
  | tags k o => intro T PT pv c; exact ⟨Nat.le_refl _, by simp [Sch.genR]⟩
  | prim g k o p en d rest ih =>
    intro T PT pv c
    simp only [Sch.genR]
    split
    · have := ih T PT pv ⟨c.l + 1, c.t + gdN g + readN C p + 4, c.k⟩
      constructor
      · exact Nat.le_trans (by simp) this.1
      · exact Nat.le_trans (by simp; omega) this.2
    · have := ih T PT pv ⟨c.l + 3, c.t + gdN g + 7, c.k⟩
      constructor
      · exact Nat.le_trans (by simp) this.1
      · exact Nat.le_trans (by simp; omega) this.2
  | arrP g k o sT nul p rest ih =>
    intro T PT pv c
    simp only [Sch.genR]
    have := ih T PT pv ⟨c.l + 5, c.t + gdN g + headN C nul + 5 + readN C p + 4 + 5, c.k + 2⟩
    constructor
    · exact Nat.le_trans (by simp) this.1
    · exact Nat.le_trans (by simp; omega) this.2
  | arrS g k o sT nul T' PT' sz df e rest ihe ih =>
    intro T PT pv c
    simp only [Sch.genR]
    have h1 := ihe T' PT' (c.l + 5) ⟨c.l + 6, c.t + gdN g + headN C nul + 11, c.k + 2⟩
    generalize e.genR C T' PT' (c.l + 5) ⟨c.l + 6, c.t + gdN g + headN C nul + 11, c.k + 2⟩ = z at *
    obtain ⟨eb, c1⟩ := z
    have := ih T PT pv ⟨c1.l, c1.t + 5, c1.k⟩
    simp only at h1 this ⊢
    omega
  | sub g k o T' PT' sz df e rest ihe ih =>
    intro T PT pv c
    simp only [Sch.genR]
    have h1 := ihe T' PT' (c.l + 1) ⟨c.l + 2, c.t + gdN g + 6, c.k⟩
    generalize e.genR C T' PT' (c.l + 1) ⟨c.l + 2, c.t + gdN g + 6, c.k⟩ = z at *
    obtain ⟨eb, c1⟩ := z
    have := ih T PT pv c1
    simp only at h1 this ⊢
    omega
  | opt g k o T' PT' PP sz df e rest ihe ih =>
    intro T PT pv c
    simp only [Sch.genR]
    have h1 := ihe T' PT' (c.l + 2) ⟨c.l + 3, c.t + gdN g + 17, c.k⟩
    generalize e.genR C T' PT' (c.l + 2) ⟨c.l + 3, c.t + gdN g + 17, c.k⟩ = z at *
    obtain ⟨eb, c1⟩ := z
    have := ih T PT pv c1
    simp only at h1 this ⊢
    omega
  | cus u => intro T PT pv c; exact u.mono_r C T PT pv c
theorem RdTo.refl {R : Rdr} {b a n lo : Nat} {w : World} {cc : Array Value} {e : TypeId} {f f' : Nat → Value} {l m t : Nat} {rs : RS} (h : StR C R b a n w cc e rs) (hk : KeepR f f' l m t) : RdTo C R b a n lo w cc e f l m t rs f' w cc :=
  ⟨Ext.refl _ _, h, rfl, fun _ _ => rfl, hk⟩
/-- only the reader has turned -/
theorem RdTo.read {R : Rdr} {b a n lo : Nat} {w w' : World} {cc : Array Value} {e : TypeId} {f f' : Nat → Value} {l m t : Nat} {rs rs' : RS} (h : StR C R b a n w cc e rs) (he : Ext (· = R.pb) w w') (hr : RdAt C.E.tRd w' R.pb R.D rs') (hk : KeepR f f' l m t) : RdTo C R b a n lo w cc e f l m t rs' f' w' cc :=
  ⟨he.mono (fun _ _ h => .inl h), h.ext1 he hr, rfl, fun _ _ => rfl, hk⟩
theorem over_one {cc : Array Value} {o : Nat} {v : Value} (h : o < cc.size) : over cc o [v] = cc.setIfInBounds o v := by
  apply Array.ext_getElem?
  intro j
  simp only [over, List.length_singleton, List.getElem?_toArray, List.append_assoc]
  rw [Array.getElem?_setIfInBounds]
  by_cases h1 : j < o
  · rw [List.getElem?_append_left (by simp; omega), if_neg (by omega), List.getElem?_take, if_pos h1]; simp
  · rw [List.getElem?_append_right (by simp; omega)]
    have hl : (cc.toList.take o).length = o := by simp; omega
    rw [hl]
    by_cases h2 : j = o
    · subst h2; simp [h]
    · rw [if_neg (by omega), List.getElem?_append_right (by simp; omega)]
      simp only [List.length_singleton, List.getElem?_drop, Array.getElem?_toList]
      congr 1; omega
theorem soundR_fin : SoundR P C .fin := by
  intro T PT pv c Q f w b a n lo cc e ver fl R rs hty hN hf hc hs hd h0 h1
  exact h1 () rs rfl f w cc (RdTo.refl hs (KeepR.refl _ _ _ _)) trivial
theorem soundR_tags (ht : TyR P C) (k o : Nat) : SoundR P C (.tags k o) := by
  intro T PT pv c Q f w b a n lo cc e ver fl R rs hty hN hf hc hs hd h0 h1
  simp only [Sch.tyR, Bool.and_eq_true, beq_iff_eq, decide_eq_true_eq] at hty
  obtain ⟨⟨⟨hx, hF⟩, hlo⟩, hn⟩ := hty
  have hlt : c.l ≤ c.t := hc
  have hn10 := hf.nN
  have hpt := hf.ptrN
  have hnil := isNilMap_spec hd
  refine seqL_one ?_
  refine r_cond (hf.flg hx) (by omega) ?_ ?_
  · rintro rfl f1 hk1
    refine wp_reg ?_
    have p1 : f1 pv = .pointer (some ⟨b, a, none⟩) := (hk1 pv (by omega)).trans hf.ptr
    have hrs := hf.rsN
    have p7 : f1 C.rs = .pointer (some ⟨R.pb, 0, none⟩) := (hk1 C.rs (by omega)).trans hf.rd
    have z7 : ∀ n, (C.rs = c.t + n) = False := by intro n; simp; omega
    have zp : ∀ n, (pv = c.t + n) = False := by intro n; simp; omega
    simp [p1, p7, z7, zp]
    refine (hN w R.pb R.D rs hs.rw_.ne.1 (Nat.lt_of_lt_of_le hs.rw_.lt.2.2.1 hs.rw_.lt.2.2.2) hs.rd).mono ?_
    rintro _ w1 ⟨⟨v, rfl, hv⟩, he1, hr1⟩
    have hs1 := hs.ext1 he1 hr1
    have hv1 : v.oneCell' = true := by
      rcases hv with ⟨rfl, _⟩ | ⟨_, _, _, rfl, _⟩ <;> rfl
    have hK : ∀ k, k = R.D ∨ w.heap.size ≤ k → RK R k := by
      rintro k (h | h)
      · exact .inl h
      · exact .inr (Nat.le_trans hs.rw_.lt.2.2.2 h)
    have huc : v.cells = #[v] := by cases v <;> simp_all [Value.oneCell', Value.cells]
    have hfit := hs1.fit
    simp [hF, Addr.add_mk, store_agg ht.kTags, allOne, hv1, putK_blk hs1.blk, over_one (show a + o < cc.size by omega)]
    refine ⟨by omega, ?_⟩
    have hput := put_one (cc := cc) (o := a + o) hv1 (by omega)
    refine h1 (rdTags rs).1 (rdTags rs).2 rfl _ _ _ ((RdTo.read hs he1 hr1 (KeepR.refl _ _ _ _)).trans (RdTo.put hs1 hput hlo (by rw [huc]; exact hn) (l := c.l) (m := c.l) (t := c.t) ?_) (Nat.le_refl _) (Nat.le_refl _) (Nat.le_refl _) (Nat.le_refl _)) ?_
    · intro y hy1 hy
      have x3 : ∀ n, (y = c.t + n) = False := by intro n; simp; omega
      simp [x3]
      exact hk1 y (by omega)
    · refine ⟨v, ?_, ?_⟩
      · rw [segL_get (by omega)]
        simp [Array.getElem?_setIfInBounds]; omega
      · have hE : Ext (fun k => k = b) w1 (w1.setBlk b (.cells (cc.setIfInBounds (a + o) v) e (0, 0))) := (Ext.refl (fun k => k = b) w1).setBlk (b := b) (Or.inr rfl) _
        exact TagsAt.ext hE (fun k hk1 hk2 hk3 => hs1.rw_.keepK k hk1 hk2 (.inr hk3)) (TagsAt.mono hK hv)
  · rintro rfl f1 hk1
    refine h1 [] rs rfl f1 w cc (RdTo.refl hs (fun y _ hy => hk1 y (by omega))) ⟨_, hnil, .inl ⟨rfl, rfl⟩⟩
/-- var t E; {v := b.Int8(); t = E(v)}; v := t; s.F = v -/
theorem r_enum (ht : TyR P C) {T PT pv k o l t b a n en : Nat} {R : Rdr} {Q : Post} {f : Nat → Value} {w : World} {ver : Int} {fl : Bool} {cc : Array Value} {e : TypeId} {rs : RS} (hP : PrimR P C .i8) (hs : StR C R b a n w cc e rs) (hf : FrR C R f pv b a ver fl l)
    (hF : fldOff P T k = some o) (hk : isScl (kindOf P en) = true) (hl : l + 3 ≤ t) (hn : o + 1 ≤ n)
    (h : ∀ f' w2 u cc', Prim.i8.rep1 w2 (RK R) u (Prim.i8.rd fl rs).1 → Ext (· = R.pb) w w2 → RdAt C.E.tRd w2 R.pb R.D (Prim.i8.rd fl rs).2 → Put cc (a + o) u cc' → (∀ y, y < t → (y < l ∨ l + 3 ≤ y) → f' y = f y) → Q .normal f' (w2.setBlk b (.cells cc' e (0, 0)))) :
    (seqL [.reg [⟨none, some l, .assign (.const (.int .i8 0)), en⟩], seqL [callR C .i8 (Prim.i8.fR C.E false) (l + 1) t, .reg [⟨none, some (t + 1), .move (.tmp (l + 1)), Prim.i8.ty C.E⟩, ⟨none, some l, .assign (.tmp (t + 1)), en⟩]],
        .reg [⟨none, some (t + 2), .move (.tmp l), en⟩, ⟨none, some (l + 2), .assign (.tmp (t + 2)), en⟩], .reg (storeT C T PT pv k en (l + 2) (t + 3))]).wp P Q f w := by
  have hn10 := hf.nN
  have hpt := hf.ptrN
  have hfit := hs.fit
  refine seqL_cons ?_
  refine wp_reg ?_
  simp
  generalize hfa : upd f l (.int .i8 0) = fa
  have ka : ∀ y, y ≠ l → fa y = f y := fun y hy => by subst hfa; rw [upd_apply, if_neg hy]
  show (seqL _).wp P _ fa w
  refine seqL_cons ?_
  refine seqL_cons ?_
  have hcall := hP false (by simp) w R.pb R.D rs hs.rw_.ne.1 (Nat.lt_of_lt_of_le hs.rw_.lt.2.2.1 hs.rw_.lt.2.2.2) hs.rd
  refine r_call ht (fun h => by cases h) (x := (Prim.i8.rd fl rs).1) (rs' := (Prim.i8.rd fl rs).2) hs ((ka C.rs (by have := hf.rsN; omega)).trans hf.rd) (by omega) (by omega) hcall ?_
  intro f2 w2 u hu hrep he2 hr2 hk2
  have hs2 := hs.ext1 he2 hr2
  have hul : f2 (l + 1) = u := by simpa [LocVal] using hu
  have hu1 : u.oneCell' = true := by have := rep1_one hrep; simpa using this
  show (Ir.reg _).wp P _ f2 w2
  refine wp_reg ?_
  simp [hul]
  show (seqL _).wp P _ _ w2
  refine seqL_cons ?_
  refine wp_reg ?_
  have z1 : ∀ n, (l = t + n) = False := by intro n; simp; omega
  simp [z1]
  show (Ir.reg _).wp P _ _ w2
  refine r_storeT (u := u) (o := o) (b := b) (a := a) (cc := cc) (e := e) ?_ hF hk ?_ hu1 (by omega) (by omega) hs2.blk (by omega) ?_
  · have x3 : ∀ n, (pv = t + n) = False := by intro n; simp; omega
    have x4 : ∀ n, (pv = l + n) = False := by intro n; simp; omega
    have x5 : (pv = l) = False := by simp; omega
    simp [x3, x4, x5]
    rw [hk2 pv (by omega) (by omega), ka pv (by omega)]
    exact hf.ptr
  · simp
  · intro f3 cc3 hput hk3
    refine h f3 w2 u cc3 hrep he2 hr2 hput ?_
    intro y hy hy2
    have x3 : ∀ n, (y = t + n) = False := by intro n; simp; omega
    have x4 : (y = l + 2) = False := by simp; omega
    have x5 : (y = l) = False := by simp; omega
    rw [hk3 y (by omega)]
    simp [x3, x4, x5]
    rw [hk2 y (by omega) (by omega), ka y (by omega)]
theorem soundR_prim (ht : TyR P C) (g : Gd) (k o : Nat) (p : Prim) (en : Nat) (d : Int) (rest : Sch) (ih : SoundR P C rest) : SoundR P C (.prim g k o p en d rest) := by
  intro T PT pv c Q f w b a n lo cc e ver fl R rs hty hN hf hc hs hd h0 h1
  simp only [Sch.tyR, Bool.and_eq_true, beq_iff_eq, decide_eq_true_eq] at hty
  obtain ⟨⟨⟨⟨⟨hF, hk⟩, hen⟩, hlo⟩, hn⟩, htr⟩ := hty
  obtain ⟨hNp, hNr⟩ := hN
  simp only [Sch.chkD, Bool.and_eq_true] at hd
  have hn10 := hf.nN
  have hpt := hf.ptrN
  have hfit := hs.fit
  -- what comes behind
  have behind : ∀ (c' : Ct) (f1 : Nat → Value) (w1 : World) (cc1 : Array Value) (rs1 : RS) (x : p.T), c.l ≤ c'.l → c.t ≤ c'.t → (rest.genR C T PT pv c').2.l ≤ c'.t →
      (Sch.rd ver fl (.prim g k o p en d rest) rs = (rest.rd ver fl rs1).map fun y => ((x, y.1), y.2)) →
      RdTo C R b a n lo w cc e f c.l c'.l c.t rs1 f1 w1 cc1 → (∀ j, (j < a + lo ∨ a + o + p.sz ≤ j) → cc1[j]? = cc[j]?) → FldAt w1 R (segL cc1 a n) o p x →
      (∀ x rs', Sch.rd ver fl (.prim g k o p en d rest) rs = some (x, rs') → ∀ f' w' cc', RdTo C R b a n lo w cc e f c.l (rest.genR C T PT pv c').2.l c.t rs' f' w' cc' → Sch.Rep w' (RK R) (.prim g k o p en d rest) (segL cc' a n) x → Q .normal f' w') →
      (seqL (rest.genR C T PT pv c').1).wp P Q f1 w1 := by
    intro c' f1 w1 cc1 rs1 x hl htt hc' hrd hto hsame hfld h1
    have hd1 : rest.chkD (segL cc1 a n) = true := by
      refine chkD_congr rest htr (fun j hj1 hj2 => ?_) hd.2
      rw [segL_get hj2, segL_get hj2]
      exact hsame _ (by omega)
    refine ih T PT pv c' Q f1 w1 b a n (o + p.sz) cc1 e ver fl R rs1 htr hNr ((hf.keep hto.keep.keeps (Nat.le_refl _)).up hl) hc' hto.st hd1 ?_ ?_
    · intro hnone f2 w2 h6 he2
      exact h0 (by rw [hrd, hnone]; rfl) f2 w2 h6 (hto.ext.trans he2)
    · intro y rs2 hy f2 w2 cc2 hto2 hrep2
      refine h1 (x, y) rs2 (by rw [hrd, hy]; rfl) f2 w2 cc2 (hto.trans hto2 (by omega) hl (genR_mono (C := C) rest T PT pv c').1 htt) ⟨?_, hrep2⟩
      exact hfld.move hto2.ext hto.st.rw_.keepK (fun j hj1 hj2 => by rw [segL_get (by omega), segL_get (by omega)]; exact hto2.same _ (.inl (by omega)))
  have hK : ∀ k, k < w.heap.size → RK R k → ¬ CB R b k := hs.rw_.keepK
  by_cases he : en = 0
  · subst he
    simp only [Sch.genR, if_true] at hc h1 ⊢
    have hm := (genR_mono (C := C) rest T PT pv ⟨c.l + 1, c.t + gdN g + readN C p + 4, c.k⟩).1
    simp only at hm
    refine seqL_cons ?_
    refine w_guard ht.c (show f 8 = _ from hf.ver) (show 8 < c.t by omega) (by omega) ?_ ?_
    · intro hon f1 hk1 h11
      have hf1 := hf.keep hk1 (by omega)
      refine seqL_append ?_
      refine r_read ht (kOk_uu hk) hNp hs hf1 (by omega) ?_
      intro f2 w2 u hu hrep he2 hr2 hk2
      have hs2 := hs.ext1 he2 hr2
      have hsz := rep1_sz hrep
      refine seqL_one ?_
      refine r_store ht (o := o) ((hk2 pv (by omega) (by omega)).trans hf1.ptr) hF hk hu (rep1_one hrep) (by omega) (by omega) hs2.blk (by rw [hsz]; omega) ?_
      intro f3 cc3 hput hk3
      refine behind ⟨c.l + 1, c.t + gdN g + readN C p + 4, c.k⟩ f3 _ cc3 (p.rd fl rs).2 (p.rd fl rs).1 (by simp) (by simp; omega) (by simp only; omega) ?_ ?_ ?_ ?_ h1
      · simp only [Sch.rd, if_pos hon]; rfl
      · refine (RdTo.read (lo := lo) hs he2 hr2 (KeepR.refl _ c.l (c.l + 1) c.t)).trans (RdTo.put hs2 hput hlo (by rw [hsz]; exact hn) (l := c.l) (m := c.l + 1) (t := c.t) ?_) (Nat.le_refl _) (Nat.le_refl _) (Nat.le_refl _) (Nat.le_refl _)
        intro y hy1 hy
        rw [hk3 y (by omega), hk2 y (by omega) (by omega)]
        exact hk1 y (by omega) hy1
      · intro j hj
        exact hput.same j (by rw [hsz]; omega)
      · exact FldAt.put hs2 hput (by rw [hsz]; exact hn) hrep
    · intro hoff f1 hk1 h11
      refine behind ⟨c.l + 1, c.t + gdN g + readN C p + 4, c.k⟩ f1 w cc rs (p.dfl d) (by simp) (by simp; omega) (by simp only; omega) ?_ (RdTo.refl hs (KeepR.of hk1 (by omega))) (fun _ _ => rfl) (Prim.repD p d hd.1) h1
      simp only [Sch.rd, hoff, Bool.false_eq_true, if_false]; rfl
  · have hen' : p = .i8 ∧ isScl (kindOf P en) = true := by
      simp only [Bool.or_eq_true, beq_iff_eq, Bool.and_eq_true] at hen
      rcases hen with h | h
      · exact absurd h he
      · exact h
    obtain ⟨rfl, hken⟩ := hen'
    simp only [Sch.genR, if_neg he] at hc h1 ⊢
    have hm := (genR_mono (C := C) rest T PT pv ⟨c.l + 3, c.t + gdN g + 7, c.k⟩).1
    simp only at hm
    refine seqL_cons ?_
    refine w_guard ht.c (show f 8 = _ from hf.ver) (show 8 < c.t by omega) (by omega) ?_ ?_
    · intro hon f1 hk1 h11
      have hf1 := hf.keep hk1 (by omega)
      refine r_enum ht (o := o) hNp hs hf1 hF hken (by omega) hn ?_
      intro f3 w2 u cc3 hrep he2 hr2 hput hk3
      have hs2 := hs.ext1 he2 hr2
      have hsz := rep1_sz hrep
      refine behind ⟨c.l + 3, c.t + gdN g + 7, c.k⟩ f3 _ cc3 (Prim.i8.rd fl rs).2 (Prim.i8.rd fl rs).1 (by simp) (by simp; omega) (by simp only; omega) ?_ ?_ ?_ ?_ h1
      · simp only [Sch.rd, if_pos hon]; rfl
      · refine (RdTo.read (lo := lo) hs he2 hr2 (KeepR.refl _ c.l (c.l + 3) c.t)).trans (RdTo.put hs2 hput hlo (by rw [hsz]; exact hn) (l := c.l) (m := c.l + 3) (t := c.t) ?_) (Nat.le_refl _) (Nat.le_refl _) (Nat.le_refl _) (Nat.le_refl _)
        intro y hy1 hy
        rw [hk3 y (by omega) (by omega)]
        exact hk1 y (by omega) hy1
      · intro j hj
        exact hput.same j (by rw [hsz]; omega)
      · exact FldAt.put hs2 hput (by rw [hsz]; exact hn) hrep
    · intro hoff f1 hk1 h11
      refine behind ⟨c.l + 3, c.t + gdN g + 7, c.k⟩ f1 w cc rs (Prim.i8.dfl d) (by simp) (by simp; omega) (by simp only; omega) ?_ (RdTo.refl hs (KeepR.of hk1 (by omega))) (fun _ _ => rfl) (Prim.repD .i8 d hd.1) h1
      simp only [Sch.rd, hoff, Bool.false_eq_true, if_false]; rfl
end
end Go.Kg

set_option linter.unusedSimpArgs false
set_option linter.unusedVariables false
set_option linter.unusedSectionVars false
namespace Go.Kg
open Go
theorem intKind_und {P : Program} {T : Nat} {k : IntKind} (h : intKind? P T = some k) : P.underlying T = some (.int k) := by
  unfold intKind? at h
  split at h
  · rename_i k' hu; cases h; exact hu
  · cases h
theorem sliZ_spec {P : Program} {sT : Nat} {z : Array Value} (h : sliZ P sT = some z) : ∃ e i v, P.underlying sT = some (.slice e) ∧ P.info? e = some i ∧ i.bytes ≤ 131072 ∧ 0 < i.size ∧ i.zero = some v ∧ v.cells = z ∧ z.size = i.size := by
  unfold sliZ at h
  split at h
  · rename_i e hu
    split at h
    · rename_i i hi
      split at h
      · rename_i hb
        split at h
        · rename_i v hv
          split at h
          · rename_i hs
            cases h
            exact ⟨e, i, v, hu, hi, hb.1, hb.2, hv, rfl, hs⟩
          · cases h
        · cases h
      · cases h
    · cases h
  · cases h
theorem zeroCells_get {z : Array Value} {n i j : Nat} (hi : i < n) (hj : j < z.size) (more : Array Value) : (Builtin.zeroCells z n ++ more)[i * z.size + j]? = z[j]? := by
  have hlt : i * z.size + j < n * z.size := by
    have h1 : (i + 1) * z.size ≤ n * z.size := Nat.mul_le_mul_right _ hi
    rw [Nat.add_mul] at h1
    omega
  have hs : (Builtin.zeroCells z n).size = n * z.size := size_zeroCells z n
  rw [Array.getElem?_append_left (by omega)]
  simp only [Builtin.zeroCells, Array.getElem?_map]
  rw [Array.getElem?_range]
  simp [hlt]
  rw [Nat.mod_eq_of_lt hj]
  simp [hj, getElem!_pos]
/-- append(nil, make([]T, n)...) -/
theorem st_appz {P : Program} {f : Nat → Value} {w : World} {sT tn ty : Nat} {z : Array Value} {kn : IntKind} {x y : Operand} {K : Value → World → Prop} {lv : Int} (hz : sliZ P sT = some z) (htn : intKind? P tn = some kn) (hx : evF f x = .slice none 0 0) (hy : evF f y = .int .i32 lv) (h0 : 0 < lv) (h1 : lv < 2147483648)
    (h : ∀ cap more e, lv.toNat ≤ cap → K (.slice (some ⟨w.heap.size, 0, none⟩) lv.toNat cap) (w.drew.alloc (.cells (Builtin.zeroCells z lv.toNat ++ more) e))) :
    stepF P f (.call { callee := .builtin .append, args := #[x, y], argTypes := #[sT, tn] }) ty w K := by
  obtain ⟨e, i, v, hu, hi, hb, hs, hv, rfl, hzs⟩ := sliZ_spec hz
  have hn : ((lv.toNat : Nat) : Int) = lv := by omega
  have h48 : lv.toNat * i.bytes ≤ 281474976710656 := by
    have : lv.toNat * i.bytes ≤ 2147483648 * 131072 := Nat.mul_le_mul (by omega) hb
    omega
  have hr := Lib.run_append_nil_zeros (P := P) w sT tn ty e i v .i32 kn hu (intKind_und htn) hi hv lv.toNat (by omega) hs (by omega) h48
  rw [hn] at hr
  rw [stepF_ok (v := .slice (some ⟨w.heap.size, 0, none⟩) lv.toNat (grownCap w lv.toNat 0 e)) (w' := w.drew.alloc (.cells (Builtin.zeroCells v.cells lv.toNat ++ Builtin.zeroCells v.cells (grownCap w lv.toNat 0 e - lv.toNat)) e))]
  · exact h _ _ _ (grownCap_ge w lv.toNat 0 e)
  · simp only [runF, execOp, resolve, invoke, builtin, Sem.run_bind, Sem.run_pure, Result.andThen_ok, List.map_toArray, List.map_cons, List.map_nil, hx, hy, hr]
section
variable {P : Program} {C : CfgR} {R : Rdr}
/-- What a list's head leaves: the row of a list that is not empty. -/
structure Row (z : Array Value) (w w' : World) (N : Nat) (av : Value) (ab : Nat) (cur : Array Value) (et : TypeId) : Prop where
  av : ∃ cap, av = .slice (some ⟨ab, 0, none⟩) N cap ∧ N ≤ cap
  new : w.heap.size ≤ ab
  blk : w'.heap[ab]? = some (.cells cur et (0, 0))
  fit : N * z.size ≤ cur.size
  zero : ∀ i, i < N → segL cur (i * z.size) z.size = z.toList
/-- what a list is that has nothing in it -/
def NulPost (nul : Option Nat) (lv : Int) (w w' : World) (av : Value) : Prop := if nul.isSome = true ∧ lv = 0 then ∃ ab, av = .slice (some ⟨ab, 0, none⟩) 0 0 ∧ w.heap.size ≤ ab ∧ ab < w'.heap.size else av = .slice none 0 0
def HeadPost (nul : Option Nat) (z : Array Value) (lv : Int) (w w' : World) (av : Value) : Prop := if 0 < lv then ∃ ab cur et, Row z w w' lv.toNat av ab cur et else NulPost nul lv w w' av
theorem lenRd_lt (fl : Bool) (rs : RS) : (lenRd fl rs).1 < 2147483648 ∧ -2147483648 ≤ (lenRd fl rs).1 := by
  have cap : ∀ n rs, n < 2147483648 ∧ -2147483648 ≤ n → (capLen n rs).1 < 2147483648 ∧ -2147483648 ≤ (capLen n rs).1 := by
    intro n rs h; unfold capLen; split
    · simp
    · exact h
  cases fl
  · exact cap _ _ (by simp [i32, IntKind.wrap, IntKind.signed, IntKind.bits]; omega)
  · exact cap _ _ (by simp [i32, IntKind.wrap, IntKind.signed, IntKind.bits]; omega)
theorem cellsAt_seg {w : World} {b a n : Nat} {cc : Array Value} {e : TypeId} {fz : Nat × Nat} (h : w.heap[b]? = some (.cells cc e fz)) : CellsAt w b a (segL cc a n) := by
  intro j u hj
  have hj' : j < n := by
    rcases Nat.lt_or_ge j n with h1 | h1
    · exact h1
    · rw [segL_none h1] at hj; cases hj
  rw [cell_of_blk h]
  rwa [segL_get hj'] at hj
variable {Q : Post} {f : Nat → Value} {w : World}
/-- l = b.ArrayLen() -/
theorem r_len {l t b a n : Nat} {fl : Bool} {cc : Array Value} {e : TypeId} {rs : RS} (hN : LenRC P C) (hs : StR C R b a n w cc e rs) (hff : C.fx = true → f 9 = .bool fl) (hfn : C.fx = false → fl = false) (hrt : C.rs < t) (h7 : f C.rs = .pointer (some ⟨R.pb, 0, none⟩)) (hl : l < t) (hl9 : 9 < l)
    (h : ∀ f' w', f' l = .int .i32 (lenRd fl rs).1 → Ext (· = R.pb) w w' → RdAt C.E.tRd w' R.pb R.D (lenRd fl rs).2 → (∀ y, y < t → y ≠ l → f' y = f y) → Q .normal f' w') : (lenIR C l t).wp P Q f w := by
  have main : ∀ (f1 : Nat → Value) (t1 : Nat) (fl' : Bool), (fl' = true → C.fx = true) → fl' = fl → t ≤ t1 → (∀ y, y < t → f1 y = f y) →
      (Ir.reg [⟨none, some t1, .call { callee := .value (.func (if fl' then C.E.f_pkbin_Reader_CompactArrayLen else C.E.f_pkbin_Reader_ArrayLen)), args := #[.tmp C.rs], argTypes := #[C.E.tRd] }, C.E.tI32⟩, ⟨none, some l, .assign (.tmp t1), C.E.tI32⟩]).wp P Q f1 w := by
    rintro f1 t1 fl' hx rfl ht1 hk
    refine wp_reg ?_
    have z7 := (hk C.rs (by omega)).trans h7
    simp [z7]
    refine (hN fl' hx w R.pb R.D rs hs.rw_.ne.1 hs.rd).mono ?_
    rintro v w1 ⟨rfl, he, hr⟩
    refine h _ _ (by simp) he hr ?_
    intro y hy hyl
    have x4 : (y = t1) = False := by simp; omega
    simp [x4, hyl]
    exact hk y hy
  unfold lenIR
  by_cases hx : C.fx = true
  · simp only [if_pos hx]
    refine r_cond (hff hx) (by omega) ?_ ?_
    · rintro rfl f1 hk
      exact main f1 (t + 1) true (fun _ => hx) rfl (by omega) hk
    · rintro rfl f1 hk
      exact main f1 (t + 2) false (by simp) rfl (by omega) hk
  · have hx' : C.fx = false := by simpa using hx
    simp only [if_neg hx]
    have := hfn hx'
    subst this
    exact main f t false (by simp) rfl (Nat.le_refl _) (fun _ _ => rfl)
/-- return b.Complete(), where the reader is bad -/
theorem r_complete {t b a n : Nat} {cc : Array Value} {e : TypeId} {rs : RS} (hE : EndC0 P C) (hs : StR C R b a n w cc e rs) (h7 : f C.rs = .pointer (some ⟨R.pb, 0, none⟩))
    (h : ∀ f', f' 6 = (if rs.bad then R.ev else .nilIface) → Q .ret f' w) : (seqL (completeI C t)).wp P Q f w := by
  refine seqL_cons ?_
  refine wp_reg ?_
  simp [h7]
  refine (hE.complete w R.pb R.D rs R.ev hs.rd (fun _ => hs.rw_.err)).mono ?_
  rintro v w1 ⟨rfl, rfl⟩
  exact h _ (by simp)
/-- if !b.Ok() {return b.Complete()} -/
theorem r_ok {t b a n : Nat} {cc : Array Value} {e : TypeId} {rs : RS} (hE : EndC P C) (hs : StR C R b a n w cc e rs) (h7 : f C.rs = .pointer (some ⟨R.pb, 0, none⟩)) (ht : C.rs < t)
    (h0 : rs.bad = true → ∀ f', f' 6 = R.ev → Q .ret f' w) (h1 : rs.bad = false → ∀ f', (∀ y, y < t → f' y = f y) → Q .normal f' w) : (okI C t).wp P Q f w := by
  refine wp_seqI (wp_reg ?_)
  simp [h7]
  refine (hE.ok w R.pb R.D rs hs.rd).mono ?_
  rintro v w1 ⟨rfl, rfl⟩
  simp
  cases hb : rs.bad
  · refine .inr ⟨by simp, ?_⟩
    refine h1 hb _ ?_
    intro y hy
    have x3 : ∀ n, (y = t + n) = False := by intro n; simp; omega
    have x4 : (y = t) = False := by simp; omega
    simp [x3, x4]
  · refine .inl ⟨by simp, ?_⟩
    have z7 : ∀ n, (C.rs = t + n) = False := by intro n; simp; omega
    have z7' : (C.rs = t) = False := by simp; omega
    refine r_complete hE.toEndC0 hs (by simp [z7, z7', h7]) ?_
    intro f' h6
    exact h0 hb f' (by rw [h6, hb]; rfl)
end
end Go.Kg

set_option linter.unusedSimpArgs false
set_option linter.unusedVariables false
set_option linter.unusedSectionVars false
namespace Go.Kg
open Go
section
variable {P : Program} {C : CfgR} {R : Rdr} {Q : Post} {f : Nat → Value} {w : World}
/-- if version < 0 || l == 0 {a = []T{}} -/
def nulL (C : CfgR) (nul : Option Nat) (sT l t : Nat) : List Ir := match nul with
  | none => []
  | some m => [nulI C m sT l t]
theorem r_nul {nul : Option Nat} {sT l t : Nat} {ver lv : Int} {z : Array Value} (hnz : nulZ C.fx nul = true) (hz : sliZ P sT = some z) (hv0 : C.fx = true → 0 ≤ ver) (h8 : f 8 = .int .i16 ver) (hl8 : 8 < l) (hl : l + 3 ≤ t) (ha : f (l + 1) = .slice none 0 0) (hlv : f (l + 2) = .int .i32 lv)
    (h : ∀ f' w' av, f' (l + 1) = av → (∀ y, y < t → y ≠ l + 1 → f' y = f y) → Ext none1 w w' → NulPost nul lv w w' av → Q .normal f' w') : (seqL (nulL C nul sT l t)).wp P Q f w := by
  cases nul with
  | none => exact h f w _ ha (fun _ _ _ => rfl) (Ext.refl _ _) (by unfold NulPost; rw [if_neg (by simp)])
  | some m =>
    simp only [nulZ, Bool.and_eq_true, beq_iff_eq] at hnz
    obtain ⟨hfx, rfl⟩ := hnz
    have hv0' := hv0 hfx
    obtain ⟨e, i, v, hu, hi, hb, hs, hv, rfl, hzs⟩ := sliZ_spec hz
    have hS : SliI P sT e i.size i.bytes v := ⟨hu, ⟨i, hi, hv, rfl, rfl⟩, hzs⟩
    show (nulI C 0 sT l t).wp P Q f w
    have x8 : ∀ n, (8 = t + n) = False := by intro n; simp; omega
    have x8' : (8 = t) = False := by simp; omega
    have x2 : ∀ n, (l + 2 = t + n) = False := by intro n; simp; omega
    have x2' : (l + 2 = t) = False := by simp; omega
    have x1 : ∀ n, (l + 1 = t + n) = False := by intro n; simp; omega
    have x1' : (l + 1 = t) = False := by simp; omega
    have x0 : ∀ n, (l = t + n) = False := by intro n; simp; omega
    have x0' : (l = t) = False := by simp; omega
    have nv : ¬ ver < 0 := by omega
    refine wp_seqI (wp_reg ?_)
    simp [h8, x8, x8', x2, x2', x1, x1', x0, x0', hlv, nv]
    have kk : ∀ v1 v2 v3 v4 v5 v6, ∀ y, y < t → y ≠ l + 1 → upd (upd (upd (upd (upd (upd f t v1) (t + 1) v2) (t + 2) v3) (t + 3) v4) (t + 4) v5) (t + 5) v6 y = f y := by
      intro v1 v2 v3 v4 v5 v6 y hy hy2
      have y1 : ∀ n, (y = t + n) = False := by intro n; simp; omega
      have y2 : (y = t) = False := by simp; omega
      simp [y1, y2]
    by_cases h0 : lv = 0
    · refine .inl ⟨by simp [h0], ?_⟩
      refine wp_reg ?_
      simp [st_bsl0 hS]
      refine h _ _ (.slice (some ⟨w.heap.size, 0, none⟩) 0 0) (by simp) ?_ ((Ext.refl none1 w).alloc _) ?_
      · intro y hy hy2
        have y1 : ∀ n, (y = t + n) = False := by intro n; simp; omega
        have y2 : (y = t) = False := by simp; omega
        simp [y1, y2, hy2]
      · unfold NulPost
        rw [if_pos ⟨rfl, h0⟩]
        exact ⟨_, rfl, Nat.le_refl _, lt_of_heap alloc_new⟩
    · refine .inr ⟨by simp [h0], ?_⟩
      refine h _ w (.slice none 0 0) ?_ (kk _ _ _ _ _ _) (Ext.refl _ _) ?_
      · simp [x1, x1', x0, x0', ha]
      · unfold NulPost
        rw [if_neg (by simp [h0])]
/-- the head of a list's field, ahead of the question for null, and behind it -/
def headA (C : CfgR) (T PT pv k sT l t : Nat) : List Ir :=
  [loadI C.toCfg T PT pv k sT l t .i8, .reg [⟨none, some (t + 4), .move (.tmp l), sT⟩, ⟨none, some (l + 1), .assign (.tmp (t + 4)), sT⟩], .reg [⟨none, some (l + 2), .assign (.const (.int .i32 0)), C.E.tI32⟩], lenIR C (l + 2) (t + 5)]
def headB (C : CfgR) (sT l t2 : Nat) : List Ir :=
  [okI C t2, .reg [⟨none, some (t2 + 3), .move (.tmp (l + 1)), sT⟩, ⟨none, some (t2 + 4), .slice sT (.tmp (t2 + 3)) none (some (.const (.int .i64 0))) none, sT⟩, ⟨none, some (l + 1), .assign (.tmp (t2 + 4)), sT⟩],
   .seq (.reg [⟨none, some (t2 + 5), .move (.tmp (l + 2)), C.E.tI32⟩, ⟨none, some (t2 + 6), .binOp .gtr C.E.tI32 (.tmp (t2 + 5)) (.const (.int .i32 0)) C.E.tI32, C.E.tB⟩])
    (.cond (t2 + 6) (.reg [⟨none, some (t2 + 7), .move (.tmp (l + 1)), sT⟩, ⟨none, some (t2 + 8), .move (.tmp (l + 2)), C.E.tI32⟩,
      ⟨none, some (t2 + 9), .call { callee := .builtin .append, args := #[.tmp (t2 + 7), .tmp (t2 + 8)], argTypes := #[sT, C.E.tI32] }, sT⟩, ⟨none, some (l + 1), .assign (.tmp (t2 + 9)), sT⟩]) .skip)]
/-- A list's head: the field is nil. -/
theorem r_head (ht : TyR P C) {nul : Option Nat} (hnz : nulZ C.fx nul = true) {T PT pv k o sT l t b a n : Nat} {ver : Int} {fl : Bool} {cc : Array Value} {e : TypeId} {rs : RS} {z : Array Value} {sz : Nat} (hF : fldOff P T k = some o) (hk : isScl (kindOf P sT) = true) (hsz : sliSz P sT = some sz) (hz : sliZ P sT = some z)
    (hN : LenRC P C) (hE : EndC P C) (hs : StR C R b a n w cc e rs) (hf : FrR C R f pv b a ver fl l) (hl : l + 3 ≤ t) (hon : o < n) (hnil : (segL cc a n)[o]? = some (.slice none 0 0))
    (h0 : (lenRd fl rs).2.bad = true → ∀ f' w', f' 6 = R.ev → Ext (· = R.pb) w w' → Q .ret f' w')
    (h1 : (lenRd fl rs).2.bad = false → ∀ f' w' av, f' (l + 1) = av → f' (l + 2) = .int .i32 (lenRd fl rs).1 → HeadPost nul z (lenRd fl rs).1 w w' av → Ext (· = R.pb) w w' → RdAt C.E.tRd w' R.pb R.D (lenRd fl rs).2 → (∀ y, y < t → (y < l ∨ l + 3 ≤ y) → f' y = f y) → Q .normal f' w') :
    (seqL (headR C T PT pv k sT l t nul)).wp P Q f w := by
  have hn10 := hf.nN
  have hpt := hf.ptrN
  have hrs := hf.rsN
  have hnl : headR C T PT pv k sT l t nul = headA C T PT pv k sT l t ++ (nulL C nul sT l (t + 5 + lenIN C) ++ headB C sT l (t + 5 + lenIN C + nulN nul)) := by cases nul <;> rfl
  rw [hnl]
  refine seqL_append ?_
  unfold headA
  refine seqL_cons ?_
  show (loadI (Sch.genR.toR C) T PT pv k sT l t .i8).wp P _ f w
  refine w_load ht.c (fun h => by cases h) hf.ptr hF (kOk_scl hk) (cellsAt_seg hs.blk) (seg_one hnil rfl) (by simp [Value.oneCell']) (by omega) (by omega) ?_
  intro f2 w2 hv2 he2 hk2
  have hv2' : f2 l = .slice none 0 0 := loc_slice hv2
  have hs2 : StR C R b a n w2 cc e rs := hs.ext1 (he2.mono (fun _ _ h => h.elim)) (hs.rd.ext he2 (fun h => h) (fun h => h))
  -- a := v; var l int32
  show (seqL _).wp P _ f2 w2
  refine seqL_cons ?_
  refine wp_reg ?_
  have zl : (l = t + 4) = False := by simp; omega
  simp [hv2', zl]
  show (seqL _).wp P _ _ w2
  refine seqL_cons ?_
  refine wp_reg ?_
  simp
  generalize hf3 : upd (upd (upd f2 (t + 4) (.slice none 0 0)) (l + 1) (.slice none 0 0)) (l + 2) (.int .i32 0) = f3
  have k3 : ∀ y, y < t → (y < l ∨ l + 3 ≤ y) → f3 y = f y := by
    intro y hy hy2
    subst hf3
    have x1 : (y = l + 2) = False := by simp; omega
    have x2 : (y = l + 1) = False := by simp; omega
    have x3 : (y = t + 4) = False := by simp; omega
    simp [x1, x2, x3]
    exact hk2 y hy (by omega)
  have a3 : f3 (l + 1) = .slice none 0 0 := by subst hf3; simp
  show (lenIR C (l + 2) (t + 5)).wp P _ f3 w2
  refine r_len (fl := fl) hN hs2 (fun hx => (k3 9 (by omega) (by omega)).trans (hf.flg hx)) hf.flN (by omega) ((k3 C.rs (by omega) (by omega)).trans hf.rd) (by omega) (by omega) ?_
  intro f4 w4 hl4 he4 hr4 hk4
  have hs4 := hs2.ext1 he4 hr4
  have he24 : Ext (· = R.pb) w w4 := (he2.mono (fun _ _ h => h.elim)).trans he4
  have k4 : ∀ y, y < t → (y < l ∨ l + 3 ≤ y) → f4 y = f y := fun y hy hy2 => (hk4 y (by omega) (by omega)).trans (k3 y hy hy2)
  have a4 : f4 (l + 1) = .slice none 0 0 := (hk4 _ (by omega) (by omega)).trans a3
  have hlen := lenIN C
  generalize hT0 : t + 5 + lenIN C = t1 at *
  have ht1 : t + 5 ≤ t1 := by omega
  show (seqL _).wp P _ f4 w4
  refine seqL_append ?_
  refine r_nul hnz hz hf.v0 ((k4 8 (by omega) (by omega)).trans hf.ver) (by omega) (by omega) a4 hl4 ?_
  intro f6 w6 av0 a6 hk6 he6 hp6
  have hs6 : StR C R b a n w6 cc e (lenRd fl rs).2 := hs4.ext1 (he6.mono (fun _ _ h => h.elim)) (hr4.ext he6 (fun h => h) (fun h => h))
  have hr6 := hs6.rd
  have he26 : Ext (· = R.pb) w w6 := he24.trans (he6.mono (fun _ _ h => h.elim))
  have k6 : ∀ y, y < t → (y < l ∨ l + 3 ≤ y) → f6 y = f y := fun y hy hy2 => (hk6 y (by omega) (by omega)).trans (k4 y hy hy2)
  have l6 : f6 (l + 2) = .int .i32 (lenRd fl rs).1 := (hk6 _ (by omega) (by omega)).trans hl4
  generalize hT : t1 + nulN nul = t2 at *
  have ht2 : t1 ≤ t2 := by omega
  unfold headB
  show (seqL _).wp P _ f6 w6
  refine seqL_cons ?_
  refine r_ok hE hs6 ((k6 C.rs (by omega) (by omega)).trans hf.rd) (by omega) ?_ ?_
  · intro hb f5 h6
    exact h0 hb f5 w6 h6 he26
  · intro hb f5 hk5
    have k5 : ∀ y, y < t → (y < l ∨ l + 3 ≤ y) → f5 y = f y := fun y hy hy2 => (hk5 y (by omega)).trans (k6 y hy hy2)
    have a5 : f5 (l + 1) = av0 := (hk5 _ (by omega)).trans a6
    have l5 : f5 (l + 2) = .int .i32 (lenRd fl rs).1 := (hk5 _ (by omega)).trans l6
    show (seqL _).wp P _ f5 w6
    refine seqL_cons ?_
    refine wp_reg ?_
    have hsl : slice? P sT av0 none (some (.int .i64 0)) none = some av0 := by
      unfold NulPost at hp6
      split at hp6
      · obtain ⟨g, rfl, _⟩ := hp6; simp [slice?, hsz, Addr.add_mk]
      · subst hp6; simp [slice?, hsz]
    simp [a5, hsl]
    show (Ir.seq _ _).wp P _ _ w6
    refine wp_seqI (wp_reg ?_)
    have z2 : ∀ n, (l + 2 = t2 + n) = False := by intro n; simp; omega
    have z1 : ∀ n, (l + 1 = t2 + n) = False := by intro n; simp; omega
    have z0 : ∀ n, (l = t2 + n) = False := by intro n; simp; omega
    simp [z0, z1, z2, l5]
    have kk : ∀ v1 v2 v3 v4 v5, ∀ y, y < t → (y < l ∨ l + 3 ≤ y) → upd (upd (upd (upd (upd f5 (t2 + 3) v1) (t2 + 4) v2) (l + 1) v3) (t2 + 5) v4) (t2 + 6) v5 y = f y := by
      intro v1 v2 v3 v4 v5 y hy hy2
      have x1 : (y = l + 1) = False := by simp; omega
      have x3 : ∀ n, (y = t2 + n) = False := by intro n; simp; omega
      simp [x1, x3]
      exact k5 y hy hy2
    by_cases hp : 0 < (lenRd fl rs).1
    · have hav0 : av0 = .slice none 0 0 := by
        unfold NulPost at hp6
        rwa [if_neg (by omega)] at hp6
      subst hav0
      refine .inl ⟨by simp [hp], ?_⟩
      show (Ir.reg _).wp P _ _ w6
      refine wp_reg ?_
      simp [z0, z1, z2, l5]
      refine st_appz hz ht.i32 (lv := (lenRd fl rs).1) (by simp) (by simp) hp (lenRd_lt fl rs).1 ?_
      intro cap more et hcap
      have hE5 : Ext none1 w6 (w6.drew.alloc (.cells (Builtin.zeroCells z (lenRd fl rs).1.toNat ++ more) et)) := ((Ext.refl none1 w6).drew).alloc _
      refine h1 hb _ _ (.slice (some ⟨w6.heap.size, 0, none⟩) (lenRd fl rs).1.toNat cap) (by simp) (by simp [z0, z2, l5]) ?_ (he26.trans (hE5.mono (fun _ _ h => h.elim))) (hr6.ext hE5 (fun h => h) (fun h => h)) ?_
      · unfold HeadPost
        rw [if_pos hp]
        refine ⟨w6.heap.size, _, et, ⟨⟨cap, rfl, hcap⟩, he26.size, alloc_new, ?_, ?_⟩⟩
        · simp [size_zeroCells]
        · intro i hi
          apply List.ext_getElem?
          intro j
          by_cases hj : j < z.size
          · rw [segL_get hj, zeroCells_get hi hj]; simp
          · rw [segL_none (by omega)]; simp; omega
      · intro y hy hy2
        have x1 : (y = l + 1) = False := by simp; omega
        have x3 : ∀ n, (y = t2 + n) = False := by intro n; simp; omega
        simp [x1, x3]
        exact k5 y hy hy2
    · refine .inr ⟨by simp; omega, ?_⟩
      refine h1 hb _ w6 av0 (by simp [z0, z1]) (by simp [z0, z2, l5]) ?_ he26 hr6 (kk _ _ _ _ _)
      unfold HeadPost
      rw [if_neg hp]
      unfold NulPost at hp6 ⊢
      split at hp6
      · rename_i hc
        rw [if_pos hc]
        obtain ⟨g, h7, h8, h9⟩ := hp6
        exact ⟨g, h7, Nat.le_trans he24.size h8, h9⟩
      · rename_i hc
        rw [if_neg hc]; exact hp6
end
end Go.Kg

set_option linter.unusedSimpArgs false
set_option linter.unusedVariables false
set_option linter.unusedSectionVars false
namespace Go.Kg
open Go
section
variable {P : Program} {C : CfgR} {R : Rdr} {Q : Post} {f : Nat → Value} {w : World}
/-- for i := int32(0); i < l; i++ -/
theorem r_for {l t k N : Nat} {body : Ir} {lv : Int} (h32 : lv < 2147483648 ∧ -2147483648 ≤ lv) (hN : N = lv.toNat) (hl : l + 4 ≤ t) (h2 : f (l + 2) = .int .i32 lv) (J : Nat → (Nat → Value) → World → Prop)
    (hJ : ∀ i f f' w, (∀ x, x < t → x ≠ l + 3 → f' x = f x) → J i f w → J i f' w) (h0 : J 0 f w)
    (hb : ∀ i, i < N → ∀ f w, J i f w → f (l + 3) = .int .i32 i → f (l + 2) = .int .i32 lv → body.wp P (fun e f' w' => (e = .normal ∧ J (i + 1) f' w' ∧ f' (l + 3) = .int .i32 i ∧ f' (l + 2) = .int .i32 lv) ∨ (e = .ret ∧ Q .ret f' w')) f w)
    (h : ∀ f' w', J N f' w' → Q .normal f' w') : (forI C l t k body).wp P Q f w := by
  have z3 : ∀ n, (l + 3 = t + n) = False := by intro n; simp; omega
  have z2 : ∀ n, (l + 2 = t + n) = False := by intro n; simp; omega
  have z1 : ∀ n, (l + 1 = t + n) = False := by intro n; simp; omega
  have z0 : ∀ n, (l = t + n) = False := by intro n; simp; omega
  have z3' : (l + 3 = t) = False := by simp; omega
  have z2' : (l + 2 = t) = False := by simp; omega
  refine wp_seqI (wp_reg ?_)
  simp
  show (Ir.loop _).wp P _ _ _
  refine ⟨fun f w => ∃ i : Nat, i ≤ N ∧ f (l + 3) = .int .i32 i ∧ f (l + 2) = .int .i32 lv ∧ J i f w, fun f _ => match f (l + 3) with | .int _ i => ((N : Int) - i).toNat | _ => 0, ?_, ?_⟩
  · refine ⟨0, by omega, by simp, by simp [h2], hJ _ _ _ _ ?_ h0⟩
    intro x hx hx3
    simp [hx3]
  · rintro f w ⟨i, hi, h3, h2, hj⟩
    refine wp_seqI ?_
    refine wp_seqI (wp_reg ?_)
    simp [h2, h3, z2, z2', z3, z3']
    generalize hfa : upd (upd (upd f t (.int .i32 i)) (t + 1) (.int .i32 lv)) (t + 2) (.bool (decide ((i : Int) < lv))) = fa
    have ka : ∀ x, x < t → fa x = f x := by
      intro x hx
      subst hfa
      have x3 : ∀ n, (x = t + n) = False := by intro n; simp; omega
      have x4 : (x = t) = False := by simp; omega
      simp [x3, x4]
    have hja : J i fa w := hJ _ _ _ _ (fun x hx _ => ka x hx) hj
    by_cases hlt : (i : Int) < lv
    · refine .inl ⟨by subst hfa; simp [hlt], ?_⟩
      show (Ir.seq _ _).wp P _ _ _
      refine wp_seqI ?_
      show body.wp P _ _ _
      refine Ir.wp_mono body ?_ (hb i (by omega) fa w hja ((ka _ (by omega)).trans h3) ((ka _ (by omega)).trans h2))
      rintro e f' w' (⟨rfl, hj', h3', h2'⟩ | ⟨rfl, hq⟩)
      · show (Ir.reg _).wp P _ _ _
        refine wp_reg ?_
        have wr : IntKind.i32.wrap ((i : Int) + 1) = ((i + 1 : Nat) : Int) := by simp [IntKind.wrap, IntKind.signed, IntKind.bits]; omega
        simp [h3', z2, z2', z3, z3', wr]
        refine ⟨⟨i + 1, by omega, by simp, by simp [z2, z1, z0, h2'], hJ _ _ _ _ ?_ hj'⟩, ?_⟩
        · intro x hx hx3
          have x3 : ∀ n, (x = t + n) = False := by intro n; simp; omega
          simp [x3, hx3]
        · omega
      · exact hq
    · have : i = N := by omega
      subst this
      refine .inr ⟨by subst hfa; simp [hlt], ?_⟩
      show inBlockF k Q (.exit k) _ _
      rw [inBlockF_exit, if_pos rfl]
      exact h _ _ hja
end
end Go.Kg

set_option linter.unusedSimpArgs false
set_option linter.unusedVariables false
set_option linter.unusedSectionVars false
namespace Go.Kg
open Go
theorem segL_eq {c c' : Array Value} {a n : Nat} (h : ∀ j, a ≤ j → j < a + n → c'[j]? = c[j]?) : segL c' a n = segL c a n := by
  apply List.ext_getElem?
  intro j
  by_cases hj : j < n
  · rw [segL_get hj, segL_get hj]; exact h _ (by omega) (by omega)
  · rw [segL_none (by omega), segL_none (by omega)]
theorem segL_len {c : Array Value} {a n : Nat} (h : a + n ≤ c.size) : (segL c a n).length = n := by simp [segL]; omega
theorem Ext.trans' {C D E : Nat → Prop} {a b c : World} (h : Ext C a b) (k : Ext D b c) (hD : ∀ x, x < a.heap.size → D x → E x) (hC : ∀ x, x < a.heap.size → C x → E x := by intro x _ h; first | exact h | exact .inl h) : Ext E a c :=
  ⟨k.os.trans h.os, k.tape.trans h.tape, k.output.trans h.output, Nat.le_trans h.size k.size,
   fun i hi hc => (k.block i (Nat.lt_of_lt_of_le hi h.size) (fun hd => hc (hD i hi hd))).trans (h.block i hi (fun hd => hc (hC i hi hd)))⟩
/-- inside a list's row -/
def rdr' (R : Rdr) (ab : Nat) : Rdr := { R with base := ab + 1 }
section
variable {P : Program} {C : CfgR} {R : Rdr} {Q : Post} {f : Nat → Value} {w : World}
/-- v = a; s.F = v -/
theorem r_tail {T PT pv k o sT l t b a : Nat} {av : Value} {cc : Array Value} {e : TypeId} (hpv : f pv = .pointer (some ⟨b, a, none⟩)) (hF : fldOff P T k = some o) (hk : isScl (kindOf P sT) = true) (hav : f (l + 1) = av) (h1 : av.oneCell' = true) (hpt : pv < l) (hl : l + 1 < t)
    (hb : w.heap[b]? = some (.cells cc e (0, 0))) (ho : a + o + 1 ≤ cc.size)
    (h : ∀ f' cc', Put cc (a + o) av cc' → (∀ y, y < t → y ≠ l → f' y = f y) → Q .normal f' (w.setBlk b (.cells cc' e (0, 0)))) : (seqL (tailR C T PT pv k sT l t)).wp P Q f w := by
  refine seqL_cons ?_
  refine wp_reg ?_
  simp [hav]
  show (Ir.reg _).wp P _ _ w
  refine r_storeT (u := av) (o := o) (b := b) (a := a) (cc := cc) (e := e) ?_ hF hk ?_ h1 (by omega) (by omega) hb ho ?_
  · have x1 : (pv = l) = False := by simp; omega
    have x2 : (pv = t) = False := by simp; omega
    simp [x1, x2, hpv]
  · simp
  · intro f' cc' hput hk'
    refine h f' cc' hput ?_
    intro y hy hyl
    have x2 : (y = t) = False := by simp; omega
    rw [hk' y (by omega)]
    simp [hyl, x2]
structure Loop (C : CfgR) (R : Rdr) {α : Type} (fE : RS → Option (α × RS)) (Relt : World → (Nat → Prop) → List Value → α → Prop) (z : Array Value) (rs1 : RS) (w1 : World) (f1 : Nat → Value) (ab N sz l m t1 et : Nat) (i : Nat) (f' : Nat → Value) (w' : World) : Prop where
  ex : ∃ ys rsi cur, (rdN fE N rs1 = match rdN fE (N - i) rsi with | none => none | some (x, r) => some (ys ++ x, r)) ∧ ys.length = i ∧ StR C (rdr' R ab) ab 0 (N * sz) w' cur et rsi ∧ Ext (CB R ab) w1 w' ∧
    (∀ (j : Nat) y, ys[j]? = some y → Relt w' (RK (rdr' R ab)) (segL cur (j * sz) sz) y) ∧ (∀ j, i ≤ j → j < N → segL cur (j * sz) sz = z.toList)
  keep : KeepR f1 f' (l + 3) m t1
theorem rowBound {i N sz : Nat} (h : i < N) : i * sz + sz ≤ N * sz := by
  have := Nat.mul_le_mul_right sz (show i + 1 ≤ N from h)
  rwa [Nat.add_mul, Nat.one_mul] at this
theorem rowStep {i j sz : Nat} (h : j < i) : j * sz + sz ≤ i * sz := rowBound h
/-- The loop over a list's row. -/
theorem r_loop {α : Type} (fE : RS → Option (α × RS)) (Relt : World → (Nat → Prop) → List Value → α → Prop) (hRext : ∀ w w' K X es y, Relt w K es y → Ext X w w' → (∀ k, k < w.heap.size → K k → ¬ X k) → Relt w' K es y)
    {pv l m t kk b a N sz ab : Nat} {lv : Int} {ver : Int} {fl : Bool} {z : Array Value} {body : Ir} {av : Value} {cur0 : Array Value} {et : TypeId} {rs1 : RS} {cap : Nat} (h32 : lv < 2147483648 ∧ -2147483648 ≤ lv) (hN : N = lv.toNat) (hl : l + 4 ≤ m) (hm : m ≤ t) (hlv : f (l + 2) = .int .i32 lv) (hav : f (l + 1) = av)
    (hav' : av = .slice (some ⟨ab, 0, none⟩) N cap) (hcap : N ≤ cap) (hf : FrR C R f pv b a ver fl l) (hbase : R.base ≤ ab) (hst : StR C (rdr' R ab) ab 0 (N * sz) w cur0 et rs1) (hz : ∀ i, i < N → segL cur0 (i * sz) sz = z.toList)
    (hbody : ∀ (i : Nat) (f' : Nat → Value) (w' : World) (cur : Array Value) (rsi : RS), i < N → FrR C R f' pv b a ver fl l → f' (l + 1) = av → f' (l + 3) = .int .i32 i → StR C (rdr' R ab) ab 0 (N * sz) w' cur et rsi → segL cur (i * sz) sz = z.toList →
      ∀ Q' : Post, (fE rsi = none → ∀ f'' w'', f'' 6 = R.ev → Ext (CB R ab) w' w'' → Q' .ret f'' w'') →
        (∀ y rs'', fE rsi = some (y, rs'') → ∀ f'' w'' cur', StR C (rdr' R ab) ab 0 (N * sz) w'' cur' et rs'' → Ext (CB R ab) w' w'' → (∀ j, (j < i * sz ∨ i * sz + sz ≤ j) → cur'[j]? = cur[j]?) → Relt w'' (RK (rdr' R ab)) (segL cur' (i * sz) sz) y → KeepR f' f'' (l + 4) m (t + 5) → Q' .normal f'' w'') →
        body.wp P Q' f' w')
    (h0 : rdN fE N rs1 = none → ∀ f' w', f' 6 = R.ev → Ext (CB R ab) w w' → Q .ret f' w')
    (h1 : ∀ ys rs', rdN fE N rs1 = some (ys, rs') → ∀ f' w' cur, ys.length = N → StR C (rdr' R ab) ab 0 (N * sz) w' cur et rs' → Ext (CB R ab) w w' → (∀ (j : Nat) y, ys[j]? = some y → Relt w' (RK (rdr' R ab)) (segL cur (j * sz) sz) y) → KeepR f f' (l + 3) m t → Q .normal f' w') :
    (forI C l t kk body).wp P Q f w := by
  have hn10 := hf.nN
  refine r_for h32 hN (by omega) hlv (fun i f' w' => Loop C R fE Relt z rs1 w f ab N sz l m t et i f' w') ?_ ?_ ?_ ?_
  · rintro i f1 f2 w' hx ⟨hex, hk⟩
    refine ⟨hex, ?_⟩
    intro y hy1 hy
    rw [hx y (by omega) (by omega)]
    exact hk y hy1 hy
  · refine ⟨⟨[], rs1, cur0, ?_, rfl, hst, Ext.refl _ _, by simp, fun j _ hj => hz j hj⟩, KeepR.refl _ _ _ _⟩
    simp only [Nat.sub_zero]
    cases rdN fE N rs1 with
    | none => rfl
    | some a => simp
  · rintro i hi f' w' ⟨⟨ys, rsi, cur, hrel, hlen, hst', hext, helt, hnew⟩, hk⟩ h3 h2
    obtain ⟨k, hkN⟩ : ∃ k, N - i = k + 1 := ⟨N - i - 1, by omega⟩
    have hf' : FrR C R f' pv b a ver fl l := hf.keep (t := l + 3) hk.keeps (by omega)
    refine hbody i f' w' cur rsi hi hf' ((hk (l + 1) (by omega) (.inl (by omega))).trans hav) h3 hst' (hnew i (Nat.le_refl _) hi) _ ?_ ?_
    · intro hnone f'' w'' h6 he
      refine .inr ⟨rfl, h0 ?_ f'' w'' h6 (hext.trans he)⟩
      rw [hrel, hkN]
      simp only [rdN, hnone]
    · intro y rs'' hy f'' w'' cur' hst'' he hsame hrel' hk''
      have hsz : cur'.size = cur'.size := rfl
      refine .inl ⟨rfl, ⟨⟨ys ++ [y], rs'', cur', ?_, by simp [hlen], hst'', hext.trans he, ?_, ?_⟩, ?_⟩, ?_, ?_⟩
      · rw [hrel, hkN, show N - (i + 1) = k by omega]
        simp only [rdN, hy]
        cases rdN fE k rs'' with
        | none => rfl
        | some p => simp
      · intro j y' hj
        rcases Nat.lt_or_ge j i with hji | hji
        · rw [List.getElem?_append_left (by omega)] at hj
          rw [segL_eq (c := cur) (fun x hx1 hx2 => hsame x (.inl (by have := rowStep (sz := sz) hji; omega)))]
          exact hRext _ _ _ _ _ _ (helt j y' hj) he (hst'.rw_.keepK)
        · have hji' : j = i := by
            have := (List.getElem?_eq_some_iff.1 hj).1
            simp at this; omega
          subst hji'
          rw [List.getElem?_append_right (by omega), hlen, Nat.sub_self] at hj
          simp at hj
          subst hj
          exact hrel'
      · intro j hj hjN
        rw [segL_eq (c := cur) (fun x hx1 hx2 => hsame x (.inr (by have := rowStep (sz := sz) (show i < j by omega); omega)))]
        exact hnew j (by omega) hjN
      · intro x hx1 hx
        rw [hk'' x hx1 (by omega)]
        exact hk x hx1 hx
      · rw [hk'' _ (by omega) (.inl (by omega))]; exact h3
      · rw [hk'' _ (by omega) (.inl (by omega))]; exact h2
  · rintro f' w' ⟨⟨ys, rsi, cur, hrel, hlen, hst', hext, helt, hnew⟩, hk⟩
    refine h1 ys rsi ?_ f' w' cur hlen hst' hext helt hk
    rw [hrel, Nat.sub_self]
    simp [rdN]
end
end Go.Kg

set_option linter.unusedSimpArgs false
set_option linter.unusedVariables false
set_option linter.unusedSectionVars false
namespace Go.Kg
open Go
theorem cells_one {v : Value} (h : v.oneCell' = true) : v.cells = #[v] := by cases v <;> simp_all [Value.oneCell', Value.cells]
section
variable {P : Program} {C : CfgR} {R : Rdr} {Q : Post} {f : Nat → Value} {w : World}
/-- A list's field as a whole. -/
theorem r_list (ht : TyR P C) {nul : Option Nat} (hnz : nulZ C.fx nul = true) {α : Type} (fE : RS → Option (α × RS)) (Relt : World → (Nat → Prop) → List Value → α → Prop) (hRext : ∀ w w' K X es y, Relt w K es y → Ext X w w' → (∀ k, k < w.heap.size → K k → ¬ X k) → Relt w' K es y) (hRmono : ∀ w (K K' : Nat → Prop) es y, Relt w K es y → (∀ k, K k → K' k) → Relt w K' es y)
    {T PT pv k o sT l m t t2 kk b a n lo sz : Nat} {ver : Int} {fl : Bool} {cc : Array Value} {e : TypeId} {rs : RS} {z : Array Value} {body : Ir} (hF : fldOff P T k = some o) (hk : isScl (kindOf P sT) = true) (hsz : sliSz P sT = some sz) (hz : sliZ P sT = some z) (hzs : z.size = sz)
    (hN : LenRC P C) (hE : EndC P C) (hs : StR C R b a n w cc e rs) (hf : FrR C R f pv b a ver fl l) (hl : l + 4 ≤ m) (hm : m ≤ t) (ht2 : t + headN C nul + 5 ≤ t2) (hon : o + 1 ≤ n) (hlo : lo ≤ o) (hnil : (segL cc a n)[o]? = some (.slice none 0 0))
    (hbody : ∀ (ab N cap : Nat) (et : TypeId) (i : Nat) (av : Value) (f' : Nat → Value) (w' : World) (cur : Array Value) (rsi : RS), R.base ≤ ab → i < N → av = .slice (some ⟨ab, 0, none⟩) N cap → FrR C R f' pv b a ver fl l → f' (l + 1) = av → f' (l + 3) = .int .i32 i → StR C (rdr' R ab) ab 0 (N * sz) w' cur et rsi → segL cur (i * sz) sz = z.toList →
      ∀ Q' : Post, (fE rsi = none → ∀ f'' w'', f'' 6 = R.ev → Ext (CB R ab) w' w'' → Q' .ret f'' w'') →
        (∀ y rs'', fE rsi = some (y, rs'') → ∀ f'' w'' cur', StR C (rdr' R ab) ab 0 (N * sz) w'' cur' et rs'' → Ext (CB R ab) w' w'' → (∀ j, (j < i * sz ∨ i * sz + sz ≤ j) → cur'[j]? = cur[j]?) → Relt w'' (RK (rdr' R ab)) (segL cur' (i * sz) sz) y → KeepR f' f'' (l + 4) m (t + headN C nul + 5) → Q' .normal f'' w'') →
        body.wp P Q' f' w')
    (h0 : arrRd nul ver fl fE rs = none → ∀ f' w', f' 6 = R.ev → Ext (CB R b) w w' → Q .ret f' w')
    (h1 : ∀ A rs', arrRd nul ver fl fE rs = some (A, rs') → ∀ f' w' cc' av ls, RdTo C R b a n lo w cc e f l m t rs' f' w' cc' → (∀ j, (j < a + lo ∨ a + o + 1 ≤ j) → cc'[j]? = cc[j]?) → (segL cc' a n)[o]? = some av → ArrAt w' (RK R) sz av ls → (ls.isSome = A.isSome ∧ InHeap w' av) → (ls.getD []).length = (A.getD []).length →
      (∀ (i : Nat) es y, (ls.getD [])[i]? = some es → (A.getD [])[i]? = some y → Relt w' (RK R) es y) → Q .normal f' w') :
    (seqL (headR C T PT pv k sT l t nul ++ [forI C l (t + headN C nul) kk body] ++ tailR C T PT pv k sT l t2)).wp P Q f w := by
  have hn10 := hf.nN
  have hpt := hf.ptrN
  have hfit := hs.fit
  have hlen := lenRd_lt fl rs
  have hhead : headN C nul = 5 + lenIN C + nulN nul + 10 := rfl
  rw [List.append_assoc]
  refine seqL_append ?_
  refine r_head ht hnz hF hk hsz hz hN hE hs hf (by omega) (by omega) hnil ?_ ?_
  · intro hb f' w' h6 he
    exact h0 (by simp [arrRd, hb]) f' w' h6 (he.mono (fun _ _ h => .inl h))
  · intro hb f1 w1 av hav hlv hpost he1 hr1 hk1
    have hs1 := hs.ext1 he1 hr1
    have kR1 : KeepR f f1 l m t := fun y hy1 hy => hk1 y (by omega) (by omega)
    have hf1 := hf.keep kR1.keeps (Nat.le_refl _)
    -- the tail, from what the loop left
    have fin : ∀ (A : Option (List α)) (rs' : RS) (f2 : Nat → Value) (w2 : World) (ls : Option (List (List Value))), arrRd nul ver fl fE rs = some (A, rs') → KeepR f f2 l m t → f2 (l + 1) = av → Ext (· = R.pb) w w2 → RdAt C.E.tRd w2 R.pb R.D rs' → av.oneCell' = true →
        ArrAt w2 (RK R) sz av ls → (ls.isSome = A.isSome ∧ InHeap w2 av) → (ls.getD []).length = (A.getD []).length → (∀ (i : Nat) es y, (ls.getD [])[i]? = some es → (A.getD [])[i]? = some y → Relt w2 (RK R) es y) → (seqL (tailR C T PT pv k sT l t2)).wp P Q f2 w2 := by
      intro A rs' f2 w2 ls hA hk2 hav2 he2 hr2 hone harr hsome hlen2 helt
      have hs2 := hs.ext1 he2 hr2
      have hf2 := hf.keep hk2.keeps (Nat.le_refl _)
      have huc : av.cells = #[av] := cells_one hone
      refine r_tail (o := o) (b := b) (a := a) (cc := cc) (e := e) hf2.ptr hF hk hav2 hone hpt.2 (by omega) hs2.blk (by omega) ?_
      intro f3 cc3 hput hk3
      have hE3 : Ext (fun x => x = b) w2 (w2.setBlk b (.cells cc3 e (0, 0))) := (Ext.refl (fun x => x = b) w2).setBlk (b := b) (Or.inr rfl) _
      have hK3 : ∀ k, k < w2.heap.size → RK R k → ¬ k = b := fun k h1 h2 h3 => hs2.rw_.keepK k h1 h2 (.inr h3)
      refine h1 A rs' hA f3 _ cc3 av ls ?_ ?_ ?_ (ArrAt.ext hE3 hK3 harr) ⟨hsome.1, hsome.2.ext hE3⟩ hlen2 ?_
      · refine (RdTo.read (lo := lo) hs he2 hr2 hk2).trans (RdTo.put hs2 hput hlo (by rw [huc]; exact hon) (l := l) (m := m) (t := t) ?_) (Nat.le_refl _) (Nat.le_refl _) (Nat.le_refl _) (Nat.le_refl _)
        intro y hy1 hy
        exact hk3 y (by omega) (by omega)
      · intro j hj
        exact hput.same j (by rw [huc]; simp; omega)
      · rw [segL_get (by omega)]
        have := hput.new 0 av (by simp [huc])
        simpa using this
      · intro i es y hi hy
        exact hRext _ _ _ _ _ _ (helt i es y hi hy) hE3 hK3
    have hpost' := hpost
    unfold HeadPost at hpost'
    show (seqL _).wp P _ f1 w1
    refine seqL_cons ?_
    by_cases hp : 0 < (lenRd fl rs).1
    · rw [if_pos hp] at hpost'
      obtain ⟨ab, cur, et, ⟨⟨cap, hcapE, hcap⟩, hnew, hblk, hfit2, hzero⟩⟩ := hpost'
      have hb1 := hs.rw_.lt
      have hbase : R.base ≤ ab := Nat.le_trans hb1.2.2.2 hnew
      have hg : C.E.g_kbin_ErrNotEnoughData < w.heap.size := World.block_lt_of_cell? w _ hs.rw_.err
      have hst : StR C (rdr' R ab) ab 0 ((lenRd fl rs).1.toNat * sz) w1 cur et (lenRd fl rs).2 := by
        refine ⟨hblk, by rw [← hzs]; omega, hr1, ⟨⟨?_, ?_, ?_, ?_⟩, ⟨hs.rw_.ne.1, ?_, ?_⟩, hs1.rw_.err, ⟨hs1.rw_.errN.1, ?_⟩⟩⟩
        · show R.pb < ab + 1; omega
        · show ab < ab + 1; omega
        · show R.D < ab + 1; omega
        · exact lt_of_heap hblk
        · show ab ≠ R.D; omega
        · show R.pb ≠ ab; omega
        · omega
      refine r_loop (z := z) (cap := cap) fE Relt hRext hlen rfl hl (by omega) hlv hav hcapE hcap hf1 hbase hst (by rw [← hzs]; exact hzero) ?_ ?_ ?_
      · intro i f' w' cur' rsi hi hf' hav' h3 hst' hz' Q' q0 q1
        exact hbody ab _ cap et i av f' w' cur' rsi hbase hi hcapE hf' hav' h3 hst' hz' Q' q0 (fun y rs'' hy f'' w'' cur'' a1 a2 a3 a4 a5 => q1 y rs'' hy f'' w'' cur'' a1 a2 a3 a4 a5)
      · intro hnone f' w' h6 he
        refine h0 ?_ f' w' h6 ?_
        · simp only [arrRd, hb, hp, hnone]; simp
        · exact he1.trans' (E := CB R b) he (fun x hx hc => by
            rcases hc with h | h
            · exact .inl h
            · omega)
      · intro ys rs' hys f' w' cur' hlenY hst' he helt hk'
        have heT : Ext (· = R.pb) w w' := he1.trans' he (fun x hx hc => by
          rcases hc with h | h
          · exact h
          · omega)
        have hav1 : av.oneCell' = true := by rw [hcapE]; rfl
        refine fin (some ys) rs' f' w' (some ((List.range (lenRd fl rs).1.toNat).map fun j => segL cur' (j * sz) sz)) ?_ ?_ ?_ heT hst'.rd hav1 ?_ ⟨rfl, fun a' n' c' e' => by rw [hcapE] at e'; cases e'; exact lt_of_heap hst'.blk⟩ (by simp [hlenY]) ?_
        · simp only [arrRd, hb, hp, hys]; simp
        · intro y hy1 hy
          rw [hk' y hy1 (by omega)]
          exact kR1 y hy1 hy
        · rw [hk' (l + 1) (by omega) (.inl (by omega))]; exact hav
        · refine ⟨ab, 0, cap, by rw [hcapE]; simp, .inr hbase, ⟨by simpa using hcap, by simp; omega⟩, ?_⟩
          intro i cs hi
          simp only [List.getElem?_map, Option.map_eq_some_iff] at hi
          obtain ⟨j, hj, rfl⟩ := hi
          have hjl := (List.getElem?_eq_some_iff.1 hj).1
          have hji : j = i := by
            obtain ⟨_, h2⟩ := List.getElem?_eq_some_iff.1 hj
            simpa using h2.symm
          subst hji
          have hjN : j < (lenRd fl rs).1.toNat := by simpa using hjl
          have hfitJ := rowBound (sz := sz) hjN
          have hfit' := hst'.fit
          exact ⟨segL_len (by omega), by rw [Nat.zero_add]; exact cellsAt_seg hst'.blk⟩
        · intro i es y hi hy
          simp only [Option.getD_some, List.getElem?_map, Option.map_eq_some_iff] at hi hy
          obtain ⟨j, hj, rfl⟩ := hi
          have hji : j = i := by
            obtain ⟨_, h2⟩ := List.getElem?_eq_some_iff.1 hj
            simpa using h2.symm
          subst hji
          exact hRmono _ _ _ _ _ (helt j y hy) (fun k hk => by
            rcases hk with h | h
            · exact .inl h
            · exact .inr (by have : ab + 1 ≤ k := h; omega))
    · rw [if_neg hp] at hpost'
      have hone : av.oneCell' = true := by
        unfold NulPost at hpost'
        split at hpost'
        · obtain ⟨g, rfl, _⟩ := hpost'; rfl
        · subst hpost'; rfl
      refine r_for (N := 0) hlen (by omega) (by omega) hlv (fun _ f' w' => w' = w1 ∧ ∀ x, x < t + headN C nul → x ≠ l + 3 → f' x = f1 x) ?_ ⟨rfl, fun _ _ _ => rfl⟩ (fun i hi => by omega) ?_
      · rintro i fa fb w' hx ⟨rfl, h2⟩
        exact ⟨rfl, fun x hx1 hx2 => (hx x hx1 hx2).trans (h2 x hx1 hx2)⟩
      · rintro f' w' ⟨rfl, h2⟩
        have kk : KeepR f f' l m t := by
          intro y hy1 hy
          rw [h2 y (by omega) (by omega)]
          exact kR1 y hy1 hy
        have he : (emptyOf nul ver (lenRd fl rs).1 : Option (List α)) = if nul.isSome = true ∧ (lenRd fl rs).1 = 0 then some [] else none := by
          have hv0 := hf.v0
          cases nul with
          | none => simp [emptyOf]
          | some m0 =>
            simp only [nulZ, Bool.and_eq_true, beq_iff_eq] at hnz
            obtain ⟨hfx, rfl⟩ := hnz
            have := hv0 hfx
            have : ¬ ver < 0 := by omega
            simp [emptyOf, this]
        unfold NulPost at hpost'
        split at hpost'
        · rename_i hc
          obtain ⟨ab, rfl, hab1, hab2⟩ := hpost'
          rw [if_pos hc] at he
          refine fin (some []) (lenRd fl rs).2 f' w' (some []) ?_ kk ((h2 _ (by omega) (by omega)).trans hav) he1 hr1 rfl ⟨ab, 0, 0, rfl, .inr (Nat.le_trans hs.rw_.lt.2.2.2 hab1), ⟨Nat.le_refl _, by simp⟩, by simp⟩ ⟨rfl, fun a' n' c' e' => by cases e'; exact hab2⟩ rfl (by simp)
          simp only [arrRd, hb, hp, he]; simp
        · rename_i hc
          subst hpost'
          rw [if_neg hc] at he
          refine fin none (lenRd fl rs).2 f' w' none ?_ kk ((h2 _ (by omega) (by omega)).trans hav) he1 hr1 rfl rfl ⟨rfl, InHeap.nil _⟩ rfl (by simp)
          simp only [arrRd, hb, hp, he]; simp
end
end Go.Kg
