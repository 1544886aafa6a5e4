/- What is proved here: how the code of the messages runs, in general: a semantics of calls by their texts, and contracts of the functions of kbin and of the reference. No condition but those that each theorem names. -/
import Derived.Lib.AppendZerosOnto
import Derived.Test.YtjdncblianigiaaDoorKb
set_option linter.unusedSectionVars false
set_option linter.unusedSimpArgs false
set_option linter.unusedVariables false
set_option linter.unusedSimpArgs false
set_option linter.unusedVariables false
set_option linter.unusedSectionVars false
namespace Go.Kg
open Go

/-! ## What is written is read: numbers -/
theorem be_go : ∀ (k n m : Nat), (bigE k n).foldl (fun n b => n * 256 + b.toNat) m = m * 256 ^ k + n % 256 ^ k := by
  intro k
  induction k with
  | zero => intro n m; simp [bigE, Nat.mod_one]
  | succ k ih =>
    intro n m
    simp only [bigE, List.foldl_cons]
    rw [ih]
    have h1 : (UInt8.ofNat (n / 256 ^ k)).toNat = n / 256 ^ k % 256 := by simp
    rw [h1, Nat.pow_succ, Nat.mod_mul]
    rw [Nat.add_mul, Nat.mul_assoc, Nat.mul_comm 256 (256 ^ k), Nat.mul_comm (n / 256 ^ k % 256)]
    omega
theorem be_bigE (k n : Nat) : be (bigE k n) = n % 256 ^ k := by
  rw [be, be_go]; simp

theorem rdFixed_bigE (k n : Nat) (r : List UInt8) (bad nn : Bool) : rdFixed k ⟨bigE k n ++ r, bad, nn⟩ = (n % 256 ^ k, ⟨r, bad, true⟩) := by
  have h1 : ¬ (bigE k n ++ r).length < k := by simp
  have h2 : (bigE k n ++ r).take k = bigE k n := by rw [List.take_left' bigE_length]
  have h3 : (bigE k n ++ r).drop k = r := by rw [List.drop_left' bigE_length]
  simp only [rdFixed, if_neg h1, h2, h3, be_bigE]

theorem uvE_rd : ∀ (k n : Nat) (r : List UInt8), n < 128 ^ k * 16 → uvGo k (uvE k n ++ r) = some (n, r) := by
  intro k
  induction k with
  | zero =>
    intro n r h
    have h' : n < 16 := by simpa using h
    have h1 : (UInt8.ofNat n).toNat = n := by simp; omega
    simp only [uvE, List.cons_append, List.nil_append, uvGo, h1]
    rw [if_pos (by omega)]
  | succ k ih =>
    intro n r h
    by_cases hn : n < 128
    · have h1 : (UInt8.ofNat n).toNat = n := by simp; omega
      simp only [uvE, if_pos hn, List.cons_append, List.nil_append, uvGo, h1]
    · have h1 : (UInt8.ofNat (n % 128 + 128)).toNat = n % 128 + 128 := by simp; omega
      simp only [uvE, if_neg hn, List.cons_append, uvGo, h1]
      rw [if_neg (by omega), ih (n / 128) r (by rw [Nat.pow_succ] at h; omega)]
      simp only [Option.map_some]
      congr 2
      omega
theorem rdUv_out {n : Nat} (h : n < 4294967296) (r : List UInt8) (bad nn : Bool) : rdUv ⟨uvOut n ++ r, bad, nn⟩ = (n, ⟨r, bad, true⟩) := by
  simp only [rdUv, uv, uvOut, uvE_rd 4 n r (by simpa using h)]

theorem uvE_le : ∀ {k : Nat} {s r : List UInt8} {n : Nat}, uvGo k s = some (n, r) → (uvE k n).length + r.length ≤ s.length := by
  intro k
  induction k with
  | zero =>
    intro s r n h
    cases s with
    | nil => cases h
    | cons b s => simp only [uvGo] at h; split at h
                  · cases h; simp [uvE]; omega
                  · cases h
  | succ k ih =>
    intro s r n h
    cases s with
    | nil => cases h
    | cons b s =>
      simp only [uvGo] at h
      split at h
      · rename_i hb
        cases h
        simp only [uvE, if_pos hb, List.length_cons, List.length_nil]; omega
      · rename_i hb
        obtain ⟨⟨m, r'⟩, hm, he⟩ := Option.map_eq_some_iff.1 h
        cases he
        have := ih hm
        simp only [uvE]
        split
        · simp; omega
        · have e : (b.toNat % 128 + 128 * m) / 128 = m := by omega
          rw [e]
          simp; omega
theorem uvE_mono : ∀ {k n m : Nat}, n ≤ m → (uvE k n).length ≤ (uvE k m).length := by
  intro k
  induction k with
  | zero => intro n m h; simp [uvE]
  | succ k ih =>
    intro n m h
    simp only [uvE]
    split
    · split <;> simp
    · rename_i h1
      rw [if_neg (by omega)]
      simp
      exact ih (by omega)
theorem uvE_pos {k n : Nat} : 1 ≤ (uvE k n).length := by cases k <;> simp only [uvE] <;> first | (split <;> simp) | simp
theorem uv_ext : ∀ {k : Nat} {s r z : List UInt8} {n : Nat}, uvGo k s = some (n, r) → uvGo k (s ++ z) = some (n, r ++ z) := by
  intro k
  induction k with
  | zero =>
    intro s r z n h
    cases s with
    | nil => cases h
    | cons b s => simp only [uvGo, List.cons_append] at h ⊢; split at h
                  · cases h; rename_i hb; simp [hb]
                  · cases h
  | succ k ih =>
    intro s r z n h
    cases s with
    | nil => cases h
    | cons b s =>
      simp only [uvGo, List.cons_append] at h ⊢
      split at h
      · rename_i hb; cases h; simp [hb]
      · rename_i hb
        obtain ⟨⟨m, r'⟩, hm, he⟩ := Option.map_eq_some_iff.1 h
        cases he
        rw [if_neg hb, ih hm]
        rfl

/-! ## Readers that stand a longer text, and never heal -/
structure Good {α : Type} (g : RS → α × RS) : Prop where
  ext : ∀ p z nn, (g ⟨p, false, nn⟩).2.bad = false → g ⟨p ++ z, false, nn⟩ = ((g ⟨p, false, nn⟩).1, ⟨(g ⟨p, false, nn⟩).2.src ++ z, false, (g ⟨p, false, nn⟩).2.nn⟩)
  bad : ∀ rs, rs.bad = true → (g rs).2.bad = true

theorem Good.pure {α : Type} (x : Bool → α) : Good (fun rs => (x rs.nn, rs)) := ⟨fun p z nn _ => rfl, fun rs h => h⟩
theorem Good.bind {α β : Type} {g : RS → α × RS} {h : α → RS → β × RS} (hg : Good g) (hh : ∀ a, Good (h a)) : Good (fun rs => h (g rs).1 (g rs).2) := by
  refine ⟨fun p z nn hb => ?_, fun rs hb => (hh _).bad _ (hg.bad rs hb)⟩
  have h1 : (g ⟨p, false, nn⟩).2.bad = false := by
    cases e : (g ⟨p, false, nn⟩).2.bad
    · rfl
    · have h3 := (hh (g ⟨p, false, nn⟩).1).bad _ e
      have h4 : (h (g ⟨p, false, nn⟩).1 (g ⟨p, false, nn⟩).2).2.bad = false := hb
      rw [h3] at h4; cases h4
  have e := hg.ext p z nn h1
  have hb' : (h (g ⟨p, false, nn⟩).1 (g ⟨p, false, nn⟩).2).2.bad = false := hb
  show h (g ⟨p ++ z, false, nn⟩).1 (g ⟨p ++ z, false, nn⟩).2 = ((h (g ⟨p, false, nn⟩).1 (g ⟨p, false, nn⟩).2).1, ⟨(h (g ⟨p, false, nn⟩).1 (g ⟨p, false, nn⟩).2).2.src ++ z, false, (h (g ⟨p, false, nn⟩).1 (g ⟨p, false, nn⟩).2).2.nn⟩)
  rw [e]
  clear e hb
  generalize g ⟨p, false, nn⟩ = y at *
  obtain ⟨a, q, bd, m⟩ := y
  simp only at h1 hb' ⊢
  subst h1
  exact (hh a).ext q z m hb'
theorem Good.map {α β : Type} {g : RS → α × RS} (hg : Good g) (f : α → Bool → β) : Good (fun rs => (f (g rs).1 (g rs).2.nn, (g rs).2)) :=
  hg.bind (h := fun a rs => (f a rs.nn, rs)) (fun a => Good.pure (f a))
theorem Good.fail {α : Type} (x : α) : Good (fun _ => (x, .fail)) := ⟨fun p z nn h => (by cases h), fun rs _ => rfl⟩

theorem good_fixed (k : Nat) : Good (rdFixed k) := by
  refine ⟨fun p z nn h => ?_, fun rs h => ?_⟩
  · unfold rdFixed at h ⊢
    by_cases hl : p.length < k
    · simp only [if_pos hl] at h; cases h
    · have : ¬ (p ++ z).length < k := by simp; omega
      simp only [if_neg hl, if_neg this]
      rw [List.take_append_of_le_length (by omega), List.drop_append_of_le_length (by omega)]
  · unfold rdFixed; split
    · rfl
    · exact h
theorem good_uv : Good rdUv := by
  refine ⟨fun p z nn h => ?_, fun rs h => ?_⟩
  · unfold rdUv at h ⊢
    cases hu : uv p with
    | none => rw [hu] at h; cases h
    | some x =>
      obtain ⟨n, r⟩ := x
      have := uv_ext (z := z) hu
      simp only [uv] at hu ⊢
      simp only [this, hu]
  · unfold rdUv; split
    · exact h
    · rfl
theorem good_span (l : Int) : Good (rdSpan l) := by
  refine ⟨fun p z nn h => ?_, fun rs h => ?_⟩
  · unfold rdSpan at h ⊢
    by_cases hl : (p.length : Int) < l ∨ l < 0
    · simp only [if_pos hl] at h; cases h
    · have : ¬ (((p ++ z).length : Int) < l ∨ l < 0) := by simp; omega
      simp only [if_neg hl, if_neg this]
      rw [List.take_append_of_le_length (by omega), List.drop_append_of_le_length (by omega)]
  · unfold rdSpan; split
    · rfl
    · exact h
theorem good_cap (n : Int) : Good (capLen n) := by
  refine ⟨fun p z nn h => ?_, fun rs h => ?_⟩
  · unfold capLen at h ⊢
    by_cases hl : (p.length : Int) < n
    · simp only [if_pos hl] at h; cases h
    · have : ¬ ((p ++ z).length : Int) < n := by simp; omega
      simp only [if_neg hl, if_neg this]
  · unfold capLen; split
    · rfl
    · exact h
theorem Good.congr {α : Type} {f g : RS → α × RS} (h : Good f) (e : ∀ rs, g rs = f rs) : Good g := (funext e : g = f) ▸ h

theorem good_lenRd (fl : Bool) : Good (lenRd fl) := by
  cases fl
  · exact (good_fixed 4).bind (h := fun (a : Nat) rs => capLen (i32 a) rs) (fun a => good_cap _)
  · exact good_uv.bind (h := fun (a : Nat) rs => capLen (IntKind.i32.wrap (i32 a - 1)) rs) (fun a => good_cap _)

theorem good_opt {g : RS → List UInt8 × RS} (h : Good g) : Good (fun rs => optOf (g rs)) := h.map (fun a nn => if nn then some a else none)

theorem good_prim (p : Prim) (fl : Bool) : Good (p.rd fl) := by
  cases p with
  | bool => exact (good_fixed 1).map (fun a _ => boolOf a)
  | i8 => exact (good_fixed 1).map (fun a _ => IntKind.i8.wrap a)
  | i16 => exact (good_fixed 2).map (fun a _ => IntKind.i16.wrap a)
  | u16 => exact (good_fixed 2).map (fun a _ => (a : Int))
  | i32 => exact (good_fixed 4).map (fun a _ => IntKind.i32.wrap a)
  | i64 => exact (good_fixed 8).map (fun a _ => IntKind.i64.wrap a)
  | uuid => exact (good_span 16).map (fun a _ => if a.length = 16 then a else List.replicate 16 0)
  | str =>
    cases fl
    · exact (good_fixed 2).bind (h := fun (a : Nat) rs => rdSpan (i16 a) rs) (fun a => good_span _)
    · exact good_uv.bind (h := fun (a : Nat) rs => rdSpan ((a : Int) - 1) rs) (fun a => good_span _)
  | nstr =>
    cases fl
    · refine (good_fixed 2).bind (h := fun (a : Nat) rs => if i16 a < 0 then (none, rs) else (some (rdSpan (i16 a) rs).1, (rdSpan (i16 a) rs).2)) (fun a => ?_)
      by_cases h : i16 a < 0
      · simp only [if_pos h]; exact Good.pure (fun _ => none)
      · simp only [if_neg h]; exact (good_span _).map (fun a _ => some a)
    · refine good_uv.bind (h := fun (a : Nat) rs => if (a : Int) - 1 < 0 then (none, rs) else (some (rdSpan ((a : Int) - 1) rs).1, (rdSpan ((a : Int) - 1) rs).2)) (fun a => ?_)
      by_cases h : (a : Int) - 1 < 0
      · simp only [if_pos h]; exact Good.pure (fun _ => none)
      · simp only [if_neg h]; exact (good_span _).map (fun a _ => some a)
  | bytes =>
    cases fl
    · refine (good_fixed 4).bind (h := fun (a : Nat) rs => if i32 a = -1 then ([], rs) else rdSpan (i32 a) rs) (fun a => ?_)
      by_cases h : i32 a = -1
      · simp only [if_pos h]; exact Good.pure (fun _ => [])
      · simp only [if_neg h]; exact good_span _
    · refine good_uv.bind (h := fun (a : Nat) rs => if a = 0 then ([], rs) else rdSpan ((a : Int) - 1) rs) (fun a => ?_)
      by_cases h : a = 0
      · simp only [if_pos h]; exact Good.pure (fun _ => [])
      · simp only [if_neg h]; exact good_span _
  | nbytes =>
    cases fl
    · refine (good_fixed 4).bind (h := fun (a : Nat) rs => if i32 a < 0 then (none, rs) else optOf (rdSpan (i32 a) rs)) (fun a => ?_)
      by_cases h : i32 a < 0
      · simp only [if_pos h]; exact Good.pure (fun _ => none)
      · simp only [if_neg h]; exact good_opt (good_span _)
    · refine good_uv.bind (h := fun (a : Nat) rs => if (a : Int) - 1 < 0 then (none, rs) else optOf (rdSpan ((a : Int) - 1) rs)) (fun a => ?_)
      by_cases h : (a : Int) - 1 < 0
      · simp only [if_pos h]; exact Good.pure (fun _ => none)
      · simp only [if_neg h]; exact good_opt (good_span _)

theorem good_tag (l : TagL) : Good (rdTag l) :=
  good_uv.bind (h := fun (a : Nat) rs => (setTag a (rdSpan (rdUv rs).1 (rdUv rs).2).1 l, (rdSpan (rdUv rs).1 (rdUv rs).2).2)) (fun a =>
    (good_uv.bind (h := fun (b : Nat) rs => rdSpan (b : Int) rs) (fun b => good_span _)).map (fun v _ => setTag a v l))
theorem good_tagN : ∀ (n : Nat) (l : TagL), Good (rdTagN n l)
  | 0, l => Good.pure (fun _ => l)
  | n + 1, l => (good_tag l).bind (h := fun a rs => rdTagN n a rs) (fun a => good_tagN n a)
theorem good_tags : Good rdTags := good_uv.bind (h := fun (n : Nat) rs => rdTagN n [] rs) (fun n => good_tagN n [])

/-- the same of readers that may end early -/
structure GoodO {α : Type} (g : RS → Option (α × RS)) : Prop where
  ext : ∀ p z nn y rs, g ⟨p, false, nn⟩ = some (y, rs) → rs.bad = false → g ⟨p ++ z, false, nn⟩ = some (y, ⟨rs.src ++ z, false, rs.nn⟩)
  bad : ∀ rs y rs', g rs = some (y, rs') → rs.bad = true → rs'.bad = true
theorem Good.toO {α : Type} {g : RS → α × RS} (h : Good g) : GoodO (fun rs => some (g rs)) := by
  refine ⟨fun p z nn y rs e hb => ?_, fun rs y rs' e hb => ?_⟩
  · simp only [Option.some.injEq] at e ⊢
    rw [h.ext p z nn (by rw [e]; exact hb), e]
  · simp only [Option.some.injEq] at e
    have := h.bad rs hb
    rwa [e] at this
theorem GoodO.bind {α β : Type} {g : RS → Option (α × RS)} {h : α → RS → Option (β × RS)} (hg : GoodO g) (hh : ∀ a, GoodO (h a)) : GoodO (fun rs => (g rs).bind fun x => h x.1 x.2) := by
  refine ⟨fun p z nn y rs e hb => ?_, fun rs y rs' e hb => ?_⟩
  · obtain ⟨⟨a, r1⟩, e1, e2⟩ := Option.bind_eq_some_iff.1 e
    have h1 : r1.bad = false := by
      cases hx : r1.bad
      · rfl
      · have := (hh a).bad r1 y rs e2 hx
        rw [this] at hb; cases hb
    have e1' := hg.ext p z nn a r1 e1 h1
    rw [e1']
    obtain ⟨s1, b1, n1⟩ := r1
    simp only at h1
    subst h1
    exact (hh a).ext s1 z n1 y rs e2 hb
  · obtain ⟨⟨a, r1⟩, e1, e2⟩ := Option.bind_eq_some_iff.1 e
    exact (hh a).bad r1 y rs' e2 (hg.bad rs a r1 e1 hb)
theorem GoodO.congr {α : Type} {f g : RS → Option (α × RS)} (h : GoodO f) (e : ∀ rs, g rs = f rs) : GoodO g := (funext e : g = f) ▸ h
theorem GoodO.pure {α : Type} (x : α) : GoodO (fun rs => some (x, rs)) := (Good.pure (fun _ => x)).toO

theorem good_N {α : Type} {f : RS → Option (α × RS)} (hf : GoodO f) : ∀ n, GoodO (rdN f n)
  | 0 => GoodO.pure _
  | n + 1 => by
    refine (hf.bind (h := fun x rs => (rdN f n rs).bind fun y => some (x :: y.1, y.2)) (fun x => (good_N hf n).bind (h := fun l rs => some (x :: l, rs)) (fun l => GoodO.pure _))).congr (fun rs => ?_)
    simp only [rdN]
    cases f rs with
    | none => rfl
    | some a =>
      obtain ⟨x, r1⟩ := a
      simp only [Option.bind_some]
      cases rdN f n r1 with
      | none => rfl
      | some b => rfl

theorem good_arr {α : Type} {nul : Option Nat} {ver : Int} {fl : Bool} {f : RS → Option (α × RS)} (hf : GoodO f) : GoodO (arrRd nul ver fl f) := by
  have h1 : GoodO (fun rs => if (lenRd fl rs).2.bad then (none : Option (Int × RS)) else some (lenRd fl rs)) := by
    refine ⟨fun p z nn y rs e hb => ?_, fun rs y rs' e hb => ?_⟩
    · split at e
      · cases e
      · rename_i hn
        have e' : lenRd fl ⟨p, false, nn⟩ = (y, rs) := Option.some.inj e
        have := (good_lenRd fl).ext p z nn (by rw [e']; exact hb)
        rw [this, e']
        simp
    · split at e
      · cases e
      · rename_i hn
        exact absurd ((good_lenRd fl).bad rs hb) hn
  refine (h1.bind (h := fun l rs => if 0 < l then (rdN f l.toNat rs).bind (fun x => some (some x.1, x.2)) else some (emptyOf nul ver l, rs)) (fun l => ?_)).congr (fun rs => ?_)
  · by_cases hl : 0 < l
    · simp only [if_pos hl]; exact (good_N hf _).bind (h := fun x rs => some (some x, rs)) (fun x => GoodO.pure _)
    · simp only [if_neg hl]; exact GoodO.pure _
  · simp only [arrRd]
    split
    · rfl
    · simp only [Option.bind_some]
      split
      · cases rdN f (lenRd fl rs).1.toNat (lenRd fl rs).2 with
        | none => rfl
        | some b => rfl
      · rfl

theorem good_sch (ver : Int) (fl : Bool) : ∀ S : Sch, GoodO (S.rd ver fl) := by
  intro S
  induction S with
  | fin => exact GoodO.pure _
  | tags k o =>
    cases fl
    · exact GoodO.pure _
    · exact good_tags.toO
  | prim g k o p en d rest ih =>
    by_cases h : g.on ver = true
    · refine ((good_prim p fl).toO.bind (h := fun x rs => (rest.rd ver fl rs).bind fun y => some ((x, y.1), y.2)) (fun x => ih.bind (h := fun y rs => some ((x, y), rs)) (fun y => GoodO.pure _))).congr (fun rs => ?_)
      simp only [Sch.rd, if_pos h, Option.bind_some]
      cases rest.rd ver fl (p.rd fl rs).2 <;> rfl
    · refine (ih.bind (h := fun y rs => some ((p.dfl d, y), rs)) (fun y => GoodO.pure _)).congr (fun rs => ?_)
      simp only [Sch.rd, if_neg h]
      cases rest.rd ver fl rs <;> rfl
  | arrP g k o sT nul p rest ih =>
    by_cases h : g.on ver = true
    · refine ((good_arr (nul := nul) (ver := ver) (fl := fl) (good_prim p fl).toO).bind (h := fun x rs => (rest.rd ver fl rs).bind fun y => some ((x, y.1), y.2)) (fun x => ih.bind (h := fun y rs => some ((x, y), rs)) (fun y => GoodO.pure _))).congr (fun rs => ?_)
      simp only [Sch.rd, if_pos h]
      cases arrRd nul ver fl (fun rs => some (p.rd fl rs)) rs with
      | none => rfl
      | some a => simp only [Option.bind_some]; cases rest.rd ver fl a.2 <;> rfl
    · refine (ih.bind (h := fun y rs => some ((none, y), rs)) (fun y => GoodO.pure _)).congr (fun rs => ?_)
      simp only [Sch.rd, if_neg h]
      cases rest.rd ver fl rs <;> rfl
  | arrS g k o sT nul T PT sz df e rest ihe ih =>
    by_cases h : g.on ver = true
    · refine ((good_arr (nul := nul) (ver := ver) (fl := fl) ihe).bind (h := fun x rs => (rest.rd ver fl rs).bind fun y => some ((x, y.1), y.2)) (fun x => ih.bind (h := fun y rs => some ((x, y), rs)) (fun y => GoodO.pure _))).congr (fun rs => ?_)
      simp only [Sch.rd, if_pos h]
      cases arrRd nul ver fl (e.rd ver fl) rs with
      | none => rfl
      | some a => simp only [Option.bind_some]; cases rest.rd ver fl a.2 <;> rfl
    · refine (ih.bind (h := fun y rs => some ((none, y), rs)) (fun y => GoodO.pure _)).congr (fun rs => ?_)
      simp only [Sch.rd, if_neg h]
      cases rest.rd ver fl rs <;> rfl
end Go.Kg

set_option linter.unusedSimpArgs false
set_option linter.unusedVariables false
set_option linter.unusedSectionVars false
namespace Go.Kg
open Go

/-! ## What is written is read -/
/-- what a thing may be, to be written and read -/
def Prim.wf : (p : Prim) → p.T → Prop
  | .bool, _ => True
  | .i8, n => -128 ≤ (show Int from n) ∧ (show Int from n) < 128
  | .i16, n => -32768 ≤ (show Int from n) ∧ (show Int from n) < 32768
  | .u16, n => 0 ≤ (show Int from n) ∧ (show Int from n) < 65536
  | .i32, n => -2147483648 ≤ (show Int from n) ∧ (show Int from n) < 2147483648
  | .i64, n => -9223372036854775808 ≤ (show Int from n) ∧ (show Int from n) < 9223372036854775808
  | .uuid, l => (show List UInt8 from l).length = 16
  | .str, l => (show List UInt8 from l).length ≤ 32767
  | .bytes, l => (show List UInt8 from l).length ≤ 32767
  | .nstr, o => ((show Option (List UInt8) from o).getD []).length ≤ 32767
  | .nbytes, o => ((show Option (List UInt8) from o).getD []).length ≤ 32767

def tagsOk (l : TagL) : Prop := l.length ≤ 40000 ∧ (l.map (·.1)).Nodup ∧ ∀ x ∈ l, x.1 < 4294967296 ∧ x.2.length ≤ 32767

theorem rdNum (k : Nat) (n : Int) (r : List UInt8) (bad nn : Bool) : rdFixed k ⟨num k n ++ r, bad, nn⟩ = ((n % (256 ^ k : Nat)).toNat, ⟨r, bad, true⟩) := by
  rw [num, rdFixed_bigE]
  have h0 : (0 : Int) < (256 ^ k : Nat) := by
    have : 0 < 256 ^ k := Nat.pow_pos (by omega)
    omega
  have h1 := Int.emod_lt_of_pos n h0
  have h2 := Int.emod_nonneg n (Int.ne_of_gt h0)
  rw [Nat.mod_eq_of_lt (by omega)]

theorem span_all {l r : List UInt8} {bad nn : Bool} {n : Int} (h : n = l.length) : rdSpan n ⟨l ++ r, bad, nn⟩ = (l, ⟨r, bad, nn⟩) := by
  subst h
  have : ¬ (((l ++ r).length : Int) < l.length ∨ (l.length : Int) < 0) := by simp; omega
  simp only [rdSpan, if_neg this]
  simp

theorem i16_len {n : Nat} (h : n ≤ 32767) : i16 (n % 65536 % 256 ^ 2) = n := by simp [i16, IntKind.wrap, IntKind.signed, IntKind.bits]; omega
theorem i32_len {n : Nat} (h : n ≤ 40000) : i32 (n % 4294967296 % 256 ^ 4) = n := by simp [i32, IntKind.wrap, IntKind.signed, IntKind.bits]; omega
theorem u_len {n : Nat} (h : n ≤ 40000) : (n + 1) % 4294967296 = n + 1 := by omega

theorem rd_i8 (x : Int) (h : -128 ≤ x ∧ x < 128) (r : List UInt8) (nn : Bool) : (IntKind.i8.wrap (rdFixed 1 ⟨[bval x] ++ r, false, nn⟩).1, (rdFixed 1 ⟨[bval x] ++ r, false, nn⟩).2) = (x, (⟨r, false, true⟩ : RS)) := by
  have e := rdNum 1 x r false nn
  have e2 : num 1 x = [bval x] := by simp [num, bigE, bval]
  rw [e2] at e
  rw [e]
  have : IntKind.i8.wrap ((x % ((256 ^ 1 : Nat) : Int)).toNat : Int) = x := by simp [IntKind.wrap, IntKind.signed, IntKind.bits]; omega
  simp only [this]
theorem rd_i16 (x : Int) (h : -32768 ≤ x ∧ x < 32768) (r : List UInt8) (nn : Bool) : (IntKind.i16.wrap (rdFixed 2 ⟨num 2 x ++ r, false, nn⟩).1, (rdFixed 2 ⟨num 2 x ++ r, false, nn⟩).2) = (x, (⟨r, false, true⟩ : RS)) := by
  rw [rdNum 2 x r false nn]
  have : IntKind.i16.wrap ((x % ((256 ^ 2 : Nat) : Int)).toNat : Int) = x := by simp [IntKind.wrap, IntKind.signed, IntKind.bits]; omega
  simp only [this]
theorem rd_u16 (x : Int) (h : 0 ≤ x ∧ x < 65536) (r : List UInt8) (nn : Bool) : (((rdFixed 2 ⟨num 2 x ++ r, false, nn⟩).1 : Int), (rdFixed 2 ⟨num 2 x ++ r, false, nn⟩).2) = (x, (⟨r, false, true⟩ : RS)) := by
  rw [rdNum 2 x r false nn]
  have : ((x % ((256 ^ 2 : Nat) : Int)).toNat : Int) = x := by simp; omega
  simp only [this]
theorem rd_i32 (x : Int) (h : -2147483648 ≤ x ∧ x < 2147483648) (r : List UInt8) (nn : Bool) : (IntKind.i32.wrap (rdFixed 4 ⟨num 4 x ++ r, false, nn⟩).1, (rdFixed 4 ⟨num 4 x ++ r, false, nn⟩).2) = (x, (⟨r, false, true⟩ : RS)) := by
  rw [rdNum 4 x r false nn]
  have : IntKind.i32.wrap ((x % ((256 ^ 4 : Nat) : Int)).toNat : Int) = x := by simp [IntKind.wrap, IntKind.signed, IntKind.bits]; omega
  simp only [this]
theorem rd_i64 (x : Int) (h : -9223372036854775808 ≤ x ∧ x < 9223372036854775808) (r : List UInt8) (nn : Bool) : (IntKind.i64.wrap (rdFixed 8 ⟨num 8 x ++ r, false, nn⟩).1, (rdFixed 8 ⟨num 8 x ++ r, false, nn⟩).2) = (x, (⟨r, false, true⟩ : RS)) := by
  rw [rdNum 8 x r false nn]
  have : IntKind.i64.wrap ((x % ((256 ^ 8 : Nat) : Int)).toNat : Int) = x := by simp [IntKind.wrap, IntKind.signed, IntKind.bits]; omega
  simp only [this]
theorem rd_bool (b : Bool) (r : List UInt8) (nn : Bool) : (boolOf (rdFixed 1 ⟨[if b then 1 else 0] ++ r, false, nn⟩).1, (rdFixed 1 ⟨[if b then 1 else 0] ++ r, false, nn⟩).2) = (b, (⟨r, false, true⟩ : RS)) := by
  have e := rdFixed_bigE 1 (if b then 1 else 0) r false nn
  have e2 : bigE 1 (if b then 1 else 0) = [if b then 1 else 0] := by cases b <;> rfl
  rw [e2] at e
  rw [e]
  cases b <;> rfl
theorem rd_uuid (l : List UInt8) (h : l.length = 16) (r : List UInt8) (nn : Bool) : rdUuid ⟨l ++ r, false, nn⟩ = (l, ⟨r, false, nn⟩) := by
  have e := span_all (l := l) (r := r) (bad := false) (nn := nn) (n := 16) (by rw [h]; rfl)
  simp only [rdUuid, e, if_pos h]
theorem rd_str (l : List UInt8) (h : l.length ≤ 32767) (r : List UInt8) (nn : Bool) : rdStr ⟨wStr l ++ r, false, nn⟩ = (l, ⟨r, false, true⟩) := by
  simp only [rdStr, wStr, List.append_assoc, rdFixed_bigE]
  exact span_all (i16_len h)
theorem rd_cstr (l : List UInt8) (h : l.length ≤ 32767) (r : List UInt8) (nn : Bool) : rdCStr ⟨wCStr l ++ r, false, nn⟩ = (l, ⟨r, false, true⟩) := by
  simp only [rdCStr, wCStr, List.append_assoc, u_len (n := l.length) (by omega)]
  rw [rdUv_out (by omega)]
  exact span_all (by simp)
theorem rd_nstr (o : Option (List UInt8)) (h : (o.getD []).length ≤ 32767) (r : List UInt8) (nn : Bool) : rdNStr ⟨wNStr o ++ r, false, nn⟩ = (o, ⟨r, false, true⟩) := by
  cases o with
  | none =>
    simp only [rdNStr, wNStr, rdFixed_bigE]
    rfl
  | some l =>
    have h' : l.length ≤ 32767 := h
    have e := rd_str l h' r nn
    simp only [rdNStr, wNStr, e]
    simp only [wStr, List.append_assoc, rdFixed_bigE, i16_len h']
    rw [if_neg (by omega)]
theorem rd_cnstr (o : Option (List UInt8)) (h : (o.getD []).length ≤ 32767) (r : List UInt8) (nn : Bool) : rdCNStr ⟨wCNStr o ++ r, false, nn⟩ = (o, ⟨r, false, true⟩) := by
  cases o with
  | none =>
    have e := rdUv_out (n := 0) (by omega) r false nn
    simp only [rdCNStr, wCNStr, e]
    rfl
  | some l =>
    have h' : l.length ≤ 32767 := h
    have e := rd_cstr l h' r nn
    simp only [rdCNStr, wCNStr, e]
    simp only [wCStr, List.append_assoc, u_len (n := l.length) (by omega)]
    rw [rdUv_out (by omega)]
    simp only
    rw [if_neg (by omega)]
theorem rd_bytes (l : List UInt8) (h : l.length ≤ 32767) (r : List UInt8) (nn : Bool) : rdBytes ⟨wBytes l ++ r, false, nn⟩ = (l, ⟨r, false, true⟩) := by
  simp only [rdBytes, wBytes, List.append_assoc, rdFixed_bigE, i32_len (n := l.length) (by omega)]
  rw [if_neg (by omega)]
  exact span_all rfl
theorem rd_cbytes (l : List UInt8) (h : l.length ≤ 32767) (r : List UInt8) (nn : Bool) : rdCBytes ⟨wCBytes l ++ r, false, nn⟩ = (l, ⟨r, false, true⟩) := by
  simp only [rdCBytes, wCBytes, List.append_assoc, u_len (n := l.length) (by omega)]
  rw [rdUv_out (by omega)]
  simp only
  rw [if_neg (by omega)]
  exact span_all (by omega)
theorem rd_nbytes (o : Option (List UInt8)) (h : (o.getD []).length ≤ 32767) (r : List UInt8) (nn : Bool) : rdNBytes ⟨wNBytes o ++ r, false, nn⟩ = (o, ⟨r, false, true⟩) := by
  cases o with
  | none =>
    simp only [rdNBytes, wNBytes, rdFixed_bigE]
    rfl
  | some l =>
    have h' : l.length ≤ 32767 := h
    simp only [rdNBytes, wNBytes, wBytes, List.append_assoc, rdFixed_bigE, i32_len (n := l.length) (by omega)]
    rw [if_neg (by omega), span_all rfl]
    rfl
theorem rd_cnbytes (o : Option (List UInt8)) (h : (o.getD []).length ≤ 32767) (r : List UInt8) (nn : Bool) : rdCNBytes ⟨wCNBytes o ++ r, false, nn⟩ = (o, ⟨r, false, true⟩) := by
  cases o with
  | none =>
    have e := rdUv_out (n := 0) (by omega) r false nn
    simp only [rdCNBytes, wCNBytes, e]
    rfl
  | some l =>
    have h' : l.length ≤ 32767 := h
    simp only [rdCNBytes, wCNBytes, wCBytes, List.append_assoc, u_len (n := l.length) (by omega)]
    rw [rdUv_out (by omega)]
    simp only
    rw [if_neg (by omega), span_all (by omega)]
    rfl

theorem rd_prim (p : Prim) (fl : Bool) (x : p.T) (h : p.wf x) (r : List UInt8) (nn : Bool) : ∃ nn', p.rd fl ⟨p.wr fl x ++ r, false, nn⟩ = (x, ⟨r, false, nn'⟩) := by
  cases p with
  | bool => exact ⟨_, rd_bool x r nn⟩
  | i8 => exact ⟨_, rd_i8 x h r nn⟩
  | i16 => exact ⟨_, rd_i16 x h r nn⟩
  | u16 => exact ⟨_, rd_u16 x h r nn⟩
  | i32 => exact ⟨_, rd_i32 x h r nn⟩
  | i64 => exact ⟨_, rd_i64 x h r nn⟩
  | uuid => exact ⟨_, rd_uuid x h r nn⟩
  | str =>
    cases fl
    · exact ⟨_, rd_str x h r nn⟩
    · exact ⟨_, rd_cstr x h r nn⟩
  | nstr =>
    cases fl
    · exact ⟨_, rd_nstr x h r nn⟩
    · exact ⟨_, rd_cnstr x h r nn⟩
  | bytes =>
    cases fl
    · exact ⟨_, rd_bytes x h r nn⟩
    · exact ⟨_, rd_cbytes x h r nn⟩
  | nbytes =>
    cases fl
    · exact ⟨_, rd_nbytes x h r nn⟩
    · exact ⟨_, rd_cnbytes x h r nn⟩
end Go.Kg

set_option linter.unusedSimpArgs false
set_option linter.unusedVariables false
set_option linter.unusedSectionVars false
namespace Go.Kg
open Go

/-! ## What is written is read: tags, lists, messages -/
theorem insTag_len (x : Nat × List UInt8) : ∀ l : TagL, (insTag x l).length = l.length + 1
  | [] => rfl
  | y :: l => by simp only [insTag]; split <;> simp [insTag_len x l]
theorem sortTags_len : ∀ l : TagL, (sortTags l).length = l.length
  | [] => rfl
  | x :: l => by simp [sortTags, insTag_len, sortTags_len l]
theorem insTag_mem (x : Nat × List UInt8) : ∀ (l : TagL) (y), y ∈ insTag x l ↔ y = x ∨ y ∈ l
  | [], y => by simp [insTag]
  | z :: l, y => by
    simp only [insTag]
    split
    · simp
    · simp only [List.mem_cons, insTag_mem x l]
      constructor
      · rintro (h | h | h) <;> simp [h]
      · rintro (h | h | h) <;> simp [h]
theorem sortTags_mem : ∀ (l : TagL) (y), y ∈ sortTags l ↔ y ∈ l
  | [], y => by simp [sortTags]
  | x :: l, y => by simp [sortTags, insTag_mem, sortTags_mem l]
theorem insTag_nodup (x : Nat × List UInt8) : ∀ l : TagL, (∀ y ∈ l, y.1 ≠ x.1) → (l.map (·.1)).Nodup → ((insTag x l).map (·.1)).Nodup
  | [], _, _ => by simp [insTag]
  | z :: l, h1, h2 => by
    simp only [insTag]
    split
    · simp only [List.map_cons, List.nodup_cons]
      refine ⟨?_, by simpa using h2⟩
      intro hm
      obtain ⟨y, hy, he⟩ := List.mem_map.1 (show x.1 ∈ (z :: l).map (·.1) by simpa using hm)
      exact h1 y hy he
    · simp only [List.map_cons, List.nodup_cons] at h2 ⊢
      refine ⟨?_, insTag_nodup x l (fun y hy => h1 y (List.mem_cons_of_mem _ hy)) h2.2⟩
      intro hm
      obtain ⟨y, hy, he⟩ := List.mem_map.1 hm
      rcases (insTag_mem x l y).1 hy with rfl | hy
      · exact h1 z List.mem_cons_self he.symm
      · exact h2.1 (List.mem_map.2 ⟨y, hy, he⟩)
theorem sortTags_nodup : ∀ l : TagL, (l.map (·.1)).Nodup → ((sortTags l).map (·.1)).Nodup
  | [], _ => by simp [sortTags]
  | x :: l, h => by
    simp only [List.map_cons, List.nodup_cons] at h
    refine insTag_nodup x _ (fun y hy he => h.1 ?_) (sortTags_nodup l h.2)
    exact List.mem_map.2 ⟨y, (sortTags_mem l y).1 hy, he⟩
theorem insTag_sorted (x : Nat × List UInt8) : ∀ l : TagL, l.Pairwise (fun a b => a.1 ≤ b.1) → (insTag x l).Pairwise (fun a b => a.1 ≤ b.1)
  | [], _ => by simp [insTag]
  | z :: l, h => by
    simp only [insTag]
    split
    · rename_i hle
      rw [List.pairwise_cons]
      refine ⟨fun y hy => ?_, h⟩
      rcases List.mem_cons.1 hy with rfl | hy
      · exact hle
      · exact Nat.le_trans hle ((List.pairwise_cons.1 h).1 y hy)
    · rename_i hle
      rw [List.pairwise_cons] at h ⊢
      refine ⟨fun y hy => ?_, insTag_sorted x l h.2⟩
      rcases (insTag_mem x l y).1 hy with rfl | hy
      · omega
      · exact h.1 y hy
theorem sortTags_sorted : ∀ l : TagL, (sortTags l).Pairwise (fun a b => a.1 ≤ b.1)
  | [] => by simp [sortTags]
  | x :: l => insTag_sorted x _ (sortTags_sorted l)
theorem sortTags_of_sorted : ∀ l : TagL, l.Pairwise (fun a b => a.1 ≤ b.1) → sortTags l = l
  | [], _ => rfl
  | x :: l, h => by
    rw [List.pairwise_cons] at h
    rw [sortTags, sortTags_of_sorted l h.2]
    cases l with
    | nil => rfl
    | cons y l => simp only [insTag]; rw [if_pos (h.1 y List.mem_cons_self)]

theorem setTag_new (k : Nat) (v : List UInt8) : ∀ l : TagL, (∀ y ∈ l, y.1 ≠ k) → setTag k v l = l ++ [(k, v)]
  | [], _ => rfl
  | x :: l, h => by
    simp only [setTag]
    rw [if_neg (h x List.mem_cons_self), setTag_new k v l (fun y hy => h y (List.mem_cons_of_mem _ hy))]
    rfl

def tagW (x : Nat × List UInt8) : List UInt8 := uvOut x.1 ++ uvOut (x.2.length % 4294967296) ++ x.2
theorem rd_tag (x : Nat × List UInt8) (h : x.1 < 4294967296 ∧ x.2.length ≤ 32767) (l : TagL) (hl : ∀ y ∈ l, y.1 ≠ x.1) (r : List UInt8) (nn : Bool) : ∃ nn', rdTag l ⟨tagW x ++ r, false, nn⟩ = (l ++ [x], ⟨r, false, nn'⟩) := by
  obtain ⟨k, v⟩ := x
  refine ⟨true, ?_⟩
  have e : v.length % 4294967296 = v.length := Nat.mod_eq_of_lt (by have := h.2; simp only at this; omega)
  simp only [rdTag, tagW, List.append_assoc, e]
  rw [rdUv_out h.1]
  simp only
  rw [rdUv_out (by have := h.2; simp only at this; omega)]
  simp only
  rw [span_all rfl]
  simp only
  rw [setTag_new k v l hl]
theorem rd_tagN : ∀ (l acc : TagL) (r : List UInt8) (nn : Bool), (∀ x ∈ l, x.1 < 4294967296 ∧ x.2.length ≤ 32767) → ((acc ++ l).map (·.1)).Nodup → ∃ nn', rdTagN l.length acc ⟨l.flatMap tagW ++ r, false, nn⟩ = (acc ++ l, ⟨r, false, nn'⟩)
  | [], acc, r, nn, _, _ => ⟨nn, by simp [rdTagN]⟩
  | x :: l, acc, r, nn, h, hn => by
    have hnew : ∀ y ∈ acc, y.1 ≠ x.1 := by
      intro y hy he
      rw [List.map_append, List.nodup_append] at hn
      exact hn.2.2 _ (List.mem_map.2 ⟨y, hy, rfl⟩) _ (List.mem_map.2 ⟨x, List.mem_cons_self, rfl⟩) he
    obtain ⟨n1, e1⟩ := rd_tag x (h x List.mem_cons_self) acc hnew (l.flatMap tagW ++ r) nn
    obtain ⟨n2, e2⟩ := rd_tagN l (acc ++ [x]) r n1 (fun y hy => h y (List.mem_cons_of_mem _ hy)) (by simpa using hn)
    refine ⟨n2, ?_⟩
    simp only [List.flatMap_cons, List.append_assoc, List.length_cons, rdTagN]
    rw [e1]
    simp only
    rw [e2]
    simp
theorem rd_tags (l : TagL) (h : tagsOk l) (r : List UInt8) (nn : Bool) : ∃ nn', rdTags ⟨uvOut (l.length % 4294967296) ++ tagsOut l ++ r, false, nn⟩ = (sortTags l, ⟨r, false, nn'⟩) := by
  obtain ⟨h1, h2, h3⟩ := h
  have e : l.length % 4294967296 = (sortTags l).length := by rw [sortTags_len]; omega
  obtain ⟨n1, e1⟩ := rd_tagN (sortTags l) [] r true (fun x hx => h3 x ((sortTags_mem l x).1 hx)) (by simpa using sortTags_nodup l h2)
  refine ⟨n1, ?_⟩
  simp only [rdTags, e, List.append_assoc]
  rw [rdUv_out (by rw [sortTags_len]; omega)]
  have e2 : tagsOut l = (sortTags l).flatMap tagW := rfl
  rw [e2]
  simpa using e1
theorem tagsOk_sort {l : TagL} (h : tagsOk l) : tagsOk (sortTags l) := ⟨by rw [sortTags_len]; exact h.1, sortTags_nodup l h.2.1, fun x hx => h.2.2 x ((sortTags_mem l x).1 hx)⟩
theorem tagsOut_sort (l : TagL) : tagsOut (sortTags l) = tagsOut l := by simp only [tagsOut, sortTags_of_sorted _ (sortTags_sorted l)]

/-! ### Lists -/
theorem rd_N {α : Type} {f : RS → Option (α × RS)} {g : α → List UInt8} {W T : α → Prop} (hf : ∀ x, W x → ∀ r nn, ∃ y nn', f ⟨g x ++ r, false, nn⟩ = some (y, ⟨r, false, nn'⟩) ∧ g y = g x ∧ T y) :
    ∀ (l : List α) (r : List UInt8) (nn : Bool), (∀ x ∈ l, W x) → ∃ ys nn', rdN f l.length ⟨l.flatMap g ++ r, false, nn⟩ = some (ys, ⟨r, false, nn'⟩) ∧ ys.length = l.length ∧ ys.flatMap g = l.flatMap g ∧ ∀ y ∈ ys, T y
  | [], r, nn, _ => ⟨[], nn, by simp [rdN], rfl, rfl, by simp⟩
  | x :: l, r, nn, h => by
    obtain ⟨y, n1, e1, e2, e3⟩ := hf x (h x List.mem_cons_self) (l.flatMap g ++ r) nn
    obtain ⟨ys, n2, a1, a2, a3, a4⟩ := rd_N hf l r n1 (fun x hx => h x (List.mem_cons_of_mem _ hx))
    refine ⟨y :: ys, n2, ?_, by simp [a2], by simp [e2, a3], ?_⟩
    · simp only [List.flatMap_cons, List.append_assoc, List.length_cons, rdN, e1, a1]
    · intro z hz
      rcases List.mem_cons.1 hz with rfl | hz
      · exact e3
      · exact a4 z hz

def arrWf {α : Type} (nul : Option Nat) (ver : Int) (a : Option (List α)) : Prop := (a.getD []).length ≤ 32767 ∧ ∀ m : Nat, nul = some m → ver < (m : Int) → a ≠ none

theorem flat_len {α : Type} {g : α → List UInt8} : ∀ l : List α, (∀ x ∈ l, 1 ≤ (g x).length) → l.length ≤ (l.flatMap g).length
  | [], _ => by simp
  | x :: l, h => by
    have := h x List.mem_cons_self
    have := flat_len l (fun y hy => h y (List.mem_cons_of_mem _ hy))
    simp only [List.length_cons, List.flatMap_cons, List.length_append]; omega

theorem lenRd_W {nul : Option Nat} {fl nil : Bool} {n : Nat} {r : List UInt8} {nn : Bool} (hn : n ≤ 32767) (hr : n ≤ r.length) : lenRd fl ⟨lenW nul fl n nil ++ r, false, nn⟩ = ((if nul.isSome = true ∧ nil = true then (-1 : Int) else (n : Int)), (⟨r, false, true⟩ : RS)) := by
  have cap : capLen (n : Int) ⟨r, false, true⟩ = ((n : Int), ⟨r, false, true⟩) := by
    simp only [capLen]; rw [if_neg (by omega)]
  have capm : capLen (-1) ⟨r, false, true⟩ = (-1, ⟨r, false, true⟩) := by
    simp only [capLen]; rw [if_neg (by omega)]
  have eL : rdLen ⟨wLen n ++ r, false, nn⟩ = ((n : Int), ⟨r, false, true⟩) := by
    simp only [rdLen, wLen]
    rw [rdFixed_bigE]
    simp only [i32_len (n := n) (by omega)]
    exact cap
  have eC : rdCLen ⟨wCLen n ++ r, false, nn⟩ = ((n : Int), ⟨r, false, true⟩) := by
    simp only [rdCLen, wCLen]
    rw [u_len (by omega), rdUv_out (by omega)]
    have : IntKind.i32.wrap (i32 (n + 1) - 1) = n := by simp [i32, IntKind.wrap, IntKind.signed, IntKind.bits]; omega
    simp only [this]
    exact cap
  cases nul with
  | none => cases fl <;> simp only [lenRd, lenW, Bool.false_eq_true, if_false, if_true, Option.isSome_none, false_and] <;> assumption
  | some m =>
    cases nil
    · cases fl <;> simp only [lenRd, lenW, wNLen, wCNLen, Bool.false_eq_true, if_false, if_true, and_false] <;> assumption
    · cases fl
      · simp only [lenRd, lenW, wNLen, Bool.false_eq_true, if_false, if_true, Option.isSome_some, and_self, rdLen]
        rw [rdFixed_bigE]
        exact capm
      · simp only [lenRd, lenW, wCNLen, if_true, Option.isSome_some, and_self, rdCLen]
        rw [rdUv_out (by omega)]
        exact capm

theorem rd_arr {α : Type} {f : RS → Option (α × RS)} {g : α → List UInt8} {W T : α → Prop} (hf : ∀ x, W x → ∀ r nn, ∃ y nn', f ⟨g x ++ r, false, nn⟩ = some (y, ⟨r, false, nn'⟩) ∧ g y = g x ∧ T y) (hp : ∀ x, W x → 1 ≤ (g x).length)
    {nul : Option Nat} {ver : Int} {fl : Bool} (a : Option (List α)) (ha : arrWf nul ver a) (hW : ∀ x ∈ a.getD [], W x) (r : List UInt8) (nn : Bool) :
    ∃ b nn', arrRd nul ver fl f ⟨lenW nul fl (a.getD []).length a.isNone ++ (a.getD []).flatMap g ++ r, false, nn⟩ = some (b, ⟨r, false, nn'⟩) ∧
      lenW nul fl (b.getD []).length b.isNone ++ (b.getD []).flatMap g = lenW nul fl (a.getD []).length a.isNone ++ (a.getD []).flatMap g ∧ ∀ y ∈ b.getD [], T y := by
  have hfl := flat_len (g := g) (a.getD []) (fun x hx => hp x (hW x hx))
  have e0 := lenRd_W (nul := nul) (fl := fl) (nil := a.isNone) (r := (a.getD []).flatMap g ++ r) (nn := nn) ha.1 (by simp only [List.length_append]; omega)
  rw [List.append_assoc]
  simp only [arrRd, e0]
  by_cases h0 : (a.getD []).length = 0
  · have hnil : a.getD [] = [] := List.length_eq_zero_iff.1 h0
    have hle : ¬ (0 : Int) < (if nul.isSome = true ∧ a.isNone = true then (-1 : Int) else ((a.getD []).length : Int)) := by rw [h0]; split <;> simp
    rw [if_neg (by simp), if_neg hle]
    refine ⟨_, true, by simp only [hnil]; rfl, ?_, ?_⟩
    · cases nul with
      | none => simp [emptyOf, hnil, lenW]
      | some m =>
        cases a with
        | none =>
          have := ha.2 m rfl
          have hv : ¬ ver < (m : Int) := fun h => this h rfl
          simp [emptyOf, hv]
        | some l =>
          have : l = [] := hnil
          subst this
          simp [emptyOf]
    · cases nul with
      | none => simp [emptyOf]
      | some m => intro y hy; exfalso; revert hy; simp only [emptyOf]; split <;> split <;> simp_all
  · have hs : a.isNone = false := by cases a <;> simp_all
    obtain ⟨ys, n1, a1, a2, a3, a4⟩ := rd_N hf (a.getD []) r true hW
    have hpos : (0 : Int) < ((a.getD []).length : Int) := by omega
    simp only [hs, Bool.false_eq_true, and_false, if_false, Int.toNat_natCast, a1]
    rw [if_pos hpos]
    exact ⟨some ys, n1, rfl, by simp [a2, a3], a4⟩

/-! ### Messages -/
def Sch.pos (ver : Int) (fl : Bool) : Sch → Bool
  | .fin => false
  | .tags _ _ => fl
  | .prim g _ _ _ _ _ rest => g.on ver || rest.pos ver fl
  | .arrP g _ _ _ _ _ rest => g.on ver || rest.pos ver fl
  | .arrS g _ _ _ _ _ _ _ _ _ rest => g.on ver || rest.pos ver fl
def Sch.posE (ver : Int) (fl : Bool) : Sch → Bool
  | .fin => true
  | .tags _ _ => true
  | .prim _ _ _ _ _ _ rest => rest.posE ver fl
  | .arrP _ _ _ _ _ _ rest => rest.posE ver fl
  | .arrS g _ _ _ _ _ _ _ _ e rest => (!g.on ver || (e.pos ver fl && e.posE ver fl)) && rest.posE ver fl

def Sch.wf (ver : Int) (fl : Bool) : (S : Sch) → S.T → Prop
  | .fin, _ => True
  | .tags _ _, l => fl = true → tagsOk l
  | .prim g _ _ p _ _ rest, (x, r) => (g.on ver = true → p.wf x) ∧ rest.wf ver fl r
  | .arrP g _ _ _ nul p rest, (a, r) => (g.on ver = true → arrWf nul ver a ∧ ∀ x ∈ a.getD [], p.wf x) ∧ rest.wf ver fl r
  | .arrS g _ _ _ nul _ _ _ _ e rest, (a, r) => (g.on ver = true → arrWf nul ver a ∧ ∀ x ∈ a.getD [], e.wf ver fl x) ∧ rest.wf ver fl r

theorem wStr_pos (x : List UInt8) : 1 ≤ (wStr x).length := by simp [wStr]; omega
theorem wCStr_pos (x : List UInt8) : 1 ≤ (wCStr x).length := by simp only [wCStr, List.length_append, uvOut]; have := @uvE_pos 4 ((List.length x + 1) % 4294967296); omega
theorem wBytes_pos (x : List UInt8) : 1 ≤ (wBytes x).length := by simp [wBytes]; omega
theorem wCBytes_pos (x : List UInt8) : 1 ≤ (wCBytes x).length := by simp only [wCBytes, List.length_append, uvOut]; have := @uvE_pos 4 ((List.length x + 1) % 4294967296); omega
theorem tags_sort (l : TagL) : uvOut ((sortTags l).length % 4294967296) ++ tagsOut (sortTags l) = uvOut (l.length % 4294967296) ++ tagsOut l := by rw [sortTags_len, tagsOut_sort]
theorem prim_pos (p : Prim) (fl : Bool) (x : p.T) (h : p.wf x) : 1 ≤ (p.wr fl x).length := by
  cases p with
  | uuid => have hx : (x : List UInt8).length = 16 := h; simp only [Prim.wr]; rw [show (x : List UInt8).length = 16 from hx]; omega
  | str =>
    cases fl
    · exact wStr_pos x
    · exact wCStr_pos x
  | bytes =>
    cases fl
    · exact wBytes_pos x
    · exact wCBytes_pos x
  | nstr =>
    cases hx : (show Option (List UInt8) from x) with
    | none =>
      have hx' : x = (none : Option (List UInt8)) := hx
      subst hx'
      cases fl <;> simp [Prim.wr, wNStr, wCNStr, uvOut]
      exact uvE_pos
    | some l =>
      have hx' : x = some l := hx
      subst hx'
      cases fl <;> simp [Prim.wr, wNStr, wCNStr, wStr, wCStr, uvOut] <;> first | omega | (have := @uvE_pos 4 ((l.length + 1) % 4294967296); omega)
  | nbytes =>
    cases hx : (show Option (List UInt8) from x) with
    | none =>
      have hx' : x = (none : Option (List UInt8)) := hx
      subst hx'
      cases fl <;> simp [Prim.wr, wNBytes, wCNBytes, uvOut]
      exact uvE_pos
    | some l =>
      have hx' : x = some l := hx
      subst hx'
      cases fl <;> simp [Prim.wr, wNBytes, wCNBytes, wBytes, wCBytes, uvOut] <;> first | omega | (have := @uvE_pos 4 ((l.length + 1) % 4294967296); omega)
  | _ => simp [Prim.wr, num]
theorem lenW_pos (nul : Option Nat) (fl : Bool) (n : Nat) (nil : Bool) : 1 ≤ (lenW nul fl n nil).length := by
  have h1 : 1 ≤ (wLen n).length := by simp [wLen]
  have h2 : 1 ≤ (wCLen n).length := by simp only [wCLen, uvOut]; exact uvE_pos
  have h3 : 1 ≤ (wNLen n nil).length := by simp only [wNLen]; split <;> simp [wLen]
  have h4 : 1 ≤ (wCNLen n nil).length := by simp only [wCNLen]; split; exact uvE_pos; exact h2
  cases nul <;> simp only [lenW] <;> split <;> assumption
theorem sch_pos (ver : Int) (fl : Bool) : ∀ (S : Sch) (x : S.T), S.pos ver fl = true → S.wf ver fl x → 1 ≤ (S.wr ver fl x).length := by
  intro S
  induction S with
  | fin => intro x h; cases h
  | tags k o =>
    intro x h _
    have h' : fl = true := h
    simp only [Sch.wr, if_pos h', List.length_append, uvOut]
    have := @uvE_pos 4 (List.length x % 4294967296)
    omega
  | prim g k o p en d rest ih =>
    rintro ⟨x, r⟩ h ⟨h1, h2⟩
    simp only [Sch.pos, Bool.or_eq_true] at h
    simp only [Sch.wr, List.length_append]
    rcases h with h | h
    · rw [if_pos h]
      have := prim_pos p fl x (h1 h)
      omega
    · have := ih r h h2; omega
  | arrP g k o sT nul p rest ih =>
    rintro ⟨a, r⟩ h ⟨h1, h2⟩
    simp only [Sch.pos, Bool.or_eq_true] at h
    simp only [Sch.wr, List.length_append]
    rcases h with h | h
    · rw [if_pos h, List.length_append]
      have := lenW_pos nul fl (a.getD []).length a.isNone
      omega
    · have := ih r h h2; omega
  | arrS g k o sT nul T PT sz df e rest ihe ih =>
    rintro ⟨a, r⟩ h ⟨h1, h2⟩
    simp only [Sch.pos, Bool.or_eq_true] at h
    simp only [Sch.wr, List.length_append]
    rcases h with h | h
    · rw [if_pos h, List.length_append]
      have := lenW_pos nul fl (a.getD []).length a.isNone
      omega
    · have := ih r h h2; omega

theorem rd_sch (ver : Int) (fl : Bool) : ∀ (S : Sch) (x : S.T), S.posE ver fl = true → S.wf ver fl x → ∀ r nn, ∃ y nn', S.rd ver fl ⟨S.wr ver fl x ++ r, false, nn⟩ = some (y, ⟨r, false, nn'⟩) ∧ S.wr ver fl y = S.wr ver fl x ∧ S.TagsOk tagsOk y := by
  have ok0 : tagsOk [] := ⟨by simp, by simp, by simp⟩
  intro S
  induction S with
  | fin => intro x _ _ r nn; exact ⟨(), nn, rfl, rfl, trivial⟩
  | tags k o =>
    intro x _ h r nn
    cases fl
    · exact ⟨[], nn, rfl, by simp [Sch.wr], ok0⟩
    · obtain ⟨n1, e⟩ := rd_tags x (h rfl) r nn
      refine ⟨sortTags x, n1, ?_, ?_, tagsOk_sort (h rfl)⟩
      · exact congrArg some e
      · exact tags_sort x
  | prim g k o p en d rest ih =>
    rintro ⟨x, xr⟩ hp ⟨h1, h2⟩ r nn
    by_cases hg : g.on ver = true
    · obtain ⟨n1, e1⟩ := rd_prim p fl x (h1 hg) (rest.wr ver fl xr ++ r) nn
      obtain ⟨y, n2, e2, e3, e4⟩ := ih xr hp h2 r n1
      refine ⟨(x, y), n2, ?_, ?_, e4⟩
      · simp only [Sch.rd, Sch.wr, if_pos hg, List.append_assoc, e1, e2]; rfl
      · simp only [Sch.wr, e3]
    · obtain ⟨y, n2, e2, e3, e4⟩ := ih xr hp h2 r nn
      refine ⟨(p.dfl d, y), n2, ?_, ?_, e4⟩
      · simp only [Sch.rd, Sch.wr, if_neg hg, List.nil_append, e2]; rfl
      · simp only [Sch.wr, if_neg hg, e3]
  | arrP g k o sT nul p rest ih =>
    rintro ⟨a, xr⟩ hp ⟨h1, h2⟩ r nn
    by_cases hg : g.on ver = true
    · obtain ⟨ha, hW⟩ := h1 hg
      obtain ⟨b, n1, e1, e1', _⟩ := rd_arr (f := fun rs => some (p.rd fl rs)) (g := p.wr fl) (W := p.wf) (T := fun _ => True) (fun x hx r nn => by
        obtain ⟨n', e⟩ := rd_prim p fl x hx r nn
        exact ⟨x, n', by rw [e], rfl, trivial⟩) (prim_pos p fl) (nul := nul) (ver := ver) (fl := fl) a ha hW (rest.wr ver fl xr ++ r) nn
      obtain ⟨y, n2, e2, e3, e4⟩ := ih xr hp h2 r n1
      refine ⟨(b, y), n2, ?_, ?_, e4⟩
      · rw [List.append_assoc] at e1
        simp only [Sch.rd, Sch.wr, if_pos hg, List.append_assoc, e1, e2]; rfl
      · simp only [Sch.wr, if_pos hg, e3, e1']
    · obtain ⟨y, n2, e2, e3, e4⟩ := ih xr hp h2 r nn
      refine ⟨(none, y), n2, ?_, ?_, e4⟩
      · simp only [Sch.rd, Sch.wr, if_neg hg, List.nil_append, e2]; rfl
      · simp only [Sch.wr, if_neg hg, e3]
  | arrS g k o sT nul T PT sz df e rest ihe ih =>
    rintro ⟨a, xr⟩ hp ⟨h1, h2⟩ r nn
    simp only [Sch.posE, Bool.and_eq_true, Bool.or_eq_true, Bool.not_eq_true'] at hp
    by_cases hg : g.on ver = true
    · obtain ⟨ha, hW⟩ := h1 hg
      have hpe : e.pos ver fl = true ∧ e.posE ver fl = true := by
        rcases hp.1 with h | h
        · rw [h] at hg; cases hg
        · exact h
      obtain ⟨b, n1, e1, e1', eT⟩ := rd_arr (f := e.rd ver fl) (g := e.wr ver fl) (W := e.wf ver fl) (T := e.TagsOk tagsOk) (fun x hx r nn => ihe x hpe.2 hx r nn) (fun x hx => sch_pos ver fl e x hpe.1 hx) (nul := nul) (ver := ver) (fl := fl) a ha hW (rest.wr ver fl xr ++ r) nn
      obtain ⟨y, n2, e2, e3, e4⟩ := ih xr hp.2 h2 r n1
      refine ⟨(b, y), n2, ?_, ?_, ?_, e4⟩
      · rw [List.append_assoc] at e1
        simp only [Sch.rd, Sch.wr, if_pos hg, List.append_assoc, e1, e2]; rfl
      · simp only [Sch.wr, if_pos hg, e3, e1']
      · intro i y hy
        exact eT y (List.mem_of_getElem? hy)
    · obtain ⟨y, n2, e2, e3, e4⟩ := ih xr hp.2 h2 r nn
      refine ⟨(none, y), n2, ?_, ?_, ?_, e4⟩
      · simp only [Sch.rd, Sch.wr, if_neg hg, List.nil_append, e2]; rfl
      · simp only [Sch.wr, if_neg hg, e3]
      · intro i y hy; simp at hy

/-- What is cut is not read. -/
theorem cut_sch (ver : Int) (fl : Bool) (S : Sch) (x : S.T) (hp : S.posE ver fl = true) (hw : S.wf ver fl x) (k : Nat) (hk : k < (S.wr ver fl x).length) (nn : Bool) {y : S.T} {rs : RS} (h : S.rd ver fl ⟨(S.wr ver fl x).take k, false, nn⟩ = some (y, rs)) : rs.bad = true := by
  cases hb : rs.bad
  · obtain ⟨z, n', e1, _⟩ := rd_sch ver fl S x hp hw [] nn
    have e2 := (good_sch ver fl S).ext _ ((S.wr ver fl x).drop k) nn y rs h hb
    rw [List.take_append_drop] at e2
    rw [List.append_nil, e2] at e1
    simp only [Option.some.injEq, Prod.mk.injEq, RS.mk.injEq] at e1
    have h3 := congrArg List.length e1.2.1
    simp at h3
    omega
  · rfl
end Go.Kg

set_option linter.unusedSimpArgs false
set_option linter.unusedVariables false
namespace Go.Kg
open Go

/-! ## The code of readFrom. Slots: 0 the message, 1 the bytes, 2 unsafe, 6 the result, 7 the reader, 8 version, 9 isFlexible (where fx) -/
def Prim.fR (E : Env) : Prim → Bool → Nat
  | .bool, _ => E.f_pkbin_Reader_Bool
  | .i8, _ => E.f_pkbin_Reader_Int8
  | .i16, _ => E.f_pkbin_Reader_Int16
  | .u16, _ => E.f_pkbin_Reader_Uint16
  | .i32, _ => E.f_pkbin_Reader_Int32
  | .i64, _ => E.f_pkbin_Reader_Int64
  | .uuid, _ => E.f_pkbin_Reader_Uuid
  | .str, false => E.f_pkbin_Reader_String
  | .str, true => E.f_pkbin_Reader_CompactString
  | .nstr, false => E.f_pkbin_Reader_NullableString
  | .nstr, true => E.f_pkbin_Reader_CompactNullableString
  | .bytes, false => E.f_pkbin_Reader_Bytes
  | .bytes, true => E.f_pkbin_Reader_CompactBytes
  | .nbytes, false => E.f_pkbin_Reader_NullableBytes
  | .nbytes, true => E.f_pkbin_Reader_CompactNullableBytes

/-- u: the numbers of the readers that are 'unsafe' (String, CompactString, NullableString, CompactNullableString). -/
structure CfgR extends Cfg where
  u : Nat × Nat × Nat × Nat
def Prim.fU (C : CfgR) : Prim → Bool → Nat
  | .str, false => C.u.1
  | .str, true => C.u.2.1
  | .nstr, false => C.u.2.2.1
  | .nstr, true => C.u.2.2.2
  | _, _ => 0

/-- v = b.F() -/
def callR (C : CfgR) (p : Prim) (f l t : Nat) : Ir :=
  .reg (⟨none, some t, .call { callee := .value (.func f), args := #[.tmp 7], argTypes := #[C.E.tRd] }, p.ty C.E⟩ :: putL C.toCfg p (p.ty C.E) l t)
/-- if the slot s {a} else {b} -/
def condI (C : CfgR) (s t : Nat) (a b : Ir) : Ir := .seq (.reg [⟨none, some t, .move (.tmp s), C.E.tB⟩]) (.cond t a b)
def zeroV : Prim → Value
  | .str => .string ⟨#[]⟩
  | .nstr => .pointer none
  | _ => .slice none 0 0
def Prim.nilly : Prim → Bool
  | .nstr => true
  | _ => false
def Prim.uns : Prim → Bool
  | .str | .nstr => true
  | _ => false
/-- reading into the local l; so many temporaries -/
def readI (C : CfgR) (p : Prim) (l t : Nat) : List Ir :=
  match p with
  | .str => .reg [⟨none, some l, .assign (.const (zeroV p)), p.ty C.E⟩] ::
    [if C.fx then condI C 2 t (condI C 9 (t + 1) (callR C p (p.fU C true) l (t + 2)) (callR C p (p.fU C false) l (t + 3))) (condI C 9 (t + 4) (callR C p (p.fR C.E true) l (t + 5)) (callR C p (p.fR C.E false) l (t + 6)))
      else condI C 2 t (callR C p (p.fU C false) l (t + 1)) (callR C p (p.fR C.E false) l (t + 2))]
  | .nstr => .reg [⟨none, some l, .assign (.const (zeroV p)), p.ty C.E⟩] ::
    [if C.fx then condI C 9 t (condI C 2 (t + 1) (callR C p (p.fU C true) l (t + 2)) (callR C p (p.fR C.E true) l (t + 3))) (condI C 2 (t + 4) (callR C p (p.fU C false) l (t + 5)) (callR C p (p.fR C.E false) l (t + 6)))
      else condI C 2 t (callR C p (p.fU C false) l (t + 1)) (callR C p (p.fR C.E false) l (t + 2))]
  | .bytes | .nbytes => if C.fx then .reg [⟨none, some l, .assign (.const (zeroV p)), p.ty C.E⟩] :: [condI C 9 t (callR C p (p.fR C.E true) l (t + 1)) (callR C p (p.fR C.E false) l (t + 2))]
      else [callR C p (p.fR C.E false) l t]
  | _ => [callR C p (p.fR C.E false) l t]
def readN (C : CfgR) (p : Prim) : Nat :=
  match p with
  | .str | .nstr => if C.fx then 7 else 3
  | .bytes | .nbytes => if C.fx then 3 else 1
  | _ => 1

/-- s.F = v -/
def storeR (C : CfgR) (T PT pv k ty l t : Nat) (p : Prim) : List Ro :=
  [⟨none, some t, .move (.tmp pv), PT⟩, getL C.toCfg p l (t + 1), ⟨none, some (t + 2), .nilCheck (.tmp t), C.E.tNil⟩, ⟨none, some (t + 3), .fieldAddr T (.tmp (t + 2)) k, C.E.tNil⟩, ⟨none, none, .store ty (.tmp (t + 3)) (.tmp (t + 1)), C.E.tNil⟩]
/-- the same of a type's own -/
def storeT (C : CfgR) (T PT pv k ty l t : Nat) : List Ro :=
  [⟨none, some t, .move (.tmp pv), PT⟩, ⟨none, some (t + 1), .move (.tmp l), ty⟩, ⟨none, some (t + 2), .nilCheck (.tmp t), C.E.tNil⟩, ⟨none, some (t + 3), .fieldAddr T (.tmp (t + 2)) k, C.E.tNil⟩, ⟨none, none, .store ty (.tmp (t + 3)) (.tmp (t + 1)), C.E.tNil⟩]

def lenIR (C : CfgR) (l t : Nat) : Ir :=
  let c (f t : Nat) : Ir := .reg [⟨none, some t, .call { callee := .value (.func f), args := #[.tmp 7], argTypes := #[C.E.tRd] }, C.E.tI32⟩, ⟨none, some l, .assign (.tmp t), C.E.tI32⟩]
  if C.fx then condI C 9 t (c C.E.f_pkbin_Reader_CompactArrayLen (t + 1)) (c C.E.f_pkbin_Reader_ArrayLen (t + 2)) else c C.E.f_pkbin_Reader_ArrayLen t
def lenIN (C : CfgR) : Nat := if C.fx then 3 else 1
/-- return b.Complete() -/
def completeI (C : CfgR) (t : Nat) : List Ir := [.reg [⟨none, some t, .call { callee := .value (.func C.E.f_pkbin_Reader_Complete), args := #[.tmp 7], argTypes := #[C.E.tRd] }, C.E.tErr⟩, ⟨none, some 6, .assign (.tmp t), C.E.tErr⟩], .ret]
def okI (C : CfgR) (t : Nat) : Ir :=
  .seq (.reg [⟨none, some t, .call { callee := .value (.func C.E.f_pkbin_Reader_Ok), args := #[.tmp 7], argTypes := #[C.E.tRd] }, C.E.tB⟩, ⟨none, some (t + 1), .unOp .not C.E.tB (.tmp t), C.E.tB⟩]) (.cond (t + 1) (seqL (completeI C (t + 2))) .skip)
/-- if version < m || l == 0 {a = []T{}} -/
def nulI (C : CfgR) (m sT l t : Nat) : Ir :=
  .seq (.reg [⟨none, some t, .move (.tmp 8), C.E.tI16⟩, ⟨none, some (t + 1), .binOp .lss C.E.tI16 (.tmp t) (.const (.int .i16 m)) C.E.tI16, C.E.tB⟩, ⟨none, some (t + 2), .move (.tmp (t + 1)), C.E.tB⟩,
      ⟨some (t + 2, false), some (t + 3), .move (.tmp (l + 2)), C.E.tI32⟩, ⟨some (t + 2, false), some (t + 4), .binOp .eql C.E.tI32 (.tmp (t + 3)) (.const (.int .i32 0)) C.E.tI32, C.E.tB⟩, ⟨none, some (t + 5), .pick (.tmp (t + 2)) (.const (.bool true)) (.tmp (t + 4)), C.E.tB⟩])
    (.cond (t + 5) (.reg [⟨none, some (t + 6), .buildSlice sT 0 #[], sT⟩, ⟨none, some (l + 1), .assign (.tmp (t + 6)), sT⟩]) .skip)
def nulN : Option Nat → Nat
  | none => 0
  | some _ => 7

/-- a list's field, up to the loop: l: v, l + 1: a, l + 2: the length; the loop starts at t + headN -/
def headR (C : CfgR) (T PT pv k sT l t : Nat) (nul : Option Nat) : List Ir :=
  let t1 := t + 5 + lenIN C
  let t2 := t1 + nulN nul
  [loadI C.toCfg T PT pv k sT l t .i8, .reg [⟨none, some (t + 4), .move (.tmp l), sT⟩, ⟨none, some (l + 1), .assign (.tmp (t + 4)), sT⟩], .reg [⟨none, some (l + 2), .assign (.const (.int .i32 0)), C.E.tI32⟩], lenIR C (l + 2) (t + 5)] ++
  (match nul with | none => [] | some m => [nulI C m sT l t1]) ++
  [okI C t2, .reg [⟨none, some (t2 + 3), .move (.tmp (l + 1)), sT⟩, ⟨none, some (t2 + 4), .slice sT (.tmp (t2 + 3)) none (some (.const (.int .i64 0))) none, sT⟩, ⟨none, some (l + 1), .assign (.tmp (t2 + 4)), sT⟩],
   .seq (.reg [⟨none, some (t2 + 5), .move (.tmp (l + 2)), C.E.tI32⟩, ⟨none, some (t2 + 6), .binOp .gtr C.E.tI32 (.tmp (t2 + 5)) (.const (.int .i32 0)) C.E.tI32, C.E.tB⟩])
    (.cond (t2 + 6) (.reg [⟨none, some (t2 + 7), .move (.tmp (l + 1)), sT⟩, ⟨none, some (t2 + 8), .move (.tmp (l + 2)), C.E.tI32⟩,
      ⟨none, some (t2 + 9), .call { callee := .builtin .append, args := #[.tmp (t2 + 7), .tmp (t2 + 8)], argTypes := #[sT, C.E.tI32] }, sT⟩, ⟨none, some (l + 1), .assign (.tmp (t2 + 9)), sT⟩]) .skip)]
def headN (C : CfgR) (nul : Option Nat) : Nat := 5 + lenIN C + nulN nul + 10

/-- for i := int32(0); i < l; i++: the body starts at t + 5 -/
def forI (C : CfgR) (l t k : Nat) (body : Ir) : Ir :=
  .seq (.reg [⟨none, some (l + 3), .assign (.const (.int .i32 0)), C.E.tI32⟩])
    (.block k (.loop (.seq (.seq (.reg [⟨none, some t, .move (.tmp (l + 3)), C.E.tI32⟩, ⟨none, some (t + 1), .move (.tmp (l + 2)), C.E.tI32⟩, ⟨none, some (t + 2), .binOp .lss C.E.tI32 (.tmp t) (.tmp (t + 1)) C.E.tI32, C.E.tB⟩]) (.cond (t + 2) .skip (.exit k)))
      (.seq (.block (k + 1) body) (.reg [⟨none, some (t + 3), .move (.tmp (l + 3)), C.E.tI32⟩, ⟨none, some (t + 4), .binOp .add C.E.tI32 (.tmp (t + 3)) (.const (.int .i32 1)) C.E.tI32, C.E.tI32⟩, ⟨none, some (l + 3), .assign (.tmp (t + 4)), C.E.tI32⟩])))))
/-- v = a; s.F = v -/
def tailR (C : CfgR) (T PT pv k sT l t : Nat) : List Ir :=
  [.reg [⟨none, some t, .move (.tmp (l + 1)), sT⟩, ⟨none, some l, .assign (.tmp t), sT⟩], .reg (storeT C T PT pv k sT l (t + 1))]
/-- v := &a[i]; v.Default(); s := v -/
def elemR (C : CfgR) (sT PT' df l t : Nat) : List Ir :=
  [.reg [⟨none, some t, .move (.tmp (l + 1)), sT⟩, ⟨none, some (t + 1), .move (.tmp (l + 3)), C.E.tI32⟩, ⟨none, some (t + 2), .indexAddr sT (.tmp t) (.tmp (t + 1)), C.E.tNil⟩, ⟨none, some (l + 4), .assign (.tmp (t + 2)), PT'⟩],
   .reg [⟨none, some (t + 3), .move (.tmp (l + 4)), PT'⟩, ⟨none, some (t + 4), .call { callee := .value (.func df), args := #[.tmp (t + 3)], argTypes := #[PT'] }, C.E.tNil⟩],
   .reg [⟨none, some (t + 5), .move (.tmp (l + 4)), PT'⟩, ⟨none, some (l + 5), .assign (.tmp (t + 5)), PT'⟩]]
def storeE (C : CfgR) (p : Prim) (sT l t : Nat) : Ir :=
  .reg [⟨none, some t, .move (.tmp (l + 1)), sT⟩, ⟨none, some (t + 1), .move (.tmp (l + 3)), C.E.tI32⟩, getL C.toCfg p (l + 4) (t + 2), ⟨none, some (t + 3), .indexAddr sT (.tmp t) (.tmp (t + 1)), C.E.tNil⟩, ⟨none, none, .store (p.ty C.E) (.tmp (t + 3)) (.tmp (t + 2)), C.E.tNil⟩]

def tagsR (C : CfgR) (T PT pv k t : Nat) : Ir :=
  condI C 9 t (.reg [⟨none, some (t + 1), .move (.tmp pv), PT⟩, ⟨none, some (t + 2), .call { callee := .value (.func C.E.f_kmsg_internalReadTags), args := #[.tmp 7], argTypes := #[C.E.tPRd] }, C.E.t_kmsg_Tags⟩,
    ⟨none, some (t + 3), .nilCheck (.tmp (t + 1)), C.E.tNil⟩, ⟨none, some (t + 4), .fieldAddr T (.tmp (t + 3)) k, C.E.tNil⟩, ⟨none, none, .store C.E.t_kmsg_Tags (.tmp (t + 4)) (.tmp (t + 2)), C.E.tNil⟩]) .skip

def Sch.genR (C : CfgR) (T PT pv : Nat) : Sch → Ct → List Ir × Ct
  | .fin, c => ([], c)
  | .tags k _, c => ([tagsR C T PT pv k c.t], ⟨c.l, c.t + 5, c.k⟩)
  | .prim g k _ p en _ rest, c =>
    let t := c.t + gdN g
    let (b, c') := if en = 0 then (readI C p c.l t ++ [.reg (storeR C T PT pv k (p.ty C.E) c.l (t + readN C p) p)], (⟨c.l + 1, t + readN C p + 4, c.k⟩ : Ct))
      else ([.reg [⟨none, some c.l, .assign (.const (.int .i8 0)), en⟩], seqL [callR C p (p.fR C.E false) (c.l + 1) t, .reg [⟨none, some (t + 1), .move (.tmp (c.l + 1)), p.ty C.E⟩, ⟨none, some c.l, .assign (.tmp (t + 1)), en⟩]],
        .reg [⟨none, some (t + 2), .move (.tmp c.l), en⟩, ⟨none, some (c.l + 2), .assign (.tmp (t + 2)), en⟩], .reg (storeT C T PT pv k en (c.l + 2) (t + 3))], ⟨c.l + 3, t + 7, c.k⟩)
    let (r, c'') := rest.genR C T PT pv c'
    (gdI (toR C) g c.t (seqL b) :: r, c'')
  | .arrP g k _ sT nul p rest, c =>
    let t := c.t + gdN g
    let t1 := t + headN C nul
    let body := seqL (readI C p (c.l + 4) (t1 + 5) ++ [storeE C p sT c.l (t1 + 5 + readN C p)])
    let t2 := t1 + 5 + readN C p + 4
    let (r, c'') := rest.genR C T PT pv ⟨c.l + 5, t2 + 5, c.k + 2⟩
    (gdI (toR C) g c.t (seqL (headR C T PT pv k sT c.l t nul ++ [forI C c.l t1 c.k body] ++ tailR C T PT pv k sT c.l t2)) :: r, c'')
  | .arrS g k _ sT nul T' PT' _ df e rest, c =>
    let t := c.t + gdN g
    let t1 := t + headN C nul
    let (eb, c1) := e.genR C T' PT' (c.l + 5) ⟨c.l + 6, t1 + 11, c.k + 2⟩
    let body := seqL (elemR C sT PT' df c.l (t1 + 5) ++ eb)
    let (r, c'') := rest.genR C T PT pv ⟨c1.l, c1.t + 5, c1.k⟩
    (gdI (toR C) g c.t (seqL (headR C T PT pv k sT c.l t nul ++ [forI C c.l t1 c.k body] ++ tailR C T PT pv k sT c.l c1.t)) :: r, c'')
where toR (C : CfgR) : Cfg := { C.toCfg with sv := 8, sf := 9 }

/-- readFrom. kv: the version is read first; df: the number of Default; nl: how many locals there are -/
def ctR (C : CfgR) (kv : Bool) (nl : Nat) : Ct := ⟨if C.fx then 11 else 10, nl + 9 + (if kv then 4 else 0) + (if C.fx then 4 else 1), 0⟩
def msgR (C : CfgR) (T PT flex df : Nat) (kv : Bool) (S : Sch) (nl : Nat) : Ir :=
  let t := nl + (if kv then 4 else 0)
  let h : List Ir := [.reg [⟨none, some 6, .assign (.const .nilIface), C.E.tErr⟩],
    .reg [⟨none, some nl, .move (.tmp 0), PT⟩, ⟨none, some (nl + 1), .call { callee := .value (.func df), args := #[.tmp nl], argTypes := #[PT] }, C.E.tNil⟩],
    .reg [⟨none, some (nl + 2), .move (.tmp 1), C.E.tBs⟩, ⟨none, some (nl + 3), .build C.E.tRd #[(0, .tmp (nl + 2))], C.E.tRd⟩, ⟨none, some 7, .alloc C.E.tRd, C.E.tNil⟩, ⟨none, none, .store C.E.tRd (.tmp 7) (.tmp (nl + 3)), C.E.tNil⟩]]
  let kvI : List Ir := if kv then [.reg [⟨none, some (nl + 4), .move (.tmp 0), PT⟩, ⟨none, some (nl + 5), .call { callee := .value (.func C.E.f_pkbin_Reader_Int16), args := #[.tmp 7], argTypes := #[C.E.tRd] }, C.E.tI16⟩,
    ⟨none, some (nl + 6), .nilCheck (.tmp (nl + 4)), C.E.tNil⟩, ⟨none, some (nl + 7), .fieldAddr T (.tmp (nl + 6)) 0, C.E.tNil⟩, ⟨none, none, .store C.E.tI16 (.tmp (nl + 7)) (.tmp (nl + 5)), C.E.tNil⟩]] else []
  let v : List Ir := [.reg (addrR C.toCfg T PT 0 0 (t + 4) ++ [⟨none, some (t + 7), .load C.E.tI16 (.tmp (t + 6)), C.E.tI16⟩, ⟨none, some 8, .assign (.tmp (t + 7)), C.E.tI16⟩]),
    .reg [⟨none, some (t + 8), .move (.tmp 8), C.E.tI16⟩]]
  let fl : List Ir := if C.fx then [.reg [⟨none, some (t + 9), .move (.tmp 8), C.E.tI16⟩, ⟨none, some (t + 10), .binOp .geq C.E.tI16 (.tmp (t + 9)) (.const (.int .i16 flex)) C.E.tI16, C.E.tB⟩, ⟨none, some 9, .assign (.tmp (t + 10)), C.E.tB⟩],
    .reg [⟨none, some (t + 11), .move (.tmp 9), C.E.tB⟩]] else []
  let pv := if C.fx then 10 else 9
  let t' := t + (if C.fx then 12 else 9)
  let s : List Ir := [.reg [⟨none, some t', .move (.tmp 0), PT⟩, ⟨none, some pv, .assign (.tmp t'), PT⟩]]
  let (b, c) := S.genR C T PT pv (ctR C kv nl)
  seqL (h ++ kvI ++ v ++ fl ++ s ++ b ++ completeI C c.t)
end Go.Kg

set_option linter.unusedSimpArgs false
set_option linter.unusedVariables false
set_option linter.unusedSectionVars false
namespace Go.Kg
open Go

/-! ## The text of readFrom reads Sch.rd -/
/-- the cells of a struct within a block -/
def segL (c : Array Value) (a n : Nat) : List Value := (c.toList.drop a).take n
theorem segL_get {c : Array Value} {a n j : Nat} (h : j < n) : (segL c a n)[j]? = c[a + j]? := by simp [segL, List.getElem?_take, h, List.getElem?_drop]
theorem segL_none {c : Array Value} {a n j : Nat} (h : n ≤ j) : (segL c a n)[j]? = none := by simp [segL, List.getElem?_take]; omega

structure Rdr where
  pb : Nat
  D : Nat
  base : Nat
  ev : Value
def RK (R : Rdr) (k : Nat) : Prop := k = R.D ∨ R.base ≤ k
def CB (R : Rdr) (b k : Nat) : Prop := k = R.pb ∨ k = b

structure RW (C : CfgR) (R : Rdr) (b : Nat) (w : World) : Prop where
  lt : R.pb < R.base ∧ b < R.base ∧ R.D < R.base ∧ R.base ≤ w.heap.size
  ne : R.pb ≠ R.D ∧ b ≠ R.D ∧ R.pb ≠ b
  err : w.cell? ⟨C.E.g_kbin_ErrNotEnoughData, 0, none⟩ = some R.ev
  errN : C.E.g_kbin_ErrNotEnoughData ≠ R.pb ∧ C.E.g_kbin_ErrNotEnoughData ≠ b

section
variable {P : Program} {C : CfgR} {R : Rdr}
theorem RW.ext {b : Nat} {w w' : World} (h : RW C R b w) (he : Ext (CB R b) w w') : RW C R b w' :=
  ⟨⟨h.lt.1, h.lt.2.1, h.lt.2.2.1, Nat.le_trans h.lt.2.2.2 he.size⟩, h.ne, he.cell h.err (by rintro (h1 | h1); exact h.errN.1 h1; exact h.errN.2 h1), h.errN⟩
theorem RW.keepK {b : Nat} {w : World} (h : RW C R b w) : ∀ k, k < w.heap.size → RK R k → ¬ CB R b k := by
  obtain ⟨⟨h1, h2, h3, h4⟩, ⟨h5, h6, h7⟩, _, _⟩ := h
  rintro k _ (hk | hk) (hc | hc) <;> omega

structure FrR (C : CfgR) (R : Rdr) (f : Nat → Value) (pv b a : Nat) (ver : Int) (fl : Bool) (n : Nat) : Prop where
  ptr : f pv = .pointer (some ⟨b, a, none⟩)
  ptrN : 8 < pv ∧ pv < n
  v0 : 0 ≤ ver
  ver : f 8 = .int .i16 ver
  flg : C.fx = true → f 9 = .bool fl
  flN : C.fx = false → fl = false
  rd : f 7 = .pointer (some ⟨R.pb, 0, none⟩)
  us : f 2 = .bool false
  nN : 10 ≤ n
theorem FrR.keep {f f' : Nat → Value} {pv b a n : Nat} {ver : Int} {fl : Bool} (h : FrR C R f pv b a ver fl n) {t : Nat} (hk : Keeps f f' t) (ht : n ≤ t) : FrR C R f' pv b a ver fl n := by
  have h1 := h.ptrN
  have h2 := h.nN
  exact ⟨(hk _ (by omega) (by omega)).trans h.ptr, h1, h.v0, (hk _ (by omega) (by omega)).trans h.ver, fun hx => (hk _ (by omega) (by omega)).trans (h.flg hx), h.flN, (hk _ (by omega) (by omega)).trans h.rd, (hk _ (by omega) (by omega)).trans h.us, h2⟩
theorem FrR.up {f : Nat → Value} {pv b a n m : Nat} {ver : Int} {fl : Bool} (h : FrR C R f pv b a ver fl n) (hm : n ≤ m) : FrR C R f pv b a ver fl m :=
  ⟨h.ptr, ⟨h.ptrN.1, by have := h.ptrN; omega⟩, h.v0, h.ver, h.flg, h.flN, h.rd, h.us, by have := h.nN; omega⟩

structure StR (C : CfgR) (R : Rdr) (b a n : Nat) (w : World) (cc : Array Value) (e : TypeId) (rs : RS) : Prop where
  blk : w.heap[b]? = some (.cells cc e (0, 0))
  fit : a + n ≤ cc.size
  rd : RdAt C.E.tRd w R.pb R.D rs
  rw_ : RW C R b w

/-- only the reader's block has turned (and new ones) -/
theorem StR.ext1 {b a n : Nat} {w w' : World} {cc : Array Value} {e : TypeId} {rs rs' : RS} (h : StR C R b a n w cc e rs) (he : Ext (· = R.pb) w w') (hr : RdAt C.E.tRd w' R.pb R.D rs') : StR C R b a n w' cc e rs' :=
  ⟨he.old h.blk (fun h' => h.rw_.ne.2.2 h'.symm), h.fit, hr, h.rw_.ext (he.mono (fun _ _ h => .inl h))⟩

structure RdTo (C : CfgR) (R : Rdr) (b a n lo : Nat) (w : World) (cc : Array Value) (e : TypeId) (f : Nat → Value) (l m t : Nat) (rs' : RS) (f' : Nat → Value) (w' : World) (cc' : Array Value) : Prop where
  ext : Ext (CB R b) w w'
  st : StR C R b a n w' cc' e rs'
  size : cc'.size = cc.size
  same : ∀ j, (j < a + lo ∨ a + n ≤ j) → cc'[j]? = cc[j]?
  keep : KeepR f f' l m t

theorem RdTo.trans {b a n lo lo' : Nat} {w w1 w2 : World} {cc c1 c2 : Array Value} {e : TypeId} {f f1 f2 : Nat → Value} {l m t l' m' t' : Nat} {r1 r2 : RS} (x : RdTo C R b a n lo w cc e f l m t r1 f1 w1 c1) (y : RdTo C R b a n lo' w1 c1 e f1 l' m' t' r2 f2 w2 c2)
    (hlo : lo ≤ lo') (hl : l ≤ l') (hm : m ≤ m') (ht : t ≤ t') : RdTo C R b a n lo w cc e f l m' t r2 f2 w2 c2 :=
  ⟨x.ext.trans y.ext, y.st, y.size.trans x.size, fun j hj => (y.same j (by omega)).trans (x.same j hj), x.keep.trans y.keep hl hm ht⟩

/-- A field stands in a struct's cells. -/
def FldAt (w : World) (R : Rdr) (cs : List Value) (o : Nat) (p : Prim) (x : p.T) : Prop := ∃ v, seg cs o v.cells.toList ∧ p.rep1 w (RK R) v x

theorem rep1_sz {w : World} {K : Nat → Prop} {p : Prim} {u : Value} {x : p.T} (h : p.rep1 w K u x) : u.cells.size = p.sz := by
  have := rep1_one h
  by_cases hp : p = .uuid
  · subst hp
    simp only [if_true] at this
    obtain ⟨c, rfl, hc, _⟩ := this
    exact hc
  · simp only [if_neg hp] at this
    have h2 : p.sz = 1 := by cases p <;> first | rfl | exact absurd rfl hp
    rw [h2]
    cases u <;> simp_all [Value.oneCell', Value.cells]

theorem FldAt.move {w w' : World} {cs cs' : List Value} {o : Nat} {p : Prim} {x : p.T} (h : FldAt w R cs o p x) {Cx : Nat → Prop} (he : Ext Cx w w') (hK : ∀ k, k < w.heap.size → RK R k → ¬ Cx k) (hc : ∀ j, o ≤ j → j < o + p.sz → cs'[j]? = cs[j]?) : FldAt w' R cs' o p x := by
  obtain ⟨v, h1, h2⟩ := h
  refine ⟨v, fun j u hj => ?_, Prim.rep1_ext he hK h2⟩
  rw [hc (o + j) (by omega)]
  · exact h1 j u hj
  · have := (List.getElem?_eq_some_iff.1 hj).1
    have h3 := rep1_sz h2
    simp at this
    omega

/-! ### Contracts -/
def PrimR (P : Program) (C : CfgR) (p : Prim) : Prop := ∀ fl, (fl = true → C.fx = true) → ∀ w pb D rs, pb ≠ D → D < w.heap.size → RdAt C.E.tRd w pb D rs →
  Ret P (p.fR C.E fl) #[.pointer (some ⟨pb, 0, none⟩)] w fun v w' => p.rep1 w' (fun b => b = D ∨ w.heap.size ≤ b) v (p.rd fl rs).1 ∧ Ext (· = pb) w w' ∧ RdAt C.E.tRd w' pb D (p.rd fl rs).2
def LenRC (P : Program) (C : CfgR) : Prop := ∀ fl, (fl = true → C.fx = true) → ∀ w pb D rs, pb ≠ D → RdAt C.E.tRd w pb D rs →
  Ret P (if fl then C.E.f_pkbin_Reader_CompactArrayLen else C.E.f_pkbin_Reader_ArrayLen) #[.pointer (some ⟨pb, 0, none⟩)] w fun v w' => v = .int .i32 (lenRd fl rs).1 ∧ Ext (· = pb) w w' ∧ RdAt C.E.tRd w' pb D (lenRd fl rs).2
structure EndC (P : Program) (C : CfgR) : Prop where
  ok : ∀ w pb D rs, RdAt C.E.tRd w pb D rs → Ret P C.E.f_pkbin_Reader_Ok #[.pointer (some ⟨pb, 0, none⟩)] w fun v w' => v = .bool !rs.bad ∧ w' = w
  complete : ∀ w pb D rs ev, RdAt C.E.tRd w pb D rs → (rs.bad = true → w.cell? ⟨C.E.g_kbin_ErrNotEnoughData, 0, none⟩ = some ev) → Ret P C.E.f_pkbin_Reader_Complete #[.pointer (some ⟨pb, 0, none⟩)] w fun v w' => v = (if rs.bad then ev else .nilIface) ∧ w' = w
def TagsRC (P : Program) (C : CfgR) : Prop := ∀ w pb D rs, pb ≠ D → D < w.heap.size → RdAt C.E.tRd w pb D rs →
  Ret P C.E.f_kmsg_internalReadTags #[.pointer (some ⟨pb, 0, none⟩)] w fun v w' => (∃ u, v = .agg #[u] ∧ TagsAt w' (fun b => b = D ∨ w.heap.size ≤ b) u (rdTags rs).1) ∧ Ext (· = pb) w w' ∧ RdAt C.E.tRd w' pb D (rdTags rs).2

structure TyR (P : Program) (C : CfgR) : Prop where
  c : TyC P (Sch.genR.toR C)
  uu : isAgg16 (kindOf P C.E.tUu) = true → TyUu P C.E
  kTags : kindOf P C.E.t_kmsg_Tags = .agg 1
  i32 : intKind? P C.E.tI32 = some .i32

/-! ### Pieces -/
variable {Q : Post} {f : Nat → Value} {w : World}

theorem r_call (ht : TyR P C) {p : Prim} (hq : p = .uuid → isAgg16 (kindOf P C.E.tUu) = true) {g l t : Nat} {b a n : Nat} {cc : Array Value} {e : TypeId} {rs : RS} {x : p.T} {rs' : RS} (hs : StR C R b a n w cc e rs) (h7 : f 7 = .pointer (some ⟨R.pb, 0, none⟩)) (hl : l < t) (hl7 : 9 < l)
    (hP : Ret P g #[.pointer (some ⟨R.pb, 0, none⟩)] w fun v w' => p.rep1 w' (fun b => b = R.D ∨ w.heap.size ≤ b) v x ∧ Ext (· = R.pb) w w' ∧ RdAt C.E.tRd w' R.pb R.D rs')
    (h : ∀ f' w' u, LocVal w' f' p l u → p.rep1 w' (RK R) u x → Ext (· = R.pb) w w' → RdAt C.E.tRd w' R.pb R.D rs' → (∀ y, y < t → y ≠ l → f' y = f y) → Q .normal f' w') : (callR C p g l t).wp P Q f w := by
  have e3 : (t = l) = False := by simp; omega
  have keep : ∀ a b, ∀ y, y < t → y ≠ l → upd (upd f t a) l b y = f y := by
    intro a b y hy hy2
    have x4 : (y = t) = False := by simp; omega
    simp [x4, hy2]
  have hK : ∀ k, k = R.D ∨ w.heap.size ≤ k → RK R k := by
    rintro k (h | h)
    · exact .inl h
    · exact .inr (Nat.le_trans hs.rw_.lt.2.2.2 h)
  refine wp_reg ?_
  by_cases hp : p = .uuid
  · subst hp
    have hz : zeroOf P C.E.tUu = some (.agg z16) := (ht.uu (hq rfl)).zUu
    simp [callR, putL, h7]
    refine hP.mono ?_
    rintro v w1 ⟨h1, h2, h3⟩
    have hone := rep1_one h1
    simp only [if_true] at hone
    obtain ⟨c, rfl, hc16, hone⟩ := hone
    simp [hz, Value.cells, e3, store_agg (ht.uu (hq rfl)).kUu, hc16, hone, putK_blk alloc_new, z16_size]
    have hE : Ext none1 w1 ((w1.alloc (.cells z16 C.E.tUu)).setBlk w1.heap.size (.cells (over z16 0 c.toList) C.E.tUu (0, 0))) := ((Ext.refl none1 w1).alloc _).setBlk (.inl (Nat.le_refl _)) _
    refine h _ _ (.agg c) ?_ ?_ (h2.trans (hE.mono (fun _ _ h => h.elim))) (h3.ext hE (fun h => h) (fun h => h)) (keep _ _)
    · simp only [LocVal, if_true]
      refine ⟨w1.heap.size, c, C.E.tUu, (0, 0), by simp, ?_, rfl, hc16⟩
      have hov : over z16 0 c.toList = c := by
        have hd : z16.toList.drop (0 + c.toList.length) = [] := List.drop_eq_nil_of_le (by simp [z16_size, hc16])
        simp only [over, hd]; simp
      rw [hov]
      exact setBlk_same alloc_new
    · exact Prim.rep1_ext hE (fun _ _ _ h => h) (Prim.rep1_mono hK h1)
  · simp [callR, putL, hp, h7]
    refine hP.mono ?_
    rintro v w1 ⟨h1, h2, h3⟩
    exact h _ _ v (by simp [LocVal, hp]) (Prim.rep1_mono hK h1) h2 h3 (by simpa using keep _ _)

theorem r_cond {s t : Nat} {a b : Ir} {v : Bool} (hf : f s = .bool v) (hs : s < t) (ha : v = true → ∀ f', (∀ y, y < t → f' y = f y) → a.wp P Q f' w) (hb : v = false → ∀ f', (∀ y, y < t → f' y = f y) → b.wp P Q f' w) : (condI C s t a b).wp P Q f w := by
  refine wp_seqI (wp_reg ?_)
  simp [hf]
  have k : ∀ y, y < t → upd f t (.bool v) y = f y := fun y hy => by rw [upd_apply, if_neg (by omega)]
  cases v
  · exact .inr ⟨by simp, hb rfl _ k⟩
  · exact .inl ⟨by simp, ha rfl _ k⟩

theorem seqL_one {x : Ir} (h : x.wp P Q f w) : (seqL [x]).wp P Q f w := h

/-- v = b.F() in all its forms -/
theorem r_read (ht : TyR P C) {p : Prim} (hq : p = .uuid → isAgg16 (kindOf P C.E.tUu) = true) {l t : Nat} {b a n pv b2 a2 : Nat} {ver : Int} {fl : Bool} {cc : Array Value} {e : TypeId} {rs : RS} (hP : PrimR P C p) (hs : StR C R b a n w cc e rs) (hf : FrR C R f pv b2 a2 ver fl l) (hl : l < t)
    (hA : ∀ f' w' u, LocVal w' f' p l u → p.rep1 w' (RK R) u (p.rd fl rs).1 → Ext (· = R.pb) w w' → RdAt C.E.tRd w' R.pb R.D (p.rd fl rs).2 → (∀ y, y < t → y ≠ l → f' y = f y) → Q .normal f' w') : (seqL (readI C p l t)).wp P Q f w := by
  have hn := hf.nN
  have hD : R.D < w.heap.size := Nat.lt_of_lt_of_le hs.rw_.lt.2.2.1 hs.rw_.lt.2.2.2
  have main : ∀ (f1 : Nat → Value) (t1 : Nat) (fl' : Bool), (fl' = true → C.fx = true) → p.rd fl' rs = p.rd fl rs → t ≤ t1 → (∀ y, y < t → y ≠ l → f1 y = f y) → (callR C p (p.fR C.E fl') l t1).wp P Q f1 w := by
    intro f1 t1 fl' hx hrd ht1 hk
    have hc := hP fl' hx w R.pb R.D rs hs.rw_.ne.1 hD hs.rd
    rw [hrd] at hc
    refine r_call ht hq hs ((hk 7 (by omega) (by omega)).trans hf.rd) (by omega) (by omega) hc ?_
    intro f' w' u h1 h2 h3 h4 h5
    exact hA f' w' u h1 h2 h3 h4 (fun y hy hyl => (h5 y (by omega) hyl).trans (hk y hy hyl))
  have k1 : ∀ (v : Value) (f1 : Nat → Value) (t1 : Nat), t ≤ t1 → (∀ y, y < t1 → f1 y = upd f l v y) → ∀ y, y < t → y ≠ l → f1 y = f y := fun v f1 t1 h1 h y hy hyl => by rw [h y (by omega), upd_apply, if_neg hyl]
  have plain : ∀ fl', p.uns = false → (p ≠ .bytes ∧ p ≠ .nbytes) → p.rd fl' rs = p.rd fl rs := by intro fl' h1 h2; cases p <;> first | rfl | exact absurd rfl h2.1 | exact absurd rfl h2.2 | cases h1
  -- one form for texts of both flags
  have two : ∀ (v : Value), p.uns = false → (if C.fx then Ir.reg [⟨none, some l, .assign (.const v), p.ty C.E⟩] :: [condI C 9 t (callR C p (p.fR C.E true) l (t + 1)) (callR C p (p.fR C.E false) l (t + 2))] else [callR C p (p.fR C.E false) l t]) = readI C p l t → (seqL (readI C p l t)).wp P Q f w := by
    intro v _ hr
    rw [← hr]
    by_cases hx : C.fx = true
    · rw [if_pos hx]
      refine seqL_cons (wp_reg ?_)
      simp
      show (condI C 9 t _ _).wp P _ _ w
      refine r_cond (v := fl) (by rw [upd_apply, if_neg (by omega)]; exact hf.flg hx) (by omega) ?_ ?_
      · rintro rfl f1 h1
        exact main f1 (t + 1) true (fun _ => hx) rfl (by omega) (k1 v f1 t (Nat.le_refl _) h1)
      · rintro rfl f1 h1
        exact main f1 (t + 2) false (by simp) rfl (by omega) (k1 v f1 t (Nat.le_refl _) h1)
    · have hx' : C.fx = false := by simpa using hx
      rw [if_neg hx]
      have := hf.flN hx'
      subst this
      exact main f t false (by simp) rfl (Nat.le_refl _) (fun _ _ _ => rfl)
  cases p with
  | str =>
    simp only [readI]
    refine seqL_cons (wp_reg ?_)
    simp
    show (if C.fx = true then _ else _ : Ir).wp P _ _ w
    have us : upd f l (zeroV .str) 2 = .bool false := by rw [upd_apply, if_neg (by omega)]; exact hf.us
    by_cases hx : C.fx = true
    · rw [if_pos hx]
      refine r_cond (v := false) us (by omega) (by simp) ?_
      rintro _ f1 h1
      refine r_cond (v := fl) (by rw [h1 9 (by omega), upd_apply, if_neg (by omega)]; exact hf.flg hx) (by omega) ?_ ?_
      · rintro rfl f2 h2
        exact main f2 (t + 5) true (fun _ => hx) rfl (by omega) (fun y hy hyl => (h2 y (by omega)).trans (k1 _ f1 t (Nat.le_refl _) h1 y hy hyl))
      · rintro rfl f2 h2
        exact main f2 (t + 6) false (by simp) rfl (by omega) (fun y hy hyl => (h2 y (by omega)).trans (k1 _ f1 t (Nat.le_refl _) h1 y hy hyl))
    · have hx' : C.fx = false := by simpa using hx
      rw [if_neg hx]
      have := hf.flN hx'
      subst this
      refine r_cond (v := false) us (by omega) (by simp) ?_
      rintro _ f1 h1
      exact main f1 (t + 2) false (by simp) rfl (by omega) (k1 _ f1 t (Nat.le_refl _) h1)
  | nstr =>
    simp only [readI]
    refine seqL_cons (wp_reg ?_)
    simp
    show (if C.fx = true then _ else _ : Ir).wp P _ _ w
    have us : upd f l (zeroV .nstr) 2 = .bool false := by rw [upd_apply, if_neg (by omega)]; exact hf.us
    by_cases hx : C.fx = true
    · rw [if_pos hx]
      refine r_cond (v := fl) (by rw [upd_apply, if_neg (by omega)]; exact hf.flg hx) (by omega) ?_ ?_
      · rintro rfl f1 h1
        refine r_cond (v := false) (by rw [h1 2 (by omega)]; exact us) (by omega) (by simp) ?_
        rintro _ f2 h2
        exact main f2 (t + 3) true (fun _ => hx) rfl (by omega) (fun y hy hyl => (h2 y (by omega)).trans (k1 _ f1 t (Nat.le_refl _) h1 y hy hyl))
      · rintro rfl f1 h1
        refine r_cond (v := false) (by rw [h1 2 (by omega)]; exact us) (by omega) (by simp) ?_
        rintro _ f2 h2
        exact main f2 (t + 6) false (by simp) rfl (by omega) (fun y hy hyl => (h2 y (by omega)).trans (k1 _ f1 t (Nat.le_refl _) h1 y hy hyl))
    · have hx' : C.fx = false := by simpa using hx
      rw [if_neg hx]
      have := hf.flN hx'
      subst this
      refine r_cond (v := false) us (by omega) (by simp) ?_
      rintro _ f1 h1
      exact main f1 (t + 2) false (by simp) rfl (by omega) (k1 _ f1 t (Nat.le_refl _) h1)
  | bytes => exact two (zeroV .bytes) rfl rfl
  | nbytes => exact two (zeroV .nbytes) rfl rfl
  | _ => exact main f t false (by simp) (plain false rfl (by simp)) (Nat.le_refl _) (fun _ _ _ => rfl)

/-! ### Stores -/
theorem over_get {c : Array Value} {o : Nat} {vs : List Value} (h : o + vs.length ≤ c.size) (j : Nat) : (over c o vs)[j]? = if j < o then c[j]? else if j < o + vs.length then vs[j - o]? else c[j]? := by
  have hl : (c.toList.take o).length = o := by simp; omega
  simp only [over, List.getElem?_toArray, List.append_assoc]
  by_cases h1 : j < o
  · rw [if_pos h1, List.getElem?_append_left (by omega), List.getElem?_take, if_pos h1]; simp
  · rw [if_neg h1, List.getElem?_append_right (by omega), hl]
    by_cases h2 : j < o + vs.length
    · rw [if_pos h2, List.getElem?_append_left (by omega)]
    · rw [if_neg h2, List.getElem?_append_right (by omega), List.getElem?_drop, show o + vs.length + (j - o - vs.length) = j by omega]; simp
theorem over_size {c : Array Value} {o : Nat} {vs : List Value} (h : o + vs.length ≤ c.size) : (over c o vs).size = c.size := by simp [over]; omega

/-- what a store leaves: u's cells stand at o -/
structure Put (cc : Array Value) (o : Nat) (u : Value) (cc' : Array Value) : Prop where
  size : cc'.size = cc.size
  same : ∀ j, (j < o ∨ o + u.cells.size ≤ j) → cc'[j]? = cc[j]?
  new : ∀ j v, u.cells.toList[j]? = some v → cc'[o + j]? = some v
theorem put_one {cc : Array Value} {o : Nat} {u : Value} (h1 : u.oneCell' = true) (ho : o < cc.size) : Put cc o u (cc.setIfInBounds o u) := by
  have huc : u.cells = #[u] := by cases u <;> simp_all [Value.oneCell', Value.cells]
  refine ⟨by simp, fun j hj => ?_, fun j v hj => ?_⟩
  · rw [huc] at hj
    simp at hj
    rw [Array.getElem?_setIfInBounds, if_neg (by omega)]
  · rw [huc] at hj
    cases j with
    | zero => simp at hj; subst hj; simp [Array.getElem?_setIfInBounds, ho]
    | succ j => simp at hj
theorem put_over {cc : Array Value} {o : Nat} {c : Array Value} (ho : o + c.size ≤ cc.size) : Put cc o (.agg c) (over cc o c.toList) := by
  have ho' : o + c.toList.length ≤ cc.size := by simpa using ho
  refine ⟨over_size ho', fun j hj => ?_, fun j v hj => ?_⟩
  · rw [over_get ho']
    simp [Value.cells] at hj
    split
    · rfl
    · rw [if_neg (by simp; omega)]
  · have hj' : j < c.size := by have := (List.getElem?_eq_some_iff.1 hj).1; simpa [Value.cells] using this
    rw [over_get ho', if_neg (by omega), if_pos (by simp; omega), show o + j - o = j by omega]
    exact hj

/-- s.F = v -/
theorem r_store (ht : TyR P C) {T PT pv k o l t b a : Nat} {p : Prim} {u : Value} {cc : Array Value} {e : TypeId} (hpv : f pv = .pointer (some ⟨b, a, none⟩)) (hF : fldOff P T k = some o) (hk : p.kOk P (p.ty C.E) = true) (hlv : LocVal w f p l u)
    (hu : if p = .uuid then ∃ c : Array Value, u = .agg c ∧ c.size = 16 ∧ allOne c.toList = true else u.oneCell' = true) (hpt : pv < t) (hl : l < t) (hb : w.heap[b]? = some (.cells cc e (0, 0))) (ho : a + o + u.cells.size ≤ cc.size)
    (h : ∀ f' cc', Put cc (a + o) u cc' → (∀ y, y < t → f' y = f y) → Q .normal f' (w.setBlk b (.cells cc' e (0, 0)))) : (Ir.reg (storeR C T PT pv k (p.ty C.E) l t p)).wp P Q f w := by
  have e3 : ∀ n, (l = t + n) = False := by intro n; simp; omega
  have e4 : (l = t) = False := by simp; omega
  have keep : ∀ a b c d, ∀ y, y < t → upd (upd (upd (upd f t a) (t + 1) b) (t + 2) c) (t + 3) d y = f y := by
    intro a b c d y hy
    have x3 : ∀ n, (y = t + n) = False := by intro n; simp; omega
    have x4 : (y = t) = False := by simp; omega
    simp [x3, x4]
  refine wp_reg ?_
  by_cases hp : p = .uuid
  · subst hp
    simp only [if_true] at hu
    obtain ⟨c, rfl, hc16, hone⟩ := hu
    simp only [LocVal, if_true] at hlv
    obtain ⟨b', cs', e', fz', hf, hbk, hcs, h16⟩ := hlv
    cases hcs
    have hk' : kindOf P C.E.tUu = .agg 16 := (ht.uu (kOk_uu hk rfl)).kUu
    have lB := cellsFrom_row hbk
    rw [h16] at lB
    have ho' : a + o + 16 ≤ cc.size := by simpa [Value.cells, hc16] using ho
    simp [storeR, getL, hpv, hf, e3, e4, hF, Addr.add_mk, ld_agg hk', lB, Prim.ty, store_agg hk', hc16, hone, putK_blk hb]
    exact ⟨by omega, h _ _ (put_over (by omega)) (keep _ _ _ _)⟩
  · simp only [if_neg hp] at hu
    simp only [LocVal, if_neg hp] at hlv
    have hk' : kindOf P (p.ty C.E) = .scl := by simp only [Prim.kOk, if_neg hp] at hk; exact isScl_spec hk
    have huc : u.cells = #[u] := by cases u <;> simp_all [Value.oneCell', Value.cells]
    have ho' : a + o + 1 ≤ cc.size := by simpa [huc] using ho
    simp [storeR, getL, hp, hpv, hlv, e3, e4, hF, Addr.add_mk, store_scl hk', hu, put1K_blk hb]
    exact ⟨by omega, h _ _ (put_one hu (by omega)) (keep _ _ _ _)⟩

/-- the same of a type's own, one cell -/
theorem r_storeT {T PT pv k o l t b a ty : Nat} {u : Value} {cc : Array Value} {e : TypeId} (hpv : f pv = .pointer (some ⟨b, a, none⟩)) (hF : fldOff P T k = some o) (hk : isScl (kindOf P ty) = true) (hlv : f l = u) (hu : u.oneCell' = true)
    (hpt : pv < t) (hl : l < t) (hb : w.heap[b]? = some (.cells cc e (0, 0))) (ho : a + o + 1 ≤ cc.size)
    (h : ∀ f' cc', Put cc (a + o) u cc' → (∀ y, y < t → f' y = f y) → Q .normal f' (w.setBlk b (.cells cc' e (0, 0)))) : (Ir.reg (storeT C T PT pv k ty l t)).wp P Q f w := by
  have e3 : ∀ n, (l = t + n) = False := by intro n; simp; omega
  have e4 : (l = t) = False := by simp; omega
  refine wp_reg ?_
  simp [storeT, hpv, hlv, e3, e4, hF, Addr.add_mk, store_scl (isScl_spec hk), hu, put1K_blk hb]
  refine ⟨by omega, h _ _ (put_one hu (by omega)) ?_⟩
  intro y hy
  have x3 : ∀ n, (y = t + n) = False := by intro n; simp; omega
  have x4 : (y = t) = False := by simp; omega
  simp [x3, x4]

/-- a field was put -/
theorem RdTo.put {b a n lo o : Nat} {cc cc' : Array Value} {e : TypeId} {f' : Nat → Value} {l m t : Nat} {rs : RS} {u : Value} (hs : StR C R b a n w cc e rs) (hp : Put cc (a + o) u cc') (hlo : lo ≤ o) (hn : o + u.cells.size ≤ n) (hk : KeepR f f' l m t) :
    RdTo C R b a n lo w cc e f l m t rs f' (w.setBlk b (.cells cc' e (0, 0))) cc' := by
  have hE : Ext (· = b) w (w.setBlk b (.cells cc' e (0, 0))) := (Ext.refl (fun k => k = b) w).setBlk (b := b) (Or.inr rfl) _
  have hE' : Ext (CB R b) w (w.setBlk b (.cells cc' e (0, 0))) := hE.mono (fun _ _ h => .inr h)
  exact ⟨hE', ⟨setBlk_same hs.blk, by rw [hp.size]; exact hs.fit, hs.rd.ext hE (fun h => hs.rw_.ne.2.2 h) (fun h => hs.rw_.ne.2.1 h.symm), hs.rw_.ext hE'⟩, hp.size, fun j hj => hp.same j (by omega), hk⟩
theorem FldAt.put {b a n o : Nat} {cc cc' : Array Value} {e : TypeId} {rs : RS} {p : Prim} {u : Value} {x : p.T} (hs : StR C R b a n w cc e rs) (hp : Put cc (a + o) u cc') (hn : o + u.cells.size ≤ n) (hr : p.rep1 w (RK R) u x) : FldAt (w.setBlk b (.cells cc' e (0, 0))) R (segL cc' a n) o p x := by
  have hE : Ext (· = b) w (w.setBlk b (.cells cc' e (0, 0))) := (Ext.refl (fun k => k = b) w).setBlk (b := b) (Or.inr rfl) _
  refine ⟨u, fun j v hj => ?_, Prim.rep1_ext hE (fun k hk1 hk2 hk3 => hs.rw_.keepK k hk1 hk2 (.inr hk3)) hr⟩
  have hj' : j < u.cells.size := by have := (List.getElem?_eq_some_iff.1 hj).1; simpa using this
  rw [segL_get (by omega), ← Nat.add_assoc]
  exact hp.new j v hj
end
end Go.Kg

set_option linter.unusedSimpArgs false
set_option linter.unusedVariables false
set_option linter.unusedSectionVars false
namespace Go.Kg
open Go

/-- what stands in a new element -/
def sliZ (P : Program) (sT : TypeId) : Option (Array Value) := match P.underlying sT with
  | some (.slice e) => match P.info? e with
    | some i => if i.bytes ≤ 131072 ∧ 0 < i.size then match i.zero with
      | some z => if z.cells.size = i.size then some z.cells else none
      | none => none
      else none
    | none => none
  | _ => none
def sliOk (P : Program) (sT sz : Nat) : Bool := sliSz P sT == some sz && match sliZ P sT with
  | some z => z.size == sz
  | none => false
def elemOk (P : Program) (C : Cfg) (sT : Nat) (e : Sch) : Bool := match sliZ P sT with
  | some z => e.chkD (setD 0 (e.dst C) z).toList
  | none => false

/-- a list may be null at no version, or at each -/
def nulZ : Option Nat → Bool
  | none => true
  | some m => m == 0

def Sch.tyR (P : Program) (C : CfgR) : Nat → Nat → Nat → Sch → Bool
  | _, _, _, .fin => true
  | T, n, lo, .tags k o => C.fx && fldOff P T k == some o && decide (lo ≤ o) && decide (o + 1 ≤ n)
  | T, n, lo, .prim _ k o p en _ rest => fldOff P T k == some o && p.kOk P (p.ty C.E) && (en == 0 || (p == .i8 && isScl (kindOf P en))) && decide (lo ≤ o) && decide (o + p.sz ≤ n) && rest.tyR P C T n (o + p.sz)
  | T, n, lo, .arrP _ k o sT nul p rest => nulZ nul && fldOff P T k == some o && isScl (kindOf P sT) && sliOk P sT p.sz && p.kOk P (p.ty C.E) && decide (lo ≤ o) && decide (o + 1 ≤ n) && rest.tyR P C T n (o + 1)
  | T, n, lo, .arrS _ k o sT nul T' _ sz _ e rest => nulZ nul && fldOff P T k == some o && isScl (kindOf P sT) && sliOk P sT sz && elemOk P C.toCfg sT e && defOk P T' sz (e.dst C.toCfg) && e.tyR P C T' sz 0 && decide (lo ≤ o) && decide (o + 1 ≤ n) && rest.tyR P C T n (o + 1)

def DefRC (P : Program) (C : Cfg) (sz df : Nat) (e : Sch) : Prop := ∀ w (b a : Nat) c et, w.heap[b]? = some (.cells c et (0, 0)) → a + sz ≤ c.size → Ret P df #[.pointer (some ⟨b, a, none⟩)] w fun _ w' => w' = w.setBlk b (.cells (setD a (e.dst C) c) et (0, 0))
def Sch.NeedR (P : Program) (C : CfgR) : Sch → Prop
  | .fin => True
  | .tags _ _ => TagsRC P C
  | .prim _ _ _ p _ _ rest => PrimR P C p ∧ rest.NeedR P C
  | .arrP _ _ _ _ _ p rest => PrimR P C p ∧ LenRC P C ∧ EndC P C ∧ rest.NeedR P C
  | .arrS _ _ _ _ _ _ _ sz df e rest => LenRC P C ∧ EndC P C ∧ DefRC P C.toCfg sz df e ∧ e.NeedR P C ∧ rest.NeedR P C

theorem prim_chkD_congr {cs cs' : List Value} {o : Nat} {p : Prim} {d : Int} (h : ∀ j, o ≤ j → j < o + p.sz → cs'[j]? = cs[j]?) (hc : p.chkD cs o d = true) : p.chkD cs' o d = true := by
  cases p with
  | uuid =>
    have : ∀ n, n ≤ 16 → zeros16 cs o n = true → zeros16 cs' o n = true := by
      intro n
      induction n with
      | zero => intro _ _; rfl
      | succ n ih =>
        intro hn hz
        simp only [zeros16, Bool.and_eq_true] at hz ⊢
        rw [h (o + n) (by omega) (by simp [Prim.sz]; omega)]
        exact ⟨hz.1, ih (by omega) hz.2⟩
    exact this 16 (Nat.le_refl _) hc
  | _ =>
    have h0 := h o (Nat.le_refl _) (by simp [Prim.sz])
    simp only [Prim.chkD] at hc ⊢
    rw [h0]; exact hc

theorem chkD_congr {P : Program} {C : CfgR} {cs cs' : List Value} : ∀ (S : Sch) {T n lo : Nat}, S.tyR P C T n lo = true → (∀ j, lo ≤ j → j < n → cs'[j]? = cs[j]?) → S.chkD cs = true → S.chkD cs' = true := by
  intro S
  induction S with
  | fin => intros; rfl
  | tags k o =>
    intro T n lo ht h hc
    simp only [Sch.tyR, Bool.and_eq_true, decide_eq_true_eq] at ht
    simp only [Sch.chkD] at hc ⊢
    rw [h o (by omega) (by omega)]; exact hc
  | prim g k o p en d rest ih =>
    intro T n lo ht h hc
    simp only [Sch.tyR, Bool.and_eq_true, decide_eq_true_eq] at ht
    simp only [Sch.chkD, Bool.and_eq_true] at hc ⊢
    exact ⟨prim_chkD_congr (fun j h1 h2 => h j (by omega) (by omega)) hc.1, ih ht.2 (fun j h1 h2 => h j (by omega) h2) hc.2⟩
  | arrP g k o sT nul p rest ih =>
    intro T n lo ht h hc
    simp only [Sch.tyR, Bool.and_eq_true, decide_eq_true_eq] at ht
    simp only [Sch.chkD, Bool.and_eq_true] at hc ⊢
    rw [h o (by omega) (by omega)]
    exact ⟨hc.1, ih ht.2 (fun j h1 h2 => h j (by omega) h2) hc.2⟩
  | arrS g k o sT nul T' PT sz df e rest ihe ih =>
    intro T n lo ht h hc
    simp only [Sch.tyR, Bool.and_eq_true, decide_eq_true_eq] at ht
    simp only [Sch.chkD, Bool.and_eq_true] at hc ⊢
    rw [h o (by omega) (by omega)]
    exact ⟨hc.1, ih ht.2 (fun j h1 h2 => h j (by omega) h2) hc.2⟩

section
variable {P : Program} {C : CfgR}

def SoundR (P : Program) (C : CfgR) (S : Sch) : Prop := ∀ (T PT pv : Nat) (c : Ct) (Q : Post) (f : Nat → Value) (w : World) (b a n lo : Nat) (cc : Array Value) (e : TypeId) (ver : Int) (fl : Bool) (R : Rdr) (rs : RS),
  S.tyR P C T n lo = true → S.NeedR P C → FrR C R f pv b a ver fl c.l → (S.genR C T PT pv c).2.l ≤ c.t → StR C R b a n w cc e rs → S.chkD (segL cc a n) = true →
  (S.rd ver fl rs = none → ∀ f' w', f' 6 = R.ev → Ext (CB R b) w w' → Q .ret f' w') →
  (∀ x rs', S.rd ver fl rs = some (x, rs') → ∀ f' w' cc', RdTo C R b a n lo w cc e f c.l (S.genR C T PT pv c).2.l c.t rs' f' w' cc' → S.Rep w' (RK R) (segL cc' a n) x → Q .normal f' w') →
  (seqL (S.genR C T PT pv c).1).wp P Q f w

theorem genR_mono : ∀ (S : Sch) (T PT pv : Nat) (c : Ct), c.l ≤ (S.genR C T PT pv c).2.l ∧ c.t ≤ (S.genR C T PT pv c).2.t := by
  intro S
  induction S with
  | fin => intro T PT pv c; exact ⟨Nat.le_refl _, Nat.le_refl _⟩
  | tags k o => intro T PT pv c; exact ⟨Nat.le_refl _, by simp [Sch.genR]⟩
  | prim g k o p en d rest ih =>
    intro T PT pv c
    simp only [Sch.genR]
    split
    · have := ih T PT pv ⟨c.l + 1, c.t + gdN g + readN C p + 4, c.k⟩
      constructor
      · exact Nat.le_trans (by simp) this.1
      · exact Nat.le_trans (by simp; omega) this.2
    · have := ih T PT pv ⟨c.l + 3, c.t + gdN g + 7, c.k⟩
      constructor
      · exact Nat.le_trans (by simp) this.1
      · exact Nat.le_trans (by simp; omega) this.2
  | arrP g k o sT nul p rest ih =>
    intro T PT pv c
    simp only [Sch.genR]
    have := ih T PT pv ⟨c.l + 5, c.t + gdN g + headN C nul + 5 + readN C p + 4 + 5, c.k + 2⟩
    constructor
    · exact Nat.le_trans (by simp) this.1
    · exact Nat.le_trans (by simp; omega) this.2
  | arrS g k o sT nul T' PT' sz df e rest ihe ih =>
    intro T PT pv c
    simp only [Sch.genR]
    have h1 := ihe T' PT' (c.l + 5) ⟨c.l + 6, c.t + gdN g + headN C nul + 11, c.k + 2⟩
    generalize e.genR C T' PT' (c.l + 5) ⟨c.l + 6, c.t + gdN g + headN C nul + 11, c.k + 2⟩ = z at *
    obtain ⟨eb, c1⟩ := z
    have := ih T PT pv ⟨c1.l, c1.t + 5, c1.k⟩
    simp only at h1 this ⊢
    omega

theorem RdTo.refl {R : Rdr} {b a n lo : Nat} {w : World} {cc : Array Value} {e : TypeId} {f f' : Nat → Value} {l m t : Nat} {rs : RS} (h : StR C R b a n w cc e rs) (hk : KeepR f f' l m t) : RdTo C R b a n lo w cc e f l m t rs f' w cc :=
  ⟨Ext.refl _ _, h, rfl, fun _ _ => rfl, hk⟩
/-- only the reader has turned -/
theorem RdTo.read {R : Rdr} {b a n lo : Nat} {w w' : World} {cc : Array Value} {e : TypeId} {f f' : Nat → Value} {l m t : Nat} {rs rs' : RS} (h : StR C R b a n w cc e rs) (he : Ext (· = R.pb) w w') (hr : RdAt C.E.tRd w' R.pb R.D rs') (hk : KeepR f f' l m t) : RdTo C R b a n lo w cc e f l m t rs' f' w' cc :=
  ⟨he.mono (fun _ _ h => .inl h), h.ext1 he hr, rfl, fun _ _ => rfl, hk⟩

theorem over_one {cc : Array Value} {o : Nat} {v : Value} (h : o < cc.size) : over cc o [v] = cc.setIfInBounds o v := by
  apply Array.ext_getElem?
  intro j
  simp only [over, List.length_singleton, List.getElem?_toArray, List.append_assoc]
  rw [Array.getElem?_setIfInBounds]
  by_cases h1 : j < o
  · rw [List.getElem?_append_left (by simp; omega), if_neg (by omega), List.getElem?_take, if_pos h1]; simp
  · rw [List.getElem?_append_right (by simp; omega)]
    have hl : (cc.toList.take o).length = o := by simp; omega
    rw [hl]
    by_cases h2 : j = o
    · subst h2; simp [h]
    · rw [if_neg (by omega), List.getElem?_append_right (by simp; omega)]
      simp only [List.length_singleton, List.getElem?_drop, Array.getElem?_toList]
      congr 1; omega

theorem soundR_fin : SoundR P C .fin := by
  intro T PT pv c Q f w b a n lo cc e ver fl R rs hty hN hf hc hs hd h0 h1
  exact h1 () rs rfl f w cc (RdTo.refl hs (KeepR.refl _ _ _ _)) trivial

theorem soundR_tags (ht : TyR P C) (k o : Nat) : SoundR P C (.tags k o) := by
  intro T PT pv c Q f w b a n lo cc e ver fl R rs hty hN hf hc hs hd h0 h1
  simp only [Sch.tyR, Bool.and_eq_true, beq_iff_eq, decide_eq_true_eq] at hty
  obtain ⟨⟨⟨hx, hF⟩, hlo⟩, hn⟩ := hty
  have hlt : c.l ≤ c.t := hc
  have hn10 := hf.nN
  have hpt := hf.ptrN
  have hnil := isNilMap_spec hd
  refine seqL_one ?_
  refine r_cond (hf.flg hx) (by omega) ?_ ?_
  · rintro rfl f1 hk1
    refine wp_reg ?_
    have p1 : f1 pv = .pointer (some ⟨b, a, none⟩) := (hk1 pv (by omega)).trans hf.ptr
    have p7 : f1 7 = .pointer (some ⟨R.pb, 0, none⟩) := (hk1 7 (by omega)).trans hf.rd
    have z7 : ∀ n, (7 = c.t + n) = False := by intro n; simp; omega
    have zp : ∀ n, (pv = c.t + n) = False := by intro n; simp; omega
    simp [p1, p7, z7, zp]
    refine (hN w R.pb R.D rs hs.rw_.ne.1 (Nat.lt_of_lt_of_le hs.rw_.lt.2.2.1 hs.rw_.lt.2.2.2) hs.rd).mono ?_
    rintro _ w1 ⟨⟨v, rfl, hv⟩, he1, hr1⟩
    have hs1 := hs.ext1 he1 hr1
    have hv1 : v.oneCell' = true := by
      rcases hv with ⟨rfl, _⟩ | ⟨_, _, _, rfl, _⟩ <;> rfl
    have hK : ∀ k, k = R.D ∨ w.heap.size ≤ k → RK R k := by
      rintro k (h | h)
      · exact .inl h
      · exact .inr (Nat.le_trans hs.rw_.lt.2.2.2 h)
    have huc : v.cells = #[v] := by cases v <;> simp_all [Value.oneCell', Value.cells]
    have hfit := hs1.fit
    simp [hF, Addr.add_mk, store_agg ht.kTags, allOne, hv1, putK_blk hs1.blk, over_one (show a + o < cc.size by omega)]
    refine ⟨by omega, ?_⟩
    have hput := put_one (cc := cc) (o := a + o) hv1 (by omega)
    refine h1 (rdTags rs).1 (rdTags rs).2 rfl _ _ _ ((RdTo.read hs he1 hr1 (KeepR.refl _ _ _ _)).trans (RdTo.put hs1 hput hlo (by rw [huc]; exact hn) (l := c.l) (m := c.l) (t := c.t) ?_) (Nat.le_refl _) (Nat.le_refl _) (Nat.le_refl _) (Nat.le_refl _)) ?_
    · intro y hy1 hy
      have x3 : ∀ n, (y = c.t + n) = False := by intro n; simp; omega
      simp [x3]
      exact hk1 y (by omega)
    · refine ⟨v, ?_, ?_⟩
      · rw [segL_get (by omega)]
        simp [Array.getElem?_setIfInBounds]; omega
      · have hE : Ext (fun k => k = b) w1 (w1.setBlk b (.cells (cc.setIfInBounds (a + o) v) e (0, 0))) := (Ext.refl (fun k => k = b) w1).setBlk (b := b) (Or.inr rfl) _
        exact TagsAt.ext hE (fun k hk1 hk2 hk3 => hs1.rw_.keepK k hk1 hk2 (.inr hk3)) (TagsAt.mono hK hv)
  · rintro rfl f1 hk1
    refine h1 [] rs rfl f1 w cc (RdTo.refl hs (fun y _ hy => hk1 y (by omega))) ⟨_, hnil, .inl ⟨rfl, rfl⟩⟩

/-- var t E; {v := b.Int8(); t = E(v)}; v := t; s.F = v -/
theorem r_enum (ht : TyR P C) {T PT pv k o l t b a n en : Nat} {R : Rdr} {Q : Post} {f : Nat → Value} {w : World} {ver : Int} {fl : Bool} {cc : Array Value} {e : TypeId} {rs : RS} (hP : PrimR P C .i8) (hs : StR C R b a n w cc e rs) (hf : FrR C R f pv b a ver fl l)
    (hF : fldOff P T k = some o) (hk : isScl (kindOf P en) = true) (hl : l + 3 ≤ t) (hn : o + 1 ≤ n)
    (h : ∀ f' w2 u cc', Prim.i8.rep1 w2 (RK R) u (Prim.i8.rd fl rs).1 → Ext (· = R.pb) w w2 → RdAt C.E.tRd w2 R.pb R.D (Prim.i8.rd fl rs).2 → Put cc (a + o) u cc' → (∀ y, y < t → (y < l ∨ l + 3 ≤ y) → f' y = f y) → Q .normal f' (w2.setBlk b (.cells cc' e (0, 0)))) :
    (seqL [.reg [⟨none, some l, .assign (.const (.int .i8 0)), en⟩], seqL [callR C .i8 (Prim.i8.fR C.E false) (l + 1) t, .reg [⟨none, some (t + 1), .move (.tmp (l + 1)), Prim.i8.ty C.E⟩, ⟨none, some l, .assign (.tmp (t + 1)), en⟩]],
        .reg [⟨none, some (t + 2), .move (.tmp l), en⟩, ⟨none, some (l + 2), .assign (.tmp (t + 2)), en⟩], .reg (storeT C T PT pv k en (l + 2) (t + 3))]).wp P Q f w := by
  have hn10 := hf.nN
  have hpt := hf.ptrN
  have hfit := hs.fit
  refine seqL_cons ?_
  refine wp_reg ?_
  simp
  generalize hfa : upd f l (.int .i8 0) = fa
  have ka : ∀ y, y ≠ l → fa y = f y := fun y hy => by subst hfa; rw [upd_apply, if_neg hy]
  show (seqL _).wp P _ fa w
  refine seqL_cons ?_
  refine seqL_cons ?_
  have hcall := hP false (by simp) w R.pb R.D rs hs.rw_.ne.1 (Nat.lt_of_lt_of_le hs.rw_.lt.2.2.1 hs.rw_.lt.2.2.2) hs.rd
  refine r_call ht (fun h => by cases h) (x := (Prim.i8.rd fl rs).1) (rs' := (Prim.i8.rd fl rs).2) hs ((ka 7 (by omega)).trans hf.rd) (by omega) (by omega) hcall ?_
  intro f2 w2 u hu hrep he2 hr2 hk2
  have hs2 := hs.ext1 he2 hr2
  have hul : f2 (l + 1) = u := by simpa [LocVal] using hu
  have hu1 : u.oneCell' = true := by have := rep1_one hrep; simpa using this
  show (Ir.reg _).wp P _ f2 w2
  refine wp_reg ?_
  simp [hul]
  show (seqL _).wp P _ _ w2
  refine seqL_cons ?_
  refine wp_reg ?_
  have z1 : ∀ n, (l = t + n) = False := by intro n; simp; omega
  simp [z1]
  show (Ir.reg _).wp P _ _ w2
  refine r_storeT (u := u) (o := o) (b := b) (a := a) (cc := cc) (e := e) ?_ hF hk ?_ hu1 (by omega) (by omega) hs2.blk (by omega) ?_
  · have x3 : ∀ n, (pv = t + n) = False := by intro n; simp; omega
    have x4 : ∀ n, (pv = l + n) = False := by intro n; simp; omega
    have x5 : (pv = l) = False := by simp; omega
    simp [x3, x4, x5]
    rw [hk2 pv (by omega) (by omega), ka pv (by omega)]
    exact hf.ptr
  · simp
  · intro f3 cc3 hput hk3
    refine h f3 w2 u cc3 hrep he2 hr2 hput ?_
    intro y hy hy2
    have x3 : ∀ n, (y = t + n) = False := by intro n; simp; omega
    have x4 : (y = l + 2) = False := by simp; omega
    have x5 : (y = l) = False := by simp; omega
    rw [hk3 y (by omega)]
    simp [x3, x4, x5]
    rw [hk2 y (by omega) (by omega), ka y (by omega)]

theorem soundR_prim (ht : TyR P C) (g : Gd) (k o : Nat) (p : Prim) (en : Nat) (d : Int) (rest : Sch) (ih : SoundR P C rest) : SoundR P C (.prim g k o p en d rest) := by
  intro T PT pv c Q f w b a n lo cc e ver fl R rs hty hN hf hc hs hd h0 h1
  simp only [Sch.tyR, Bool.and_eq_true, beq_iff_eq, decide_eq_true_eq] at hty
  obtain ⟨⟨⟨⟨⟨hF, hk⟩, hen⟩, hlo⟩, hn⟩, htr⟩ := hty
  obtain ⟨hNp, hNr⟩ := hN
  simp only [Sch.chkD, Bool.and_eq_true] at hd
  have hn10 := hf.nN
  have hpt := hf.ptrN
  have hfit := hs.fit
  -- what comes behind
  have behind : ∀ (c' : Ct) (f1 : Nat → Value) (w1 : World) (cc1 : Array Value) (rs1 : RS) (x : p.T), c.l ≤ c'.l → c.t ≤ c'.t → (rest.genR C T PT pv c').2.l ≤ c'.t →
      (Sch.rd ver fl (.prim g k o p en d rest) rs = (rest.rd ver fl rs1).map fun y => ((x, y.1), y.2)) →
      RdTo C R b a n lo w cc e f c.l c'.l c.t rs1 f1 w1 cc1 → (∀ j, (j < a + lo ∨ a + o + p.sz ≤ j) → cc1[j]? = cc[j]?) → FldAt w1 R (segL cc1 a n) o p x →
      (∀ x rs', Sch.rd ver fl (.prim g k o p en d rest) rs = some (x, rs') → ∀ f' w' cc', RdTo C R b a n lo w cc e f c.l (rest.genR C T PT pv c').2.l c.t rs' f' w' cc' → Sch.Rep w' (RK R) (.prim g k o p en d rest) (segL cc' a n) x → Q .normal f' w') →
      (seqL (rest.genR C T PT pv c').1).wp P Q f1 w1 := by
    intro c' f1 w1 cc1 rs1 x hl htt hc' hrd hto hsame hfld h1
    have hd1 : rest.chkD (segL cc1 a n) = true := by
      refine chkD_congr rest htr (fun j hj1 hj2 => ?_) hd.2
      rw [segL_get hj2, segL_get hj2]
      exact hsame _ (by omega)
    refine ih T PT pv c' Q f1 w1 b a n (o + p.sz) cc1 e ver fl R rs1 htr hNr ((hf.keep hto.keep.keeps (Nat.le_refl _)).up hl) hc' hto.st hd1 ?_ ?_
    · intro hnone f2 w2 h6 he2
      exact h0 (by rw [hrd, hnone]; rfl) f2 w2 h6 (hto.ext.trans he2)
    · intro y rs2 hy f2 w2 cc2 hto2 hrep2
      refine h1 (x, y) rs2 (by rw [hrd, hy]; rfl) f2 w2 cc2 (hto.trans hto2 (by omega) hl (genR_mono (C := C) rest T PT pv c').1 htt) ⟨?_, hrep2⟩
      exact hfld.move hto2.ext hto.st.rw_.keepK (fun j hj1 hj2 => by rw [segL_get (by omega), segL_get (by omega)]; exact hto2.same _ (.inl (by omega)))
  have hK : ∀ k, k < w.heap.size → RK R k → ¬ CB R b k := hs.rw_.keepK
  by_cases he : en = 0
  · subst he
    simp only [Sch.genR, if_true] at hc h1 ⊢
    have hm := (genR_mono (C := C) rest T PT pv ⟨c.l + 1, c.t + gdN g + readN C p + 4, c.k⟩).1
    simp only at hm
    refine seqL_cons ?_
    refine w_guard ht.c (show f 8 = _ from hf.ver) (show 8 < c.t by omega) (by omega) ?_ ?_
    · intro hon f1 hk1 h11
      have hf1 := hf.keep hk1 (by omega)
      refine seqL_append ?_
      refine r_read ht (kOk_uu hk) hNp hs hf1 (by omega) ?_
      intro f2 w2 u hu hrep he2 hr2 hk2
      have hs2 := hs.ext1 he2 hr2
      have hsz := rep1_sz hrep
      refine seqL_one ?_
      refine r_store ht (o := o) ((hk2 pv (by omega) (by omega)).trans hf1.ptr) hF hk hu (rep1_one hrep) (by omega) (by omega) hs2.blk (by rw [hsz]; omega) ?_
      intro f3 cc3 hput hk3
      refine behind ⟨c.l + 1, c.t + gdN g + readN C p + 4, c.k⟩ f3 _ cc3 (p.rd fl rs).2 (p.rd fl rs).1 (by simp) (by simp; omega) (by simp only; omega) ?_ ?_ ?_ ?_ h1
      · simp only [Sch.rd, if_pos hon]; rfl
      · refine (RdTo.read (lo := lo) hs he2 hr2 (KeepR.refl _ c.l (c.l + 1) c.t)).trans (RdTo.put hs2 hput hlo (by rw [hsz]; exact hn) (l := c.l) (m := c.l + 1) (t := c.t) ?_) (Nat.le_refl _) (Nat.le_refl _) (Nat.le_refl _) (Nat.le_refl _)
        intro y hy1 hy
        rw [hk3 y (by omega), hk2 y (by omega) (by omega)]
        exact hk1 y (by omega) hy1
      · intro j hj
        exact hput.same j (by rw [hsz]; omega)
      · exact FldAt.put hs2 hput (by rw [hsz]; exact hn) hrep
    · intro hoff f1 hk1 h11
      refine behind ⟨c.l + 1, c.t + gdN g + readN C p + 4, c.k⟩ f1 w cc rs (p.dfl d) (by simp) (by simp; omega) (by simp only; omega) ?_ (RdTo.refl hs (KeepR.of hk1 (by omega))) (fun _ _ => rfl) (Prim.repD p d hd.1) h1
      simp only [Sch.rd, hoff, Bool.false_eq_true, if_false]; rfl
  · have hen' : p = .i8 ∧ isScl (kindOf P en) = true := by
      simp only [Bool.or_eq_true, beq_iff_eq, Bool.and_eq_true] at hen
      rcases hen with h | h
      · exact absurd h he
      · exact h
    obtain ⟨rfl, hken⟩ := hen'
    simp only [Sch.genR, if_neg he] at hc h1 ⊢
    have hm := (genR_mono (C := C) rest T PT pv ⟨c.l + 3, c.t + gdN g + 7, c.k⟩).1
    simp only at hm
    refine seqL_cons ?_
    refine w_guard ht.c (show f 8 = _ from hf.ver) (show 8 < c.t by omega) (by omega) ?_ ?_
    · intro hon f1 hk1 h11
      have hf1 := hf.keep hk1 (by omega)
      refine r_enum ht (o := o) hNp hs hf1 hF hken (by omega) hn ?_
      intro f3 w2 u cc3 hrep he2 hr2 hput hk3
      have hs2 := hs.ext1 he2 hr2
      have hsz := rep1_sz hrep
      refine behind ⟨c.l + 3, c.t + gdN g + 7, c.k⟩ f3 _ cc3 (Prim.i8.rd fl rs).2 (Prim.i8.rd fl rs).1 (by simp) (by simp; omega) (by simp only; omega) ?_ ?_ ?_ ?_ h1
      · simp only [Sch.rd, if_pos hon]; rfl
      · refine (RdTo.read (lo := lo) hs he2 hr2 (KeepR.refl _ c.l (c.l + 3) c.t)).trans (RdTo.put hs2 hput hlo (by rw [hsz]; exact hn) (l := c.l) (m := c.l + 3) (t := c.t) ?_) (Nat.le_refl _) (Nat.le_refl _) (Nat.le_refl _) (Nat.le_refl _)
        intro y hy1 hy
        rw [hk3 y (by omega) (by omega)]
        exact hk1 y (by omega) hy1
      · intro j hj
        exact hput.same j (by rw [hsz]; omega)
      · exact FldAt.put hs2 hput (by rw [hsz]; exact hn) hrep
    · intro hoff f1 hk1 h11
      refine behind ⟨c.l + 3, c.t + gdN g + 7, c.k⟩ f1 w cc rs (Prim.i8.dfl d) (by simp) (by simp; omega) (by simp only; omega) ?_ (RdTo.refl hs (KeepR.of hk1 (by omega))) (fun _ _ => rfl) (Prim.repD .i8 d hd.1) h1
      simp only [Sch.rd, hoff, Bool.false_eq_true, if_false]; rfl
end
end Go.Kg

set_option linter.unusedSimpArgs false
set_option linter.unusedVariables false
set_option linter.unusedSectionVars false
namespace Go.Kg
open Go

/-! ## Lists that are read -/
theorem intKind_und {P : Program} {T : Nat} {k : IntKind} (h : intKind? P T = some k) : P.underlying T = some (.int k) := by
  unfold intKind? at h
  split at h
  · rename_i k' hu; cases h; exact hu
  · cases h
theorem sliZ_spec {P : Program} {sT : Nat} {z : Array Value} (h : sliZ P sT = some z) : ∃ e i v, P.underlying sT = some (.slice e) ∧ P.info? e = some i ∧ i.bytes ≤ 131072 ∧ 0 < i.size ∧ i.zero = some v ∧ v.cells = z ∧ z.size = i.size := by
  unfold sliZ at h
  split at h
  · rename_i e hu
    split at h
    · rename_i i hi
      split at h
      · rename_i hb
        split at h
        · rename_i v hv
          split at h
          · rename_i hs
            cases h
            exact ⟨e, i, v, hu, hi, hb.1, hb.2, hv, rfl, hs⟩
          · cases h
        · cases h
      · cases h
    · cases h
  · cases h

theorem zeroCells_get {z : Array Value} {n i j : Nat} (hi : i < n) (hj : j < z.size) (more : Array Value) : (Builtin.zeroCells z n ++ more)[i * z.size + j]? = z[j]? := by
  have hlt : i * z.size + j < n * z.size := by
    have h1 : (i + 1) * z.size ≤ n * z.size := Nat.mul_le_mul_right _ hi
    rw [Nat.add_mul] at h1
    omega
  have hs : (Builtin.zeroCells z n).size = n * z.size := size_zeroCells z n
  rw [Array.getElem?_append_left (by omega)]
  simp only [Builtin.zeroCells, Array.getElem?_map]
  rw [Array.getElem?_range]
  simp [hlt]
  rw [Nat.mod_eq_of_lt hj]
  simp [hj, getElem!_pos]

/-- append(nil, make([]T, n)...) -/
theorem st_appz {P : Program} {f : Nat → Value} {w : World} {sT tn ty : Nat} {z : Array Value} {kn : IntKind} {x y : Operand} {K : Value → World → Prop} {lv : Int} (hz : sliZ P sT = some z) (htn : intKind? P tn = some kn) (hx : evF f x = .slice none 0 0) (hy : evF f y = .int .i32 lv) (h0 : 0 < lv) (h1 : lv < 2147483648)
    (h : ∀ cap more e, lv.toNat ≤ cap → K (.slice (some ⟨w.heap.size, 0, none⟩) lv.toNat cap) (w.drew.alloc (.cells (Builtin.zeroCells z lv.toNat ++ more) e))) :
    stepF P f (.call { callee := .builtin .append, args := #[x, y], argTypes := #[sT, tn] }) ty w K := by
  obtain ⟨e, i, v, hu, hi, hb, hs, hv, rfl, hzs⟩ := sliZ_spec hz
  have hn : ((lv.toNat : Nat) : Int) = lv := by omega
  have h48 : lv.toNat * i.bytes ≤ 281474976710656 := by
    have : lv.toNat * i.bytes ≤ 2147483648 * 131072 := Nat.mul_le_mul (by omega) hb
    omega
  have hr := Lib.run_append_nil_zeros (P := P) w sT tn ty e i v .i32 kn hu (intKind_und htn) hi hv lv.toNat (by omega) hs (by omega) h48
  rw [hn] at hr
  rw [stepF_ok (v := .slice (some ⟨w.heap.size, 0, none⟩) lv.toNat (grownCap w lv.toNat 0 e)) (w' := w.drew.alloc (.cells (Builtin.zeroCells v.cells lv.toNat ++ Builtin.zeroCells v.cells (grownCap w lv.toNat 0 e - lv.toNat)) e))]
  · exact h _ _ _ (grownCap_ge w lv.toNat 0 e)
  · simp only [runF, execOp, resolve, invoke, builtin, Sem.run_bind, Sem.run_pure, Result.andThen_ok, List.map_toArray, List.map_cons, List.map_nil, hx, hy, hr]

section
variable {P : Program} {C : CfgR} {R : Rdr}

/-- What a list's head leaves: the row of a list that is not empty. -/
structure Row (z : Array Value) (w w' : World) (N : Nat) (av : Value) (ab : Nat) (cur : Array Value) (et : TypeId) : Prop where
  av : ∃ cap, av = .slice (some ⟨ab, 0, none⟩) N cap ∧ N ≤ cap
  new : w.heap.size ≤ ab
  blk : w'.heap[ab]? = some (.cells cur et (0, 0))
  fit : N * z.size ≤ cur.size
  zero : ∀ i, i < N → segL cur (i * z.size) z.size = z.toList
/-- what a list is that has nothing in it -/
def NulPost (nul : Option Nat) (lv : Int) (w w' : World) (av : Value) : Prop := if nul.isSome = true ∧ lv = 0 then ∃ ab, av = .slice (some ⟨ab, 0, none⟩) 0 0 ∧ w.heap.size ≤ ab ∧ ab < w'.heap.size else av = .slice none 0 0
def HeadPost (nul : Option Nat) (z : Array Value) (lv : Int) (w w' : World) (av : Value) : Prop := if 0 < lv then ∃ ab cur et, Row z w w' lv.toNat av ab cur et else NulPost nul lv w w' av

theorem lenRd_lt (fl : Bool) (rs : RS) : (lenRd fl rs).1 < 2147483648 ∧ -2147483648 ≤ (lenRd fl rs).1 := by
  have cap : ∀ n rs, n < 2147483648 ∧ -2147483648 ≤ n → (capLen n rs).1 < 2147483648 ∧ -2147483648 ≤ (capLen n rs).1 := by
    intro n rs h; unfold capLen; split
    · simp
    · exact h
  cases fl
  · exact cap _ _ (by simp [i32, IntKind.wrap, IntKind.signed, IntKind.bits]; omega)
  · exact cap _ _ (by simp [i32, IntKind.wrap, IntKind.signed, IntKind.bits]; omega)

theorem cellsAt_seg {w : World} {b a n : Nat} {cc : Array Value} {e : TypeId} {fz : Nat × Nat} (h : w.heap[b]? = some (.cells cc e fz)) : CellsAt w b a (segL cc a n) := by
  intro j u hj
  have hj' : j < n := by
    rcases Nat.lt_or_ge j n with h1 | h1
    · exact h1
    · rw [segL_none h1] at hj; cases hj
  rw [cell_of_blk h]
  rwa [segL_get hj'] at hj

variable {Q : Post} {f : Nat → Value} {w : World}

/-- l = b.ArrayLen() -/
theorem r_len {l t b a n : Nat} {fl : Bool} {cc : Array Value} {e : TypeId} {rs : RS} (hN : LenRC P C) (hs : StR C R b a n w cc e rs) (hff : C.fx = true → f 9 = .bool fl) (hfn : C.fx = false → fl = false) (h7 : f 7 = .pointer (some ⟨R.pb, 0, none⟩)) (hl : l < t) (hl9 : 9 < l)
    (h : ∀ f' w', f' l = .int .i32 (lenRd fl rs).1 → Ext (· = R.pb) w w' → RdAt C.E.tRd w' R.pb R.D (lenRd fl rs).2 → (∀ y, y < t → y ≠ l → f' y = f y) → Q .normal f' w') : (lenIR C l t).wp P Q f w := by
  have main : ∀ (f1 : Nat → Value) (t1 : Nat) (fl' : Bool), (fl' = true → C.fx = true) → fl' = fl → t ≤ t1 → (∀ y, y < t → f1 y = f y) →
      (Ir.reg [⟨none, some t1, .call { callee := .value (.func (if fl' then C.E.f_pkbin_Reader_CompactArrayLen else C.E.f_pkbin_Reader_ArrayLen)), args := #[.tmp 7], argTypes := #[C.E.tRd] }, C.E.tI32⟩, ⟨none, some l, .assign (.tmp t1), C.E.tI32⟩]).wp P Q f1 w := by
    rintro f1 t1 fl' hx rfl ht1 hk
    refine wp_reg ?_
    have z7 := (hk 7 (by omega)).trans h7
    simp [z7]
    refine (hN fl' hx w R.pb R.D rs hs.rw_.ne.1 hs.rd).mono ?_
    rintro v w1 ⟨rfl, he, hr⟩
    refine h _ _ (by simp) he hr ?_
    intro y hy hyl
    have x4 : (y = t1) = False := by simp; omega
    simp [x4, hyl]
    exact hk y hy
  unfold lenIR
  by_cases hx : C.fx = true
  · simp only [if_pos hx]
    refine r_cond (hff hx) (by omega) ?_ ?_
    · rintro rfl f1 hk
      exact main f1 (t + 1) true (fun _ => hx) rfl (by omega) hk
    · rintro rfl f1 hk
      exact main f1 (t + 2) false (by simp) rfl (by omega) hk
  · have hx' : C.fx = false := by simpa using hx
    simp only [if_neg hx]
    have := hfn hx'
    subst this
    exact main f t false (by simp) rfl (Nat.le_refl _) (fun _ _ => rfl)

/-- return b.Complete(), where the reader is bad -/
theorem r_complete {t b a n : Nat} {cc : Array Value} {e : TypeId} {rs : RS} (hE : EndC P C) (hs : StR C R b a n w cc e rs) (h7 : f 7 = .pointer (some ⟨R.pb, 0, none⟩))
    (h : ∀ f', f' 6 = (if rs.bad then R.ev else .nilIface) → Q .ret f' w) : (seqL (completeI C t)).wp P Q f w := by
  refine seqL_cons ?_
  refine wp_reg ?_
  simp [h7]
  refine (hE.complete w R.pb R.D rs R.ev hs.rd (fun _ => hs.rw_.err)).mono ?_
  rintro v w1 ⟨rfl, rfl⟩
  exact h _ (by simp)
/-- if !b.Ok() {return b.Complete()} -/
theorem r_ok {t b a n : Nat} {cc : Array Value} {e : TypeId} {rs : RS} (hE : EndC P C) (hs : StR C R b a n w cc e rs) (h7 : f 7 = .pointer (some ⟨R.pb, 0, none⟩)) (ht : 7 < t)
    (h0 : rs.bad = true → ∀ f', f' 6 = R.ev → Q .ret f' w) (h1 : rs.bad = false → ∀ f', (∀ y, y < t → f' y = f y) → Q .normal f' w) : (okI C t).wp P Q f w := by
  refine wp_seqI (wp_reg ?_)
  simp [h7]
  refine (hE.ok w R.pb R.D rs hs.rd).mono ?_
  rintro v w1 ⟨rfl, rfl⟩
  simp
  cases hb : rs.bad
  · refine .inr ⟨by simp, ?_⟩
    refine h1 hb _ ?_
    intro y hy
    have x3 : ∀ n, (y = t + n) = False := by intro n; simp; omega
    have x4 : (y = t) = False := by simp; omega
    simp [x3, x4]
  · refine .inl ⟨by simp, ?_⟩
    have z7 : ∀ n, (7 = t + n) = False := by intro n; simp; omega
    have z7' : (7 = t) = False := by simp; omega
    refine r_complete hE hs (by simp [z7, z7', h7]) ?_
    intro f' h6
    exact h0 hb f' (by rw [h6, hb]; rfl)
end
end Go.Kg

set_option linter.unusedSimpArgs false
set_option linter.unusedVariables false
set_option linter.unusedSectionVars false
namespace Go.Kg
open Go

section
variable {P : Program} {C : CfgR} {R : Rdr} {Q : Post} {f : Nat → Value} {w : World}

/-- if version < 0 || l == 0 {a = []T{}} -/
def nulL (C : CfgR) (nul : Option Nat) (sT l t : Nat) : List Ir := match nul with
  | none => []
  | some m => [nulI C m sT l t]
theorem r_nul {nul : Option Nat} {sT l t : Nat} {ver lv : Int} {z : Array Value} (hnz : nulZ nul = true) (hz : sliZ P sT = some z) (hv0 : 0 ≤ ver) (h8 : f 8 = .int .i16 ver) (hl8 : 8 < l) (hl : l + 3 ≤ t) (ha : f (l + 1) = .slice none 0 0) (hlv : f (l + 2) = .int .i32 lv)
    (h : ∀ f' w' av, f' (l + 1) = av → (∀ y, y < t → y ≠ l + 1 → f' y = f y) → Ext none1 w w' → NulPost nul lv w w' av → Q .normal f' w') : (seqL (nulL C nul sT l t)).wp P Q f w := by
  cases nul with
  | none => exact h f w _ ha (fun _ _ _ => rfl) (Ext.refl _ _) (by unfold NulPost; rw [if_neg (by simp)])
  | some m =>
    have hm : m = 0 := by simpa [nulZ] using hnz
    subst hm
    obtain ⟨e, i, v, hu, hi, hb, hs, hv, rfl, hzs⟩ := sliZ_spec hz
    have hS : SliI P sT e i.size i.bytes v := ⟨hu, ⟨i, hi, hv, rfl, rfl⟩, hzs⟩
    show (nulI C 0 sT l t).wp P Q f w
    have x8 : ∀ n, (8 = t + n) = False := by intro n; simp; omega
    have x8' : (8 = t) = False := by simp; omega
    have x2 : ∀ n, (l + 2 = t + n) = False := by intro n; simp; omega
    have x2' : (l + 2 = t) = False := by simp; omega
    have x1 : ∀ n, (l + 1 = t + n) = False := by intro n; simp; omega
    have x1' : (l + 1 = t) = False := by simp; omega
    have x0 : ∀ n, (l = t + n) = False := by intro n; simp; omega
    have x0' : (l = t) = False := by simp; omega
    have nv : ¬ ver < 0 := by omega
    refine wp_seqI (wp_reg ?_)
    simp [h8, x8, x8', x2, x2', x1, x1', x0, x0', hlv, nv]
    have kk : ∀ v1 v2 v3 v4 v5 v6, ∀ y, y < t → y ≠ l + 1 → upd (upd (upd (upd (upd (upd f t v1) (t + 1) v2) (t + 2) v3) (t + 3) v4) (t + 4) v5) (t + 5) v6 y = f y := by
      intro v1 v2 v3 v4 v5 v6 y hy hy2
      have y1 : ∀ n, (y = t + n) = False := by intro n; simp; omega
      have y2 : (y = t) = False := by simp; omega
      simp [y1, y2]
    by_cases h0 : lv = 0
    · refine .inl ⟨by simp [h0], ?_⟩
      refine wp_reg ?_
      simp [st_bsl0 hS]
      refine h _ _ (.slice (some ⟨w.heap.size, 0, none⟩) 0 0) (by simp) ?_ ((Ext.refl none1 w).alloc _) ?_
      · intro y hy hy2
        have y1 : ∀ n, (y = t + n) = False := by intro n; simp; omega
        have y2 : (y = t) = False := by simp; omega
        simp [y1, y2, hy2]
      · unfold NulPost
        rw [if_pos ⟨rfl, h0⟩]
        exact ⟨_, rfl, Nat.le_refl _, lt_of_heap alloc_new⟩
    · refine .inr ⟨by simp [h0], ?_⟩
      refine h _ w (.slice none 0 0) ?_ (kk _ _ _ _ _ _) (Ext.refl _ _) ?_
      · simp [x1, x1', x0, x0', ha]
      · unfold NulPost
        rw [if_neg (by simp [h0])]

/-- the head of a list's field, ahead of the question for null, and behind it -/
def headA (C : CfgR) (T PT pv k sT l t : Nat) : List Ir :=
  [loadI C.toCfg T PT pv k sT l t .i8, .reg [⟨none, some (t + 4), .move (.tmp l), sT⟩, ⟨none, some (l + 1), .assign (.tmp (t + 4)), sT⟩], .reg [⟨none, some (l + 2), .assign (.const (.int .i32 0)), C.E.tI32⟩], lenIR C (l + 2) (t + 5)]
def headB (C : CfgR) (sT l t2 : Nat) : List Ir :=
  [okI C t2, .reg [⟨none, some (t2 + 3), .move (.tmp (l + 1)), sT⟩, ⟨none, some (t2 + 4), .slice sT (.tmp (t2 + 3)) none (some (.const (.int .i64 0))) none, sT⟩, ⟨none, some (l + 1), .assign (.tmp (t2 + 4)), sT⟩],
   .seq (.reg [⟨none, some (t2 + 5), .move (.tmp (l + 2)), C.E.tI32⟩, ⟨none, some (t2 + 6), .binOp .gtr C.E.tI32 (.tmp (t2 + 5)) (.const (.int .i32 0)) C.E.tI32, C.E.tB⟩])
    (.cond (t2 + 6) (.reg [⟨none, some (t2 + 7), .move (.tmp (l + 1)), sT⟩, ⟨none, some (t2 + 8), .move (.tmp (l + 2)), C.E.tI32⟩,
      ⟨none, some (t2 + 9), .call { callee := .builtin .append, args := #[.tmp (t2 + 7), .tmp (t2 + 8)], argTypes := #[sT, C.E.tI32] }, sT⟩, ⟨none, some (l + 1), .assign (.tmp (t2 + 9)), sT⟩]) .skip)]

/-- A list's head: the field is nil. -/
theorem r_head (ht : TyR P C) {nul : Option Nat} (hnz : nulZ nul = true) {T PT pv k o sT l t b a n : Nat} {ver : Int} {fl : Bool} {cc : Array Value} {e : TypeId} {rs : RS} {z : Array Value} {sz : Nat} (hF : fldOff P T k = some o) (hk : isScl (kindOf P sT) = true) (hsz : sliSz P sT = some sz) (hz : sliZ P sT = some z)
    (hN : LenRC P C) (hE : EndC P C) (hs : StR C R b a n w cc e rs) (hf : FrR C R f pv b a ver fl l) (hl : l + 3 ≤ t) (hon : o < n) (hnil : (segL cc a n)[o]? = some (.slice none 0 0))
    (h0 : (lenRd fl rs).2.bad = true → ∀ f' w', f' 6 = R.ev → Ext (· = R.pb) w w' → Q .ret f' w')
    (h1 : (lenRd fl rs).2.bad = false → ∀ f' w' av, f' (l + 1) = av → f' (l + 2) = .int .i32 (lenRd fl rs).1 → HeadPost nul z (lenRd fl rs).1 w w' av → Ext (· = R.pb) w w' → RdAt C.E.tRd w' R.pb R.D (lenRd fl rs).2 → (∀ y, y < t → (y < l ∨ l + 3 ≤ y) → f' y = f y) → Q .normal f' w') :
    (seqL (headR C T PT pv k sT l t nul)).wp P Q f w := by
  have hn10 := hf.nN
  have hpt := hf.ptrN
  have hnl : headR C T PT pv k sT l t nul = headA C T PT pv k sT l t ++ (nulL C nul sT l (t + 5 + lenIN C) ++ headB C sT l (t + 5 + lenIN C + nulN nul)) := by cases nul <;> rfl
  rw [hnl]
  refine seqL_append ?_
  unfold headA
  refine seqL_cons ?_
  show (loadI (Sch.genR.toR C) T PT pv k sT l t .i8).wp P _ f w
  refine w_load ht.c (fun h => by cases h) hf.ptr hF (kOk_scl hk) (cellsAt_seg hs.blk) (seg_one hnil rfl) (by simp [Value.oneCell']) (by omega) (by omega) ?_
  intro f2 w2 hv2 he2 hk2
  have hv2' : f2 l = .slice none 0 0 := loc_slice hv2
  have hs2 : StR C R b a n w2 cc e rs := hs.ext1 (he2.mono (fun _ _ h => h.elim)) (hs.rd.ext he2 (fun h => h) (fun h => h))
  -- a := v; var l int32
  show (seqL _).wp P _ f2 w2
  refine seqL_cons ?_
  refine wp_reg ?_
  have zl : (l = t + 4) = False := by simp; omega
  simp [hv2', zl]
  show (seqL _).wp P _ _ w2
  refine seqL_cons ?_
  refine wp_reg ?_
  simp
  generalize hf3 : upd (upd (upd f2 (t + 4) (.slice none 0 0)) (l + 1) (.slice none 0 0)) (l + 2) (.int .i32 0) = f3
  have k3 : ∀ y, y < t → (y < l ∨ l + 3 ≤ y) → f3 y = f y := by
    intro y hy hy2
    subst hf3
    have x1 : (y = l + 2) = False := by simp; omega
    have x2 : (y = l + 1) = False := by simp; omega
    have x3 : (y = t + 4) = False := by simp; omega
    simp [x1, x2, x3]
    exact hk2 y hy (by omega)
  have a3 : f3 (l + 1) = .slice none 0 0 := by subst hf3; simp
  show (lenIR C (l + 2) (t + 5)).wp P _ f3 w2
  refine r_len (fl := fl) hN hs2 (fun hx => (k3 9 (by omega) (by omega)).trans (hf.flg hx)) hf.flN ((k3 7 (by omega) (by omega)).trans hf.rd) (by omega) (by omega) ?_
  intro f4 w4 hl4 he4 hr4 hk4
  have hs4 := hs2.ext1 he4 hr4
  have he24 : Ext (· = R.pb) w w4 := (he2.mono (fun _ _ h => h.elim)).trans he4
  have k4 : ∀ y, y < t → (y < l ∨ l + 3 ≤ y) → f4 y = f y := fun y hy hy2 => (hk4 y (by omega) (by omega)).trans (k3 y hy hy2)
  have a4 : f4 (l + 1) = .slice none 0 0 := (hk4 _ (by omega) (by omega)).trans a3
  have hlen := lenIN C
  generalize hT0 : t + 5 + lenIN C = t1 at *
  have ht1 : t + 5 ≤ t1 := by omega
  show (seqL _).wp P _ f4 w4
  refine seqL_append ?_
  refine r_nul hnz hz hf.v0 ((k4 8 (by omega) (by omega)).trans hf.ver) (by omega) (by omega) a4 hl4 ?_
  intro f6 w6 av0 a6 hk6 he6 hp6
  have hs6 : StR C R b a n w6 cc e (lenRd fl rs).2 := hs4.ext1 (he6.mono (fun _ _ h => h.elim)) (hr4.ext he6 (fun h => h) (fun h => h))
  have hr6 := hs6.rd
  have he26 : Ext (· = R.pb) w w6 := he24.trans (he6.mono (fun _ _ h => h.elim))
  have k6 : ∀ y, y < t → (y < l ∨ l + 3 ≤ y) → f6 y = f y := fun y hy hy2 => (hk6 y (by omega) (by omega)).trans (k4 y hy hy2)
  have l6 : f6 (l + 2) = .int .i32 (lenRd fl rs).1 := (hk6 _ (by omega) (by omega)).trans hl4
  generalize hT : t1 + nulN nul = t2 at *
  have ht2 : t1 ≤ t2 := by omega
  unfold headB
  show (seqL _).wp P _ f6 w6
  refine seqL_cons ?_
  refine r_ok hE hs6 ((k6 7 (by omega) (by omega)).trans hf.rd) (by omega) ?_ ?_
  · intro hb f5 h6
    exact h0 hb f5 w6 h6 he26
  · intro hb f5 hk5
    have k5 : ∀ y, y < t → (y < l ∨ l + 3 ≤ y) → f5 y = f y := fun y hy hy2 => (hk5 y (by omega)).trans (k6 y hy hy2)
    have a5 : f5 (l + 1) = av0 := (hk5 _ (by omega)).trans a6
    have l5 : f5 (l + 2) = .int .i32 (lenRd fl rs).1 := (hk5 _ (by omega)).trans l6
    show (seqL _).wp P _ f5 w6
    refine seqL_cons ?_
    refine wp_reg ?_
    have hsl : slice? P sT av0 none (some (.int .i64 0)) none = some av0 := by
      unfold NulPost at hp6
      split at hp6
      · obtain ⟨g, rfl, _⟩ := hp6; simp [slice?, hsz, Addr.add_mk]
      · subst hp6; simp [slice?, hsz]
    simp [a5, hsl]
    show (Ir.seq _ _).wp P _ _ w6
    refine wp_seqI (wp_reg ?_)
    have z2 : ∀ n, (l + 2 = t2 + n) = False := by intro n; simp; omega
    have z1 : ∀ n, (l + 1 = t2 + n) = False := by intro n; simp; omega
    have z0 : ∀ n, (l = t2 + n) = False := by intro n; simp; omega
    simp [z0, z1, z2, l5]
    have kk : ∀ v1 v2 v3 v4 v5, ∀ y, y < t → (y < l ∨ l + 3 ≤ y) → upd (upd (upd (upd (upd f5 (t2 + 3) v1) (t2 + 4) v2) (l + 1) v3) (t2 + 5) v4) (t2 + 6) v5 y = f y := by
      intro v1 v2 v3 v4 v5 y hy hy2
      have x1 : (y = l + 1) = False := by simp; omega
      have x3 : ∀ n, (y = t2 + n) = False := by intro n; simp; omega
      simp [x1, x3]
      exact k5 y hy hy2
    by_cases hp : 0 < (lenRd fl rs).1
    · have hav0 : av0 = .slice none 0 0 := by
        unfold NulPost at hp6
        rwa [if_neg (by omega)] at hp6
      subst hav0
      refine .inl ⟨by simp [hp], ?_⟩
      show (Ir.reg _).wp P _ _ w6
      refine wp_reg ?_
      simp [z0, z1, z2, l5]
      refine st_appz hz ht.i32 (lv := (lenRd fl rs).1) (by simp) (by simp) hp (lenRd_lt fl rs).1 ?_
      intro cap more et hcap
      have hE5 : Ext none1 w6 (w6.drew.alloc (.cells (Builtin.zeroCells z (lenRd fl rs).1.toNat ++ more) et)) := ((Ext.refl none1 w6).drew).alloc _
      refine h1 hb _ _ (.slice (some ⟨w6.heap.size, 0, none⟩) (lenRd fl rs).1.toNat cap) (by simp) (by simp [z0, z2, l5]) ?_ (he26.trans (hE5.mono (fun _ _ h => h.elim))) (hr6.ext hE5 (fun h => h) (fun h => h)) ?_
      · unfold HeadPost
        rw [if_pos hp]
        refine ⟨w6.heap.size, _, et, ⟨⟨cap, rfl, hcap⟩, he26.size, alloc_new, ?_, ?_⟩⟩
        · simp [size_zeroCells]
        · intro i hi
          apply List.ext_getElem?
          intro j
          by_cases hj : j < z.size
          · rw [segL_get hj, zeroCells_get hi hj]; simp
          · rw [segL_none (by omega)]; simp; omega
      · intro y hy hy2
        have x1 : (y = l + 1) = False := by simp; omega
        have x3 : ∀ n, (y = t2 + n) = False := by intro n; simp; omega
        simp [x1, x3]
        exact k5 y hy hy2
    · refine .inr ⟨by simp; omega, ?_⟩
      refine h1 hb _ w6 av0 (by simp [z0, z1]) (by simp [z0, z2, l5]) ?_ he26 hr6 (kk _ _ _ _ _)
      unfold HeadPost
      rw [if_neg hp]
      unfold NulPost at hp6 ⊢
      split at hp6
      · rename_i hc
        rw [if_pos hc]
        obtain ⟨g, h7, h8, h9⟩ := hp6
        exact ⟨g, h7, Nat.le_trans he24.size h8, h9⟩
      · rename_i hc
        rw [if_neg hc]; exact hp6
end
end Go.Kg

set_option linter.unusedSimpArgs false
set_option linter.unusedVariables false
set_option linter.unusedSectionVars false
namespace Go.Kg
open Go

section
variable {P : Program} {C : CfgR} {R : Rdr} {Q : Post} {f : Nat → Value} {w : World}

/-- for i := int32(0); i < l; i++ -/
theorem r_for {l t k N : Nat} {body : Ir} {lv : Int} (h32 : lv < 2147483648 ∧ -2147483648 ≤ lv) (hN : N = lv.toNat) (hl : l + 4 ≤ t) (h2 : f (l + 2) = .int .i32 lv) (J : Nat → (Nat → Value) → World → Prop)
    (hJ : ∀ i f f' w, (∀ x, x < t → x ≠ l + 3 → f' x = f x) → J i f w → J i f' w) (h0 : J 0 f w)
    (hb : ∀ i, i < N → ∀ f w, J i f w → f (l + 3) = .int .i32 i → f (l + 2) = .int .i32 lv → body.wp P (fun e f' w' => (e = .normal ∧ J (i + 1) f' w' ∧ f' (l + 3) = .int .i32 i ∧ f' (l + 2) = .int .i32 lv) ∨ (e = .ret ∧ Q .ret f' w')) f w)
    (h : ∀ f' w', J N f' w' → Q .normal f' w') : (forI C l t k body).wp P Q f w := by
  have z3 : ∀ n, (l + 3 = t + n) = False := by intro n; simp; omega
  have z2 : ∀ n, (l + 2 = t + n) = False := by intro n; simp; omega
  have z1 : ∀ n, (l + 1 = t + n) = False := by intro n; simp; omega
  have z0 : ∀ n, (l = t + n) = False := by intro n; simp; omega
  have z3' : (l + 3 = t) = False := by simp; omega
  have z2' : (l + 2 = t) = False := by simp; omega
  refine wp_seqI (wp_reg ?_)
  simp
  show (Ir.loop _).wp P _ _ _
  refine ⟨fun f w => ∃ i : Nat, i ≤ N ∧ f (l + 3) = .int .i32 i ∧ f (l + 2) = .int .i32 lv ∧ J i f w, fun f _ => match f (l + 3) with | .int _ i => ((N : Int) - i).toNat | _ => 0, ?_, ?_⟩
  · refine ⟨0, by omega, by simp, by simp [h2], hJ _ _ _ _ ?_ h0⟩
    intro x hx hx3
    simp [hx3]
  · rintro f w ⟨i, hi, h3, h2, hj⟩
    refine wp_seqI ?_
    refine wp_seqI (wp_reg ?_)
    simp [h2, h3, z2, z2', z3, z3']
    generalize hfa : upd (upd (upd f t (.int .i32 i)) (t + 1) (.int .i32 lv)) (t + 2) (.bool (decide ((i : Int) < lv))) = fa
    have ka : ∀ x, x < t → fa x = f x := by
      intro x hx
      subst hfa
      have x3 : ∀ n, (x = t + n) = False := by intro n; simp; omega
      have x4 : (x = t) = False := by simp; omega
      simp [x3, x4]
    have hja : J i fa w := hJ _ _ _ _ (fun x hx _ => ka x hx) hj
    by_cases hlt : (i : Int) < lv
    · refine .inl ⟨by subst hfa; simp [hlt], ?_⟩
      show (Ir.seq _ _).wp P _ _ _
      refine wp_seqI ?_
      show body.wp P _ _ _
      refine Ir.wp_mono body ?_ (hb i (by omega) fa w hja ((ka _ (by omega)).trans h3) ((ka _ (by omega)).trans h2))
      rintro e f' w' (⟨rfl, hj', h3', h2'⟩ | ⟨rfl, hq⟩)
      · show (Ir.reg _).wp P _ _ _
        refine wp_reg ?_
        have wr : IntKind.i32.wrap ((i : Int) + 1) = ((i + 1 : Nat) : Int) := by simp [IntKind.wrap, IntKind.signed, IntKind.bits]; omega
        simp [h3', z2, z2', z3, z3', wr]
        refine ⟨⟨i + 1, by omega, by simp, by simp [z2, z1, z0, h2'], hJ _ _ _ _ ?_ hj'⟩, ?_⟩
        · intro x hx hx3
          have x3 : ∀ n, (x = t + n) = False := by intro n; simp; omega
          simp [x3, hx3]
        · omega
      · exact hq
    · have : i = N := by omega
      subst this
      refine .inr ⟨by subst hfa; simp [hlt], ?_⟩
      show inBlockF k Q (.exit k) _ _
      rw [inBlockF_exit, if_pos rfl]
      exact h _ _ hja
end
end Go.Kg

set_option linter.unusedSimpArgs false
set_option linter.unusedVariables false
set_option linter.unusedSectionVars false
namespace Go.Kg
open Go

theorem segL_eq {c c' : Array Value} {a n : Nat} (h : ∀ j, a ≤ j → j < a + n → c'[j]? = c[j]?) : segL c' a n = segL c a n := by
  apply List.ext_getElem?
  intro j
  by_cases hj : j < n
  · rw [segL_get hj, segL_get hj]; exact h _ (by omega) (by omega)
  · rw [segL_none (by omega), segL_none (by omega)]
theorem segL_len {c : Array Value} {a n : Nat} (h : a + n ≤ c.size) : (segL c a n).length = n := by simp [segL]; omega

theorem Ext.trans' {C D E : Nat → Prop} {a b c : World} (h : Ext C a b) (k : Ext D b c) (hD : ∀ x, x < a.heap.size → D x → E x) (hC : ∀ x, x < a.heap.size → C x → E x := by intro x _ h; first | exact h | exact .inl h) : Ext E a c :=
  ⟨k.os.trans h.os, k.tape.trans h.tape, k.output.trans h.output, Nat.le_trans h.size k.size,
   fun i hi hc => (k.block i (Nat.lt_of_lt_of_le hi h.size) (fun hd => hc (hD i hi hd))).trans (h.block i hi (fun hd => hc (hC i hi hd)))⟩
/-- inside a list's row -/
def rdr' (R : Rdr) (ab : Nat) : Rdr := { R with base := ab + 1 }

section
variable {P : Program} {C : CfgR} {R : Rdr} {Q : Post} {f : Nat → Value} {w : World}

/-- v = a; s.F = v -/
theorem r_tail {T PT pv k o sT l t b a : Nat} {av : Value} {cc : Array Value} {e : TypeId} (hpv : f pv = .pointer (some ⟨b, a, none⟩)) (hF : fldOff P T k = some o) (hk : isScl (kindOf P sT) = true) (hav : f (l + 1) = av) (h1 : av.oneCell' = true) (hpt : pv < l) (hl : l + 1 < t)
    (hb : w.heap[b]? = some (.cells cc e (0, 0))) (ho : a + o + 1 ≤ cc.size)
    (h : ∀ f' cc', Put cc (a + o) av cc' → (∀ y, y < t → y ≠ l → f' y = f y) → Q .normal f' (w.setBlk b (.cells cc' e (0, 0)))) : (seqL (tailR C T PT pv k sT l t)).wp P Q f w := by
  refine seqL_cons ?_
  refine wp_reg ?_
  simp [hav]
  show (Ir.reg _).wp P _ _ w
  refine r_storeT (u := av) (o := o) (b := b) (a := a) (cc := cc) (e := e) ?_ hF hk ?_ h1 (by omega) (by omega) hb ho ?_
  · have x1 : (pv = l) = False := by simp; omega
    have x2 : (pv = t) = False := by simp; omega
    simp [x1, x2, hpv]
  · simp
  · intro f' cc' hput hk'
    refine h f' cc' hput ?_
    intro y hy hyl
    have x2 : (y = t) = False := by simp; omega
    rw [hk' y (by omega)]
    simp [hyl, x2]

structure Loop (C : CfgR) (R : Rdr) {α : Type} (fE : RS → Option (α × RS)) (Relt : World → (Nat → Prop) → List Value → α → Prop) (z : Array Value) (rs1 : RS) (w1 : World) (f1 : Nat → Value) (ab N sz l m t1 et : Nat) (i : Nat) (f' : Nat → Value) (w' : World) : Prop where
  ex : ∃ ys rsi cur, (rdN fE N rs1 = match rdN fE (N - i) rsi with | none => none | some (x, r) => some (ys ++ x, r)) ∧ ys.length = i ∧ StR C (rdr' R ab) ab 0 (N * sz) w' cur et rsi ∧ Ext (CB R ab) w1 w' ∧
    (∀ (j : Nat) y, ys[j]? = some y → Relt w' (RK (rdr' R ab)) (segL cur (j * sz) sz) y) ∧ (∀ j, i ≤ j → j < N → segL cur (j * sz) sz = z.toList)
  keep : KeepR f1 f' (l + 3) m t1

theorem rowBound {i N sz : Nat} (h : i < N) : i * sz + sz ≤ N * sz := by
  have := Nat.mul_le_mul_right sz (show i + 1 ≤ N from h)
  rwa [Nat.add_mul, Nat.one_mul] at this
theorem rowStep {i j sz : Nat} (h : j < i) : j * sz + sz ≤ i * sz := rowBound h

/-- The loop over a list's row. -/
theorem r_loop {α : Type} (fE : RS → Option (α × RS)) (Relt : World → (Nat → Prop) → List Value → α → Prop) (hRext : ∀ w w' K X es y, Relt w K es y → Ext X w w' → (∀ k, k < w.heap.size → K k → ¬ X k) → Relt w' K es y)
    {pv l m t kk b a N sz ab : Nat} {lv : Int} {ver : Int} {fl : Bool} {z : Array Value} {body : Ir} {av : Value} {cur0 : Array Value} {et : TypeId} {rs1 : RS} {cap : Nat} (h32 : lv < 2147483648 ∧ -2147483648 ≤ lv) (hN : N = lv.toNat) (hl : l + 4 ≤ m) (hm : m ≤ t) (hlv : f (l + 2) = .int .i32 lv) (hav : f (l + 1) = av)
    (hav' : av = .slice (some ⟨ab, 0, none⟩) N cap) (hcap : N ≤ cap) (hf : FrR C R f pv b a ver fl l) (hbase : R.base ≤ ab) (hst : StR C (rdr' R ab) ab 0 (N * sz) w cur0 et rs1) (hz : ∀ i, i < N → segL cur0 (i * sz) sz = z.toList)
    (hbody : ∀ (i : Nat) (f' : Nat → Value) (w' : World) (cur : Array Value) (rsi : RS), i < N → FrR C R f' pv b a ver fl l → f' (l + 1) = av → f' (l + 3) = .int .i32 i → StR C (rdr' R ab) ab 0 (N * sz) w' cur et rsi → segL cur (i * sz) sz = z.toList →
      ∀ Q' : Post, (fE rsi = none → ∀ f'' w'', f'' 6 = R.ev → Ext (CB R ab) w' w'' → Q' .ret f'' w'') →
        (∀ y rs'', fE rsi = some (y, rs'') → ∀ f'' w'' cur', StR C (rdr' R ab) ab 0 (N * sz) w'' cur' et rs'' → Ext (CB R ab) w' w'' → (∀ j, (j < i * sz ∨ i * sz + sz ≤ j) → cur'[j]? = cur[j]?) → Relt w'' (RK (rdr' R ab)) (segL cur' (i * sz) sz) y → KeepR f' f'' (l + 4) m (t + 5) → Q' .normal f'' w'') →
        body.wp P Q' f' w')
    (h0 : rdN fE N rs1 = none → ∀ f' w', f' 6 = R.ev → Ext (CB R ab) w w' → Q .ret f' w')
    (h1 : ∀ ys rs', rdN fE N rs1 = some (ys, rs') → ∀ f' w' cur, ys.length = N → StR C (rdr' R ab) ab 0 (N * sz) w' cur et rs' → Ext (CB R ab) w w' → (∀ (j : Nat) y, ys[j]? = some y → Relt w' (RK (rdr' R ab)) (segL cur (j * sz) sz) y) → KeepR f f' (l + 3) m t → Q .normal f' w') :
    (forI C l t kk body).wp P Q f w := by
  have hn10 := hf.nN
  refine r_for h32 hN (by omega) hlv (fun i f' w' => Loop C R fE Relt z rs1 w f ab N sz l m t et i f' w') ?_ ?_ ?_ ?_
  · rintro i f1 f2 w' hx ⟨hex, hk⟩
    refine ⟨hex, ?_⟩
    intro y hy1 hy
    rw [hx y (by omega) (by omega)]
    exact hk y hy1 hy
  · refine ⟨⟨[], rs1, cur0, ?_, rfl, hst, Ext.refl _ _, by simp, fun j _ hj => hz j hj⟩, KeepR.refl _ _ _ _⟩
    simp only [Nat.sub_zero]
    cases rdN fE N rs1 with
    | none => rfl
    | some a => simp
  · rintro i hi f' w' ⟨⟨ys, rsi, cur, hrel, hlen, hst', hext, helt, hnew⟩, hk⟩ h3 h2
    obtain ⟨k, hkN⟩ : ∃ k, N - i = k + 1 := ⟨N - i - 1, by omega⟩
    have hf' : FrR C R f' pv b a ver fl l := hf.keep (t := l + 3) hk.keeps (by omega)
    refine hbody i f' w' cur rsi hi hf' ((hk (l + 1) (by omega) (.inl (by omega))).trans hav) h3 hst' (hnew i (Nat.le_refl _) hi) _ ?_ ?_
    · intro hnone f'' w'' h6 he
      refine .inr ⟨rfl, h0 ?_ f'' w'' h6 (hext.trans he)⟩
      rw [hrel, hkN]
      simp only [rdN, hnone]
    · intro y rs'' hy f'' w'' cur' hst'' he hsame hrel' hk''
      have hsz : cur'.size = cur'.size := rfl
      refine .inl ⟨rfl, ⟨⟨ys ++ [y], rs'', cur', ?_, by simp [hlen], hst'', hext.trans he, ?_, ?_⟩, ?_⟩, ?_, ?_⟩
      · rw [hrel, hkN, show N - (i + 1) = k by omega]
        simp only [rdN, hy]
        cases rdN fE k rs'' with
        | none => rfl
        | some p => simp
      · intro j y' hj
        rcases Nat.lt_or_ge j i with hji | hji
        · rw [List.getElem?_append_left (by omega)] at hj
          rw [segL_eq (c := cur) (fun x hx1 hx2 => hsame x (.inl (by have := rowStep (sz := sz) hji; omega)))]
          exact hRext _ _ _ _ _ _ (helt j y' hj) he (hst'.rw_.keepK)
        · have hji' : j = i := by
            have := (List.getElem?_eq_some_iff.1 hj).1
            simp at this; omega
          subst hji'
          rw [List.getElem?_append_right (by omega), hlen, Nat.sub_self] at hj
          simp at hj
          subst hj
          exact hrel'
      · intro j hj hjN
        rw [segL_eq (c := cur) (fun x hx1 hx2 => hsame x (.inr (by have := rowStep (sz := sz) (show i < j by omega); omega)))]
        exact hnew j (by omega) hjN
      · intro x hx1 hx
        rw [hk'' x hx1 (by omega)]
        exact hk x hx1 hx
      · rw [hk'' _ (by omega) (.inl (by omega))]; exact h3
      · rw [hk'' _ (by omega) (.inl (by omega))]; exact h2
  · rintro f' w' ⟨⟨ys, rsi, cur, hrel, hlen, hst', hext, helt, hnew⟩, hk⟩
    refine h1 ys rsi ?_ f' w' cur hlen hst' hext helt hk
    rw [hrel, Nat.sub_self]
    simp [rdN]
end
end Go.Kg

set_option linter.unusedSimpArgs false
set_option linter.unusedVariables false
set_option linter.unusedSectionVars false
namespace Go.Kg
open Go

theorem cells_one {v : Value} (h : v.oneCell' = true) : v.cells = #[v] := by cases v <;> simp_all [Value.oneCell', Value.cells]

section
variable {P : Program} {C : CfgR} {R : Rdr} {Q : Post} {f : Nat → Value} {w : World}

/-- A list's field as a whole. -/
theorem r_list (ht : TyR P C) {nul : Option Nat} (hnz : nulZ nul = true) {α : Type} (fE : RS → Option (α × RS)) (Relt : World → (Nat → Prop) → List Value → α → Prop) (hRext : ∀ w w' K X es y, Relt w K es y → Ext X w w' → (∀ k, k < w.heap.size → K k → ¬ X k) → Relt w' K es y) (hRmono : ∀ w (K K' : Nat → Prop) es y, Relt w K es y → (∀ k, K k → K' k) → Relt w K' es y)
    {T PT pv k o sT l m t t2 kk b a n lo sz : Nat} {ver : Int} {fl : Bool} {cc : Array Value} {e : TypeId} {rs : RS} {z : Array Value} {body : Ir} (hF : fldOff P T k = some o) (hk : isScl (kindOf P sT) = true) (hsz : sliSz P sT = some sz) (hz : sliZ P sT = some z) (hzs : z.size = sz)
    (hN : LenRC P C) (hE : EndC P C) (hs : StR C R b a n w cc e rs) (hf : FrR C R f pv b a ver fl l) (hl : l + 4 ≤ m) (hm : m ≤ t) (ht2 : t + headN C nul + 5 ≤ t2) (hon : o + 1 ≤ n) (hlo : lo ≤ o) (hnil : (segL cc a n)[o]? = some (.slice none 0 0))
    (hbody : ∀ (ab N cap : Nat) (et : TypeId) (i : Nat) (av : Value) (f' : Nat → Value) (w' : World) (cur : Array Value) (rsi : RS), R.base ≤ ab → i < N → av = .slice (some ⟨ab, 0, none⟩) N cap → FrR C R f' pv b a ver fl l → f' (l + 1) = av → f' (l + 3) = .int .i32 i → StR C (rdr' R ab) ab 0 (N * sz) w' cur et rsi → segL cur (i * sz) sz = z.toList →
      ∀ Q' : Post, (fE rsi = none → ∀ f'' w'', f'' 6 = R.ev → Ext (CB R ab) w' w'' → Q' .ret f'' w'') →
        (∀ y rs'', fE rsi = some (y, rs'') → ∀ f'' w'' cur', StR C (rdr' R ab) ab 0 (N * sz) w'' cur' et rs'' → Ext (CB R ab) w' w'' → (∀ j, (j < i * sz ∨ i * sz + sz ≤ j) → cur'[j]? = cur[j]?) → Relt w'' (RK (rdr' R ab)) (segL cur' (i * sz) sz) y → KeepR f' f'' (l + 4) m (t + headN C nul + 5) → Q' .normal f'' w'') →
        body.wp P Q' f' w')
    (h0 : arrRd nul ver fl fE rs = none → ∀ f' w', f' 6 = R.ev → Ext (CB R b) w w' → Q .ret f' w')
    (h1 : ∀ A rs', arrRd nul ver fl fE rs = some (A, rs') → ∀ f' w' cc' av ls, RdTo C R b a n lo w cc e f l m t rs' f' w' cc' → (∀ j, (j < a + lo ∨ a + o + 1 ≤ j) → cc'[j]? = cc[j]?) → (segL cc' a n)[o]? = some av → ArrAt w' (RK R) sz av ls → (ls.isSome = A.isSome ∧ InHeap w' av) → (ls.getD []).length = (A.getD []).length →
      (∀ (i : Nat) es y, (ls.getD [])[i]? = some es → (A.getD [])[i]? = some y → Relt w' (RK R) es y) → Q .normal f' w') :
    (seqL (headR C T PT pv k sT l t nul ++ [forI C l (t + headN C nul) kk body] ++ tailR C T PT pv k sT l t2)).wp P Q f w := by
  have hn10 := hf.nN
  have hpt := hf.ptrN
  have hfit := hs.fit
  have hlen := lenRd_lt fl rs
  have hhead : headN C nul = 5 + lenIN C + nulN nul + 10 := rfl
  rw [List.append_assoc]
  refine seqL_append ?_
  refine r_head ht hnz hF hk hsz hz hN hE hs hf (by omega) (by omega) hnil ?_ ?_
  · intro hb f' w' h6 he
    exact h0 (by simp [arrRd, hb]) f' w' h6 (he.mono (fun _ _ h => .inl h))
  · intro hb f1 w1 av hav hlv hpost he1 hr1 hk1
    have hs1 := hs.ext1 he1 hr1
    have kR1 : KeepR f f1 l m t := fun y hy1 hy => hk1 y (by omega) (by omega)
    have hf1 := hf.keep kR1.keeps (Nat.le_refl _)
    -- the tail, from what the loop left
    have fin : ∀ (A : Option (List α)) (rs' : RS) (f2 : Nat → Value) (w2 : World) (ls : Option (List (List Value))), arrRd nul ver fl fE rs = some (A, rs') → KeepR f f2 l m t → f2 (l + 1) = av → Ext (· = R.pb) w w2 → RdAt C.E.tRd w2 R.pb R.D rs' → av.oneCell' = true →
        ArrAt w2 (RK R) sz av ls → (ls.isSome = A.isSome ∧ InHeap w2 av) → (ls.getD []).length = (A.getD []).length → (∀ (i : Nat) es y, (ls.getD [])[i]? = some es → (A.getD [])[i]? = some y → Relt w2 (RK R) es y) → (seqL (tailR C T PT pv k sT l t2)).wp P Q f2 w2 := by
      intro A rs' f2 w2 ls hA hk2 hav2 he2 hr2 hone harr hsome hlen2 helt
      have hs2 := hs.ext1 he2 hr2
      have hf2 := hf.keep hk2.keeps (Nat.le_refl _)
      have huc : av.cells = #[av] := cells_one hone
      refine r_tail (o := o) (b := b) (a := a) (cc := cc) (e := e) hf2.ptr hF hk hav2 hone hpt.2 (by omega) hs2.blk (by omega) ?_
      intro f3 cc3 hput hk3
      have hE3 : Ext (fun x => x = b) w2 (w2.setBlk b (.cells cc3 e (0, 0))) := (Ext.refl (fun x => x = b) w2).setBlk (b := b) (Or.inr rfl) _
      have hK3 : ∀ k, k < w2.heap.size → RK R k → ¬ k = b := fun k h1 h2 h3 => hs2.rw_.keepK k h1 h2 (.inr h3)
      refine h1 A rs' hA f3 _ cc3 av ls ?_ ?_ ?_ (ArrAt.ext hE3 hK3 harr) ⟨hsome.1, hsome.2.ext hE3⟩ hlen2 ?_
      · refine (RdTo.read (lo := lo) hs he2 hr2 hk2).trans (RdTo.put hs2 hput hlo (by rw [huc]; exact hon) (l := l) (m := m) (t := t) ?_) (Nat.le_refl _) (Nat.le_refl _) (Nat.le_refl _) (Nat.le_refl _)
        intro y hy1 hy
        exact hk3 y (by omega) (by omega)
      · intro j hj
        exact hput.same j (by rw [huc]; simp; omega)
      · rw [segL_get (by omega)]
        have := hput.new 0 av (by simp [huc])
        simpa using this
      · intro i es y hi hy
        exact hRext _ _ _ _ _ _ (helt i es y hi hy) hE3 hK3
    have hpost' := hpost
    unfold HeadPost at hpost'
    show (seqL _).wp P _ f1 w1
    refine seqL_cons ?_
    by_cases hp : 0 < (lenRd fl rs).1
    · rw [if_pos hp] at hpost'
      obtain ⟨ab, cur, et, ⟨⟨cap, hcapE, hcap⟩, hnew, hblk, hfit2, hzero⟩⟩ := hpost'
      have hb1 := hs.rw_.lt
      have hbase : R.base ≤ ab := Nat.le_trans hb1.2.2.2 hnew
      have hg : C.E.g_kbin_ErrNotEnoughData < w.heap.size := World.block_lt_of_cell? w _ hs.rw_.err
      have hst : StR C (rdr' R ab) ab 0 ((lenRd fl rs).1.toNat * sz) w1 cur et (lenRd fl rs).2 := by
        refine ⟨hblk, by rw [← hzs]; omega, hr1, ⟨⟨?_, ?_, ?_, ?_⟩, ⟨hs.rw_.ne.1, ?_, ?_⟩, hs1.rw_.err, ⟨hs1.rw_.errN.1, ?_⟩⟩⟩
        · show R.pb < ab + 1; omega
        · show ab < ab + 1; omega
        · show R.D < ab + 1; omega
        · exact lt_of_heap hblk
        · show ab ≠ R.D; omega
        · show R.pb ≠ ab; omega
        · omega
      refine r_loop (z := z) (cap := cap) fE Relt hRext hlen rfl hl (by omega) hlv hav hcapE hcap hf1 hbase hst (by rw [← hzs]; exact hzero) ?_ ?_ ?_
      · intro i f' w' cur' rsi hi hf' hav' h3 hst' hz' Q' q0 q1
        exact hbody ab _ cap et i av f' w' cur' rsi hbase hi hcapE hf' hav' h3 hst' hz' Q' q0 (fun y rs'' hy f'' w'' cur'' a1 a2 a3 a4 a5 => q1 y rs'' hy f'' w'' cur'' a1 a2 a3 a4 a5)
      · intro hnone f' w' h6 he
        refine h0 ?_ f' w' h6 ?_
        · simp only [arrRd, hb, hp, hnone]; simp
        · exact he1.trans' (E := CB R b) he (fun x hx hc => by
            rcases hc with h | h
            · exact .inl h
            · omega)
      · intro ys rs' hys f' w' cur' hlenY hst' he helt hk'
        have heT : Ext (· = R.pb) w w' := he1.trans' he (fun x hx hc => by
          rcases hc with h | h
          · exact h
          · omega)
        have hav1 : av.oneCell' = true := by rw [hcapE]; rfl
        refine fin (some ys) rs' f' w' (some ((List.range (lenRd fl rs).1.toNat).map fun j => segL cur' (j * sz) sz)) ?_ ?_ ?_ heT hst'.rd hav1 ?_ ⟨rfl, fun a' n' c' e' => by rw [hcapE] at e'; cases e'; exact lt_of_heap hst'.blk⟩ (by simp [hlenY]) ?_
        · simp only [arrRd, hb, hp, hys]; simp
        · intro y hy1 hy
          rw [hk' y hy1 (by omega)]
          exact kR1 y hy1 hy
        · rw [hk' (l + 1) (by omega) (.inl (by omega))]; exact hav
        · refine ⟨ab, 0, cap, by rw [hcapE]; simp, .inr hbase, ⟨by simpa using hcap, by simp; omega⟩, ?_⟩
          intro i cs hi
          simp only [List.getElem?_map, Option.map_eq_some_iff] at hi
          obtain ⟨j, hj, rfl⟩ := hi
          have hjl := (List.getElem?_eq_some_iff.1 hj).1
          have hji : j = i := by
            obtain ⟨_, h2⟩ := List.getElem?_eq_some_iff.1 hj
            simpa using h2.symm
          subst hji
          have hjN : j < (lenRd fl rs).1.toNat := by simpa using hjl
          have hfitJ := rowBound (sz := sz) hjN
          have hfit' := hst'.fit
          exact ⟨segL_len (by omega), by rw [Nat.zero_add]; exact cellsAt_seg hst'.blk⟩
        · intro i es y hi hy
          simp only [Option.getD_some, List.getElem?_map, Option.map_eq_some_iff] at hi hy
          obtain ⟨j, hj, rfl⟩ := hi
          have hji : j = i := by
            obtain ⟨_, h2⟩ := List.getElem?_eq_some_iff.1 hj
            simpa using h2.symm
          subst hji
          exact hRmono _ _ _ _ _ (helt j y hy) (fun k hk => by
            rcases hk with h | h
            · exact .inl h
            · exact .inr (by have : ab + 1 ≤ k := h; omega))
    · rw [if_neg hp] at hpost'
      have hone : av.oneCell' = true := by
        unfold NulPost at hpost'
        split at hpost'
        · obtain ⟨g, rfl, _⟩ := hpost'; rfl
        · subst hpost'; rfl
      refine r_for (N := 0) hlen (by omega) (by omega) hlv (fun _ f' w' => w' = w1 ∧ ∀ x, x < t + headN C nul → x ≠ l + 3 → f' x = f1 x) ?_ ⟨rfl, fun _ _ _ => rfl⟩ (fun i hi => by omega) ?_
      · rintro i fa fb w' hx ⟨rfl, h2⟩
        exact ⟨rfl, fun x hx1 hx2 => (hx x hx1 hx2).trans (h2 x hx1 hx2)⟩
      · rintro f' w' ⟨rfl, h2⟩
        have kk : KeepR f f' l m t := by
          intro y hy1 hy
          rw [h2 y (by omega) (by omega)]
          exact kR1 y hy1 hy
        have he : (emptyOf nul ver (lenRd fl rs).1 : Option (List α)) = if nul.isSome = true ∧ (lenRd fl rs).1 = 0 then some [] else none := by
          have hv0 := hf.v0
          cases nul with
          | none => simp [emptyOf]
          | some m0 =>
            have hm0 : m0 = 0 := by simpa [nulZ] using hnz
            subst hm0
            have : ¬ ver < 0 := by omega
            simp [emptyOf, this]
        unfold NulPost at hpost'
        split at hpost'
        · rename_i hc
          obtain ⟨ab, rfl, hab1, hab2⟩ := hpost'
          rw [if_pos hc] at he
          refine fin (some []) (lenRd fl rs).2 f' w' (some []) ?_ kk ((h2 _ (by omega) (by omega)).trans hav) he1 hr1 rfl ⟨ab, 0, 0, rfl, .inr (Nat.le_trans hs.rw_.lt.2.2.2 hab1), ⟨Nat.le_refl _, by simp⟩, by simp⟩ ⟨rfl, fun a' n' c' e' => by cases e'; exact hab2⟩ rfl (by simp)
          simp only [arrRd, hb, hp, he]; simp
        · rename_i hc
          subst hpost'
          rw [if_neg hc] at he
          refine fin none (lenRd fl rs).2 f' w' none ?_ kk ((h2 _ (by omega) (by omega)).trans hav) he1 hr1 rfl rfl ⟨rfl, InHeap.nil _⟩ rfl (by simp)
          simp only [arrRd, hb, hp, he]; simp
end
end Go.Kg

set_option linter.unusedSimpArgs false
set_option linter.unusedVariables false
set_option linter.unusedSectionVars false
namespace Go.Kg
open Go

section
variable {P : Program} {C : CfgR}

theorem FrR.inner {R : Rdr} {f : Nat → Value} {pv b a n ab : Nat} {ver : Int} {fl : Bool} (h : FrR C R f pv b a ver fl n) : FrR C (rdr' R ab) f pv b a ver fl n := ⟨h.ptr, h.ptrN, h.v0, h.ver, h.flg, h.flN, h.rd, h.us, h.nN⟩

def EltP (p : Prim) (w : World) (K : Nat → Prop) (es : List Value) (y : p.T) : Prop := ∃ u, es = u.cells.toList ∧ p.rep1 w K u y
def EltS (S : Sch) (w : World) (K : Nat → Prop) (es : List Value) (y : S.T) : Prop := S.Rep w K es y
theorem EltP.ext (p : Prim) : ∀ w w' K X es y, EltP p w K es y → Ext X w w' → (∀ k, k < w.heap.size → K k → ¬ X k) → EltP p w' K es y := by
  rintro w w' K X es y ⟨u, h1, h2⟩ he hK
  exact ⟨u, h1, Prim.rep1_ext he hK h2⟩
theorem EltP.mono (p : Prim) : ∀ w (K K' : Nat → Prop) es y, EltP p w K es y → (∀ k, K k → K' k) → EltP p w K' es y := by
  rintro w K K' es y ⟨u, h1, h2⟩ hK
  exact ⟨u, h1, Prim.rep1_mono hK h2⟩
theorem EltS.ext (S : Sch) : ∀ w w' K X es y, EltS S w K es y → Ext X w w' → (∀ k, k < w.heap.size → K k → ¬ X k) → EltS S w' K es y := fun w w' K X es y h he hK => Sch.Rep_ext he hK S h
theorem EltS.mono (S : Sch) : ∀ w (K K' : Nat → Prop) es y, EltS S w K es y → (∀ k, K k → K' k) → EltS S w K' es y := fun w K K' es y h hK => Sch.Rep_mono hK S h

/-- A list's field stands in a struct's cells. -/
def ArrFld {α : Type} (Relt : World → (Nat → Prop) → List Value → α → Prop) (w : World) (K : Nat → Prop) (sz : Nat) (cs : List Value) (o : Nat) (A : Option (List α)) : Prop :=
  ∃ v ls, cs[o]? = some v ∧ ArrAt w K sz v ls ∧ (ls.isSome = A.isSome ∧ InHeap w v) ∧ (ls.getD []).length = (A.getD []).length ∧ ∀ (i : Nat) (es : List Value) x, (ls.getD [])[i]? = some es → (A.getD [])[i]? = some x → Relt w K es x
theorem ArrFld.move {α : Type} {Relt : World → (Nat → Prop) → List Value → α → Prop} (hRext : ∀ w w' K X es y, Relt w K es y → Ext X w w' → (∀ k, k < w.heap.size → K k → ¬ X k) → Relt w' K es y) {w w' : World} {K X : Nat → Prop} {sz o : Nat} {cs cs' : List Value} {A : Option (List α)} (h : ArrFld Relt w K sz cs o A) (he : Ext X w w') (hK : ∀ k, k < w.heap.size → K k → ¬ X k) (hc : cs'[o]? = cs[o]?) : ArrFld Relt w' K sz cs' o A := by
  obtain ⟨v, ls, h1, h2, h3, h4, h5⟩ := h
  exact ⟨v, ls, hc.trans h1, ArrAt.ext he hK h2, ⟨h3.1, h3.2.ext he⟩, h4, fun i es x hi hx => hRext _ _ _ _ _ _ (h5 i es x hi hx) he hK⟩

theorem sliOk_spec {sT sz : Nat} (h : sliOk P sT sz = true) : sliSz P sT = some sz ∧ ∃ z, sliZ P sT = some z ∧ z.size = sz := by
  simp only [sliOk, Bool.and_eq_true, beq_iff_eq] at h
  obtain ⟨h1, h2⟩ := h
  refine ⟨h1, ?_⟩
  cases hz : sliZ P sT with
  | none => rw [hz] at h2; cases h2
  | some z => rw [hz] at h2; exact ⟨z, rfl, by simpa using h2⟩

/-- a[i] = v -/
theorem r_storeE (ht : TyR P C) {sT l t ab N cap i sz : Nat} {p : Prim} {u : Value} {cur : Array Value} {et : TypeId} {Q : Post} {f : Nat → Value} {w : World} (hsl : sliSz P sT = some sz) (h1 : f (l + 1) = .slice (some ⟨ab, 0, none⟩) N cap) (h3 : f (l + 3) = .int .i32 i) (hi : i < N) (hk : p.kOk P (p.ty C.E) = true) (hlv : LocVal w f p (l + 4) u)
    (hu : if p = .uuid then ∃ c : Array Value, u = .agg c ∧ c.size = 16 ∧ allOne c.toList = true else u.oneCell' = true) (hl : l + 4 < t) (hb : w.heap[ab]? = some (.cells cur et (0, 0))) (ho : i * sz + u.cells.size ≤ cur.size)
    (h : ∀ f' cur', Put cur (i * sz) u cur' → (∀ y, y < t → f' y = f y) → Q .normal f' (w.setBlk ab (.cells cur' et (0, 0)))) : (storeE C p sT l t).wp P Q f w := by
  have e3 : ∀ n, (l + 3 = t + n) = False := by intro n; simp; omega
  have e2 : ∀ n, (l + 2 = t + n) = False := by intro n; simp; omega
  have e1 : ∀ n, (l + 1 = t + n) = False := by intro n; simp; omega
  have e0 : ∀ n, (l = t + n) = False := by intro n; simp; omega
  have e4 : ∀ n, (l + 4 = t + n) = False := by intro n; simp; omega
  have e3' : (l + 3 = t) = False := by simp; omega
  have e1' : (l + 1 = t) = False := by simp; omega
  have e4' : (l + 4 = t) = False := by simp; omega
  have keep : ∀ a b c d, ∀ y, y < t → upd (upd (upd (upd f t a) (t + 1) b) (t + 2) c) (t + 3) d y = f y := by
    intro a b c d y hy
    have x3 : ∀ n, (y = t + n) = False := by intro n; simp; omega
    have x4 : (y = t) = False := by simp; omega
    simp [x3, x4]
  refine wp_reg ?_
  by_cases hp : p = .uuid
  · subst hp
    simp only [if_true] at hu
    obtain ⟨c, rfl, hc16, hone⟩ := hu
    simp only [LocVal, if_true] at hlv
    obtain ⟨b', cs', e', fz', hf, hbk, hcs, h16⟩ := hlv
    cases hcs
    have hk' : kindOf P C.E.tUu = .agg 16 := (ht.uu (kOk_uu hk rfl)).kUu
    have lB := cellsFrom_row hbk
    rw [h16] at lB
    have ho' : i * sz + 16 ≤ cur.size := by simpa [Value.cells, hc16] using ho
    simp [storeE, getL, h1, h3, hf, e0, e1, e2, e3, e4, e1', e3', e4', idx?, hsl, hi, Addr.add_mk, ld_agg hk', lB, Prim.ty, store_agg hk', hc16, hone, putK_blk hb]
    exact ⟨by omega, h _ _ (put_over (by omega)) (keep _ _ _ _)⟩
  · simp only [if_neg hp] at hu
    simp only [LocVal, if_neg hp] at hlv
    have hk' : kindOf P (p.ty C.E) = .scl := by simp only [Prim.kOk, if_neg hp] at hk; exact isScl_spec hk
    have huc : u.cells = #[u] := cells_one hu
    have ho' : i * sz + 1 ≤ cur.size := by simpa [huc] using ho
    simp [storeE, getL, hp, h1, h3, hlv, e0, e1, e2, e3, e4, e1', e3', e4', idx?, hsl, hi, Addr.add_mk, store_scl hk', hu, put1K_blk hb]
    exact ⟨by omega, h _ _ (put_one hu (by omega)) (keep _ _ _ _)⟩

/-- the body of a loop over things without fields -/
theorem r_bodyP (ht : TyR P C) {p : Prim} {R : Rdr} {sT l t b a pv ab N cap i : Nat} {av : Value} {ver : Int} {fl : Bool} {et : TypeId} {f' : Nat → Value} {w' : World} {cur : Array Value} {rsi : RS} (hP : PrimR P C p) (hsl : sliSz P sT = some p.sz) (hk : p.kOk P (p.ty C.E) = true) (hlt : l + 5 ≤ t) (hbase : R.base ≤ ab) (hi : i < N) (hav : av = .slice (some ⟨ab, 0, none⟩) N cap)
    (hf : FrR C R f' pv b a ver fl l) (h1 : f' (l + 1) = av) (h3 : f' (l + 3) = .int .i32 i) (hst : StR C (rdr' R ab) ab 0 (N * p.sz) w' cur et rsi) (Q' : Post)
    (q1 : ∀ f'' w'' cur', StR C (rdr' R ab) ab 0 (N * p.sz) w'' cur' et (p.rd fl rsi).2 → Ext (CB R ab) w' w'' → (∀ j, (j < i * p.sz ∨ i * p.sz + p.sz ≤ j) → cur'[j]? = cur[j]?) → EltP p w'' (RK (rdr' R ab)) (segL cur' (i * p.sz) p.sz) (p.rd fl rsi).1 → KeepR f' f'' (l + 4) (l + 5) t → Q' .normal f'' w'') :
    (seqL (readI C p (l + 4) t ++ [storeE C p sT l (t + readN C p)])).wp P Q' f' w' := by
  have hrow := rowBound (sz := p.sz) hi
  have hfit := hst.fit
  refine seqL_append ?_
  refine r_read ht (kOk_uu hk) (fl := fl) hP hst (hf.inner.up (by omega : l ≤ l + 4)) (by omega) ?_
  intro f2 w2 u hu hrep he2 hr2 hk2
  have hs2 := hst.ext1 he2 hr2
  have hszu := rep1_sz hrep
  show (storeE C p sT l (t + readN C p)).wp P _ f2 w2
  refine r_storeE ht (cap := cap) hsl (by rw [hk2 _ (by omega) (by omega), h1, hav]) (by rw [hk2 _ (by omega) (by omega), h3]) hi hk hu (rep1_one hrep) (by omega) hs2.blk (by rw [hszu]; omega) ?_
  intro f3 cur3 hput hk3
  have hE3 : Ext (fun x => x = ab) w2 (w2.setBlk ab (.cells cur3 et (0, 0))) := (Ext.refl (fun x => x = ab) w2).setBlk (b := ab) (Or.inr rfl) _
  have hE3' : Ext (CB (rdr' R ab) ab) w2 (w2.setBlk ab (.cells cur3 et (0, 0))) := hE3.mono (fun _ _ h => .inr h)
  refine q1 f3 _ cur3 ?_ ?_ ?_ ?_ ?_
  · exact ⟨setBlk_same hs2.blk, by rw [hput.size]; exact hfit, hs2.rd.ext hE3 (fun h => hs2.rw_.ne.2.2 h) (fun h => hs2.rw_.ne.2.1 h.symm), hs2.rw_.ext hE3'⟩
  · exact (he2.mono (fun _ _ h => .inl h) : Ext (CB R ab) w' w2).trans hE3'
  · intro j hj
    exact hput.same j (by rw [hszu]; omega)
  · refine ⟨u, ?_, Prim.rep1_ext hE3 (fun k a1 a2 a3 => hs2.rw_.keepK k a1 a2 (.inr a3)) hrep⟩
    apply List.ext_getElem?
    intro j
    by_cases hj : j < p.sz
    · rw [segL_get hj]
      have hj' : j < u.cells.toList.length := by simpa [hszu] using hj
      rw [List.getElem?_eq_getElem hj']
      exact hput.new j _ (List.getElem?_eq_getElem hj')
    · rw [segL_none (by omega), List.getElem?_eq_none (by simp [hszu]; omega)]
  · intro y hy1 hy
    rw [hk3 y (by omega), hk2 y (by omega) (by omega)]
end
end Go.Kg

set_option linter.unusedSimpArgs false
set_option linter.unusedVariables false
set_option linter.unusedSectionVars false
namespace Go.Kg
open Go

section
variable {P : Program} {C : CfgR}

theorem soundR_arrP (ht : TyR P C) (g : Gd) (k o sT : Nat) (nul : Option Nat) (p : Prim) (rest : Sch) (ih : SoundR P C rest) : SoundR P C (.arrP g k o sT nul p rest) := by
  intro T PT pv c Q f w b a n lo cc e ver fl R rs hty hN hf hc hs hd h0 h1
  simp only [Sch.tyR, Bool.and_eq_true, beq_iff_eq, decide_eq_true_eq] at hty
  obtain ⟨⟨⟨⟨⟨⟨⟨hnul, hF⟩, hk⟩, hsli⟩, hkp⟩, hlo⟩, hn⟩, htr⟩ := hty
  obtain ⟨hsz, z, hz, hzs⟩ := sliOk_spec hsli
  obtain ⟨hNp, hNl, hNe, hNr⟩ := hN
  simp only [Sch.chkD, Bool.and_eq_true] at hd
  have hnil := isNilSli_spec hd.1
  have hn10 := hf.nN
  have hpt := hf.ptrN
  have hhead : headN C nul = 5 + lenIN C + nulN nul + 10 := rfl
  simp only [Sch.genR] at hc h1 ⊢
  generalize ht1 : c.t + gdN g + headN C nul = t1 at hc h1 ⊢
  generalize ht2 : t1 + 5 + readN C p + 4 = t2 at hc h1 ⊢
  have hm := (genR_mono (C := C) rest T PT pv ⟨c.l + 5, t2 + 5, c.k + 2⟩).1
  simp only at hm
  have behind : ∀ (f1 : Nat → Value) (w1 : World) (cc1 : Array Value) (rs1 : RS) (A : Option (List p.T)),
      (Sch.rd ver fl (.arrP g k o sT nul p rest) rs = (rest.rd ver fl rs1).map fun y => ((A, y.1), y.2)) →
      RdTo C R b a n lo w cc e f c.l (c.l + 5) c.t rs1 f1 w1 cc1 → (∀ j, (j < a + lo ∨ a + o + 1 ≤ j) → cc1[j]? = cc[j]?) → ArrFld (EltP p) w1 (RK R) p.sz (segL cc1 a n) o A →
      (seqL (rest.genR C T PT pv ⟨c.l + 5, t2 + 5, c.k + 2⟩).1).wp P Q f1 w1 := by
    intro f1 w1 cc1 rs1 A hrd hto hsame hfld
    have hd1 : rest.chkD (segL cc1 a n) = true := by
      refine chkD_congr rest htr (fun j hj1 hj2 => ?_) hd.2
      rw [segL_get hj2, segL_get hj2]
      exact hsame _ (by omega)
    refine ih T PT pv _ Q f1 w1 b a n (o + 1) cc1 e ver fl R rs1 htr hNr ((hf.keep hto.keep.keeps (Nat.le_refl _)).up (by simp)) (by simp only; omega) hto.st hd1 ?_ ?_
    · intro hnone f2 w2 h6 he2
      exact h0 (by rw [hrd, hnone]; rfl) f2 w2 h6 (hto.ext.trans he2)
    · intro y rs2 hy f2 w2 cc2 hto2 hrep2
      refine h1 (A, y) rs2 (by rw [hrd, hy]; rfl) f2 w2 cc2 (hto.trans hto2 (by omega) (by simp) hm (by simp only; omega)) ⟨?_, hrep2⟩
      exact hfld.move (EltP.ext p) hto2.ext hto.st.rw_.keepK (by rw [segL_get (by omega), segL_get (by omega)]; exact hto2.same _ (.inl (by omega)))
  refine seqL_cons ?_
  refine w_guard ht.c (show f 8 = _ from hf.ver) (show 8 < c.t by omega) (by omega) ?_ ?_
  · intro hon f1 hk1 h11
    have hf1 := hf.keep hk1 (by omega)
    rw [← ht1]
    refine r_list ht hnul (fun rs => some (p.rd fl rs)) (EltP p) (EltP.ext p) (EltP.mono p) (lo := lo) (m := c.l + 5) (ver := ver) (fl := fl) (sz := p.sz) hF hk hsz hz hzs hNl hNe hs hf1 (by omega) (by omega) (by omega) hn hlo hnil ?_ ?_ ?_
    · intro ab N cap et i av f' w' cur rsi hbase hi hav hf' hav' h3 hst hzero Q' q0 q1
      rw [ht1]
      refine r_bodyP ht (cap := cap) hNp hsz hkp (by omega) hbase hi hav hf' hav' h3 hst Q' ?_
      intro f'' w'' cur' a1 a2 a3 a4 a5
      exact q1 _ _ rfl f'' w'' cur' a1 a2 a3 a4 (by rw [ht1]; exact a5)
    · intro hnone f' w' h6 he
      refine h0 ?_ f' w' h6 he
      simp only [Sch.rd, if_pos hon, hnone]
    · intro A rs' hA f' w' cc' av ls hto hsame hav harr hsome hlen helt
      refine behind f' w' cc' rs' A ?_ ?_ hsame ⟨av, ls, hav, harr, hsome, hlen, helt⟩
      · simp only [Sch.rd, if_pos hon, hA]; rfl
      · exact (RdTo.refl (m := c.l + 5) hs (KeepR.of hk1 (by omega))).trans { hto with keep := fun y h1 hy => hto.keep y h1 (by omega) } (Nat.le_refl _) (Nat.le_refl _) (Nat.le_refl _) (Nat.le_refl c.t)
  · intro hoff f1 hk1 h11
    refine behind f1 w cc rs none ?_ (RdTo.refl hs (KeepR.of hk1 (by omega))) (fun _ _ => rfl) ⟨_, none, hnil, rfl, ⟨rfl, InHeap.nil _⟩, rfl, by simp⟩
    simp only [Sch.rd, hoff, Bool.false_eq_true, if_false]; rfl

theorem segL_set (P : Program) {T' : Nat} : ∀ (l : List DSt) (c z : Array Value) (a n : Nat), defOk P T' n l = true → z.size = n → segL c a n = z.toList → segL (setD a l c) a n = (setD 0 l z).toList
  | [], c, z, a, n, _, _, h => h
  | x :: l, c, z, a, n, hok, hz, h => by
    simp only [defOk, Bool.and_eq_true, decide_eq_true_eq] at hok
    simp only [setD]
    refine segL_set P l _ _ a n hok.2 (by simp [hz]) ?_
    apply List.ext_getElem?
    intro j
    by_cases hj : j < n
    · have h1 : (segL c a n)[j]? = z.toList[j]? := by rw [h]
      rw [segL_get hj] at h1
      rw [segL_get hj]
      simp only [Array.getElem?_setIfInBounds, Array.getElem?_toList, Nat.zero_add]
      by_cases e : x.o = j
      · subst e
        have hlt : a + x.o < c.size := by
          rcases Nat.lt_or_ge (a + x.o) c.size with h2 | h2
          · exact h2
          · rw [Array.getElem?_eq_none h2] at h1
            have : z[x.o]? = none := by simpa using h1.symm
            rw [Array.getElem?_eq_none_iff] at this
            omega
        simp [hlt, hz, hj]
      · rw [if_neg (by omega), if_neg e]
        simpa using h1
    · rw [segL_none (by omega)]
      symm
      apply List.getElem?_eq_none
      simp [hz]; omega

theorem setD_same (P : Program) {T' : Nat} : ∀ (l : List DSt) (c : Array Value) (a n : Nat), defOk P T' n l = true → ∀ j, (j < a ∨ a + n ≤ j) → (setD a l c)[j]? = c[j]?
  | [], c, a, n, _, j, _ => rfl
  | x :: l, c, a, n, hok, j, hj => by
    simp only [defOk, Bool.and_eq_true, decide_eq_true_eq] at hok
    simp only [setD]
    rw [setD_same P l _ a n hok.2 j hj, Array.getElem?_setIfInBounds, if_neg (by omega)]

/-- v := &a[i]; v.Default(); s := v -/
theorem r_elem {R : Rdr} {sT PT' df l t b a pv ab N cap i sz T' : Nat} {S : Sch} {av : Value} {ver : Int} {fl : Bool} {et : TypeId} {f : Nat → Value} {w : World} {cur : Array Value} {rsi : RS} {Q : Post} {z : Array Value} (hsl : sliSz P sT = some sz) (hD : DefRC P C.toCfg sz df S) (hok : defOk P T' sz (S.dst C.toCfg) = true) (hzs : z.size = sz) (hi : i < N) (hav : av = .slice (some ⟨ab, 0, none⟩) N cap)
    (hf : FrR C R f pv b a ver fl l) (h1 : f (l + 1) = av) (h3 : f (l + 3) = .int .i32 i) (hl : l + 6 ≤ t) (hst : StR C (rdr' R ab) ab 0 (N * sz) w cur et rsi) (hzero : segL cur (i * sz) sz = z.toList)
    (h : ∀ f' w' cur', FrR C (rdr' R ab) f' (l + 5) ab (i * sz) ver fl (l + 6) → StR C (rdr' R ab) ab (i * sz) sz w' cur' et rsi → cur'.size = cur.size → Ext (CB R ab) w w' → (∀ j, (j < i * sz ∨ i * sz + sz ≤ j) → cur'[j]? = cur[j]?) → segL cur' (i * sz) sz = (setD 0 (S.dst C.toCfg) z).toList → (∀ y, y < t → (y < l + 4 ∨ l + 6 ≤ y) → f' y = f y) → Q .normal f' w') :
    (seqL (elemR C sT PT' df l t)).wp P Q f w := by
  have hn10 := hf.nN
  have hpt := hf.ptrN
  have hrow := rowBound (sz := sz) hi
  have hfit := hst.fit
  have e3 : ∀ n, (l + 3 = t + n) = False := by intro n; simp; omega
  have e1 : ∀ n, (l + 1 = t + n) = False := by intro n; simp; omega
  have e2 : ∀ n, (l + 2 = t + n) = False := by intro n; simp; omega
  have e4 : ∀ n, (l + 4 = t + n) = False := by intro n; simp; omega
  have e0 : ∀ n, (l = t + n) = False := by intro n; simp; omega
  have e3' : (l + 3 = t) = False := by simp; omega
  have e1' : (l + 1 = t) = False := by simp; omega
  have e0' : (l = t) = False := by simp; omega
  subst hav
  refine seqL_cons ?_
  refine wp_reg ?_
  simp [h1, h3, e0', e0, e1, e2, e3, e4, e1', e3', idx?, hsl, hi, Addr.add_mk]
  show (seqL _).wp P _ _ w
  refine seqL_cons ?_
  refine wp_reg ?_
  simp [e0', e0, e1, e2, e3, e4]
  refine (hD w ab (i * sz) cur et hst.blk (by omega)).mono ?_
  rintro v w1 ⟨rfl⟩
  show (Ir.reg _).wp P _ _ _
  refine wp_reg ?_
  simp [e0', e0, e1, e2, e3, e4]
  have hE : Ext (fun x => x = ab) w (w.setBlk ab (.cells (setD (i * sz) (S.dst C.toCfg) cur) et (0, 0))) := (Ext.refl (fun x => x = ab) w).setBlk (b := ab) (Or.inr rfl) _
  have hE' : Ext (CB (rdr' R ab) ab) w (w.setBlk ab (.cells (setD (i * sz) (S.dst C.toCfg) cur) et (0, 0))) := hE.mono (fun _ _ h => .inr h)
  refine h _ _ _ ?_ ?_ (setD_size _ _ _) hE' (setD_same P _ _ _ _ hok) (segL_set P _ _ _ _ _ hok hzs hzero) ?_
  · have lo : ∀ y, y < l → ∀ v1 v2 v3 v4 v5 v6 v7 v8, upd (upd (upd (upd (upd (upd (upd (upd f t v1) (t + 1) v2) (t + 2) v3) (l + 4) v4) (t + 3) v5) (t + 4) v6) (t + 5) v7) (l + 5) v8 y = f y := by
      intro y hy v1 v2 v3 v4 v5 v6 v7 v8
      have x1 : ∀ n, (y = t + n) = False := by intro n; simp; omega
      have x2 : (y = t) = False := by simp; omega
      have x3 : ∀ n, (y = l + n) = False := by intro n; simp; omega
      simp [x1, x2, x3]
    exact ⟨by simp [e0'], by omega, hf.v0, (lo 8 (by omega) _ _ _ _ _ _ _ _).trans hf.ver, fun hx => (lo 9 (by omega) _ _ _ _ _ _ _ _).trans (hf.flg hx), hf.flN, (lo 7 (by omega) _ _ _ _ _ _ _ _).trans hf.rd, (lo 2 (by omega) _ _ _ _ _ _ _ _).trans hf.us, by omega⟩
  · exact ⟨setBlk_same hst.blk, by rw [setD_size]; omega, hst.rd.ext hE (fun h => hst.rw_.ne.2.2 h) (fun h => hst.rw_.ne.2.1 h.symm), hst.rw_.ext hE'⟩
  · intro y hy hy2
    have x1 : ∀ n, (y = t + n) = False := by intro n; simp; omega
    have x2 : (y = t) = False := by simp; omega
    have x3 : (y = l + 4) = False := by simp; omega
    have x4 : (y = l + 5) = False := by simp; omega
    simp [x1, x2, x3, x4, e0']
end
end Go.Kg

set_option linter.unusedSimpArgs false
set_option linter.unusedVariables false
set_option linter.unusedSectionVars false
namespace Go.Kg
open Go

section
variable {P : Program} {C : CfgR}

theorem elemOk_spec {sT : Nat} {S : Sch} {z : Array Value} (h : elemOk P C.toCfg sT S = true) (hz : sliZ P sT = some z) : S.chkD (setD 0 (S.dst C.toCfg) z).toList = true := by
  unfold elemOk at h
  rw [hz] at h
  exact h

/-- the body of a loop over structs -/
theorem r_bodyS (ht : TyR P C) {S : Sch} (ihe : SoundR P C S) {R : Rdr} {sT T' PT' df l t k b a pv ab N cap i sz m : Nat} {av : Value} {ver : Int} {fl : Bool} {et : TypeId} {f' : Nat → Value} {w' : World} {cur : Array Value} {rsi : RS} {z : Array Value} (hte : S.tyR P C T' sz 0 = true) (hNe : S.NeedR P C)
    (hsl : sliSz P sT = some sz) (hD : DefRC P C.toCfg sz df S) (hok : defOk P T' sz (S.dst C.toCfg) = true) (hzs : z.size = sz) (hchk : S.chkD (setD 0 (S.dst C.toCfg) z).toList = true) (hlt : l + 6 ≤ t) (hm : (S.genR C T' PT' (l + 5) ⟨l + 6, t + 6, k⟩).2.l = m) (hmt : m ≤ t) (hi : i < N) (hav : av = .slice (some ⟨ab, 0, none⟩) N cap)
    (hf : FrR C R f' pv b a ver fl l) (h1 : f' (l + 1) = av) (h3 : f' (l + 3) = .int .i32 i) (hst : StR C (rdr' R ab) ab 0 (N * sz) w' cur et rsi) (hzero : segL cur (i * sz) sz = z.toList) (Q' : Post)
    (q0 : S.rd ver fl rsi = none → ∀ f'' w'', f'' 6 = R.ev → Ext (CB R ab) w' w'' → Q' .ret f'' w'')
    (q1 : ∀ y rs'', S.rd ver fl rsi = some (y, rs'') → ∀ f'' w'' cur', StR C (rdr' R ab) ab 0 (N * sz) w'' cur' et rs'' → Ext (CB R ab) w' w'' → (∀ j, (j < i * sz ∨ i * sz + sz ≤ j) → cur'[j]? = cur[j]?) → EltS S w'' (RK (rdr' R ab)) (segL cur' (i * sz) sz) y → KeepR f' f'' (l + 4) m t → Q' .normal f'' w'') :
    (seqL (elemR C sT PT' df l t ++ (S.genR C T' PT' (l + 5) ⟨l + 6, t + 6, k⟩).1)).wp P Q' f' w' := by
  have hml := (genR_mono (C := C) S T' PT' (l + 5) ⟨l + 6, t + 6, k⟩).1
  rw [hm] at hml
  simp only at hml
  refine seqL_append ?_
  refine r_elem hsl hD hok hzs hi hav hf h1 h3 hlt hst hzero ?_
  intro f2 w2 cur2 hf2 hst2 hsz2 he2 hsame2 hseg2 hk2
  have hfit := hst.fit
  refine ihe T' PT' (l + 5) ⟨l + 6, t + 6, k⟩ Q' f2 w2 ab (i * sz) sz 0 cur2 et ver fl (rdr' R ab) rsi hte hNe hf2 (by rw [hm]; simp only; omega) hst2 (by rw [hseg2]; exact hchk) ?_ ?_
  · intro hnone f3 w3 h6 he3
    exact q0 hnone f3 w3 h6 (he2.trans he3)
  · intro y rs'' hy f3 w3 cur3 hto hrep
    refine q1 y rs'' hy f3 w3 cur3 ?_ (he2.trans hto.ext) ?_ hrep ?_
    · exact ⟨hto.st.blk, by rw [hto.size, hsz2]; exact hfit, hto.st.rd, hto.st.rw_⟩
    · intro j hj
      rw [hto.same j (by omega)]
      exact hsame2 j hj
    · intro y hy1 hy
      have h4 := hto.keep y hy1
      rw [hm] at h4
      simp only at h4
      rw [h4 (by omega), hk2 y (by omega) (by omega)]

theorem soundR_arrS (ht : TyR P C) (g : Gd) (k o sT : Nat) (nul : Option Nat) (T' PT' sz df : Nat) (S rest : Sch) (ihe : SoundR P C S) (ih : SoundR P C rest) : SoundR P C (.arrS g k o sT nul T' PT' sz df S rest) := by
  intro T PT pv c Q f w b a n lo cc e ver fl R rs hty hN hf hc hs hd h0 h1
  simp only [Sch.tyR, Bool.and_eq_true, beq_iff_eq, decide_eq_true_eq] at hty
  obtain ⟨⟨⟨⟨⟨⟨⟨⟨⟨hnul, hF⟩, hk⟩, hsli⟩, hel⟩, hok⟩, hte⟩, hlo⟩, hn⟩, htr⟩ := hty
  obtain ⟨hsz, z, hz, hzs⟩ := sliOk_spec hsli
  have hchk := elemOk_spec hel hz
  obtain ⟨hNl, hNe, hND, hNs, hNr⟩ := hN
  simp only [Sch.chkD, Bool.and_eq_true] at hd
  have hnil := isNilSli_spec hd.1
  have hn10 := hf.nN
  have hpt := hf.ptrN
  have hhead : headN C nul = 5 + lenIN C + nulN nul + 10 := rfl
  simp only [Sch.genR] at hc h1 ⊢
  generalize ht1 : c.t + gdN g + headN C nul = t1 at hc h1 ⊢
  have hme := genR_mono (C := C) S T' PT' (c.l + 5) ⟨c.l + 6, t1 + 5 + 6, c.k + 2⟩
  have e11 : t1 + 11 = t1 + 5 + 6 := by omega
  rw [e11] at hc h1 ⊢
  generalize hz1 : S.genR C T' PT' (c.l + 5) ⟨c.l + 6, t1 + 5 + 6, c.k + 2⟩ = zz at hc h1 hme ⊢
  obtain ⟨eb, c1⟩ := zz
  simp only at hc h1 hme ⊢
  have hm := (genR_mono (C := C) rest T PT pv ⟨c1.l, c1.t + 5, c1.k⟩).1
  simp only at hm
  have behind : ∀ (f1 : Nat → Value) (w1 : World) (cc1 : Array Value) (rs1 : RS) (A : Option (List S.T)),
      (Sch.rd ver fl (.arrS g k o sT nul T' PT' sz df S rest) rs = (rest.rd ver fl rs1).map fun y => ((A, y.1), y.2)) →
      RdTo C R b a n lo w cc e f c.l c1.l c.t rs1 f1 w1 cc1 → (∀ j, (j < a + lo ∨ a + o + 1 ≤ j) → cc1[j]? = cc[j]?) → ArrFld (EltS S) w1 (RK R) sz (segL cc1 a n) o A →
      (seqL (rest.genR C T PT pv ⟨c1.l, c1.t + 5, c1.k⟩).1).wp P Q f1 w1 := by
    intro f1 w1 cc1 rs1 A hrd hto hsame hfld
    have hd1 : rest.chkD (segL cc1 a n) = true := by
      refine chkD_congr rest htr (fun j hj1 hj2 => ?_) hd.2
      rw [segL_get hj2, segL_get hj2]
      exact hsame _ (by omega)
    refine ih T PT pv _ Q f1 w1 b a n (o + 1) cc1 e ver fl R rs1 htr hNr ((hf.keep hto.keep.keeps (Nat.le_refl _)).up (by simp only; omega)) (by simp only; omega) hto.st hd1 ?_ ?_
    · intro hnone f2 w2 h6 he2
      exact h0 (by rw [hrd, hnone]; rfl) f2 w2 h6 (hto.ext.trans he2)
    · intro y rs2 hy f2 w2 cc2 hto2 hrep2
      refine h1 (A, y) rs2 (by rw [hrd, hy]; rfl) f2 w2 cc2 (hto.trans hto2 (by omega) (by simp only; omega) hm (by simp only; omega)) ⟨?_, hrep2⟩
      exact hfld.move (EltS.ext S) hto2.ext hto.st.rw_.keepK (by rw [segL_get (by omega), segL_get (by omega)]; exact hto2.same _ (.inl (by omega)))
  refine seqL_cons ?_
  refine w_guard ht.c (show f 8 = _ from hf.ver) (show 8 < c.t by omega) (by omega) ?_ ?_
  · intro hon f1 hk1 h11
    have hf1 := hf.keep hk1 (by omega)
    rw [← ht1]
    refine r_list ht hnul (S.rd ver fl) (EltS S) (EltS.ext S) (EltS.mono S) (lo := lo) (m := c1.l) (ver := ver) (fl := fl) (sz := sz) hF hk hsz hz hzs hNl hNe hs hf1 (by omega) (by omega) (by omega) hn hlo hnil ?_ ?_ ?_
    · intro ab N cap et i av f' w' cur rsi hbase hi hav hf' hav' h3 hst hzero Q' q0 q1
      rw [ht1]
      have hb := r_bodyS ht ihe (k := c.k + 2) (t := t1 + 5) (m := c1.l) (cap := cap) (PT' := PT') hte hNs hsz hND hok hzs hchk (by omega) (by rw [hz1]) (by omega) hi hav hf' hav' h3 hst hzero Q' q0 (fun y rs'' hy f'' w'' cur' a1 a2 a3 a4 a5 => q1 y rs'' hy f'' w'' cur' a1 a2 a3 a4 (by rw [ht1]; exact a5))
      rw [hz1] at hb
      exact hb
    · intro hnone f' w' h6 he
      refine h0 ?_ f' w' h6 he
      simp only [Sch.rd, if_pos hon, hnone]
    · intro A rs' hA f' w' cc' av ls hto hsame hav harr hsome hlen helt
      refine behind f' w' cc' rs' A ?_ ?_ hsame ⟨av, ls, hav, harr, hsome, hlen, helt⟩
      · simp only [Sch.rd, if_pos hon, hA]; rfl
      · exact (RdTo.refl (m := c1.l) hs (KeepR.of hk1 (by omega))).trans { hto with keep := fun y h1 hy => hto.keep y h1 (by omega) } (Nat.le_refl _) (Nat.le_refl _) (Nat.le_refl _) (Nat.le_refl c.t)
  · intro hoff f1 hk1 h11
    refine behind f1 w cc rs none ?_ (RdTo.refl hs (KeepR.of hk1 (by omega))) (fun _ _ => rfl) ⟨_, none, hnil, rfl, ⟨rfl, InHeap.nil _⟩, rfl, by simp⟩
    simp only [Sch.rd, hoff, Bool.false_eq_true, if_false]; rfl

theorem soundR (ht : TyR P C) : ∀ S : Sch, SoundR P C S := by
  intro S
  induction S with
  | fin => exact soundR_fin
  | tags k o => exact soundR_tags ht k o
  | prim g k o p en d rest ih => exact soundR_prim ht g k o p en d rest ih
  | arrP g k o sT nul p rest ih => exact soundR_arrP ht g k o sT nul p rest ih
  | arrS g k o sT nul T PT sz df e rest ihe ih => exact soundR_arrS ht g k o sT nul T PT sz df e rest ihe ih
end
end Go.Kg

set_option linter.unusedSimpArgs false
set_option linter.unusedVariables false
set_option linter.unusedSectionVars false
namespace Go.Kg
open Go

/-- a reader's cells -/
structure TyRb (P : Program) (E : Env) : Prop where
  z : zeroOf P E.tRd = some (.agg #[.slice none 0 0, .bool false])
  pl : places P E.tRd = some [(0, 1), (1, 1)]
  k : kindOf P E.tRd = .agg 2

structure MsgRk (P : Program) (C : CfgR) (T PT flex df n : Nat) (S : Sch) (nl : Nat) : Prop where
  ty : TyR P C
  rb : TyRb P C.E
  tyR : S.tyR P C T n 1 = true
  need : S.NeedR P C
  endc : EndC P C
  dfl : DefRC P C.toCfg n df S
  f0 : fldOff P T 0 = some 0
  nl : (S.genR C T PT (if C.fx then 10 else 9) (ctR C false nl)).2.l ≤ nl

theorem bld_rd {P : Program} {E : Env} (ht : TyRb P E) {sv : Value} (h : sv.cells = #[sv]) : bld? P E.tRd [(0, sv)] = some (.agg #[sv, .bool false]) := by
  have hz : (Value.agg #[.slice none 0 0, .bool false]).cells = #[.slice none 0 0, .bool false] := rfl
  simp only [bld?, ht.z, ht.pl, Instr.fill, hz]
  simp [h]

theorem bytes_one {w : World} {K : Nat → Prop} {v : Value} {s : List UInt8} (h : BytesAt w K v s) : v.oneCell' = true := by
  obtain ⟨a, c, rfl, _⟩ := h.len; rfl

def ReadPost (C : CfgR) (S : Sch) (flex b a n D : Nat) (w : World) (cc : Array Value) (e : TypeId) (ver : Int) (ev : Value) (rs : RS) (v : Value) (w' : World) : Prop :=
  Ext (· = b) w w' ∧ (S.rd ver (flagAt C.toCfg flex ver) rs = none → v = ev) ∧
  ∀ x rs', S.rd ver (flagAt C.toCfg flex ver) rs = some (x, rs') → v = (if rs'.bad then ev else .nilIface) ∧
    ∃ cc', w'.heap[b]? = some (.cells cc' e (0, 0)) ∧ cc'.size = cc.size ∧ (∀ j, (j < a + 1 ∨ a + n ≤ j) → cc'[j]? = cc[j]?) ∧ S.Rep w' (fun k => k = D ∨ w.heap.size < k) (segL cc' a n) x

theorem readFrom {P : Program} {C : CfgR} {T PT flex df n nl nt g : Nat} {S : Sch} (hm : MsgRk P C T PT flex df n S nl) (hnt : 3 ≤ nt) (hI : FnIs P g nt [.t 6] (msgR C T PT flex df false S nl)) {w : World} {b a D : Nat} {cc : Array Value} {e : TypeId} {sv : Value} {src : List UInt8} {ver : Int} {ev : Value}
    (hb : w.heap[b]? = some (.cells cc e (0, 0))) (hfit : a + n ≤ cc.size) (hver : (setD a (S.dst C.toCfg) cc)[a]? = some (.int .i16 ver)) (hchk : S.chkD (segL (setD a (S.dst C.toCfg) cc) a n) = true) (hsrc : BytesAt w (· = D) sv src) (hD : D < w.heap.size) (hbD : b ≠ D)
    (herr : w.cell? ⟨C.E.g_kbin_ErrNotEnoughData, 0, none⟩ = some ev) (hgb : C.E.g_kbin_ErrNotEnoughData ≠ b) (hv0 : 0 ≤ ver) :
    Ret P g #[.pointer (some ⟨b, a, none⟩), sv, .bool false] w fun v w' => ReadPost C S flex b a n D w (setD a (S.dst C.toCfg) cc) e ver ev ⟨src, false, nonNil sv⟩ v w' := by
  obtain ⟨ht, hrb, htyR, hN, hE, hdef, hf0, hnl⟩ := hm
  have hlt := lt_of_heap hb
  have hl7 := (genR_mono (C := C) S T PT (if C.fx then 10 else 9) (ctR C false nl)).1
  have q6 : 10 ≤ (ctR C false nl).l := by simp only [ctR]; split <;> omega
  have q7 : C.fx = true → 11 ≤ (ctR C false nl).l := by intro h; simp [ctR, h]
  have qt : nl + 10 ≤ (ctR C false nl).t := by simp [ctR]; split <;> omega
  have hnl10 : 10 ≤ nl := by omega
  refine hI.ret (args := [_, _, _]) hnt ?_
  generalize hccD : setD a (S.dst C.toCfg) cc = ccD at *
  have hszD : ccD.size = cc.size := by subst hccD; exact setD_size _ _ _
  have hsv1 := bytes_one hsrc
  have hgw : C.E.g_kbin_ErrNotEnoughData < w.heap.size := World.block_lt_of_cell? w _ herr
  generalize hR : (⟨w.heap.size, D, w.heap.size + 1, ev⟩ : Rdr) = R
  have rpb : R.pb = w.heap.size := by subst hR; rfl
  have rD : R.D = D := by subst hR; rfl
  have rbase : R.base = w.heap.size + 1 := by subst hR; rfl
  have rev : R.ev = ev := by subst hR; rfl
  -- behind the head
  have behind : ∀ (f : Nat → Value) (w1 : World), Ext (· = b) w w1 → StR C R b a n w1 ccD e ⟨src, false, nonNil sv⟩ → f (if C.fx then 10 else 9) = .pointer (some ⟨b, a, none⟩) → f 2 = .bool false → f 7 = .pointer (some ⟨w.heap.size, 0, none⟩) → f 8 = .int .i16 ver → (C.fx = true → f 9 = .bool (flagAt C.toCfg flex ver)) →
      (seqL ((S.genR C T PT (if C.fx then 10 else 9) (ctR C false nl)).1 ++ completeI C (S.genR C T PT (if C.fx then 10 else 9) (ctR C false nl)).2.t)).wp P (retPost P [.t 6] fun v w' => ReadPost C S flex b a n D w ccD e ver ev ⟨src, false, nonNil sv⟩ v w') f w1 := by
    intro f w1 he1 hst fpv f2 f7 f8 f9
    have tot : ∀ w', Ext (CB R b) w1 w' → Ext (· = b) w w' := by
      intro w' h
      refine he1.trans' h ?_
      rintro x hx (h | h)
      · rw [rpb] at h; omega
      · exact h
    refine seqL_append ?_
    refine soundR ht S T PT _ (ctR C false nl) _ f w1 b a n 1 ccD e ver (flagAt C.toCfg flex ver) R ⟨src, false, nonNil sv⟩ htyR hN ?_ (by omega) hst hchk ?_ ?_
    · refine ⟨fpv, ?_, hv0, f8, f9, fun hx => by simp [flagAt, hx], by rw [rpb]; exact f7, f2, q6⟩
      split
      · rename_i hx; exact ⟨by omega, by have := q7 hx; omega⟩
      · exact ⟨by omega, by omega⟩
    · intro hnone f' w' h6 he
      show retPost P [.t 6] (fun v w' => ReadPost C S flex b a n D w ccD e ver ev ⟨src, false, nonNil sv⟩ v w') .ret f' w'
      simp [h6, rev]
      exact ⟨tot w' he, fun _ => rfl, fun x rs' h => by rw [hnone] at h; cases h⟩
    · intro x rs' hx f' w' cc' hto hrep
      have k7 : f' 7 = .pointer (some ⟨R.pb, 0, none⟩) := by rw [hto.keep 7 (by omega) (.inl (by omega)), rpb]; exact f7
      show (seqL (completeI C _)).wp P _ f' w'
      refine r_complete hE hto.st k7 ?_
      intro f'' h6
      show retPost P [.t 6] (fun v w' => ReadPost C S flex b a n D w ccD e ver ev ⟨src, false, nonNil sv⟩ v w') .ret f'' w'
      simp [h6, rev]
      refine ⟨tot w' hto.ext, fun h => (by rw [hx] at h; cases h), fun x2 rs2 h2 => ?_⟩
      rw [hx] at h2
      cases h2
      refine ⟨rfl, cc', hto.st.blk, hto.size, hto.same, Sch.Rep_mono (fun k hk => ?_) S hrep⟩
      rcases hk with h | h
      · exact .inl (by rw [← rD]; exact h)
      · exact .inr (by rw [rbase] at h; omega)
  -- the head
  have n0 : ∀ k, (0 = nl + k) = False := by intro k; simp; omega
  have n1 : ∀ k, (1 = nl + k) = False := by intro k; simp; omega
  have n2 : ∀ k, (2 = nl + k) = False := by intro k; simp; omega
  have n6 : ∀ k, (6 = nl + k) = False := by intro k; simp; omega
  have n7 : ∀ k, (7 = nl + k) = False := by intro k; simp; omega
  have n8 : ∀ k, (8 = nl + k) = False := by intro k; simp; omega
  have n9 : ∀ k, (9 = nl + k) = False := by intro k; simp; omega
  have n0' : (0 = nl) = False := by simp; omega
  have n1' : (1 = nl) = False := by simp; omega
  have n2' : (2 = nl) = False := by simp; omega
  have n7' : (7 = nl) = False := by simp; omega
  have n8' : (8 = nl) = False := by simp; omega
  have n9' : (9 = nl) = False := by simp; omega
  have m0 : (nl = 0) = False := by simp; omega
  have m1 : (nl = 1) = False := by simp; omega
  have m2 : (nl = 2) = False := by simp; omega
  have m3 : (nl = 3) = False := by simp; omega
  have m4 : (nl = 4) = False := by simp; omega
  have m5 : (nl = 5) = False := by simp; omega
  have m6 : (nl = 6) = False := by simp; omega
  have m7 : (nl = 7) = False := by simp; omega
  have m8 : (nl = 8) = False := by simp; omega
  have m9 : (nl = 9) = False := by simp; omega
  have kI16 : kindOf P C.E.tI16 = .scl := ht.c.kI16
  -- the world behind the head
  generalize hw1 : w.setBlk b (.cells ccD e (0, 0)) = w1
  have hw1s : w1.heap.size = w.heap.size := by subst hw1; simp
  have hbw1 : w1.heap[b]? = some (.cells ccD e (0, 0)) := by subst hw1; exact setBlk_same hb
  have hE1 : Ext (fun k => k = b) w w1 := by subst hw1; exact (Ext.refl (fun k => k = b) w).setBlk (b := b) (Or.inr rfl) _
  generalize hw2 : (w1.alloc (.cells #[.slice none 0 0, .bool false] C.E.tRd)).setBlk w1.heap.size (.cells #[sv, .bool false] C.E.tRd (0, 0)) = w2
  have hE2 : Ext none1 w1 w2 := by subst hw2; exact ((Ext.refl none1 w1).alloc _).setBlk (.inl (Nat.le_refl _)) _
  have hpb2 : w2.heap[w.heap.size]? = some (.cells #[sv, .bool false] C.E.tRd (0, 0)) := by subst hw2; rw [← hw1s]; exact setBlk_same alloc_new
  have hbw2 : w2.heap[b]? = some (.cells ccD e (0, 0)) := hE2.old hbw1 (fun h => h)
  have hE12 : Ext (fun k => k = b) w w2 := hE1.trans (hE2.mono (fun _ _ h => h.elim))
  have hst : StR C R b a n w2 ccD e ⟨src, false, nonNil sv⟩ := by
    refine ⟨hbw2, by omega, ?_, ⟨⟨?_, ?_, ?_, ?_⟩, ⟨?_, ?_, ?_⟩, ?_, ⟨?_, ?_⟩⟩⟩
    · rw [rpb, rD]
      exact ⟨sv, hpb2, hsrc.ext hE12 (by rintro k _ rfl h; exact hbD h.symm), rfl⟩
    · rw [rpb, rbase]; omega
    · rw [rbase]; omega
    · rw [rD, rbase]; omega
    · rw [rbase]; exact lt_of_heap hpb2
    · rw [rpb, rD]; omega
    · rw [rD]; exact hbD
    · rw [rpb]; omega
    · rw [rev]; exact hE12.cell herr (fun h => hgb h)
    · rw [rpb]; omega
    · exact hgb
  have cv : w2.cell? ⟨b, a, none⟩ = some (.int .i16 ver) := by rw [cell_of_blk hbw2]; exact hver
  have key : ∀ (fl : List Ir) (pv t' : Nat), pv = (if C.fx then 10 else 9) → t' = nl + (if C.fx then 12 else 9) → (if C.fx then [Ir.reg [⟨none, some (nl + 9), .move (.tmp 8), C.E.tI16⟩, ⟨none, some (nl + 10), .binOp .geq C.E.tI16 (.tmp (nl + 9)) (.const (.int .i16 flex)) C.E.tI16, C.E.tB⟩, ⟨none, some 9, .assign (.tmp (nl + 10)), C.E.tB⟩],
      .reg [⟨none, some (nl + 11), .move (.tmp 9), C.E.tB⟩]] else []) = fl →
      (seqL ([.reg [⟨none, some 6, .assign (.const .nilIface), C.E.tErr⟩],
    .reg [⟨none, some nl, .move (.tmp 0), PT⟩, ⟨none, some (nl + 1), .call { callee := .value (.func df), args := #[.tmp nl], argTypes := #[PT] }, C.E.tNil⟩],
    .reg [⟨none, some (nl + 2), .move (.tmp 1), C.E.tBs⟩, ⟨none, some (nl + 3), .build C.E.tRd #[(0, .tmp (nl + 2))], C.E.tRd⟩, ⟨none, some 7, .alloc C.E.tRd, C.E.tNil⟩, ⟨none, none, .store C.E.tRd (.tmp 7) (.tmp (nl + 3)), C.E.tNil⟩],
    .reg (addrR C.toCfg T PT 0 0 (nl + 4) ++ [⟨none, some (nl + 7), .load C.E.tI16 (.tmp (nl + 6)), C.E.tI16⟩, ⟨none, some 8, .assign (.tmp (nl + 7)), C.E.tI16⟩]),
    .reg [⟨none, some (nl + 8), .move (.tmp 8), C.E.tI16⟩]] ++ (fl ++ ([.reg [⟨none, some t', .move (.tmp 0), PT⟩, ⟨none, some pv, .assign (.tmp t'), PT⟩]] ++ ((S.genR C T PT (if C.fx then 10 else 9) (ctR C false nl)).1 ++ completeI C (S.genR C T PT (if C.fx then 10 else 9) (ctR C false nl)).2.t))))).wp P
        (retPost P [.t 6] fun v w' => ReadPost C S flex b a n D w ccD e ver ev ⟨src, false, nonNil sv⟩ v w') (frame0 [.pointer (some ⟨b, a, none⟩), sv, .bool false]) w := by
    intro fl pv t' hpv ht' hfl
    simp only [List.cons_append, List.nil_append]
    refine seqL_cons (wp_reg ?_)
    simp
    refine seqL_cons (wp_reg ?_)
    simp
    refine (hdef w b a cc e hb hfit).mono ?_
    rintro v w1' ⟨rfl⟩
    rw [hccD, hw1]
    refine seqL_cons (wp_reg ?_)
    simp [n0, n0', n1, n1', n2, n2', n6, n7, n7', n8, n8', n9, n9', m0, m1, m2, m3, m4, m5, m6, m7, m8, m9, bld_rd hrb (cells_one hsv1), hrb.z, Value.cells, store_agg hrb.k, putK_blk alloc_new, hsv1]
    have hov : over #[.slice none 0 0, .bool false] 0 [sv, .bool false] = #[sv, .bool false] := by simp [over]
    rw [hov, hw2]
    refine ⟨by simp only [allOne, hsv1, Bool.true_and]; rfl, ?_⟩
    show (seqL _).wp P _ _ w2
    refine seqL_cons (wp_reg ?_)
    simp [n0, n0', n1, n1', n2, n2', n6, n7, n7', n8, n8', n9, n9', m0, m1, m2, m3, m4, m5, m6, m7, m8, m9, addrR, hf0, Addr.add_mk, ld_scl kI16, cv]
    refine seqL_cons (wp_reg ?_)
    simp [n0, n0', n1, n1', n2, n2', n6, n7, n7', n8, n8', n9, n9', m0, m1, m2, m3, m4, m5, m6, m7, m8, m9]
    refine seqL_append ?_
    have e1w : w1.heap.size = w.heap.size := hw1s
    by_cases hx : C.fx = true
    · rw [if_pos hx] at hfl
      subst hfl
      rw [if_pos hx] at hpv ht'
      subst hpv
      subst ht'
      refine seqL_cons (wp_reg ?_)
      simp [n0, n0', n1, n1', n2, n2', n6, n7, n7', n8, n8', n9, n9', m0, m1, m2, m3, m4, m5, m6, m7, m8, m9]
      show (Ir.reg _).wp P _ _ _
      refine wp_reg ?_
      simp [n0, n0', n1, n1', n2, n2', n6, n7, n7', n8, n8', n9, n9', m0, m1, m2, m3, m4, m5, m6, m7, m8, m9]
      refine seqL_cons (wp_reg ?_)
      simp [n0, n0', n1, n1', n2, n2', n6, n7, n7', n8, n8', n9, n9', m0, m1, m2, m3, m4, m5, m6, m7, m8, m9]
      refine behind _ w2 hE12 hst ?_ ?_ ?_ ?_ ?_
      · simp [n0, n0', n1, n1', n2, n2', n6, n7, n7', n8, n8', n9, n9', m0, m1, m2, m3, m4, m5, m6, m7, m8, m9, hx]
      · simp [n0, n0', n1, n1', n2, n2', n6, n7, n7', n8, n8', n9, n9', m0, m1, m2, m3, m4, m5, m6, m7, m8, m9]
      · simp [n0, n0', n1, n1', n2, n2', n6, n7, n7', n8, n8', n9, n9', m0, m1, m2, m3, m4, m5, m6, m7, m8, m9, e1w]
      · simp [n0, n0', n1, n1', n2, n2', n6, n7, n7', n8, n8', n9, n9', m0, m1, m2, m3, m4, m5, m6, m7, m8, m9]
      · intro _; simp [n0, n0', n1, n1', n2, n2', n6, n7, n7', n8, n8', n9, n9', m0, m1, m2, m3, m4, m5, m6, m7, m8, m9, flagAt, hx]
    · rw [if_neg hx] at hfl
      subst hfl
      rw [if_neg hx] at hpv ht'
      subst hpv
      subst ht'
      show (seqL _).wp P _ _ w2
      refine seqL_cons (wp_reg ?_)
      simp [n0, n0', n1, n1', n2, n2', n6, n7, n7', n8, n8', n9, n9', m0, m1, m2, m3, m4, m5, m6, m7, m8, m9]
      refine behind _ w2 hE12 hst ?_ ?_ ?_ ?_ ?_
      · simp [n0, n0', n1, n1', n2, n2', n6, n7, n7', n8, n8', n9, n9', m0, m1, m2, m3, m4, m5, m6, m7, m8, m9, hx]
      · simp [n0, n0', n1, n1', n2, n2', n6, n7, n7', n8, n8', n9, n9', m0, m1, m2, m3, m4, m5, m6, m7, m8, m9]
      · simp [n0, n0', n1, n1', n2, n2', n6, n7, n7', n8, n8', n9, n9', m0, m1, m2, m3, m4, m5, m6, m7, m8, m9, e1w]
      · simp [n0, n0', n1, n1', n2, n2', n6, n7, n7', n8, n8', n9, n9', m0, m1, m2, m3, m4, m5, m6, m7, m8, m9]
      · intro h; exact absurd h hx
  have := key _ _ _ rfl rfl rfl
  simp only [← List.append_assoc] at this
  exact this
end Go.Kg

set_option linter.unusedSimpArgs false
set_option linter.unusedVariables false
set_option linter.unusedSectionVars false
namespace Go.Kg
open Go

/-! ## PrimR, LenRC, EndC from the readers' contracts -/
section
variable {P : Program} {C : CfgR}

theorem primR_of {p : Prim} {f : Nat} {g : RS → Value × RS} {fl : Bool} (hf : p.fR C.E fl = f) (h : RdC P C.E.tRd f g) (h1 : ∀ w K rs, p.rep1 w K (g rs).1 (p.rd fl rs).1) (h2 : ∀ rs, (g rs).2 = (p.rd fl rs).2) : ∀ w pb D rs, pb ≠ D → D < w.heap.size → RdAt C.E.tRd w pb D rs →
    Ret P (p.fR C.E fl) #[.pointer (some ⟨pb, 0, none⟩)] w fun v w' => p.rep1 w' (fun b => b = D ∨ w.heap.size ≤ b) v (p.rd fl rs).1 ∧ Ext (· = pb) w w' ∧ RdAt C.E.tRd w' pb D (p.rd fl rs).2 := by
  intro w pb D rs hne hD hr
  subst hf
  refine (h w pb D rs hne hr).mono ?_
  rintro v w1 ⟨rfl, he, hr1⟩
  exact ⟨h1 _ _ _, he, by rw [← h2]; exact hr1⟩

theorem primR_bool (h : RdC P C.E.tRd C.E.f_pkbin_Reader_Bool fun rs => (.bool (boolOf (rdFixed 1 rs).1), (rdFixed 1 rs).2)) : PrimR P C .bool := fun fl _ => primR_of rfl h (fun _ _ _ => rfl) (fun _ => rfl)
theorem primR_i8 (h : RdC P C.E.tRd C.E.f_pkbin_Reader_Int8 fun rs => (.int .i8 (IntKind.i8.wrap (rdFixed 1 rs).1), (rdFixed 1 rs).2)) : PrimR P C .i8 := fun fl _ => primR_of rfl h (fun _ _ _ => rfl) (fun _ => rfl)
theorem primR_i16 (h : RdC P C.E.tRd C.E.f_pkbin_Reader_Int16 fun rs => (.int .i16 (IntKind.i16.wrap (rdFixed 2 rs).1), (rdFixed 2 rs).2)) : PrimR P C .i16 := fun fl _ => primR_of rfl h (fun _ _ _ => rfl) (fun _ => rfl)
theorem rdFixed_lt (k : Nat) (rs : RS) : (rdFixed k rs).1 < 256 ^ k := by
  unfold rdFixed; split
  · exact Nat.pow_pos (by omega)
  · exact be_take_lt _ _
theorem primR_u16 (h : RdC P C.E.tRd C.E.f_pkbin_Reader_Uint16 fun rs => (.int .u16 ((rdFixed 2 rs).1 : Nat), (rdFixed 2 rs).2)) : PrimR P C .u16 := fun fl _ => primR_of rfl h (fun _ _ rs => ⟨(rdFixed 2 rs).1, rfl, rdFixed_lt 2 rs, rfl⟩) (fun _ => rfl)
theorem primR_i32 (h : RdC P C.E.tRd C.E.f_pkbin_Reader_Int32 fun rs => (.int .i32 (IntKind.i32.wrap (rdFixed 4 rs).1), (rdFixed 4 rs).2)) : PrimR P C .i32 := fun fl _ => primR_of rfl h (fun _ _ _ => rfl) (fun _ => rfl)
theorem primR_i64 (h : RdC P C.E.tRd C.E.f_pkbin_Reader_Int64 fun rs => (.int .i64 (IntKind.i64.wrap (rdFixed 8 rs).1), (rdFixed 8 rs).2)) : PrimR P C .i64 := fun fl _ => primR_of rfl h (fun _ _ _ => rfl) (fun _ => rfl)
theorem primR_str (h : RdC P C.E.tRd C.E.f_pkbin_Reader_String fun rs => (strV (rdStr rs).1, (rdStr rs).2)) (hc : C.fx = true → RdC P C.E.tRd C.E.f_pkbin_Reader_CompactString fun rs => (strV (rdCStr rs).1, (rdCStr rs).2)) : PrimR P C .str := by
  intro fl hx
  cases fl
  · exact primR_of rfl h (fun _ _ _ => rfl) (fun _ => rfl)
  · exact primR_of rfl (hc (hx rfl)) (fun _ _ _ => rfl) (fun _ => rfl)

theorem primRP_of {p : Prim} {f : Nat} {g : RS → p.T × RS} {Rx : World → Nat → World → Value → p.T → Prop} {fl : Bool} (hf : p.fR C.E fl = f) (h : RdPC P C.E.tRd f Rx g) (hg : p.rd fl = g) (h1 : ∀ w0 D w v x, Rx w0 D w v x → p.rep1 w (fun b => b = D ∨ w0.heap.size ≤ b) v x) : ∀ w pb D rs, pb ≠ D → D < w.heap.size → RdAt C.E.tRd w pb D rs →
    Ret P (p.fR C.E fl) #[.pointer (some ⟨pb, 0, none⟩)] w fun v w' => p.rep1 w' (fun b => b = D ∨ w.heap.size ≤ b) v (p.rd fl rs).1 ∧ Ext (· = pb) w w' ∧ RdAt C.E.tRd w' pb D (p.rd fl rs).2 := by
  intro w pb D rs hne hD hr
  subst hf
  rw [hg]
  refine (h w pb D rs hne hD hr).mono ?_
  rintro v w1 ⟨h2, he, hr1⟩
  exact ⟨h1 _ _ _ _ _ h2, he, hr1⟩
theorem primR_uuid (h : RdPC P C.E.tRd C.E.f_pkbin_Reader_Uuid RUuid rdUuid) : PrimR P C .uuid := fun fl _ => primRP_of rfl h rfl (fun _ _ _ _ _ h => h)
theorem primR_nstr (h : RdPC P C.E.tRd C.E.f_pkbin_Reader_NullableString RNStr rdNStr) (hc : C.fx = true → RdPC P C.E.tRd C.E.f_pkbin_Reader_CompactNullableString RNStr rdCNStr) : PrimR P C .nstr := by
  intro fl hx
  cases fl
  · exact primRP_of rfl h rfl (fun w0 D w v x h => show StrPtr w (fun b => b = D ∨ w0.heap.size ≤ b) v x from StrPtr.mono (fun _ hb => Or.inr hb) h)
  · exact primRP_of rfl (hc (hx rfl)) rfl (fun w0 D w v x h => show StrPtr w (fun b => b = D ∨ w0.heap.size ≤ b) v x from StrPtr.mono (fun _ hb => Or.inr hb) h)
theorem primR_bytes (h : RdPC P C.E.tRd C.E.f_pkbin_Reader_Bytes RBytes rdBytes) (hc : C.fx = true → RdPC P C.E.tRd C.E.f_pkbin_Reader_CompactBytes RBytes rdCBytes) : PrimR P C .bytes := by
  intro fl hx
  cases fl
  · exact primRP_of rfl h rfl (fun w0 D w v x h => show BytesAt w (fun b => b = D ∨ w0.heap.size ≤ b) v x from BytesAt.mono h (fun _ _ hb => Or.inl hb))
  · exact primRP_of rfl (hc (hx rfl)) rfl (fun w0 D w v x h => show BytesAt w (fun b => b = D ∨ w0.heap.size ≤ b) v x from BytesAt.mono h (fun _ _ hb => Or.inl hb))
theorem primR_nbytes (h : RdPC P C.E.tRd C.E.f_pkbin_Reader_NullableBytes RNBytes rdNBytes) (hc : C.fx = true → RdPC P C.E.tRd C.E.f_pkbin_Reader_CompactNullableBytes RNBytes rdCNBytes) : PrimR P C .nbytes := by
  intro fl hx
  cases fl
  · exact primRP_of rfl h rfl (fun w0 D w v x h => show BytesOpt w (fun b => b = D ∨ w0.heap.size ≤ b) v x from BytesOpt.mono (fun _ hb => Or.inl hb) h)
  · exact primRP_of rfl (hc (hx rfl)) rfl (fun w0 D w v x h => show BytesOpt w (fun b => b = D ∨ w0.heap.size ≤ b) v x from BytesOpt.mono (fun _ hb => Or.inl hb) h)

theorem lenRC_of (h : RdC P C.E.tRd C.E.f_pkbin_Reader_ArrayLen fun rs => (.int .i32 (rdLen rs).1, (rdLen rs).2)) (hc : C.fx = true → RdC P C.E.tRd C.E.f_pkbin_Reader_CompactArrayLen fun rs => (.int .i32 (rdCLen rs).1, (rdCLen rs).2)) : LenRC P C := by
  intro fl hx w pb D rs hne hr
  cases fl
  · exact h w pb D rs hne hr
  · exact hc (hx rfl) w pb D rs hne hr
theorem endC_of (ht : TyRs P C.E) (kErr : kindOf P C.E.tErr = .scl) (h1 : FnIs P C.E.f_pkbin_Reader_Ok nt_pkbin_Reader_Ok (rs_pkbin_Reader_Ok C.E) (ir_pkbin_Reader_Ok C.E))
    (h2 : FnIs P C.E.f_pkbin_Reader_Complete nt_pkbin_Reader_Complete (rs_pkbin_Reader_Complete C.E) (ir_pkbin_Reader_Complete C.E)) : EndC P C :=
  ⟨fun w pb D rs hr => c_Ok ht h1 hr, fun w pb D rs ev hr hev => c_Complete ht kErr h2 hr hev⟩
end
end Go.Kg

set_option linter.unusedVariables false
namespace Go.Kg
open Go

def ir_spec_Write (E : Env) : Ir :=
  (.seq
    (.reg [
        ⟨none, some 3, .box E.t_spec_Message (.tmp 0), E.tNil⟩,
        ⟨none, some 5, .box E.t_spec_Tree (.tmp 2), E.tNil⟩,
        ⟨none, some 6, .assign (.const (.slice none 0 0)), E.tBs⟩])
  (.seq
    (.reg [
        ⟨none, some 7, .fieldAddr E.t_spec_Message (.tmp 3) 0, E.tNil⟩,
        ⟨none, some 8, .load E.t_l_spec_Field (.tmp 7), E.t_l_spec_Field⟩,
        ⟨none, some 9, .move (.tmp 1), E.tInt⟩,
        ⟨none, some 10, .fieldAddr E.t_spec_Message (.tmp 3) 1, E.tNil⟩,
        ⟨none, some 11, .load E.tInt (.tmp 10), E.tInt⟩,
        ⟨none, some 12, .binOp .geq E.tInt (.tmp 11) (.const (.int .i64 0)) E.tInt, E.tB⟩,
        ⟨none, some 13, .move (.tmp 12), E.tB⟩,
        ⟨(some (13, true)), some 14, .move (.tmp 1), E.tInt⟩,
        ⟨(some (13, true)), some 15, .fieldAddr E.t_spec_Message (.tmp 3) 1, E.tNil⟩,
        ⟨(some (13, true)), some 16, .load E.tInt (.tmp 15), E.tInt⟩,
        ⟨(some (13, true)), some 17, .binOp .geq E.tInt (.tmp 14) (.tmp 16) E.tInt, E.tB⟩,
        ⟨none, some 18, .pick (.tmp 13) (.tmp 17) (.const (.bool false)), E.tB⟩,
        ⟨none, some 19, .load E.t_spec_Tree (.tmp 5), E.t_spec_Tree⟩,
        ⟨none, some 20, .call { callee := .value (.func E.f_spec_part), args := #[.tmp 8, .tmp 9, .tmp 18, .tmp 19], argTypes := #[E.t_l_spec_Field, E.tInt, E.tB, E.t_spec_Tree] }, E.tBs⟩,
        ⟨none, some 6, .assign (.tmp 20), E.tBs⟩])
  .ret))
def nt_spec_Write : Nat := 21
def rs_spec_Write (E : Env) : List Rv := [.t 6]

def ir_spec_part (E : Env) : Ir :=
  (.seq
    (.reg [
        ⟨none, some 7, .box E.t_spec_Tree (.tmp 3), E.tNil⟩,
        ⟨none, some 8, .assign (.const (.slice none 0 0)), E.tBs⟩])
  (.seq
    (.reg [
        ⟨none, some 9, .assign (.const (.slice none 0 0)), E.tBs⟩,
        ⟨none, some 10, .assign (.const (.slice none 0 0)), E.tBs⟩])
  (.seq
    (.reg [
        ⟨none, some 11, .assign (.const (.int .i64 0)), E.tInt⟩])
  (.seq
    (.seq
      (.reg [
          ⟨none, some 21, .move (.tmp 0), E.t_l_spec_Field⟩,
          ⟨none, some 22, .call { callee := .builtin .len, args := #[.tmp 21], argTypes := #[E.t_l_spec_Field] }, E.tInt⟩,
          ⟨none, some 23, .move (.const (.int .i64 0)), E.tInt⟩])
    (.block 0
      (.loop
        (.seq
          (.reg [
              ⟨none, some 24, .binOp .lss E.tInt (.tmp 23) (.tmp 22) E.tInt, E.tNil⟩])
        (.seq
          (.cond 24
            .skip
            (.exit 0))
        (.seq
          (.block 1
            (.seq
              (.reg [
                  ⟨none, some 25, .move (.tmp 23), E.tInt⟩,
                  ⟨none, some 26, .indexAddr E.t_l_spec_Field (.tmp 21) (.tmp 23), E.tNil⟩,
                  ⟨none, some 27, .load E.t_spec_Field (.tmp 26), E.t_spec_Field⟩,
                  ⟨none, some 13, .alloc E.t_spec_Field, E.tNil⟩,
                  ⟨none, some 12, .assign (.tmp 25), E.tInt⟩,
                  ⟨none, none, .store E.t_spec_Field (.tmp 13) (.tmp 27), E.tNil⟩])
            (.seq
              (.reg [
                  ⟨none, some 28, .fieldAddr E.t_spec_Field (.tmp 13) 4, E.tNil⟩,
                  ⟨none, some 29, .load E.tInt (.tmp 28), E.tInt⟩,
                  ⟨none, some 30, .binOp .lss E.tInt (.tmp 29) (.const (.int .i64 0)) E.tInt, E.tB⟩,
                  ⟨none, some 31, .move (.tmp 30), E.tB⟩,
                  ⟨(some (31, true)), some 32, .load E.t_spec_Field (.tmp 13), E.t_spec_Field⟩,
                  ⟨(some (31, true)), some 33, .move (.tmp 1), E.tInt⟩,
                  ⟨(some (31, true)), some 34, .call { callee := .value (.func E.f_spec_Field_has), args := #[.tmp 32, .tmp 33], argTypes := #[E.t_spec_Field, E.tInt] }, E.tB⟩,
                  ⟨none, some 35, .pick (.tmp 31) (.tmp 34) (.const (.bool false)), E.tB⟩])
            (.cond 35
              (.regH [
                  (true, ⟨none, some 36, .move (.tmp 9), E.tBs⟩),
                  (true, ⟨none, some 37, .load E.t_spec_Field (.tmp 13), E.t_spec_Field⟩),
                  (true, ⟨none, some 38, .move (.tmp 1), E.tInt⟩),
                  (true, ⟨none, some 39, .move (.tmp 2), E.tB⟩),
                  (true, ⟨none, some 40, .load E.t_spec_Tree (.tmp 7), E.t_spec_Tree⟩),
                  (true, ⟨none, some 41, .move (.tmp 12), E.tInt⟩),
                  (false, ⟨none, some 42, .call { callee := .value (.func E.f_spec_at), args := #[.tmp 40, .tmp 41], argTypes := #[E.t_spec_Tree, E.tInt] }, E.t_spec_Tree⟩),
                  (false, ⟨none, some 43, .call { callee := .value (.func E.f_spec_field), args := #[.tmp 37, .tmp 38, .tmp 39, .tmp 42], argTypes := #[E.t_spec_Field, E.tInt, E.tB, E.t_spec_Tree] }, E.tBs⟩),
                  (false, ⟨none, some 44, .call { callee := .builtin .append, args := #[.tmp 36, .tmp 43], argTypes := #[E.tBs, E.tBs] }, E.tBs⟩),
                  (true, ⟨none, some 9, .assign (.tmp 44), E.tBs⟩)])
              .skip))))
        (.reg [
            ⟨none, some 45, .binOp .add E.tInt (.tmp 23) (.const (.int .i64 1)) E.tInt, E.tInt⟩,
            ⟨none, some 23, .move (.tmp 45), E.tInt⟩])))))))
  (.seq
    (.seq
      (.reg [
          ⟨none, some 46, .move (.tmp 2), E.tB⟩,
          ⟨none, some 47, .unOp .not E.tB (.tmp 46), E.tB⟩])
    (.cond 47
      (.seq
        (.reg [
            ⟨none, some 48, .move (.tmp 9), E.tBs⟩,
            ⟨none, some 8, .assign (.tmp 48), E.tBs⟩])
      .ret)
      .skip))
  (.seq
    (.seq
      (.reg [
          ⟨none, some 49, .move (.tmp 0), E.t_l_spec_Field⟩,
          ⟨none, some 50, .call { callee := .value (.func E.f_spec_known), args := #[.tmp 49], argTypes := #[E.t_l_spec_Field] }, E.tU32⟩,
          ⟨none, some 51, .convert E.tU32 E.tInt (.tmp 50), E.tInt⟩,
          ⟨none, some 52, .move (.const (.int .i64 0)), E.tInt⟩])
    (.block 2
      (.loop
        (.seq
          (.reg [
              ⟨none, some 53, .binOp .lss E.tInt (.tmp 52) (.tmp 51) E.tInt, E.tB⟩])
        (.seq
          (.cond 53
            .skip
            (.exit 2))
        (.seq
          (.block 3
            (.seq
              (.reg [
                  ⟨none, some 54, .move (.tmp 52), E.tInt⟩,
                  ⟨none, some 14, .assign (.tmp 54), E.tInt⟩])
            (.seq
              (.reg [
                  ⟨none, some 55, .move (.tmp 0), E.t_l_spec_Field⟩,
                  ⟨none, some 56, .call { callee := .builtin .len, args := #[.tmp 55], argTypes := #[E.t_l_spec_Field] }, E.tInt⟩,
                  ⟨none, some 57, .move (.const (.int .i64 0)), E.tInt⟩])
            (.block 4
              (.loop
                (.seq
                  (.reg [
                      ⟨none, some 58, .binOp .lss E.tInt (.tmp 57) (.tmp 56) E.tInt, E.tNil⟩])
                (.seq
                  (.cond 58
                    .skip
                    (.exit 4))
                (.seq
                  (.block 5
                    (.seq
                      (.reg [
                          ⟨none, some 59, .move (.tmp 57), E.tInt⟩,
                          ⟨none, some 60, .indexAddr E.t_l_spec_Field (.tmp 55) (.tmp 57), E.tNil⟩,
                          ⟨none, some 61, .load E.t_spec_Field (.tmp 60), E.t_spec_Field⟩,
                          ⟨none, some 16, .alloc E.t_spec_Field, E.tNil⟩,
                          ⟨none, some 15, .assign (.tmp 59), E.tInt⟩,
                          ⟨none, none, .store E.t_spec_Field (.tmp 16) (.tmp 61), E.tNil⟩])
                    (.seq
                      (.regH [
                          (true, ⟨none, some 62, .fieldAddr E.t_spec_Field (.tmp 16) 4, E.tNil⟩),
                          (true, ⟨none, some 63, .load E.tInt (.tmp 62), E.tInt⟩),
                          (true, ⟨none, some 64, .move (.tmp 14), E.tInt⟩),
                          (true, ⟨none, some 65, .binOp .eql E.tInt (.tmp 63) (.tmp 64) E.tInt, E.tB⟩),
                          (true, ⟨none, some 66, .move (.tmp 65), E.tB⟩),
                          (true, ⟨(some (66, true)), some 67, .load E.t_spec_Field (.tmp 16), E.t_spec_Field⟩),
                          (true, ⟨(some (66, true)), some 68, .load E.t_spec_Tree (.tmp 7), E.t_spec_Tree⟩),
                          (true, ⟨(some (66, true)), some 69, .move (.tmp 15), E.tInt⟩),
                          (false, ⟨(some (66, true)), some 70, .call { callee := .value (.func E.f_spec_at), args := #[.tmp 68, .tmp 69], argTypes := #[E.t_spec_Tree, E.tInt] }, E.t_spec_Tree⟩),
                          (false, ⟨(some (66, true)), some 71, .call { callee := .value (.func E.f_spec_usual), args := #[.tmp 67, .tmp 70], argTypes := #[E.t_spec_Field, E.t_spec_Tree] }, E.tB⟩),
                          (true, ⟨(some (66, true)), some 72, .unOp .not E.tB (.tmp 71), E.tB⟩),
                          (true, ⟨none, some 73, .pick (.tmp 66) (.tmp 72) (.const (.bool false)), E.tB⟩)])
                    (.cond 73
                      (.seq
                        (.regH [
                            (true, ⟨none, some 74, .load E.t_spec_Field (.tmp 16), E.t_spec_Field⟩),
                            (true, ⟨none, some 75, .move (.tmp 1), E.tInt⟩),
                            (true, ⟨none, some 76, .move (.tmp 2), E.tB⟩),
                            (true, ⟨none, some 77, .load E.t_spec_Tree (.tmp 7), E.t_spec_Tree⟩),
                            (true, ⟨none, some 78, .move (.tmp 15), E.tInt⟩),
                            (false, ⟨none, some 79, .call { callee := .value (.func E.f_spec_at), args := #[.tmp 77, .tmp 78], argTypes := #[E.t_spec_Tree, E.tInt] }, E.t_spec_Tree⟩),
                            (false, ⟨none, some 80, .call { callee := .value (.func E.f_spec_field), args := #[.tmp 74, .tmp 75, .tmp 76, .tmp 79], argTypes := #[E.t_spec_Field, E.tInt, E.tB, E.t_spec_Tree] }, E.tBs⟩),
                            (true, ⟨none, some 17, .assign (.tmp 80), E.tBs⟩)])
                      (.seq
                        (.reg [
                            ⟨none, some 81, .move (.tmp 10), E.tBs⟩,
                            ⟨none, some 82, .move (.tmp 14), E.tInt⟩,
                            ⟨none, some 83, .convert E.tInt E.tU64 (.tmp 82), E.tU64⟩,
                            ⟨none, some 84, .call { callee := .value (.func E.f_spec_Uvarint), args := #[.tmp 83], argTypes := #[E.tU64] }, E.tBs⟩,
                            ⟨none, some 85, .call { callee := .builtin .append, args := #[.tmp 81, .tmp 84], argTypes := #[E.tBs, E.tBs] }, E.tBs⟩,
                            ⟨none, some 86, .move (.tmp 17), E.tBs⟩,
                            ⟨none, some 87, .call { callee := .builtin .len, args := #[.tmp 86], argTypes := #[E.tBs] }, E.tInt⟩,
                            ⟨none, some 88, .convert E.tInt E.tU64 (.tmp 87), E.tU64⟩,
                            ⟨none, some 89, .call { callee := .value (.func E.f_spec_Uvarint), args := #[.tmp 88], argTypes := #[E.tU64] }, E.tBs⟩,
                            ⟨none, some 90, .call { callee := .builtin .append, args := #[.tmp 85, .tmp 89], argTypes := #[E.tBs, E.tBs] }, E.tBs⟩,
                            ⟨none, some 91, .move (.tmp 17), E.tBs⟩,
                            ⟨none, some 92, .call { callee := .builtin .append, args := #[.tmp 90, .tmp 91], argTypes := #[E.tBs, E.tBs] }, E.tBs⟩,
                            ⟨none, some 10, .assign (.tmp 92), E.tBs⟩])
                      (.reg [
                          ⟨none, some 93, .move (.tmp 11), E.tInt⟩,
                          ⟨none, some 94, .binOp .add E.tInt (.tmp 93) (.const (.int .i64 1)) E.tInt, E.tInt⟩,
                          ⟨none, some 11, .assign (.tmp 94), E.tInt⟩])))
                      .skip))))
                (.reg [
                    ⟨none, some 95, .binOp .add E.tInt (.tmp 57) (.const (.int .i64 1)) E.tInt, E.tInt⟩,
                    ⟨none, some 57, .move (.tmp 95), E.tInt⟩])))))))))
        (.reg [
            ⟨none, some 96, .binOp .add E.tInt (.tmp 52) (.const (.int .i64 1)) E.tInt, E.tInt⟩,
            ⟨none, some 52, .move (.tmp 96), E.tInt⟩])))))))
  (.seq
    (.seq
      (.reg [
          ⟨none, some 97, .move (.tmp 0), E.t_l_spec_Field⟩,
          ⟨none, some 98, .fieldAddr E.t_spec_Tree (.tmp 7) 4, E.tNil⟩,
          ⟨none, some 99, .load E.t_l_spec_Tag (.tmp 98), E.t_l_spec_Tag⟩,
          ⟨none, some 100, .call { callee := .value (.func E.f_spec_unknown), args := #[.tmp 97, .tmp 99], argTypes := #[E.t_l_spec_Field, E.t_l_spec_Tag] }, E.t_l_spec_Tag⟩,
          ⟨none, some 101, .call { callee := .builtin .len, args := #[.tmp 100], argTypes := #[E.t_l_spec_Tag] }, E.tInt⟩,
          ⟨none, some 102, .move (.const (.int .i64 0)), E.tInt⟩])
    (.block 6
      (.loop
        (.seq
          (.reg [
              ⟨none, some 103, .binOp .lss E.tInt (.tmp 102) (.tmp 101) E.tInt, E.tNil⟩])
        (.seq
          (.cond 103
            .skip
            (.exit 6))
        (.seq
          (.block 7
            (.seq
              (.reg [
                  ⟨none, some 104, .indexAddr E.t_l_spec_Tag (.tmp 100) (.tmp 102), E.tNil⟩,
                  ⟨none, some 105, .load E.t_spec_Tag (.tmp 104), E.t_spec_Tag⟩,
                  ⟨none, some 19, .alloc E.t_spec_Tag, E.tNil⟩,
                  ⟨none, none, .store E.t_spec_Tag (.tmp 19) (.tmp 105), E.tNil⟩])
            (.seq
              (.reg [
                  ⟨none, some 106, .fieldAddr E.t_spec_Tag (.tmp 19) 1, E.tNil⟩,
                  ⟨none, some 107, .load E.tBs (.tmp 106), E.tBs⟩,
                  ⟨none, some 108, .call { callee := .value (.func E.f_spec_whole), args := #[.tmp 107], argTypes := #[E.tBs] }, E.tBs⟩,
                  ⟨none, some 20, .assign (.tmp 108), E.tBs⟩])
            (.seq
              (.reg [
                  ⟨none, some 109, .move (.tmp 10), E.tBs⟩,
                  ⟨none, some 110, .fieldAddr E.t_spec_Tag (.tmp 19) 0, E.tNil⟩,
                  ⟨none, some 111, .load E.tU32 (.tmp 110), E.tU32⟩,
                  ⟨none, some 112, .convert E.tU32 E.tU64 (.tmp 111), E.tU64⟩,
                  ⟨none, some 113, .call { callee := .value (.func E.f_spec_Uvarint), args := #[.tmp 112], argTypes := #[E.tU64] }, E.tBs⟩,
                  ⟨none, some 114, .call { callee := .builtin .append, args := #[.tmp 109, .tmp 113], argTypes := #[E.tBs, E.tBs] }, E.tBs⟩,
                  ⟨none, some 115, .move (.tmp 20), E.tBs⟩,
                  ⟨none, some 116, .call { callee := .builtin .len, args := #[.tmp 115], argTypes := #[E.tBs] }, E.tInt⟩,
                  ⟨none, some 117, .convert E.tInt E.tU64 (.tmp 116), E.tU64⟩,
                  ⟨none, some 118, .call { callee := .value (.func E.f_spec_Uvarint), args := #[.tmp 117], argTypes := #[E.tU64] }, E.tBs⟩,
                  ⟨none, some 119, .call { callee := .builtin .append, args := #[.tmp 114, .tmp 118], argTypes := #[E.tBs, E.tBs] }, E.tBs⟩,
                  ⟨none, some 120, .move (.tmp 20), E.tBs⟩,
                  ⟨none, some 121, .call { callee := .builtin .append, args := #[.tmp 119, .tmp 120], argTypes := #[E.tBs, E.tBs] }, E.tBs⟩,
                  ⟨none, some 10, .assign (.tmp 121), E.tBs⟩])
            (.reg [
                ⟨none, some 122, .move (.tmp 11), E.tInt⟩,
                ⟨none, some 123, .binOp .add E.tInt (.tmp 122) (.const (.int .i64 1)) E.tInt, E.tInt⟩,
                ⟨none, some 11, .assign (.tmp 123), E.tInt⟩])))))
        (.reg [
            ⟨none, some 124, .binOp .add E.tInt (.tmp 102) (.const (.int .i64 1)) E.tInt, E.tInt⟩,
            ⟨none, some 102, .move (.tmp 124), E.tInt⟩])))))))
  (.seq
    (.reg [
        ⟨none, some 125, .move (.tmp 9), E.tBs⟩,
        ⟨none, some 126, .move (.tmp 11), E.tInt⟩,
        ⟨none, some 127, .convert E.tInt E.tU64 (.tmp 126), E.tU64⟩,
        ⟨none, some 128, .call { callee := .value (.func E.f_spec_Uvarint), args := #[.tmp 127], argTypes := #[E.tU64] }, E.tBs⟩,
        ⟨none, some 129, .call { callee := .builtin .append, args := #[.tmp 125, .tmp 128], argTypes := #[E.tBs, E.tBs] }, E.tBs⟩,
        ⟨none, some 130, .move (.tmp 10), E.tBs⟩,
        ⟨none, some 131, .call { callee := .builtin .append, args := #[.tmp 129, .tmp 130], argTypes := #[E.tBs, E.tBs] }, E.tBs⟩,
        ⟨none, some 8, .assign (.tmp 131), E.tBs⟩])
  .ret))))))))
def nt_spec_part : Nat := 132
def rs_spec_part (E : Env) : List Rv := [.t 8]

def ir_spec_field (E : Env) : Ir :=
  (.seq
    (.reg [
        ⟨none, some 4, .box E.t_spec_Field (.tmp 0), E.tNil⟩,
        ⟨none, some 7, .box E.t_spec_Tree (.tmp 3), E.tNil⟩,
        ⟨none, some 8, .assign (.const (.slice none 0 0)), E.tBs⟩])
  (.seq
    (.reg [
        ⟨none, some 13, .load E.t_spec_Field (.tmp 4), E.t_spec_Field⟩,
        ⟨none, some 14, .move (.tmp 1), E.tInt⟩,
        ⟨none, some 15, .load E.t_spec_Tree (.tmp 7), E.t_spec_Tree⟩,
        ⟨none, some 16, .call { callee := .value (.func E.f_spec_Field_null), args := #[.tmp 13, .tmp 14, .tmp 15], argTypes := #[E.t_spec_Field, E.tInt, E.t_spec_Tree] }, E.tB⟩,
        ⟨none, some 9, .assign (.tmp 16), E.tB⟩])
  (.seq
    (.seq
      (.reg [
          ⟨none, some 17, .fieldAddr E.t_spec_Field (.tmp 4) 0, E.tNil⟩,
          ⟨none, some 18, .load E.tInt (.tmp 17), E.tInt⟩,
          ⟨none, some 19, .binOp .eql E.tInt (.tmp 18) (.const (.int .i64 11)) E.tInt, E.tB⟩])
    (.cond 19
      (.seq
        (.reg [
            ⟨none, some 20, .fieldAddr E.t_spec_Tree (.tmp 7) 3, E.tNil⟩,
            ⟨none, some 21, .load E.t_l_spec_Tree (.tmp 20), E.t_l_spec_Tree⟩,
            ⟨none, some 22, .call { callee := .value (.func E.f_spec_things), args := #[.tmp 21], argTypes := #[E.t_l_spec_Tree] }, E.t_l_spec_Tree⟩,
            ⟨none, some 10, .assign (.tmp 22), E.t_l_spec_Tree⟩])
      (.seq
        (.seq
          (.reg [
              ⟨none, some 23, .move (.tmp 9), E.tB⟩])
        (.cond 23
          (.reg [
              ⟨none, some 10, .assign (.const (.slice none 0 0)), E.t_l_spec_Tree⟩])
          .skip))
      (.seq
        (.reg [
            ⟨none, some 24, .move (.tmp 2), E.tB⟩,
            ⟨none, some 25, .move (.tmp 9), E.tB⟩,
            ⟨none, some 26, .move (.tmp 10), E.t_l_spec_Tree⟩,
            ⟨none, some 27, .call { callee := .builtin .len, args := #[.tmp 26], argTypes := #[E.t_l_spec_Tree] }, E.tInt⟩,
            ⟨none, some 28, .call { callee := .value (.func E.f_spec_counted), args := #[.tmp 24, .tmp 25, .tmp 27, .const (.int .i64 4)], argTypes := #[E.tB, E.tB, E.tInt, E.tInt] }, E.tBs⟩,
            ⟨none, some 11, .assign (.tmp 28), E.tBs⟩])
      (.seq
        (.seq
          (.reg [
              ⟨none, some 29, .move (.tmp 10), E.t_l_spec_Tree⟩,
              ⟨none, some 30, .call { callee := .builtin .len, args := #[.tmp 29], argTypes := #[E.t_l_spec_Tree] }, E.tInt⟩,
              ⟨none, some 31, .move (.const (.int .i64 0)), E.tInt⟩])
        (.block 0
          (.loop
            (.seq
              (.reg [
                  ⟨none, some 32, .binOp .lss E.tInt (.tmp 31) (.tmp 30) E.tInt, E.tNil⟩])
            (.seq
              (.cond 32
                .skip
                (.exit 0))
            (.seq
              (.block 1
                (.seq
                  (.reg [
                      ⟨none, some 33, .move (.tmp 31), E.tInt⟩,
                      ⟨none, some 12, .assign (.tmp 33), E.tInt⟩])
                (.regH [
                    (true, ⟨none, some 34, .move (.tmp 11), E.tBs⟩),
                    (true, ⟨none, some 35, .fieldAddr E.t_spec_Field (.tmp 4) 6, E.tNil⟩),
                    (true, ⟨none, some 36, .load E.tInt (.tmp 35), E.tInt⟩),
                    (true, ⟨none, some 37, .fieldAddr E.t_spec_Field (.tmp 4) 7, E.tNil⟩),
                    (true, ⟨none, some 38, .load E.t_l_spec_Field (.tmp 37), E.t_l_spec_Field⟩),
                    (true, ⟨none, some 39, .move (.tmp 1), E.tInt⟩),
                    (true, ⟨none, some 40, .move (.tmp 2), E.tB⟩),
                    (true, ⟨none, some 41, .move (.tmp 10), E.t_l_spec_Tree⟩),
                    (true, ⟨none, some 42, .move (.tmp 12), E.tInt⟩),
                    (true, ⟨none, some 43, .indexAddr E.t_l_spec_Tree (.tmp 41) (.tmp 42), E.tNil⟩),
                    (true, ⟨none, some 44, .load E.t_spec_Tree (.tmp 43), E.t_spec_Tree⟩),
                    (false, ⟨none, some 45, .call { callee := .value (.func E.f_spec_value), args := #[.tmp 36, .tmp 38, .const (.bool false), .tmp 39, .tmp 40, .tmp 44], argTypes := #[E.tInt, E.t_l_spec_Field, E.tB, E.tInt, E.tB, E.t_spec_Tree] }, E.tBs⟩),
                    (false, ⟨none, some 46, .call { callee := .builtin .append, args := #[.tmp 34, .tmp 45], argTypes := #[E.tBs, E.tBs] }, E.tBs⟩),
                    (true, ⟨none, some 11, .assign (.tmp 46), E.tBs⟩)])))
            (.reg [
                ⟨none, some 47, .binOp .add E.tInt (.tmp 31) (.const (.int .i64 1)) E.tInt, E.tInt⟩,
                ⟨none, some 31, .move (.tmp 47), E.tInt⟩])))))))
      (.seq
        (.reg [
            ⟨none, some 48, .move (.tmp 11), E.tBs⟩,
            ⟨none, some 8, .assign (.tmp 48), E.tBs⟩])
      .ret)))))
      .skip))
  (.seq
    (.seq
      (.reg [
          ⟨none, some 49, .fieldAddr E.t_spec_Field (.tmp 4) 0, E.tNil⟩,
          ⟨none, some 50, .load E.tInt (.tmp 49), E.tInt⟩,
          ⟨none, some 51, .binOp .eql E.tInt (.tmp 50) (.const (.int .i64 10)) E.tInt, E.tB⟩,
          ⟨none, some 52, .move (.tmp 51), E.tB⟩,
          ⟨(some (52, true)), some 53, .fieldAddr E.t_spec_Field (.tmp 4) 3, E.tNil⟩,
          ⟨(some (52, true)), some 54, .load E.tInt (.tmp 53), E.tInt⟩,
          ⟨(some (52, true)), some 55, .binOp .geq E.tInt (.tmp 54) (.const (.int .i64 0)) E.tInt, E.tB⟩,
          ⟨none, some 56, .pick (.tmp 52) (.tmp 55) (.const (.bool false)), E.tB⟩])
    (.cond 56
      (.seq
        (.seq
          (.reg [
              ⟨none, some 57, .move (.tmp 9), E.tB⟩])
        (.cond 57
          (.seq
            (.reg [
                ⟨none, some 58, .call { callee := .value (.func E.f_spec_Fixed), args := #[.const (.int .i64 (-1)), .const (.int .i64 1)], argTypes := #[E.tI64, E.tInt] }, E.tBs⟩,
                ⟨none, some 8, .assign (.tmp 58), E.tBs⟩])
          .ret)
          .skip))
      (.seq
        (.regH [
            (true, ⟨none, some 60, .fieldAddr E.t_spec_Field (.tmp 4) 7, E.tNil⟩),
            (true, ⟨none, some 61, .load E.t_l_spec_Field (.tmp 60), E.t_l_spec_Field⟩),
            (true, ⟨none, some 62, .move (.tmp 1), E.tInt⟩),
            (true, ⟨none, some 63, .move (.tmp 2), E.tB⟩),
            (true, ⟨none, some 64, .load E.t_spec_Tree (.tmp 7), E.t_spec_Tree⟩),
            (false, ⟨none, some 59, .call { callee := .value (.func E.f_spec_Fixed), args := #[.const (.int .i64 1), .const (.int .i64 1)], argTypes := #[E.tI64, E.tInt] }, E.tBs⟩),
            (false, ⟨none, some 65, .call { callee := .value (.func E.f_spec_part), args := #[.tmp 61, .tmp 62, .tmp 63, .tmp 64], argTypes := #[E.t_l_spec_Field, E.tInt, E.tB, E.t_spec_Tree] }, E.tBs⟩),
            (false, ⟨none, some 66, .call { callee := .builtin .append, args := #[.tmp 59, .tmp 65], argTypes := #[E.tBs, E.tBs] }, E.tBs⟩),
            (true, ⟨none, some 8, .assign (.tmp 66), E.tBs⟩)])
      .ret))
      .skip))
  (.seq
    (.reg [
        ⟨none, some 67, .fieldAddr E.t_spec_Field (.tmp 4) 0, E.tNil⟩,
        ⟨none, some 68, .load E.tInt (.tmp 67), E.tInt⟩,
        ⟨none, some 69, .fieldAddr E.t_spec_Field (.tmp 4) 7, E.tNil⟩,
        ⟨none, some 70, .load E.t_l_spec_Field (.tmp 69), E.t_l_spec_Field⟩,
        ⟨none, some 71, .move (.tmp 9), E.tB⟩,
        ⟨none, some 72, .move (.tmp 1), E.tInt⟩,
        ⟨none, some 73, .move (.tmp 2), E.tB⟩,
        ⟨none, some 74, .load E.t_spec_Tree (.tmp 7), E.t_spec_Tree⟩,
        ⟨none, some 75, .call { callee := .value (.func E.f_spec_value), args := #[.tmp 68, .tmp 70, .tmp 71, .tmp 72, .tmp 73, .tmp 74], argTypes := #[E.tInt, E.t_l_spec_Field, E.tB, E.tInt, E.tB, E.t_spec_Tree] }, E.tBs⟩,
        ⟨none, some 8, .assign (.tmp 75), E.tBs⟩])
  .ret)))))
def nt_spec_field : Nat := 76
def rs_spec_field (E : Env) : List Rv := [.t 8]

def ir_spec_value (E : Env) : Ir :=
  (.seq
    (.reg [
        ⟨none, some 11, .box E.t_spec_Tree (.tmp 5), E.tNil⟩,
        ⟨none, some 12, .assign (.const (.slice none 0 0)), E.tBs⟩])
  (.seq
    (.seq
      (.reg [
          ⟨none, some 16, .move (.tmp 0), E.tInt⟩])
    (.block 0
      (.seq
        (.reg [
            ⟨none, some 18, .binOp .eql E.tInt (.tmp 16) (.const (.int .i64 0)) E.tInt, E.tB⟩,
            ⟨none, some 17, .assign (.tmp 18), E.tB⟩])
      (.cond 17
        (.seq
          (.reg [
              ⟨none, some 19, .fieldAddr E.t_spec_Tree (.tmp 11) 0, E.tNil⟩,
              ⟨none, some 20, .load E.tI64 (.tmp 19), E.tI64⟩,
              ⟨none, some 21, .binOp .and E.tI64 (.tmp 20) (.const (.int .i64 1)) E.tI64, E.tI64⟩,
              ⟨none, some 22, .convert E.tI64 E.tU8 (.tmp 21), E.tU8⟩,
              ⟨none, some 23, .buildSlice E.tBs 1 #[(0, .tmp 22)], E.tBs⟩,
              ⟨none, some 12, .assign (.tmp 23), E.tBs⟩])
        .ret)
        (.seq
          (.reg [
              ⟨none, some 25, .binOp .eql E.tInt (.tmp 16) (.const (.int .i64 7)) E.tInt, E.tB⟩,
              ⟨none, some 24, .assign (.tmp 25), E.tB⟩])
        (.cond 24
          (.seq
            (.reg [
                ⟨none, some 26, .makeSlice E.tBs (.const (.int .i64 16)) (.const (.int .i64 16)), E.tBs⟩,
                ⟨none, some 13, .assign (.tmp 26), E.tBs⟩])
          (.seq
            (.reg [
                ⟨none, some 27, .move (.tmp 13), E.tBs⟩,
                ⟨none, some 28, .fieldAddr E.t_spec_Tree (.tmp 11) 1, E.tNil⟩,
                ⟨none, some 29, .load E.tBs (.tmp 28), E.tBs⟩,
                ⟨none, some 30, .call { callee := .builtin .copy, args := #[.tmp 27, .tmp 29], argTypes := #[E.tBs, E.tBs] }, E.tInt⟩])
          (.seq
            (.reg [
                ⟨none, some 31, .move (.tmp 13), E.tBs⟩,
                ⟨none, some 12, .assign (.tmp 31), E.tBs⟩])
          .ret)))
          (.seq
            (.reg [
                ⟨none, some 33, .binOp .eql E.tInt (.tmp 16) (.const (.int .i64 8)) E.tInt, E.tB⟩,
                ⟨none, some 32, .assign (.tmp 33), E.tB⟩])
          (.cond 32
            (.seq
              (.reg [
                  ⟨none, some 34, .fieldAddr E.t_spec_Tree (.tmp 11) 1, E.tNil⟩,
                  ⟨none, some 35, .load E.tBs (.tmp 34), E.tBs⟩,
                  ⟨none, some 36, .call { callee := .value (.func E.f_spec_whole), args := #[.tmp 35], argTypes := #[E.tBs] }, E.tBs⟩,
                  ⟨none, some 14, .assign (.tmp 36), E.tBs⟩])
            (.seq
              (.seq
                (.reg [
                    ⟨none, some 37, .move (.tmp 2), E.tB⟩])
              (.cond 37
                (.reg [
                    ⟨none, some 14, .assign (.const (.slice none 0 0)), E.tBs⟩])
                .skip))
            (.seq
              (.reg [
                  ⟨none, some 38, .move (.tmp 4), E.tB⟩,
                  ⟨none, some 39, .move (.tmp 2), E.tB⟩,
                  ⟨none, some 40, .move (.tmp 14), E.tBs⟩,
                  ⟨none, some 41, .call { callee := .builtin .len, args := #[.tmp 40], argTypes := #[E.tBs] }, E.tInt⟩,
                  ⟨none, some 42, .call { callee := .value (.func E.f_spec_counted), args := #[.tmp 38, .tmp 39, .tmp 41, .const (.int .i64 2)], argTypes := #[E.tB, E.tB, E.tInt, E.tInt] }, E.tBs⟩,
                  ⟨none, some 43, .move (.tmp 14), E.tBs⟩,
                  ⟨none, some 44, .call { callee := .builtin .append, args := #[.tmp 42, .tmp 43], argTypes := #[E.tBs, E.tBs] }, E.tBs⟩,
                  ⟨none, some 12, .assign (.tmp 44), E.tBs⟩])
            .ret)))
            (.seq
              (.reg [
                  ⟨none, some 46, .binOp .eql E.tInt (.tmp 16) (.const (.int .i64 9)) E.tInt, E.tB⟩,
                  ⟨none, some 45, .assign (.tmp 46), E.tB⟩])
            (.cond 45
              (.seq
                (.reg [
                    ⟨none, some 47, .fieldAddr E.t_spec_Tree (.tmp 11) 1, E.tNil⟩,
                    ⟨none, some 48, .load E.tBs (.tmp 47), E.tBs⟩,
                    ⟨none, some 49, .call { callee := .value (.func E.f_spec_whole), args := #[.tmp 48], argTypes := #[E.tBs] }, E.tBs⟩,
                    ⟨none, some 15, .assign (.tmp 49), E.tBs⟩])
              (.seq
                (.seq
                  (.reg [
                      ⟨none, some 50, .move (.tmp 2), E.tB⟩])
                (.cond 50
                  (.reg [
                      ⟨none, some 15, .assign (.const (.slice none 0 0)), E.tBs⟩])
                  .skip))
              (.seq
                (.reg [
                    ⟨none, some 51, .move (.tmp 4), E.tB⟩,
                    ⟨none, some 52, .move (.tmp 2), E.tB⟩,
                    ⟨none, some 53, .move (.tmp 15), E.tBs⟩,
                    ⟨none, some 54, .call { callee := .builtin .len, args := #[.tmp 53], argTypes := #[E.tBs] }, E.tInt⟩,
                    ⟨none, some 55, .call { callee := .value (.func E.f_spec_counted), args := #[.tmp 51, .tmp 52, .tmp 54, .const (.int .i64 4)], argTypes := #[E.tB, E.tB, E.tInt, E.tInt] }, E.tBs⟩,
                    ⟨none, some 56, .move (.tmp 15), E.tBs⟩,
                    ⟨none, some 57, .call { callee := .builtin .append, args := #[.tmp 55, .tmp 56], argTypes := #[E.tBs, E.tBs] }, E.tBs⟩,
                    ⟨none, some 12, .assign (.tmp 57), E.tBs⟩])
              .ret)))
              (.seq
                (.reg [
                    ⟨none, some 59, .binOp .eql E.tInt (.tmp 16) (.const (.int .i64 10)) E.tInt, E.tB⟩,
                    ⟨none, some 58, .assign (.tmp 59), E.tB⟩])
              (.cond 58
                (.seq
                  (.reg [
                      ⟨none, some 60, .move (.tmp 1), E.t_l_spec_Field⟩,
                      ⟨none, some 61, .move (.tmp 3), E.tInt⟩,
                      ⟨none, some 62, .move (.tmp 4), E.tB⟩,
                      ⟨none, some 63, .load E.t_spec_Tree (.tmp 11), E.t_spec_Tree⟩,
                      ⟨none, some 64, .call { callee := .value (.func E.f_spec_part), args := #[.tmp 60, .tmp 61, .tmp 62, .tmp 63], argTypes := #[E.t_l_spec_Field, E.tInt, E.tB, E.t_spec_Tree] }, E.tBs⟩,
                      ⟨none, some 12, .assign (.tmp 64), E.tBs⟩])
                .ret)
                .skip))))))))))))
  (.seq
    (.regH [
        (true, ⟨none, some 65, .fieldAddr E.t_spec_Tree (.tmp 11) 0, E.tNil⟩),
        (true, ⟨none, some 66, .load E.tI64 (.tmp 65), E.tI64⟩),
        (true, ⟨none, some 67, .move (.tmp 0), E.tInt⟩),
        (false, ⟨none, some 68, .call { callee := .value (.func E.f_spec_width), args := #[.tmp 67], argTypes := #[E.tInt] }, E.tInt⟩),
        (false, ⟨none, some 69, .call { callee := .value (.func E.f_spec_Fixed), args := #[.tmp 66, .tmp 68], argTypes := #[E.tI64, E.tInt] }, E.tBs⟩),
        (true, ⟨none, some 12, .assign (.tmp 69), E.tBs⟩)])
  .ret)))
def nt_spec_value : Nat := 70
def rs_spec_value (E : Env) : List Rv := [.t 12]

def ir_spec_at (E : Env) : Ir :=
  (.seq
    (.reg [
        ⟨none, some 2, .box E.t_spec_Tree (.tmp 0), E.tNil⟩,
        ⟨none, some 4, .alloc E.t_spec_Tree, E.tNil⟩])
  (.seq
    (.seq
      (.reg [
          ⟨none, some 5, .move (.tmp 1), E.tInt⟩,
          ⟨none, some 6, .fieldAddr E.t_spec_Tree (.tmp 2) 3, E.tNil⟩,
          ⟨none, some 7, .load E.t_l_spec_Tree (.tmp 6), E.t_l_spec_Tree⟩,
          ⟨none, some 8, .call { callee := .builtin .len, args := #[.tmp 7], argTypes := #[E.t_l_spec_Tree] }, E.tInt⟩,
          ⟨none, some 9, .binOp .lss E.tInt (.tmp 5) (.tmp 8) E.tInt, E.tB⟩])
    (.cond 9
      (.seq
        (.reg [
            ⟨none, some 10, .fieldAddr E.t_spec_Tree (.tmp 2) 3, E.tNil⟩,
            ⟨none, some 11, .load E.t_l_spec_Tree (.tmp 10), E.t_l_spec_Tree⟩,
            ⟨none, some 12, .move (.tmp 1), E.tInt⟩,
            ⟨none, some 13, .indexAddr E.t_l_spec_Tree (.tmp 11) (.tmp 12), E.tNil⟩,
            ⟨none, some 14, .load E.t_spec_Tree (.tmp 13), E.t_spec_Tree⟩,
            ⟨none, none, .store E.t_spec_Tree (.tmp 4) (.tmp 14), E.tNil⟩])
      .ret)
      .skip))
  (.seq
    (.reg [
        ⟨none, some 15, .build E.t_spec_Tree #[], E.t_spec_Tree⟩,
        ⟨none, none, .store E.t_spec_Tree (.tmp 4) (.tmp 15), E.tNil⟩])
  .ret)))
def nt_spec_at : Nat := 16
def rs_spec_at (E : Env) : List Rv := [.c 4 E.t_spec_Tree]

def ir_spec_known (E : Env) : Ir :=
  (.seq
    (.reg [
        ⟨none, some 2, .assign (.const (.int .u32 0)), E.tU32⟩])
  (.seq
    (.reg [
        ⟨none, some 3, .assign (.const (.int .u32 0)), E.tU32⟩])
  (.seq
    (.seq
      (.reg [
          ⟨none, some 6, .move (.tmp 0), E.t_l_spec_Field⟩,
          ⟨none, some 7, .call { callee := .builtin .len, args := #[.tmp 6], argTypes := #[E.t_l_spec_Field] }, E.tInt⟩,
          ⟨none, some 8, .move (.const (.int .i64 0)), E.tInt⟩])
    (.block 0
      (.loop
        (.seq
          (.reg [
              ⟨none, some 9, .binOp .lss E.tInt (.tmp 8) (.tmp 7) E.tInt, E.tNil⟩])
        (.seq
          (.cond 9
            .skip
            (.exit 0))
        (.seq
          (.block 1
            (.seq
              (.reg [
                  ⟨none, some 10, .indexAddr E.t_l_spec_Field (.tmp 6) (.tmp 8), E.tNil⟩,
                  ⟨none, some 11, .load E.t_spec_Field (.tmp 10), E.t_spec_Field⟩,
                  ⟨none, some 5, .alloc E.t_spec_Field, E.tNil⟩,
                  ⟨none, none, .store E.t_spec_Field (.tmp 5) (.tmp 11), E.tNil⟩])
            (.seq
              (.reg [
                  ⟨none, some 12, .fieldAddr E.t_spec_Field (.tmp 5) 4, E.tNil⟩,
                  ⟨none, some 13, .load E.tInt (.tmp 12), E.tInt⟩,
                  ⟨none, some 14, .binOp .geq E.tInt (.tmp 13) (.const (.int .i64 0)) E.tInt, E.tB⟩])
            (.cond 14
              (.reg [
                  ⟨none, some 15, .move (.tmp 3), E.tU32⟩,
                  ⟨none, some 16, .fieldAddr E.t_spec_Field (.tmp 5) 4, E.tNil⟩,
                  ⟨none, some 17, .load E.tInt (.tmp 16), E.tInt⟩,
                  ⟨none, some 18, .convert E.tInt E.tU32 (.tmp 17), E.tU32⟩,
                  ⟨none, some 19, .binOp .add E.tU32 (.tmp 18) (.const (.int .u32 1)) E.tU32, E.tU32⟩,
                  ⟨none, some 20, .call { callee := .builtin .max, args := #[.tmp 15, .tmp 19], argTypes := #[E.tU32, E.tU32] }, E.tU32⟩,
                  ⟨none, some 3, .assign (.tmp 20), E.tU32⟩])
              .skip))))
        (.reg [
            ⟨none, some 21, .binOp .add E.tInt (.tmp 8) (.const (.int .i64 1)) E.tInt, E.tInt⟩,
            ⟨none, some 8, .move (.tmp 21), E.tInt⟩])))))))
  (.seq
    (.reg [
        ⟨none, some 22, .move (.tmp 3), E.tU32⟩,
        ⟨none, some 2, .assign (.tmp 22), E.tU32⟩])
  .ret))))
def nt_spec_known : Nat := 23
def rs_spec_known (E : Env) : List Rv := [.t 2]

def ir_spec_usual (E : Env) : Ir :=
  (.seq
    (.reg [
        ⟨none, some 2, .box E.t_spec_Field (.tmp 0), E.tNil⟩,
        ⟨none, some 3, .box E.t_spec_Tree (.tmp 1), E.tNil⟩,
        ⟨none, some 4, .assign (.const (.bool false)), E.tB⟩])
  (.seq
    (.seq
      (.reg [
          ⟨none, some 9, .fieldAddr E.t_spec_Field (.tmp 2) 0, E.tNil⟩,
          ⟨none, some 10, .load E.tInt (.tmp 9), E.tInt⟩])
    (.block 0
      (.seq
        (.reg [
            ⟨none, some 12, .binOp .eql E.tInt (.tmp 10) (.const (.int .i64 0)) E.tInt, E.tB⟩,
            ⟨none, some 11, .assign (.tmp 12), E.tB⟩])
      (.cond 11
        (.seq
          (.reg [
              ⟨none, some 13, .fieldAddr E.t_spec_Tree (.tmp 3) 0, E.tNil⟩,
              ⟨none, some 14, .load E.tI64 (.tmp 13), E.tI64⟩,
              ⟨none, some 15, .binOp .and E.tI64 (.tmp 14) (.const (.int .i64 1)) E.tI64, E.tI64⟩,
              ⟨none, some 16, .fieldAddr E.t_spec_Field (.tmp 2) 5, E.tNil⟩,
              ⟨none, some 17, .load E.tI64 (.tmp 16), E.tI64⟩,
              ⟨none, some 18, .binOp .eql E.tI64 (.tmp 15) (.tmp 17) E.tI64, E.tB⟩,
              ⟨none, some 4, .assign (.tmp 18), E.tB⟩])
        .ret)
        (.seq
          (.reg [
              ⟨none, some 20, .binOp .eql E.tInt (.tmp 10) (.const (.int .i64 7)) E.tInt, E.tB⟩,
              ⟨none, some 19, .assign (.tmp 20), E.tB⟩])
        (.cond 19
          (.seq
            (.seq
              (.reg [
                  ⟨none, some 21, .fieldAddr E.t_spec_Tree (.tmp 3) 1, E.tNil⟩,
                  ⟨none, some 22, .load E.tBs (.tmp 21), E.tBs⟩,
                  ⟨none, some 23, .call { callee := .builtin .len, args := #[.tmp 22], argTypes := #[E.tBs] }, E.tInt⟩,
                  ⟨none, some 24, .move (.const (.int .i64 0)), E.tInt⟩])
            (.block 1
              (.loop
                (.seq
                  (.reg [
                      ⟨none, some 25, .binOp .lss E.tInt (.tmp 24) (.tmp 23) E.tInt, E.tNil⟩])
                (.seq
                  (.cond 25
                    .skip
                    (.exit 1))
                (.seq
                  (.block 2
                    (.seq
                      (.reg [
                          ⟨none, some 26, .move (.tmp 24), E.tInt⟩,
                          ⟨none, some 27, .indexAddr E.tBs (.tmp 22) (.tmp 24), E.tNil⟩,
                          ⟨none, some 28, .load E.tU8 (.tmp 27), E.tU8⟩,
                          ⟨none, some 5, .assign (.tmp 26), E.tInt⟩,
                          ⟨none, some 6, .assign (.tmp 28), E.tU8⟩])
                    (.seq
                      (.reg [
                          ⟨none, some 29, .move (.tmp 5), E.tInt⟩,
                          ⟨none, some 30, .binOp .lss E.tInt (.tmp 29) (.const (.int .i64 16)) E.tInt, E.tB⟩,
                          ⟨none, some 31, .move (.tmp 30), E.tB⟩,
                          ⟨(some (31, true)), some 32, .move (.tmp 6), E.tU8⟩,
                          ⟨(some (31, true)), some 33, .binOp .neq E.tU8 (.tmp 32) (.const (.int .u8 0)) E.tU8, E.tB⟩,
                          ⟨none, some 34, .pick (.tmp 31) (.tmp 33) (.const (.bool false)), E.tB⟩])
                    (.cond 34
                      (.seq
                        (.reg [
                            ⟨none, some 4, .assign (.const (.bool false)), E.tB⟩])
                      .ret)
                      .skip))))
                (.reg [
                    ⟨none, some 35, .binOp .add E.tInt (.tmp 24) (.const (.int .i64 1)) E.tInt, E.tInt⟩,
                    ⟨none, some 24, .move (.tmp 35), E.tInt⟩])))))))
          (.seq
            (.reg [
                ⟨none, some 4, .assign (.const (.bool true)), E.tB⟩])
          .ret))
          (.seq
            (.seq
              (.reg [
                  ⟨none, some 37, .binOp .eql E.tInt (.tmp 10) (.const (.int .i64 8)) E.tInt, E.tB⟩,
                  ⟨none, some 36, .assign (.tmp 37), E.tB⟩])
            (.cond 36
              .skip
              (.reg [
                  ⟨none, some 38, .binOp .eql E.tInt (.tmp 10) (.const (.int .i64 9)) E.tInt, E.tB⟩,
                  ⟨none, some 36, .assign (.tmp 38), E.tB⟩])))
          (.cond 36
            (.seq
              (.seq
                (.reg [
                    ⟨none, some 39, .fieldAddr E.t_spec_Field (.tmp 2) 3, E.tNil⟩,
                    ⟨none, some 40, .load E.tInt (.tmp 39), E.tInt⟩,
                    ⟨none, some 41, .binOp .geq E.tInt (.tmp 40) (.const (.int .i64 0)) E.tInt, E.tB⟩])
              (.cond 41
                (.seq
                  (.reg [
                      ⟨none, some 42, .fieldAddr E.t_spec_Tree (.tmp 3) 2, E.tNil⟩,
                      ⟨none, some 43, .load E.tB (.tmp 42), E.tB⟩,
                      ⟨none, some 4, .assign (.tmp 43), E.tB⟩])
                .ret)
                .skip))
            (.seq
              (.reg [
                  ⟨none, some 44, .fieldAddr E.t_spec_Tree (.tmp 3) 1, E.tNil⟩,
                  ⟨none, some 45, .load E.tBs (.tmp 44), E.tBs⟩,
                  ⟨none, some 46, .call { callee := .builtin .len, args := #[.tmp 45], argTypes := #[E.tBs] }, E.tInt⟩,
                  ⟨none, some 47, .binOp .eql E.tInt (.tmp 46) (.const (.int .i64 0)) E.tInt, E.tB⟩,
                  ⟨none, some 4, .assign (.tmp 47), E.tB⟩])
            .ret))
            (.seq
              (.reg [
                  ⟨none, some 49, .binOp .eql E.tInt (.tmp 10) (.const (.int .i64 11)) E.tInt, E.tB⟩,
                  ⟨none, some 48, .assign (.tmp 49), E.tB⟩])
            (.cond 48
              (.seq
                (.reg [
                    ⟨none, some 50, .fieldAddr E.t_spec_Tree (.tmp 3) 3, E.tNil⟩,
                    ⟨none, some 51, .load E.t_l_spec_Tree (.tmp 50), E.t_l_spec_Tree⟩,
                    ⟨none, some 52, .call { callee := .builtin .len, args := #[.tmp 51], argTypes := #[E.t_l_spec_Tree] }, E.tInt⟩,
                    ⟨none, some 53, .binOp .eql E.tInt (.tmp 52) (.const (.int .i64 0)) E.tInt, E.tB⟩,
                    ⟨none, some 4, .assign (.tmp 53), E.tB⟩])
              .ret)
              (.seq
                (.reg [
                    ⟨none, some 55, .binOp .eql E.tInt (.tmp 10) (.const (.int .i64 10)) E.tInt, E.tB⟩,
                    ⟨none, some 54, .assign (.tmp 55), E.tB⟩])
              (.cond 54
                (.seq
                  (.seq
                    (.reg [
                        ⟨none, some 56, .fieldAddr E.t_spec_Field (.tmp 2) 7, E.tNil⟩,
                        ⟨none, some 57, .load E.t_l_spec_Field (.tmp 56), E.t_l_spec_Field⟩,
                        ⟨none, some 58, .call { callee := .builtin .len, args := #[.tmp 57], argTypes := #[E.t_l_spec_Field] }, E.tInt⟩,
                        ⟨none, some 59, .move (.const (.int .i64 0)), E.tInt⟩])
                  (.block 3
                    (.loop
                      (.seq
                        (.reg [
                            ⟨none, some 60, .binOp .lss E.tInt (.tmp 59) (.tmp 58) E.tInt, E.tNil⟩])
                      (.seq
                        (.cond 60
                          .skip
                          (.exit 3))
                      (.seq
                        (.block 4
                          (.seq
                            (.reg [
                                ⟨none, some 61, .move (.tmp 59), E.tInt⟩,
                                ⟨none, some 62, .indexAddr E.t_l_spec_Field (.tmp 57) (.tmp 59), E.tNil⟩,
                                ⟨none, some 63, .load E.t_spec_Field (.tmp 62), E.t_spec_Field⟩,
                                ⟨none, some 8, .alloc E.t_spec_Field, E.tNil⟩,
                                ⟨none, some 7, .assign (.tmp 61), E.tInt⟩,
                                ⟨none, none, .store E.t_spec_Field (.tmp 8) (.tmp 63), E.tNil⟩])
                          (.seq
                            (.regH [
                                (true, ⟨none, some 64, .load E.t_spec_Field (.tmp 8), E.t_spec_Field⟩),
                                (true, ⟨none, some 65, .load E.t_spec_Tree (.tmp 3), E.t_spec_Tree⟩),
                                (true, ⟨none, some 66, .move (.tmp 7), E.tInt⟩),
                                (false, ⟨none, some 67, .call { callee := .value (.func E.f_spec_at), args := #[.tmp 65, .tmp 66], argTypes := #[E.t_spec_Tree, E.tInt] }, E.t_spec_Tree⟩),
                                (false, ⟨none, some 68, .call { callee := .value (.func E.f_spec_usual), args := #[.tmp 64, .tmp 67], argTypes := #[E.t_spec_Field, E.t_spec_Tree] }, E.tB⟩),
                                (true, ⟨none, some 69, .unOp .not E.tB (.tmp 68), E.tB⟩)])
                          (.cond 69
                            (.seq
                              (.reg [
                                  ⟨none, some 4, .assign (.const (.bool false)), E.tB⟩])
                            .ret)
                            .skip))))
                      (.reg [
                          ⟨none, some 70, .binOp .add E.tInt (.tmp 59) (.const (.int .i64 1)) E.tInt, E.tInt⟩,
                          ⟨none, some 59, .move (.tmp 70), E.tInt⟩])))))))
                (.seq
                  (.reg [
                      ⟨none, some 71, .fieldAddr E.t_spec_Field (.tmp 2) 7, E.tNil⟩,
                      ⟨none, some 72, .load E.t_l_spec_Field (.tmp 71), E.t_l_spec_Field⟩,
                      ⟨none, some 73, .fieldAddr E.t_spec_Tree (.tmp 3) 4, E.tNil⟩,
                      ⟨none, some 74, .load E.t_l_spec_Tag (.tmp 73), E.t_l_spec_Tag⟩,
                      ⟨none, some 75, .call { callee := .value (.func E.f_spec_unknown), args := #[.tmp 72, .tmp 74], argTypes := #[E.t_l_spec_Field, E.t_l_spec_Tag] }, E.t_l_spec_Tag⟩,
                      ⟨none, some 76, .call { callee := .builtin .len, args := #[.tmp 75], argTypes := #[E.t_l_spec_Tag] }, E.tInt⟩,
                      ⟨none, some 77, .binOp .eql E.tInt (.tmp 76) (.const (.int .i64 0)) E.tInt, E.tB⟩,
                      ⟨none, some 4, .assign (.tmp 77), E.tB⟩])
                .ret))
                .skip))))))))))))
  (.seq
    (.regH [
        (true, ⟨none, some 78, .fieldAddr E.t_spec_Tree (.tmp 3) 0, E.tNil⟩),
        (true, ⟨none, some 79, .load E.tI64 (.tmp 78), E.tI64⟩),
        (true, ⟨none, some 80, .fieldAddr E.t_spec_Field (.tmp 2) 0, E.tNil⟩),
        (true, ⟨none, some 81, .load E.tInt (.tmp 80), E.tInt⟩),
        (true, ⟨none, some 84, .fieldAddr E.t_spec_Field (.tmp 2) 5, E.tNil⟩),
        (true, ⟨none, some 85, .load E.tI64 (.tmp 84), E.tI64⟩),
        (true, ⟨none, some 86, .fieldAddr E.t_spec_Field (.tmp 2) 0, E.tNil⟩),
        (true, ⟨none, some 87, .load E.tInt (.tmp 86), E.tInt⟩),
        (false, ⟨none, some 82, .call { callee := .value (.func E.f_spec_width), args := #[.tmp 81], argTypes := #[E.tInt] }, E.tInt⟩),
        (false, ⟨none, some 83, .call { callee := .value (.func E.f_spec_Fixed), args := #[.tmp 79, .tmp 82], argTypes := #[E.tI64, E.tInt] }, E.tBs⟩),
        (false, ⟨none, some 88, .call { callee := .value (.func E.f_spec_width), args := #[.tmp 87], argTypes := #[E.tInt] }, E.tInt⟩),
        (false, ⟨none, some 89, .call { callee := .value (.func E.f_spec_Fixed), args := #[.tmp 85, .tmp 88], argTypes := #[E.tI64, E.tInt] }, E.tBs⟩),
        (false, ⟨none, some 90, .call { callee := .value (.func E.f_spec_Same), args := #[.tmp 83, .tmp 89], argTypes := #[E.tBs, E.tBs] }, E.tB⟩),
        (true, ⟨none, some 4, .assign (.tmp 90), E.tB⟩)])
  .ret)))
def nt_spec_usual : Nat := 91
def rs_spec_usual (E : Env) : List Rv := [.t 4]

def ir_spec_Uvarint (E : Env) : Ir :=
  (.seq
    (.reg [
        ⟨none, some 2, .assign (.const (.slice none 0 0)), E.tBs⟩])
  (.seq
    (.reg [
        ⟨none, some 3, .assign (.const (.slice none 0 0)), E.tBs⟩])
  (.seq
    (.block 0
      (.loop
        (.seq
          (.seq
            (.reg [
                ⟨none, some 4, .move (.tmp 0), E.tU64⟩,
                ⟨none, some 5, .binOp .gtr E.tU64 (.tmp 4) (.const (.int .u64 127)) E.tU64, E.tB⟩])
          (.cond 5
            .skip
            (.exit 0)))
        (.block 1
          (.seq
            (.reg [
                ⟨none, some 6, .move (.tmp 3), E.tBs⟩,
                ⟨none, some 7, .move (.tmp 0), E.tU64⟩,
                ⟨none, some 8, .binOp .and E.tU64 (.tmp 7) (.const (.int .u64 127)) E.tU64, E.tU64⟩,
                ⟨none, some 9, .convert E.tU64 E.tU8 (.tmp 8), E.tU8⟩,
                ⟨none, some 10, .binOp .or E.tU8 (.tmp 9) (.const (.int .u8 128)) E.tU8, E.tU8⟩,
                ⟨none, some 11, .buildSlice E.tBs 1 #[(0, .tmp 10)], E.tBs⟩,
                ⟨none, some 12, .call { callee := .builtin .append, args := #[.tmp 6, .tmp 11], argTypes := #[E.tBs, E.tBs] }, E.tBs⟩,
                ⟨none, some 3, .assign (.tmp 12), E.tBs⟩])
          (.reg [
              ⟨none, some 13, .move (.tmp 0), E.tU64⟩,
              ⟨none, some 14, .binOp .shr E.tU64 (.tmp 13) (.const (.int .u64 7)) E.tUint, E.tU64⟩,
              ⟨none, some 0, .assign (.tmp 14), E.tU64⟩]))))))
  (.seq
    (.reg [
        ⟨none, some 15, .move (.tmp 3), E.tBs⟩,
        ⟨none, some 16, .move (.tmp 0), E.tU64⟩,
        ⟨none, some 17, .convert E.tU64 E.tU8 (.tmp 16), E.tU8⟩,
        ⟨none, some 18, .buildSlice E.tBs 1 #[(0, .tmp 17)], E.tBs⟩,
        ⟨none, some 19, .call { callee := .builtin .append, args := #[.tmp 15, .tmp 18], argTypes := #[E.tBs, E.tBs] }, E.tBs⟩,
        ⟨none, some 2, .assign (.tmp 19), E.tBs⟩])
  .ret))))
def nt_spec_Uvarint : Nat := 20
def rs_spec_Uvarint (E : Env) : List Rv := [.t 2]

def ir_spec_unknown (E : Env) : Ir :=
  (.seq
    (.reg [
        ⟨none, some 4, .assign (.const (.slice none 0 0)), E.t_l_spec_Tag⟩])
  (.seq
    (.reg [
        ⟨none, some 11, .move (.tmp 0), E.t_l_spec_Field⟩,
        ⟨none, some 12, .call { callee := .value (.func E.f_spec_known), args := #[.tmp 11], argTypes := #[E.t_l_spec_Field] }, E.tU32⟩,
        ⟨none, some 5, .assign (.tmp 12), E.tU32⟩])
  (.seq
    (.reg [
        ⟨none, some 6, .assign (.const (.slice none 0 0)), E.t_l_spec_Tag⟩])
  (.seq
    (.seq
      (.reg [
          ⟨none, some 13, .move (.tmp 1), E.t_l_spec_Tag⟩,
          ⟨none, some 14, .move (.tmp 1), E.t_l_spec_Tag⟩,
          ⟨none, some 15, .call { callee := .builtin .len, args := #[.tmp 14], argTypes := #[E.t_l_spec_Tag] }, E.tInt⟩,
          ⟨none, some 16, .call { callee := .builtin .min, args := #[.tmp 15, .const (.int .i64 32767)], argTypes := #[E.tInt, E.tInt] }, E.tInt⟩,
          ⟨none, some 17, .slice E.t_l_spec_Tag (.tmp 13) none (some (.tmp 16)) none, E.t_l_spec_Tag⟩,
          ⟨none, some 18, .call { callee := .builtin .len, args := #[.tmp 17], argTypes := #[E.t_l_spec_Tag] }, E.tInt⟩,
          ⟨none, some 19, .move (.const (.int .i64 0)), E.tInt⟩])
    (.block 0
      (.loop
        (.seq
          (.reg [
              ⟨none, some 20, .binOp .lss E.tInt (.tmp 19) (.tmp 18) E.tInt, E.tNil⟩])
        (.seq
          (.cond 20
            .skip
            (.exit 0))
        (.seq
          (.block 1
            (.seq
              (.reg [
                  ⟨none, some 21, .indexAddr E.t_l_spec_Tag (.tmp 17) (.tmp 19), E.tNil⟩,
                  ⟨none, some 22, .load E.t_spec_Tag (.tmp 21), E.t_spec_Tag⟩,
                  ⟨none, some 8, .alloc E.t_spec_Tag, E.tNil⟩,
                  ⟨none, none, .store E.t_spec_Tag (.tmp 8) (.tmp 22), E.tNil⟩])
            (.seq
              (.reg [
                  ⟨none, some 9, .assign (.const (.int .i64 0)), E.tInt⟩])
            (.seq
              (.block 2
                (.loop
                  (.seq
                    (.seq
                      (.regH [
                          (true, ⟨none, some 23, .move (.tmp 9), E.tInt⟩),
                          (true, ⟨none, some 24, .move (.tmp 6), E.t_l_spec_Tag⟩),
                          (true, ⟨none, some 25, .call { callee := .builtin .len, args := #[.tmp 24], argTypes := #[E.t_l_spec_Tag] }, E.tInt⟩),
                          (true, ⟨none, some 26, .binOp .lss E.tInt (.tmp 23) (.tmp 25) E.tInt, E.tB⟩),
                          (true, ⟨none, some 27, .move (.tmp 26), E.tB⟩),
                          (true, ⟨(some (27, true)), some 28, .move (.tmp 6), E.t_l_spec_Tag⟩),
                          (true, ⟨(some (27, true)), some 29, .move (.tmp 9), E.tInt⟩),
                          (true, ⟨(some (27, true)), some 30, .indexAddr E.t_l_spec_Tag (.tmp 28) (.tmp 29), E.tNil⟩),
                          (true, ⟨(some (27, true)), some 31, .fieldAddr E.t_spec_Tag (.tmp 30) 0, E.tNil⟩),
                          (true, ⟨(some (27, true)), some 32, .load E.tU32 (.tmp 31), E.tU32⟩),
                          (true, ⟨(some (27, true)), some 33, .fieldAddr E.t_spec_Tag (.tmp 8) 0, E.tNil⟩),
                          (true, ⟨(some (27, true)), some 34, .load E.tU32 (.tmp 33), E.tU32⟩),
                          (true, ⟨(some (27, true)), some 35, .binOp .lss E.tU32 (.tmp 32) (.tmp 34) E.tU32, E.tB⟩),
                          (true, ⟨none, some 36, .pick (.tmp 27) (.tmp 35) (.const (.bool false)), E.tB⟩)])
                    (.cond 36
                      .skip
                      (.exit 2)))
                  (.block 3
                    (.reg [
                        ⟨none, some 37, .move (.tmp 9), E.tInt⟩,
                        ⟨none, some 38, .binOp .add E.tInt (.tmp 37) (.const (.int .i64 1)) E.tInt, E.tInt⟩,
                        ⟨none, some 9, .assign (.tmp 38), E.tInt⟩])))))
            (.seq
              (.seq
                (.regH [
                    (true, ⟨none, some 39, .fieldAddr E.t_spec_Tag (.tmp 8) 0, E.tNil⟩),
                    (true, ⟨none, some 40, .load E.tU32 (.tmp 39), E.tU32⟩),
                    (true, ⟨none, some 41, .move (.tmp 5), E.tU32⟩),
                    (true, ⟨none, some 42, .binOp .lss E.tU32 (.tmp 40) (.tmp 41) E.tU32, E.tB⟩),
                    (true, ⟨none, some 43, .move (.tmp 42), E.tB⟩),
                    (true, ⟨(some (43, false)), some 44, .move (.tmp 9), E.tInt⟩),
                    (true, ⟨(some (43, false)), some 45, .move (.tmp 6), E.t_l_spec_Tag⟩),
                    (true, ⟨(some (43, false)), some 46, .call { callee := .builtin .len, args := #[.tmp 45], argTypes := #[E.t_l_spec_Tag] }, E.tInt⟩),
                    (true, ⟨(some (43, false)), some 47, .binOp .lss E.tInt (.tmp 44) (.tmp 46) E.tInt, E.tB⟩),
                    (true, ⟨(some (43, false)), some 48, .move (.tmp 47), E.tB⟩),
                    (true, ⟨(some (48, true)), some 49, .move (.tmp 6), E.t_l_spec_Tag⟩),
                    (true, ⟨(some (48, true)), some 50, .move (.tmp 9), E.tInt⟩),
                    (true, ⟨(some (48, true)), some 51, .indexAddr E.t_l_spec_Tag (.tmp 49) (.tmp 50), E.tNil⟩),
                    (true, ⟨(some (48, true)), some 52, .fieldAddr E.t_spec_Tag (.tmp 51) 0, E.tNil⟩),
                    (true, ⟨(some (48, true)), some 53, .load E.tU32 (.tmp 52), E.tU32⟩),
                    (true, ⟨(some (48, true)), some 54, .fieldAddr E.t_spec_Tag (.tmp 8) 0, E.tNil⟩),
                    (true, ⟨(some (48, true)), some 55, .load E.tU32 (.tmp 54), E.tU32⟩),
                    (true, ⟨(some (48, true)), some 56, .binOp .eql E.tU32 (.tmp 53) (.tmp 55) E.tU32, E.tB⟩),
                    (true, ⟨(some (43, false)), some 57, .pick (.tmp 48) (.tmp 56) (.const (.bool false)), E.tB⟩),
                    (true, ⟨none, some 58, .pick (.tmp 43) (.const (.bool true)) (.tmp 57), E.tB⟩)])
              (.cond 58
                (.exit 1)
                .skip))
            (.seq
              (.reg [
                  ⟨none, some 59, .move (.tmp 6), E.t_l_spec_Tag⟩,
                  ⟨none, some 60, .build E.t_spec_Tag #[], E.t_spec_Tag⟩,
                  ⟨none, some 61, .buildSlice E.t_l_spec_Tag 1 #[(0, .tmp 60)], E.t_l_spec_Tag⟩,
                  ⟨none, some 62, .call { callee := .builtin .append, args := #[.tmp 59, .tmp 61], argTypes := #[E.t_l_spec_Tag, E.t_l_spec_Tag] }, E.t_l_spec_Tag⟩,
                  ⟨none, some 6, .assign (.tmp 62), E.t_l_spec_Tag⟩])
            (.seq
              (.seq
                (.reg [
                    ⟨none, some 63, .move (.tmp 6), E.t_l_spec_Tag⟩,
                    ⟨none, some 64, .call { callee := .builtin .len, args := #[.tmp 63], argTypes := #[E.t_l_spec_Tag] }, E.tInt⟩,
                    ⟨none, some 65, .binOp .sub E.tInt (.tmp 64) (.const (.int .i64 1)) E.tInt, E.tInt⟩,
                    ⟨none, some 10, .assign (.tmp 65), E.tInt⟩])
              (.block 4
                (.loop
                  (.seq
                    (.seq
                      (.reg [
                          ⟨none, some 66, .move (.tmp 10), E.tInt⟩,
                          ⟨none, some 67, .move (.tmp 9), E.tInt⟩,
                          ⟨none, some 68, .binOp .gtr E.tInt (.tmp 66) (.tmp 67) E.tInt, E.tB⟩])
                    (.cond 68
                      .skip
                      (.exit 4)))
                  (.seq
                    (.block 5
                      (.reg [
                          ⟨none, some 71, .move (.tmp 6), E.t_l_spec_Tag⟩,
                          ⟨none, some 72, .move (.tmp 10), E.tInt⟩,
                          ⟨none, some 73, .move (.tmp 6), E.t_l_spec_Tag⟩,
                          ⟨none, some 74, .move (.tmp 10), E.tInt⟩,
                          ⟨none, some 75, .binOp .sub E.tInt (.tmp 74) (.const (.int .i64 1)) E.tInt, E.tInt⟩,
                          ⟨none, some 76, .indexAddr E.t_l_spec_Tag (.tmp 73) (.tmp 75), E.tNil⟩,
                          ⟨none, some 77, .load E.t_spec_Tag (.tmp 76), E.t_spec_Tag⟩,
                          ⟨none, some 78, .indexAddr E.t_l_spec_Tag (.tmp 71) (.tmp 72), E.tNil⟩,
                          ⟨none, none, .store E.t_spec_Tag (.tmp 78) (.tmp 77), E.tNil⟩]))
                  (.reg [
                      ⟨none, some 69, .move (.tmp 10), E.tInt⟩,
                      ⟨none, some 70, .binOp .sub E.tInt (.tmp 69) (.const (.int .i64 1)) E.tInt, E.tInt⟩,
                      ⟨none, some 10, .assign (.tmp 70), E.tInt⟩]))))))
            (.reg [
                ⟨none, some 79, .move (.tmp 6), E.t_l_spec_Tag⟩,
                ⟨none, some 80, .move (.tmp 9), E.tInt⟩,
                ⟨none, some 81, .load E.t_spec_Tag (.tmp 8), E.t_spec_Tag⟩,
                ⟨none, some 82, .indexAddr E.t_l_spec_Tag (.tmp 79) (.tmp 80), E.tNil⟩,
                ⟨none, none, .store E.t_spec_Tag (.tmp 82) (.tmp 81), E.tNil⟩]))))))))
        (.reg [
            ⟨none, some 83, .binOp .add E.tInt (.tmp 19) (.const (.int .i64 1)) E.tInt, E.tInt⟩,
            ⟨none, some 19, .move (.tmp 83), E.tInt⟩])))))))
  (.seq
    (.reg [
        ⟨none, some 84, .move (.tmp 6), E.t_l_spec_Tag⟩,
        ⟨none, some 4, .assign (.tmp 84), E.t_l_spec_Tag⟩])
  .ret)))))
def nt_spec_unknown : Nat := 85
def rs_spec_unknown (E : Env) : List Rv := [.t 4]

def ir_spec_whole (E : Env) : Ir :=
  (.seq
    (.reg [
        ⟨none, some 2, .assign (.const (.slice none 0 0)), E.tBs⟩])
  (.seq
    (.reg [
        ⟨none, some 3, .move (.tmp 0), E.tBs⟩,
        ⟨none, some 4, .move (.tmp 0), E.tBs⟩,
        ⟨none, some 5, .call { callee := .builtin .len, args := #[.tmp 4], argTypes := #[E.tBs] }, E.tInt⟩,
        ⟨none, some 6, .call { callee := .builtin .min, args := #[.tmp 5, .const (.int .i64 32767)], argTypes := #[E.tInt, E.tInt] }, E.tInt⟩,
        ⟨none, some 7, .slice E.tBs (.tmp 3) none (some (.tmp 6)) none, E.tBs⟩,
        ⟨none, some 2, .assign (.tmp 7), E.tBs⟩])
  .ret))
def nt_spec_whole : Nat := 8
def rs_spec_whole (E : Env) : List Rv := [.t 2]

def ir_spec_things (E : Env) : Ir :=
  (.seq
    (.reg [
        ⟨none, some 2, .assign (.const (.slice none 0 0)), E.t_l_spec_Tree⟩])
  (.seq
    (.reg [
        ⟨none, some 3, .move (.tmp 0), E.t_l_spec_Tree⟩,
        ⟨none, some 4, .move (.tmp 0), E.t_l_spec_Tree⟩,
        ⟨none, some 5, .call { callee := .builtin .len, args := #[.tmp 4], argTypes := #[E.t_l_spec_Tree] }, E.tInt⟩,
        ⟨none, some 6, .call { callee := .builtin .min, args := #[.tmp 5, .const (.int .i64 32767)], argTypes := #[E.tInt, E.tInt] }, E.tInt⟩,
        ⟨none, some 7, .slice E.t_l_spec_Tree (.tmp 3) none (some (.tmp 6)) none, E.t_l_spec_Tree⟩,
        ⟨none, some 2, .assign (.tmp 7), E.t_l_spec_Tree⟩])
  .ret))
def nt_spec_things : Nat := 8
def rs_spec_things (E : Env) : List Rv := [.t 2]

def ir_spec_counted (E : Env) : Ir :=
  (.seq
    (.reg [
        ⟨none, some 8, .assign (.const (.slice none 0 0)), E.tBs⟩])
  (.seq
    (.block 0
      (.seq
        (.reg [
            ⟨none, some 10, .move (.tmp 0), E.tB⟩,
            ⟨none, some 11, .move (.tmp 10), E.tB⟩,
            ⟨(some (11, true)), some 12, .move (.tmp 1), E.tB⟩,
            ⟨none, some 13, .pick (.tmp 11) (.tmp 12) (.const (.bool false)), E.tB⟩,
            ⟨none, some 9, .assign (.tmp 13), E.tB⟩])
      (.cond 9
        (.seq
          (.reg [
              ⟨none, some 14, .buildSlice E.tBs 1 #[(0, .const (.int .u8 0))], E.tBs⟩,
              ⟨none, some 8, .assign (.tmp 14), E.tBs⟩])
        .ret)
        (.seq
          (.reg [
              ⟨none, some 16, .move (.tmp 0), E.tB⟩,
              ⟨none, some 15, .assign (.tmp 16), E.tB⟩])
        (.cond 15
          (.seq
            (.reg [
                ⟨none, some 17, .move (.tmp 2), E.tInt⟩,
                ⟨none, some 18, .convert E.tInt E.tU64 (.tmp 17), E.tU64⟩,
                ⟨none, some 19, .binOp .add E.tU64 (.tmp 18) (.const (.int .u64 1)) E.tU64, E.tU64⟩,
                ⟨none, some 20, .call { callee := .value (.func E.f_spec_Uvarint), args := #[.tmp 19], argTypes := #[E.tU64] }, E.tBs⟩,
                ⟨none, some 8, .assign (.tmp 20), E.tBs⟩])
          .ret)
          (.seq
            (.reg [
                ⟨none, some 22, .move (.tmp 1), E.tB⟩,
                ⟨none, some 21, .assign (.tmp 22), E.tB⟩])
          (.cond 21
            (.seq
              (.reg [
                  ⟨none, some 23, .move (.tmp 3), E.tInt⟩,
                  ⟨none, some 24, .call { callee := .value (.func E.f_spec_Fixed), args := #[.const (.int .i64 (-1)), .tmp 23], argTypes := #[E.tI64, E.tInt] }, E.tBs⟩,
                  ⟨none, some 8, .assign (.tmp 24), E.tBs⟩])
            .ret)
            .skip)))))))
  (.seq
    (.reg [
        ⟨none, some 25, .move (.tmp 2), E.tInt⟩,
        ⟨none, some 26, .move (.tmp 3), E.tInt⟩,
        ⟨none, some 27, .call { callee := .value (.func E.f_spec_Fixed), args := #[.tmp 25, .tmp 26], argTypes := #[E.tI64, E.tInt] }, E.tBs⟩,
        ⟨none, some 8, .assign (.tmp 27), E.tBs⟩])
  .ret)))
def nt_spec_counted : Nat := 28
def rs_spec_counted (E : Env) : List Rv := [.t 8]

def ir_spec_width (E : Env) : Ir :=
  (.seq
    (.reg [
        ⟨none, some 2, .assign (.const (.int .i64 0)), E.tInt⟩])
  (.seq
    (.seq
      (.reg [
          ⟨none, some 3, .move (.tmp 0), E.tInt⟩])
    (.block 0
      (.seq
        (.reg [
            ⟨none, some 5, .binOp .eql E.tInt (.tmp 3) (.const (.int .i64 1)) E.tInt, E.tB⟩,
            ⟨none, some 4, .assign (.tmp 5), E.tB⟩])
      (.cond 4
        (.seq
          (.reg [
              ⟨none, some 2, .assign (.const (.int .i64 1)), E.tInt⟩])
        .ret)
        (.seq
          (.seq
            (.reg [
                ⟨none, some 7, .binOp .eql E.tInt (.tmp 3) (.const (.int .i64 2)) E.tInt, E.tB⟩,
                ⟨none, some 6, .assign (.tmp 7), E.tB⟩])
          (.cond 6
            .skip
            (.reg [
                ⟨none, some 8, .binOp .eql E.tInt (.tmp 3) (.const (.int .i64 5)) E.tInt, E.tB⟩,
                ⟨none, some 6, .assign (.tmp 8), E.tB⟩])))
        (.cond 6
          (.seq
            (.reg [
                ⟨none, some 2, .assign (.const (.int .i64 2)), E.tInt⟩])
          .ret)
          (.seq
            (.reg [
                ⟨none, some 10, .binOp .eql E.tInt (.tmp 3) (.const (.int .i64 3)) E.tInt, E.tB⟩,
                ⟨none, some 9, .assign (.tmp 10), E.tB⟩])
          (.cond 9
            (.seq
              (.reg [
                  ⟨none, some 2, .assign (.const (.int .i64 4)), E.tInt⟩])
            .ret)
            .skip))))))))
  (.seq
    (.reg [
        ⟨none, some 2, .assign (.const (.int .i64 8)), E.tInt⟩])
  .ret)))
def nt_spec_width : Nat := 11
def rs_spec_width (E : Env) : List Rv := [.t 2]

def ir_spec_Fixed (E : Env) : Ir :=
  (.seq
    (.reg [
        ⟨none, some 4, .assign (.const (.slice none 0 0)), E.tBs⟩])
  (.seq
    (.reg [
        ⟨none, some 5, .assign (.const (.slice none 0 0)), E.tBs⟩])
  (.seq
    (.seq
      (.reg [
          ⟨none, some 7, .move (.tmp 1), E.tInt⟩,
          ⟨none, some 8, .binOp .sub E.tInt (.tmp 7) (.const (.int .i64 1)) E.tInt, E.tInt⟩,
          ⟨none, some 6, .assign (.tmp 8), E.tInt⟩])
    (.block 0
      (.loop
        (.seq
          (.seq
            (.reg [
                ⟨none, some 9, .move (.tmp 6), E.tInt⟩,
                ⟨none, some 10, .binOp .geq E.tInt (.tmp 9) (.const (.int .i64 0)) E.tInt, E.tB⟩])
          (.cond 10
            .skip
            (.exit 0)))
        (.seq
          (.block 1
            (.reg [
                ⟨none, some 13, .move (.tmp 5), E.tBs⟩,
                ⟨none, some 14, .move (.tmp 0), E.tI64⟩,
                ⟨none, some 15, .move (.tmp 6), E.tInt⟩,
                ⟨none, some 16, .binOp .mul E.tInt (.const (.int .i64 8)) (.tmp 15) E.tInt, E.tInt⟩,
                ⟨none, some 17, .binOp .shr E.tI64 (.tmp 14) (.tmp 16) E.tInt, E.tI64⟩,
                ⟨none, some 18, .convert E.tI64 E.tU8 (.tmp 17), E.tU8⟩,
                ⟨none, some 19, .buildSlice E.tBs 1 #[(0, .tmp 18)], E.tBs⟩,
                ⟨none, some 20, .call { callee := .builtin .append, args := #[.tmp 13, .tmp 19], argTypes := #[E.tBs, E.tBs] }, E.tBs⟩,
                ⟨none, some 5, .assign (.tmp 20), E.tBs⟩]))
        (.reg [
            ⟨none, some 11, .move (.tmp 6), E.tInt⟩,
            ⟨none, some 12, .binOp .sub E.tInt (.tmp 11) (.const (.int .i64 1)) E.tInt, E.tInt⟩,
            ⟨none, some 6, .assign (.tmp 12), E.tInt⟩]))))))
  (.seq
    (.reg [
        ⟨none, some 21, .move (.tmp 5), E.tBs⟩,
        ⟨none, some 4, .assign (.tmp 21), E.tBs⟩])
  .ret))))
def nt_spec_Fixed : Nat := 22
def rs_spec_Fixed (E : Env) : List Rv := [.t 4]

def ir_spec_Same (E : Env) : Ir :=
  (.seq
    (.reg [
        ⟨none, some 4, .assign (.const (.bool false)), E.tB⟩])
  (.seq
    (.seq
      (.reg [
          ⟨none, some 6, .move (.tmp 0), E.tBs⟩,
          ⟨none, some 7, .call { callee := .builtin .len, args := #[.tmp 6], argTypes := #[E.tBs] }, E.tInt⟩,
          ⟨none, some 8, .move (.tmp 1), E.tBs⟩,
          ⟨none, some 9, .call { callee := .builtin .len, args := #[.tmp 8], argTypes := #[E.tBs] }, E.tInt⟩,
          ⟨none, some 10, .binOp .neq E.tInt (.tmp 7) (.tmp 9) E.tInt, E.tB⟩])
    (.cond 10
      (.seq
        (.reg [
            ⟨none, some 4, .assign (.const (.bool false)), E.tB⟩])
      .ret)
      .skip))
  (.seq
    (.seq
      (.reg [
          ⟨none, some 11, .move (.tmp 0), E.tBs⟩,
          ⟨none, some 12, .call { callee := .builtin .len, args := #[.tmp 11], argTypes := #[E.tBs] }, E.tInt⟩,
          ⟨none, some 13, .move (.const (.int .i64 0)), E.tInt⟩])
    (.block 0
      (.loop
        (.seq
          (.reg [
              ⟨none, some 14, .binOp .lss E.tInt (.tmp 13) (.tmp 12) E.tInt, E.tNil⟩])
        (.seq
          (.cond 14
            .skip
            (.exit 0))
        (.seq
          (.block 1
            (.seq
              (.reg [
                  ⟨none, some 15, .move (.tmp 13), E.tInt⟩,
                  ⟨none, some 5, .assign (.tmp 15), E.tInt⟩])
            (.seq
              (.regH [
                  (true, ⟨none, some 16, .move (.tmp 0), E.tBs⟩),
                  (true, ⟨none, some 17, .move (.tmp 5), E.tInt⟩),
                  (true, ⟨none, some 18, .indexAddr E.tBs (.tmp 16) (.tmp 17), E.tNil⟩),
                  (true, ⟨none, some 19, .load E.tU8 (.tmp 18), E.tU8⟩),
                  (true, ⟨none, some 20, .move (.tmp 1), E.tBs⟩),
                  (true, ⟨none, some 21, .move (.tmp 5), E.tInt⟩),
                  (true, ⟨none, some 22, .indexAddr E.tBs (.tmp 20) (.tmp 21), E.tNil⟩),
                  (true, ⟨none, some 23, .load E.tU8 (.tmp 22), E.tU8⟩),
                  (true, ⟨none, some 24, .binOp .neq E.tU8 (.tmp 19) (.tmp 23) E.tU8, E.tB⟩)])
            (.cond 24
              (.seq
                (.reg [
                    ⟨none, some 4, .assign (.const (.bool false)), E.tB⟩])
              .ret)
              .skip))))
        (.reg [
            ⟨none, some 25, .binOp .add E.tInt (.tmp 13) (.const (.int .i64 1)) E.tInt, E.tInt⟩,
            ⟨none, some 13, .move (.tmp 25), E.tInt⟩])))))))
  (.seq
    (.reg [
        ⟨none, some 4, .assign (.const (.bool true)), E.tB⟩])
  .ret))))
def nt_spec_Same : Nat := 26
def rs_spec_Same (E : Env) : List Rv := [.t 4]

def ir_spec_Kept (E : Env) : Ir :=
  (.seq
    (.reg [
        ⟨none, some 3, .box E.t_spec_Message (.tmp 0), E.tNil⟩,
        ⟨none, some 5, .box E.t_spec_Tree (.tmp 2), E.tNil⟩,
        ⟨none, some 6, .assign (.const (.slice none 0 0)), E.tBs⟩])
  (.seq
    (.regH [
        (true, ⟨none, some 7, .move (.tmp 1), E.tInt⟩),
        (true, ⟨none, some 9, .load E.t_spec_Message (.tmp 3), E.t_spec_Message⟩),
        (true, ⟨none, some 10, .move (.tmp 1), E.tInt⟩),
        (true, ⟨none, some 11, .load E.t_spec_Tree (.tmp 5), E.t_spec_Tree⟩),
        (false, ⟨none, some 8, .call { callee := .value (.func E.f_spec_Fixed), args := #[.tmp 7, .const (.int .i64 2)], argTypes := #[E.tI64, E.tInt] }, E.tBs⟩),
        (false, ⟨none, some 12, .call { callee := .value (.func E.f_spec_Write), args := #[.tmp 9, .tmp 10, .tmp 11], argTypes := #[E.t_spec_Message, E.tInt, E.t_spec_Tree] }, E.tBs⟩),
        (false, ⟨none, some 13, .call { callee := .builtin .append, args := #[.tmp 8, .tmp 12], argTypes := #[E.tBs, E.tBs] }, E.tBs⟩),
        (true, ⟨none, some 6, .assign (.tmp 13), E.tBs⟩)])
  .ret))
def nt_spec_Kept : Nat := 14
def rs_spec_Kept (E : Env) : List Rv := [.t 6]

def ir_spec_Default (E : Env) : Ir :=
  (.seq
    (.reg [
        ⟨none, some 2, .alloc E.t_spec_Tree, E.tNil⟩])
  (.seq
    (.reg [
        ⟨none, some 3, .alloc E.t_spec_Tree, E.tNil⟩])
  (.seq
    (.seq
      (.reg [
          ⟨none, some 7, .move (.tmp 0), E.t_l_spec_Field⟩,
          ⟨none, some 8, .call { callee := .builtin .len, args := #[.tmp 7], argTypes := #[E.t_l_spec_Field] }, E.tInt⟩,
          ⟨none, some 9, .move (.const (.int .i64 0)), E.tInt⟩])
    (.block 0
      (.loop
        (.seq
          (.reg [
              ⟨none, some 10, .binOp .lss E.tInt (.tmp 9) (.tmp 8) E.tInt, E.tNil⟩])
        (.seq
          (.cond 10
            .skip
            (.exit 0))
        (.seq
          (.block 1
            (.seq
              (.reg [
                  ⟨none, some 11, .indexAddr E.t_l_spec_Field (.tmp 7) (.tmp 9), E.tNil⟩,
                  ⟨none, some 12, .load E.t_spec_Field (.tmp 11), E.t_spec_Field⟩,
                  ⟨none, some 5, .alloc E.t_spec_Field, E.tNil⟩,
                  ⟨none, none, .store E.t_spec_Field (.tmp 5) (.tmp 12), E.tNil⟩])
            (.seq
              (.reg [
                  ⟨none, some 13, .fieldAddr E.t_spec_Field (.tmp 5) 5, E.tNil⟩,
                  ⟨none, some 14, .load E.tI64 (.tmp 13), E.tI64⟩,
                  ⟨none, some 15, .fieldAddr E.t_spec_Field (.tmp 5) 3, E.tNil⟩,
                  ⟨none, some 16, .load E.tInt (.tmp 15), E.tInt⟩,
                  ⟨none, some 17, .binOp .geq E.tInt (.tmp 16) (.const (.int .i64 0)) E.tInt, E.tB⟩,
                  ⟨none, some 18, .build E.t_spec_Tree #[(0, .tmp 14), (2, .tmp 17)], E.t_spec_Tree⟩,
                  ⟨none, some 6, .alloc E.t_spec_Tree, E.tNil⟩,
                  ⟨none, none, .store E.t_spec_Tree (.tmp 6) (.tmp 18), E.tNil⟩])
            (.seq
              (.seq
                (.reg [
                    ⟨none, some 19, .fieldAddr E.t_spec_Field (.tmp 5) 0, E.tNil⟩,
                    ⟨none, some 20, .load E.tInt (.tmp 19), E.tInt⟩,
                    ⟨none, some 21, .binOp .eql E.tInt (.tmp 20) (.const (.int .i64 10)) E.tInt, E.tB⟩])
              (.cond 21
                (.reg [
                    ⟨none, some 22, .fieldAddr E.t_spec_Field (.tmp 5) 7, E.tNil⟩,
                    ⟨none, some 23, .load E.t_l_spec_Field (.tmp 22), E.t_l_spec_Field⟩,
                    ⟨none, some 24, .call { callee := .value (.func E.f_spec_Default), args := #[.tmp 23], argTypes := #[E.t_l_spec_Field] }, E.t_spec_Tree⟩,
                    ⟨none, some 25, .field E.t_spec_Tree (.tmp 24) 3, E.t_l_spec_Tree⟩,
                    ⟨none, some 26, .fieldAddr E.t_spec_Tree (.tmp 6) 3, E.tNil⟩,
                    ⟨none, none, .store E.t_l_spec_Tree (.tmp 26) (.tmp 25), E.tNil⟩])
                .skip))
            (.reg [
                ⟨none, some 27, .fieldAddr E.t_spec_Tree (.tmp 3) 3, E.tNil⟩,
                ⟨none, some 28, .load E.t_l_spec_Tree (.tmp 27), E.t_l_spec_Tree⟩,
                ⟨none, some 29, .load E.t_spec_Tree (.tmp 6), E.t_spec_Tree⟩,
                ⟨none, some 30, .buildSlice E.t_l_spec_Tree 1 #[(0, .tmp 29)], E.t_l_spec_Tree⟩,
                ⟨none, some 31, .call { callee := .builtin .append, args := #[.tmp 28, .tmp 30], argTypes := #[E.t_l_spec_Tree, E.t_l_spec_Tree] }, E.t_l_spec_Tree⟩,
                ⟨none, some 32, .fieldAddr E.t_spec_Tree (.tmp 3) 3, E.tNil⟩,
                ⟨none, none, .store E.t_l_spec_Tree (.tmp 32) (.tmp 31), E.tNil⟩])))))
        (.reg [
            ⟨none, some 33, .binOp .add E.tInt (.tmp 9) (.const (.int .i64 1)) E.tInt, E.tInt⟩,
            ⟨none, some 9, .move (.tmp 33), E.tInt⟩])))))))
  (.seq
    (.reg [
        ⟨none, some 34, .load E.t_spec_Tree (.tmp 3), E.t_spec_Tree⟩,
        ⟨none, none, .store E.t_spec_Tree (.tmp 2) (.tmp 34), E.tNil⟩])
  .ret))))
def nt_spec_Default : Nat := 35
def rs_spec_Default (E : Env) : List Rv := [.c 2 E.t_spec_Tree]

def ir_spec_Field_has (E : Env) : Ir :=
  (.seq
    (.reg [
        ⟨none, some 2, .box E.t_spec_Field (.tmp 0), E.tNil⟩,
        ⟨none, some 4, .assign (.const (.bool false)), E.tB⟩])
  (.seq
    (.reg [
        ⟨none, some 5, .fieldAddr E.t_spec_Field (.tmp 2) 1, E.tNil⟩,
        ⟨none, some 6, .load E.tInt (.tmp 5), E.tInt⟩,
        ⟨none, some 7, .move (.tmp 1), E.tInt⟩,
        ⟨none, some 8, .binOp .leq E.tInt (.tmp 6) (.tmp 7) E.tInt, E.tB⟩,
        ⟨none, some 9, .move (.tmp 8), E.tB⟩,
        ⟨(some (9, true)), some 10, .fieldAddr E.t_spec_Field (.tmp 2) 2, E.tNil⟩,
        ⟨(some (9, true)), some 11, .load E.tInt (.tmp 10), E.tInt⟩,
        ⟨(some (9, true)), some 12, .binOp .lss E.tInt (.tmp 11) (.const (.int .i64 0)) E.tInt, E.tB⟩,
        ⟨(some (9, true)), some 13, .move (.tmp 12), E.tB⟩,
        ⟨(some (13, false)), some 14, .move (.tmp 1), E.tInt⟩,
        ⟨(some (13, false)), some 15, .fieldAddr E.t_spec_Field (.tmp 2) 2, E.tNil⟩,
        ⟨(some (13, false)), some 16, .load E.tInt (.tmp 15), E.tInt⟩,
        ⟨(some (13, false)), some 17, .binOp .leq E.tInt (.tmp 14) (.tmp 16) E.tInt, E.tB⟩,
        ⟨(some (9, true)), some 18, .pick (.tmp 13) (.const (.bool true)) (.tmp 17), E.tB⟩,
        ⟨none, some 19, .pick (.tmp 9) (.tmp 18) (.const (.bool false)), E.tB⟩,
        ⟨none, some 4, .assign (.tmp 19), E.tB⟩])
  .ret))
def nt_spec_Field_has : Nat := 20
def rs_spec_Field_has (E : Env) : List Rv := [.t 4]

def ir_spec_Field_null (E : Env) : Ir :=
  (.seq
    (.reg [
        ⟨none, some 3, .box E.t_spec_Field (.tmp 0), E.tNil⟩,
        ⟨none, some 5, .box E.t_spec_Tree (.tmp 2), E.tNil⟩,
        ⟨none, some 6, .assign (.const (.bool false)), E.tB⟩])
  (.seq
    (.reg [
        ⟨none, some 7, .fieldAddr E.t_spec_Tree (.tmp 5) 2, E.tNil⟩,
        ⟨none, some 8, .load E.tB (.tmp 7), E.tB⟩,
        ⟨none, some 9, .move (.tmp 8), E.tB⟩,
        ⟨(some (9, true)), some 10, .fieldAddr E.t_spec_Field (.tmp 3) 3, E.tNil⟩,
        ⟨(some (9, true)), some 11, .load E.tInt (.tmp 10), E.tInt⟩,
        ⟨(some (9, true)), some 12, .binOp .geq E.tInt (.tmp 11) (.const (.int .i64 0)) E.tInt, E.tB⟩,
        ⟨none, some 13, .pick (.tmp 9) (.tmp 12) (.const (.bool false)), E.tB⟩,
        ⟨none, some 14, .move (.tmp 13), E.tB⟩,
        ⟨(some (14, true)), some 15, .move (.tmp 1), E.tInt⟩,
        ⟨(some (14, true)), some 16, .fieldAddr E.t_spec_Field (.tmp 3) 3, E.tNil⟩,
        ⟨(some (14, true)), some 17, .load E.tInt (.tmp 16), E.tInt⟩,
        ⟨(some (14, true)), some 18, .binOp .geq E.tInt (.tmp 15) (.tmp 17) E.tInt, E.tB⟩,
        ⟨none, some 19, .pick (.tmp 14) (.tmp 18) (.const (.bool false)), E.tB⟩,
        ⟨none, some 6, .assign (.tmp 19), E.tB⟩])
  .ret))
def nt_spec_Field_null : Nat := 20
def rs_spec_Field_null (E : Env) : List Rv := [.t 6]

end Go.Kg
