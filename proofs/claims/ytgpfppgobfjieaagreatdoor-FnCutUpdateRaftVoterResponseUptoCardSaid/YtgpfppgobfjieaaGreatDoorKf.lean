/- What is proved here: how the code of the messages runs, in general: a semantics of calls by their texts, and contracts of the functions of kbin and of the reference. No condition but those that each theorem names. -/
import Derived.Maps.RangeRun
import Derived.Shelf.GgSortFunc.Whole
import Derived.Shelf.GgSortFunc.Tiny
import Derived.Test.YtgpfppgobfjieaaGreatDoorKe
set_option linter.unusedSectionVars false
set_option linter.unusedSimpArgs false
set_option linter.unusedVariables false
set_option linter.unusedSimpArgs false
set_option linter.unusedVariables false
namespace Go.Kg
open Go
theorem DstAt.ext {E : Env} {base bd n0 : Nat} {w0 w w' : World} {v0 v : Value} {prot : Nat → Prop} {s : List UInt8} (hD : DstAt E base bd w0 v0 prot s w v) (he : Ext (fun x => n0 ≤ x) w w') (hbd : bd < n0) (hv : ∀ k, own1 v k → k < n0) (h0 : w0.heap.size ≤ n0) :
    DstAt E base bd w0 v0 (fun k => n0 ≤ k ∧ k < w'.heap.size) s w' v :=
  ⟨he.old hD.cell (by omega), Own.ext hD.own he (fun b h h' => by have := hv b h; omega), ⟨hD.grew.ext.grow he h0, hD.grew.own⟩, fun k hk => ⟨hk.2, fun h => by have := hv k h; omega⟩⟩
theorem DstAt.tags {E : Env} {base bd : Nat} {w0 w : World} {v0 v : Value} {prot : Nat → Prop} {s s0 : List UInt8} (hD : DstAt E base bd w0 v0 prot s w v) (ho : OwnB E.tU8 w0 base v0 s0) {b o : Nat} {u : Value} {l : TagL} (hb : ¬ own1 v0 b) (hc : w0.cell? ⟨b, o, none⟩ = some u) (hl : TagsAt w0 (· < base) u l) :
    w.cell? ⟨b, o, none⟩ = some u ∧ TagsAt w (· < base) u l :=
  ⟨hD.grew.ext.cell hc hb, hl.ext hD.grew.ext (fun b _ hb h => by have := (Own.below ho h).1; omega)⟩
theorem EL.find {w : World} {K : Nat → Prop} {c : Nat} : ∀ {L : List MapEntry} {l : TagL} (i : Nat), EL w K c L l → (l.map (·.1)).Nodup → ∀ x ∈ l, x.1 < 4294967296 ∧ ∃ j v, Instr.findNow (.int .u32) (.int .u32 x.1) L i = some (some (j, v)) ∧ BytesAt w K v x.2
  | e :: L, y :: l, i, ⟨⟨h1, h2, h3, h4⟩, h5⟩, hn, x, hx => by
    simp only [List.map_cons, List.nodup_cons] at hn
    by_cases hxy : y.1 = x.1
    · have : x = y := by
        rcases List.mem_cons.1 hx with h | h
        · exact h
        · exact absurd (List.mem_map.2 ⟨x, h, hxy.symm⟩) hn.1
      subst this
      exact ⟨h2, i, e.val, by simp [Instr.findNow, Instr.sameNow, h1], h4⟩
    · have hx' : x ∈ l := by
        rcases List.mem_cons.1 hx with h | h
        · subst h; exact absurd rfl hxy
        · exact h
      obtain ⟨a, j, v, b1, b2⟩ := EL.find (i + 1) h5 hn.2 x hx'
      have hne : ((x.1 : Int) == (y.1 : Int)) = false := by simp; omega
      exact ⟨a, j, v, by simp [Instr.findNow, Instr.sameNow, h1, hne, b1], b2⟩
  | [], _ :: _, _, h, _, _, _ => h.elim
theorem run_lookup {P : Program} {T KT VT : TypeId} (hT : P.underlying T = some (.map KT VT)) (hK : P.underlying KT = some (.int .u32)) {w : World} {b clock j : Nat} {k : Int} {v : Value} {es : Array MapEntry}
    (hb : w.heap[b]? = some (.map es clock)) (hf : Instr.findNow (.int .u32) (.int .u32 k) es.toList 0 = some (some (j, v))) :
    (Instr.lookup T (.map (some b)) (.int .u32 k) false).run P w = .ok v w := by
  have hget : (getObj b).run P w = .ok (.map es clock) w := by simp [getObj, Sem.run, hb]
  simp [Instr.lookup, run_underlying hT, hget, check_u32 hK, Instr.findKey, run_underlying hK, hf]
theorem EL.keys {w : World} {K : Nat → Prop} {c : Nat} : ∀ {L : List MapEntry} {l : TagL}, EL w K c L l → L.map (·.key) = l.map fun x => Value.int .u32 x.1
  | [], [], _ => rfl
  | e :: L, x :: l, h => by simp [h.1.1, EL.keys h.2]
  | [], _ :: _, h => h.elim
  | _ :: _, [], h => h.elim
theorem left_perm {seen : Array Nat} {e : MapEntry} : ∀ {L : List MapEntry}, (L.map (·.born)).Nodup → e ∈ L → seen.contains e.born = false →
    ((L.filter fun x => !seen.contains x.born).map (·.key)).Perm (e.key :: (L.filter fun x => !(seen.push e.born).contains x.born).map (·.key))
  | x :: L, hn, he, hs => by
    simp only [List.map_cons, List.nodup_cons] at hn
    have hc : ∀ y : MapEntry, (seen.push e.born).contains y.born = (seen.contains y.born || (y.born == e.born)) := by
      intro y; rw [contains_push]
    by_cases hxe : x.born = e.born
    · have hx : x = e := by
        rcases List.mem_cons.1 he with h | h
        · exact h.symm
        · exact absurd (List.mem_map.2 ⟨e, h, hxe.symm⟩) hn.1
      subst hx
      have hrest : (L.filter fun y => !(seen.push x.born).contains y.born) = L.filter fun y => !seen.contains y.born := by
        refine List.filter_congr fun y hy => ?_
        have : (y.born == x.born) = false := by simp; intro h; exact hn.1 (h ▸ List.mem_map.2 ⟨y, hy, rfl⟩)
        rw [hc, this]; simp
      have h1 : (List.filter (fun y : MapEntry => !seen.contains y.born) (x :: L)) = x :: L.filter fun y => !seen.contains y.born := by rw [List.filter_cons, hs]; rfl
      have h2 : (List.filter (fun y : MapEntry => !(seen.push x.born).contains y.born) (x :: L)) = L.filter fun y => !(seen.push x.born).contains y.born := by rw [List.filter_cons, hc]; simp
      rw [h1, h2, hrest]
      exact List.Perm.refl _
    · have he' : e ∈ L := by
        rcases List.mem_cons.1 he with h | h
        · subst h; exact absurd rfl hxe
        · exact h
      have ih := left_perm hn.2 he' hs
      have hxb : (x.born == e.born) = false := by simpa using hxe
      cases hsx : seen.contains x.born
      · have h1 : (List.filter (fun y : MapEntry => !seen.contains y.born) (x :: L)) = x :: L.filter fun y => !seen.contains y.born := by rw [List.filter_cons, hsx]; rfl
        have h2 : (List.filter (fun y : MapEntry => !(seen.push e.born).contains y.born) (x :: L)) = x :: L.filter fun y => !(seen.push e.born).contains y.born := by rw [List.filter_cons, hc, hsx, hxb]; rfl
        rw [h1, h2]
        simp only [List.map_cons]
        exact (List.Perm.cons _ ih).trans (List.Perm.swap _ _ _)
      · have h1 : (List.filter (fun y : MapEntry => !seen.contains y.born) (x :: L)) = L.filter fun y => !seen.contains y.born := by rw [List.filter_cons, hsx]; rfl
        have h2 : (List.filter (fun y : MapEntry => !(seen.push e.born).contains y.born) (x :: L)) = L.filter fun y => !(seen.push e.born).contains y.born := by rw [List.filter_cons, hc, hsx]; simp
        rw [h1, h2]; exact ih
theorem sorted_keys {l : TagL} {d : List Nat} (hn : (l.map (·.1)).Nodup) (hp : d.Perm (l.map (·.1))) (hs : d.Pairwise (· ≤ ·)) : d = (sortTags l).map (·.1) := by
  have hp2 : ((sortTags l).map (·.1)).Perm (l.map (·.1)) := by
    refine List.Perm.map _ ?_
    clear hn hp hs
    induction l with
    | nil => exact List.Perm.refl _
    | cons x l ih =>
      have hi : ∀ (x : Nat × List UInt8) (l : TagL), (insTag x l).Perm (x :: l) := by
        intro x l
        induction l with
        | nil => exact List.Perm.refl _
        | cons y l ih =>
          simp only [insTag]
          split
          · exact List.Perm.refl _
          · exact (List.Perm.cons _ ih).trans (List.Perm.swap _ _ _)
      exact (hi x (sortTags l)).trans (List.Perm.cons _ ih)
  have hs2 : ((sortTags l).map (·.1)).Pairwise (· ≤ ·) := by
    rw [List.pairwise_map]; exact sortTags_sorted l
  exact List.Perm.eq_of_pairwise (fun a b _ _ h1 h2 => Nat.le_antisymm h1 h2) hs hs2 (hp.trans hp2.symm)
/-- sort.Slice over ordered, by the literal in Each -/
def SortC (P : Program) (E : Env) : Prop := ∀ (w : World) (Bs blk c : Nat) (d : List Nat) (row : Array Value), w.cell? ⟨Bs, 0, none⟩ = some (.slice (some ⟨blk, 0, none⟩) d.length c) → Bs ≠ blk → w.heap[blk]? = some (.cells row E.tU32 (0, 0)) →
  (∀ (i x : Nat), d[i]? = some x → row[i]? = some (Value.int .u32 (x : Int))) → 0 < d.length → d.length < 4294967296 →
  Ret P E.f_sort_Slice #[.iface E.t_l_uint32 (.slice (some ⟨blk, 0, none⟩) d.length c), .func (.func E.f_pkmsg_Tags_Each_1) #[] #[.pointer (some ⟨Bs, 0, none⟩)]] w fun _ w' => ∃ d' : List Nat, d'.Perm d ∧ d'.Pairwise (· ≤ ·) ∧ Ext (· = blk) w w' ∧
    ∀ (i x : Nat), d'[i]? = some x → w'.cell? ⟨blk, i, none⟩ = some (Value.int .u32 (x : Int))
@[simp] theorem stp_range {P : Program} {f : Nat → Value} {ty : TypeId} {w : World} {K : Value → World → Prop} {T : TypeId} {a : Operand} : stp P f (.range T a) ty w K = stepF P f (.range T a) ty w K := (rfl)
@[simp] theorem stp_next {P : Program} {f : Nat → Value} {ty : TypeId} {w : World} {K : Value → World → Prop} {a : Operand} {b : Bool} : stp P f (.next a b) ty w K = stepF P f (.next a b) ty w K := (rfl)
@[simp] theorem stp_entry {P : Program} {f : Nat → Value} {ty : TypeId} {w : World} {K : Value → World → Prop} {a : Operand} : stp P f (.entry a) ty w K = stepF P f (.entry a) ty w K := (rfl)
@[simp] theorem stp_lookup {P : Program} {f : Nat → Value} {ty : TypeId} {w : World} {K : Value → World → Prop} {T : TypeId} {a b : Operand} {c : Bool} : stp P f (.lookup T a b c) ty w K = stepF P f (.lookup T a b c) ty w K := (rfl)
@[simp] theorem stp_mkI {P : Program} {f : Nat → Value} {ty : TypeId} {w : World} {K : Value → World → Prop} {T : TypeId} {a : Operand} : stp P f (.makeInterface T a) ty w K = stepF P f (.makeInterface T a) ty w K := (rfl)
def rLeft (w : World) (b r : Nat) : Nat :=
  match w.heap[b]?, w.heap[r]? with
  | some (.map es _), some (.mapIter _ _ seen _) => (leftOf es seen).size
  | _, _ => 0
theorem rLeft_of {w : World} {b r c s c0 : Nat} {es : Array MapEntry} {seen : Array Nat} {m : Option Nat} (h1 : w.heap[b]? = some (.map es c)) (h2 : w.heap[r]? = some (.mapIter m s seen c0)) : rLeft w b r = (leftOf es seen).size := by
  simp [rLeft, h1, h2]
/-- while the keys are gathered -/
structure RngI (E : Env) (base bd n0 : Nat) (w0 : World) (v0 : Value) (s : List UInt8) (v : Value) (it bp m : Nat) (es : Array MapEntry) (clock : Nat) (pt fn : Value) (ww : World) (f : Nat → Value) (w : World) : Prop where
  ext : Ext (fun x => n0 ≤ x) ww w
  f0 : f 0 = pt
  f1 : f 1 = fn
  f4 : f 4 = .pointer (some ⟨bp, 0, none⟩)
  f24 : f 24 = .pointer (some ⟨it, 0, none⟩)
  st : ∃ seen c0 ov done, w.heap[it]? = some (.mapIter (some m) clock seen c0) ∧ clock ≤ c0 ∧ w.heap[bp]? = some (.cells #[ov] E.t_l_uint32 (0, 0)) ∧ Own w n0 E.tU32 1 ov done ∧ (∀ k, own1 ov k → k ≠ it ∧ k ≠ bp) ∧
    (((es.toList.filter fun x => !seen.contains x.born).map (·.key)) ++ done).Perm (es.toList.map (·.key)) ∧ done.length ≤ es.size
section
variable {P : Program} {E : Env} (ht : TyTg P E)
include ht
set_option maxHeartbeats 1000000 in
/-- 'for key := range t.keyvals' -/
theorem c_round (kS : kindOf P E.t_l_uint32 = .scl) (hS : SliI P E.t_l_uint32 E.tU32 1 4 (.int .u32 0)) (hi : intKind? P E.tU32 = some .u32)
    {base bd n0 : Nat} {w0 ww : World} {v0 v : Value} {s : List UInt8} {it bp m : Nat} {es : Array MapEntry} {clock : Nat} {pt fn : Value} {f : Nat → Value} {w : World} {K : Nat → Prop} {l : TagL}
    (h : RngI E base bd n0 w0 v0 s v it bp m es clock pt fn ww f w) (hm : w.heap[m]? = some (.map es clock)) (he : EL w K clock es.toList l) (hn : (es.toList.map (·.born)).Nodup) (hlen : es.size ≤ 40000) (hit : n0 ≤ it ∧ it < w.heap.size) (hbp : n0 ≤ bp ∧ bp < w.heap.size) (hib : it ≠ bp) (hm0 : m < n0) {Q : Post}
    (hdone : ∀ f' w', w' = w → (∀ x, x ≠ 25 → x ≠ 26 → f' x = f x) → leftOf es #[] = leftOf es #[] → (∃ seen c0, w.heap[it]? = some (.mapIter (some m) clock seen c0) ∧ (leftOf es seen).size = 0) → Q (.exit 0) f' w')
    (hnext : ∀ f' w', RngI E base bd n0 w0 v0 s v it bp m es clock pt fn ww f' w' → rLeft w' m it < rLeft w m it → Q .normal f' w') :
    ((Ir.seq
          (.reg [
              ⟨none, some 25, .next (.tmp 24) false, E.tNil⟩,
              ⟨none, some 26, .extract (.tmp 25) 0, E.tB⟩])
        (.seq
          (.cond 26
            .skip
            (.exit 0))
        (.block 1
          (.seq
            (.reg [
                ⟨none, some 27, .entry (.tmp 24), E.tNil⟩,
                ⟨none, some 28, .extract (.tmp 27) 0, E.tU32⟩,
                ⟨none, some 5, .assign (.tmp 28), E.tU32⟩])
          (.reg [
              ⟨none, some 29, .load E.t_l_uint32 (.tmp 4), E.t_l_uint32⟩,
              ⟨none, some 30, .move (.tmp 5), E.tU32⟩,
              ⟨none, some 31, .buildSlice E.t_l_uint32 1 #[(0, .tmp 30)], E.t_l_uint32⟩,
              ⟨none, some 32, .call { callee := .builtin .append, args := #[.tmp 29, .tmp 31], argTypes := #[E.t_l_uint32, E.t_l_uint32] }, E.t_l_uint32⟩,
              ⟨none, none, .store E.t_l_uint32 (.tmp 4) (.tmp 32), E.tNil⟩])))))).cw P Q f w := by
  obtain ⟨seen, c0, ov, done, hr, hc0, hbo, ho, hoff, hperm, hdl⟩ := h.st
  have hold : ∀ x ∈ es.toList, x.born < clock := fun x hx => by
    obtain ⟨y, _, hy⟩ := he.mem x hx
    exact hy.2.2.1
  simp [h.f24]
  rcases run_next_at (P := P) w E.tNil it m clock c0 seen es clock hr hm hold hc0 with ⟨h0, hrun⟩ | ⟨e, hel, w1, hal, hrun⟩
  · rw [stepF_ok (v := .tuple #[.bool false]) (w' := w) (by simp [runF, execOp, h.f24, hrun])]
    simp
    refine cw_false (by simp) ?_
    simp
    exact hdone _ _ rfl (fun x h1 h2 => by simp [h1, h2]) rfl ⟨seen, c0, hr, h0⟩
  · obtain ⟨hem, hes⟩ := mem_left hel
    generalize hw2 : ChangeMaps.setBlock w1 it (.mapIter (some m) clock (seen.push e.born) clock) = w2 at hrun
    rw [stepF_ok (v := .tuple #[.bool true, e.key, e.val]) (w' := w2) (by simp [runF, execOp, h.f24, hrun])]
    have hE12 : Ext (fun x => n0 ≤ x) w w1 := by rcases hal with rfl | rfl <;> first | exact Ext.refl _ _ | exact (Ext.refl _ _).drew
    have hr1 : w1.heap[it]? = some (.mapIter (some m) clock seen c0) := by rcases hal with rfl | rfl <;> exact hr
    have hw2' : w1.setBlk it (.mapIter (some m) clock (seen.push e.born) clock) = w2 := hw2
    have hE2 : Ext (fun x => x = it) w w2 := by
      subst hw2'
      refine Ext.setBlk (C := fun x => x = it) (b := it) ?_ (Or.inr rfl) _
      rcases hal with rfl | rfl <;> first | exact Ext.refl _ _ | exact (Ext.refl _ _).drew
    have hr2 : w2.heap[it]? = some (.mapIter (some m) clock (seen.push e.born) clock) := by subst hw2'; exact setBlk_same hr1
    have hm2 : w2.heap[m]? = some (.map es clock) := hE2.old hm (by omega)
    have hent := run_entry_at (P := P) w2 it m clock seen es clock e hr2 hm2 hem hn
    have hb2 : w2.heap[bp]? = some (.cells #[ov] E.t_l_uint32 (0, 0)) := hE2.old hbo (Ne.symm hib)
    have ho2 : Own w2 n0 E.tU32 1 ov done := Own.ext ho hE2 (fun b hb => (hoff b hb).1)
    obtain ⟨y, hy, hy1, hy2, _⟩ := he.mem e hem
    have cb : w2.cell? ⟨bp, 0, none⟩ = some ov := by rw [cell_of_blk hb2]; rfl
    simp
    refine cw_true (by simp) ?_
    simp [h.f24]
    rw [stepF_ok (v := .tuple #[e.key, e.val]) (w' := w2) (by simp [runF, execOp, h.f24, hent])]
    simp [h.f4, ld_scl kS, cb]
    rw [st_bsl (n := 1) (parts := #[(0, .tmp 30)]) hS (by omega) (by rfl) rfl (by omega) (by omega) (by simp [allSz, hy1, Value.cells])]
    simp [flat, hy1, Value.cells]
    generalize hw3 : w2.alloc (.cells #[.int .u32 y.1] E.tU32) = w3
    have hE3 : Ext none1 w2 w3 := by subst hw3; exact (Ext.refl _ _).alloc _
    have hs3 : w2.heap.size < w3.heap.size := by subst hw3; simp
    have ho3 : Own w3 n0 E.tU32 1 ov done := Own.ext ho2 hE3 (fun _ _ h => h)
    have hb3 : w3.heap[w2.heap.size]? = some (.cells #[.int .u32 y.1] E.tU32 (0, 0)) := by subst hw3; exact alloc_new
    have hs2 : w2.heap.size = w.heap.size := by subst hw2'; rcases hal with rfl | rfl <;> simp
    have hp2 := left_perm hn hem hes
    have hlt : done.length < es.size := by
      have h1 := hperm.length_eq
      have h2 := hp2.length_eq
      simp only [List.length_append, List.length_map, List.length_cons, Array.length_toList] at h1 h2
      omega
    refine st_append hS (by omega) (base := n0) (xs := done) (by simpa using ho3) (ad := some ⟨w2.heap.size, 0, none⟩) (m := 1) (c := 1) (news := [.int .u32 y.1]) (by simp) (by simp) (by simp) ?_ (by simp [Value.oneCell']) (by simp [maxLen]; omega) (by simp; omega) (by omega) ?_
    · intro a ha j u hj
      cases ha
      cases j with
      | zero => simp at hj; subst hj; simp [Addr.add_mk, cell_of_blk hb3]
      | succ j => simp at hj
    · intro v' w4 ho4 hg4
      have hv' : v'.oneCell' = true ∧ v'.cells = #[v'] := by
        obtain ⟨n, _, h⟩ := ho4
        rcases h with ⟨rfl, _⟩ | ⟨g, cap, cur, rfl, _⟩ <;> exact ⟨rfl, rfl⟩
      simp at hg4
      have hb4 : w4.heap[bp]? = some (.cells #[ov] E.t_l_uint32 (0, 0)) := hg4.ext.old (hE3.old hb2 (fun h => h)) (fun h => (hoff bp h).2 rfl)
      have hit4 : w4.heap[it]? = some (.mapIter (some m) clock (seen.push e.born) clock) := hg4.ext.old (hE3.old hr2 (fun h => h)) (fun h => (hoff it h).1 rfl)
      have hm4 : w4.heap[m]? = some (.map es clock) := hg4.ext.old (hE3.old hm2 (fun h => h)) (fun h => by have := (Own.below ho h).1; omega)
      simp [h.f4, store_scl kS, hv'.1, put1K_blk hb4]
      generalize hw5 : w4.setBlk bp (.cells #[v'] E.t_l_uint32 (0, 0)) = w5
      have hE5 : Ext (fun x => x = bp) w4 w5 := by subst hw5; exact (Ext.refl (fun x => x = bp) _).setBlk (b := bp) (Or.inr rfl) _
      have hsz4 := hg4.ext.size
      have hov4 : ∀ k, own1 v' k → k ≠ it ∧ k ≠ bp := fun k hk => (hg4.own k hk).elim (hoff k) (fun h => by omega)
      have hit5 : w5.heap[it]? = some (.mapIter (some m) clock (seen.push e.born) clock) := hE5.old hit4 hib
      have hm5 : w5.heap[m]? = some (.map es clock) := hE5.old hm4 (by omega)
      refine hnext _ _ ⟨?_, by simp [h.f0], by simp [h.f1], by simp [h.f4], by simp [h.f24], seen.push e.born, clock, v', done ++ [.int .u32 y.1], hit5, Nat.le_refl _, ?_, Own.ext ho4 hE5 (fun b hb => (hov4 b hb).2), hov4, ?_, ?_⟩ ?_
      · refine h.ext.trans ?_
        refine (hE2.mono (fun _ _ e => by omega)).trans ?_
        refine (hE3.mono (fun _ _ e => e.elim)).trans ?_
        refine (hg4.ext.mono (fun k _ hk => (Own.below ho hk).1)).trans ?_
        exact hE5.mono (fun _ _ e => by omega)
      · subst hw5; exact setBlk_same hb4
      · refine List.Perm.trans ?_ hperm
        have := hp2.append_right done
        refine List.Perm.trans ?_ this.symm
        simp only [hy1, List.cons_append]
        rw [← List.append_assoc]
        exact List.perm_append_singleton _ _
      · simp; omega
      · rw [rLeft_of hm5 hit5, rLeft_of hm hr]
        exact left_shrinks es seen e hel
end
end Go.Kg

set_option linter.unusedSimpArgs false
set_option linter.unusedVariables false
set_option linter.unusedSectionVars false
namespace Go.Kg
open Go
theorem regW_append {P : Program} {Q : (Nat → Value) → World → Prop} {l2 : List Ro} : ∀ (l1 : List Ro) (f : Nat → Value) (w : World), regW P Q (l1 ++ l2) f w = regW P (regW P Q l2) l1 f w
  | [], f, w => rfl
  | o :: r, f, w => by
    rw [List.cons_append, regW_cons, regW_cons]
    have e : ∀ f w, regW P Q (r ++ l2) f w = regW P (regW P Q l2) r f w := fun f w => regW_append r f w
    simp only [e]
/-- Tags.zzSame, its parts; body: what is done for each tag of a section that is not empty (never reached here) -/
def roSameT (E : Env) : List Ro :=
  let M := E.t_map_uint32_l_uint8
  [⟨(some (16, false)), some 17, .fieldAddr E.t_kmsg_Tags (.tmp 2) 0, E.tNil⟩, ⟨(some (16, false)), some 18, .load M (.tmp 17), M⟩,
          ⟨(some (16, false)), some 19, .call { callee := .builtin .len, args := #[.tmp 18], argTypes := #[M] }, E.tInt⟩,
          ⟨(some (16, false)), some 20, .fieldAddr E.t_kmsg_Tags (.tmp 3) 0, E.tNil⟩, ⟨(some (16, false)), some 21, .load M (.tmp 20), M⟩,
          ⟨(some (16, false)), some 22, .call { callee := .builtin .len, args := #[.tmp 21], argTypes := #[M] }, E.tInt⟩,
          ⟨(some (16, false)), some 23, .binOp .neq E.tInt (.tmp 19) (.tmp 22) E.tInt, E.tB⟩, ⟨none, some 24, .pick (.tmp 16) (.const (.bool true)) (.tmp 23), E.tB⟩]
def irSameT1 (E : Env) : Ir :=
  let M := E.t_map_uint32_l_uint8
  .reg ([⟨none, some 9, .fieldAddr E.t_kmsg_Tags (.tmp 2) 0, E.tNil⟩, ⟨none, some 10, .load M (.tmp 9), M⟩, ⟨none, some 11, .binOp .eql M (.tmp 10) (.const (.map none)) M, E.tB⟩,
          ⟨none, some 12, .fieldAddr E.t_kmsg_Tags (.tmp 3) 0, E.tNil⟩, ⟨none, some 13, .load M (.tmp 12), M⟩, ⟨none, some 14, .binOp .eql M (.tmp 13) (.const (.map none)) M, E.tB⟩,
          ⟨none, some 15, .binOp .neq E.tB (.tmp 11) (.tmp 14) E.tB, E.tB⟩, ⟨none, some 16, .move (.tmp 15), E.tB⟩] ++ roSameT E)
def irSameT2 (E : Env) (body : Ir) : Ir :=
  let M := E.t_map_uint32_l_uint8
  (.seq
    (.seq (.reg [⟨none, some 25, .fieldAddr E.t_kmsg_Tags (.tmp 2) 0, E.tNil⟩, ⟨none, some 26, .load M (.tmp 25), M⟩, ⟨none, some 27, .range M (.tmp 26), E.tNil⟩])
    (.block 0 (.loop (.seq (.reg [⟨none, some 28, .next (.tmp 27) false, E.tNil⟩, ⟨none, some 29, .extract (.tmp 28) 0, E.tB⟩]) (.seq (.cond 29 .skip (.exit 0)) (.block 1 body))))))
  (.seq (.reg [⟨none, some 4, .assign (.const (.bool true)), E.tB⟩]) .ret))
def irSameT (E : Env) (body : Ir) : Ir :=
  .seq (.reg [⟨none, some 2, .box E.t_kmsg_Tags (.tmp 0), E.tNil⟩, ⟨none, some 3, .box E.t_kmsg_Tags (.tmp 1), E.tNil⟩, ⟨none, some 4, .assign (.const (.bool false)), E.tB⟩])
  (.seq (.seq (irSameT1 E) (.cond 24 (.seq (.reg [⟨none, some 4, .assign (.const (.bool false)), E.tB⟩]) .ret) .skip)) (irSameT2 E body))
theorem run_range_nil {P : Program} {w : World} {t k e : Nat} (ht : P.underlying t = some (.map k e)) : (Instr.range t (.map none)).run P w = .ok (.pointer (some ⟨w.heap.size, 0, none⟩)) (w.alloc (.mapIter none 0 #[] 0)) := by
  simp [Instr.range, run_underlying ht, newObj, Sem.run]
theorem run_next_nil {P : Program} {w : World} {r s c : Nat} {seen : Array Nat} {ty : Nat} (h : w.heap[r]? = some (.mapIter none s seen c)) : (Instr.next (.pointer (some ⟨r, 0, none⟩)) false ty).run P w = .ok (.tuple #[.bool false]) w := by
  have hg : (getObj r).run P w = .ok (.mapIter none s seen c) w := by simp [getObj, Sem.run, h]
  simp [Instr.next, hg]
section
variable {P : Program} {E : Env}
theorem c_sameT (ht : TyTg P E) (uB : P.underlying E.tB = some .bool) {g nt : Nat} {body : Ir} (hI : FnIs P g nt [.t 4] (irSameT E body)) (hnt : 30 ≤ nt) {w : World} {K : Nat → Prop} {u : Value} {l : TagL} (hl : TagsAt w K u l) :
    Ret P g #[.agg #[u], .agg #[.map none]] w fun v w' => v = .bool l.isEmpty ∧ Ext none1 w w' := by
  refine hI.call (args := [_, _]) (by simp; omega) ?_
  simp [irSameT, show ∀ a : Array Value, (Value.agg a).cells = a from fun _ => rfl]
  generalize hw1 : w.alloc (.cells #[u] E.t_kmsg_Tags) = w1
  have hb1 : w1.heap[w.heap.size]? = some (.cells #[u] E.t_kmsg_Tags (0, 0)) := by subst hw1; exact alloc_new
  have hE1 : Ext none1 w w1 := by subst hw1; exact (Ext.refl _ _).alloc _
  have hs1 : w1.heap.size = w.heap.size + 1 := by subst hw1; simp
  generalize hw2 : w1.alloc (.cells #[.map none] E.t_kmsg_Tags) = w2
  have hb2 : w2.heap[w.heap.size + 1]? = some (.cells #[.map none] E.t_kmsg_Tags (0, 0)) := by subst hw2; rw [← hs1]; exact alloc_new
  have hE2 : Ext none1 w1 w2 := by subst hw2; exact (Ext.refl _ _).alloc _
  have c1 : w2.cell? ⟨w.heap.size, 0, none⟩ = some u := by rw [cell_of_blk (hE2.old hb1 (fun h => h))]; rfl
  have c2 : w2.cell? ⟨w.heap.size + 1, 0, none⟩ = some (.map none) := by rw [cell_of_blk hb2]; rfl
  have hE := hE1.trans hE2
  rcases hl with ⟨rfl, rfl⟩ | ⟨b, es, clock, rfl, _, hb, hs, hn, hlen, hx⟩
  · simp only [irSameT1, cw_reg, regW_append]
    simp [ht.g0, Addr.add_mk, ld_scl ht.kM, c1, c2, bin_nil_map ht.uM, bin_bool_neq uB]
    simp [roSameT, ht.g0, Addr.add_mk, ld_scl ht.kM, c1, c2, isM ht, mapLen?]
    refine cw_false (by simp) ?_
    simp [irSameT2, ht.g0, Addr.add_mk, ld_scl ht.kM, c1]
    rw [stepF_ok (v := .pointer (some ⟨w2.heap.size, 0, none⟩)) (w' := w2.alloc (.mapIter none 0 #[] 0)) (by simp [runF, execOp, run_range_nil ht.uM])]
    generalize hw3 : w2.alloc (.mapIter none 0 #[] 0) = w3
    have hE3 : Ext none1 w2 w3 := by subst hw3; exact (Ext.refl _ _).alloc _
    have hb3 : w3.heap[w2.heap.size]? = some (.mapIter none 0 #[] 0) := by subst hw3; exact alloc_new
    refine cw_loop (fun f w' => f 27 = .pointer (some ⟨w2.heap.size, 0, none⟩) ∧ w' = w3) (fun _ _ => 0) ⟨by simp, rfl⟩ ?_
    rintro f w' ⟨hf, rfl⟩
    simp
    rw [stepF_ok (v := .tuple #[.bool false]) (w' := w') (by simp [runF, execOp, hf, run_next_nil hb3])]
    simp
    refine cw_false (by simp) ?_
    simp
    exact hE.trans hE3
  · have hne : l.isEmpty = false := by cases l with | nil => exact absurd rfl hlen.2 | cons y l => rfl
    simp only [irSameT1, cw_reg, regW_append]
    simp [ht.g0, Addr.add_mk, ld_scl ht.kM, c1, c2, bin_nil_map ht.uM, bin_bool_neq uB]
    simp [roSameT, ht.g0, Addr.add_mk, ld_scl ht.kM, c1, c2, isM ht, mapLen?]
    refine cw_true (by simp) ?_
    simp [hne]
    exact hE
end
/-- prev && v.F == w.F -/
def roCmp (C : Cfg) (T ty k prev t : Nat) (op : Ro) : List Ro :=
  [⟨none, some t, .move (.tmp prev), C.E.tB⟩, ⟨some (t, true), some (t + 1), .fieldAddr T (.tmp 2) k, C.E.tNil⟩, ⟨some (t, true), some (t + 2), .load ty (.tmp (t + 1)), ty⟩, ⟨some (t, true), some (t + 3), .fieldAddr T (.tmp 3) k, C.E.tNil⟩, ⟨some (t, true), some (t + 4), .load ty (.tmp (t + 3)), ty⟩,
    op, ⟨none, some (t + 6), .pick (.tmp t) (.tmp (t + 5)) (.const (.bool false)), C.E.tB⟩]
def Sch.roSame (C : Cfg) (T sT : Nat) : Sch → Nat → Nat → List Ro × Nat
  | .prim _ k _ p _ _ rest, prev, t => (roCmp C T (p.ty C.E) k prev t ⟨some (t, true), some (t + 5), .binOp .eql (p.ty C.E) (.tmp (t + 2)) (.tmp (t + 4)) (p.ty C.E), C.E.tB⟩ ++ (rest.roSame C T sT (t + 6) (t + 7)).1, (rest.roSame C T sT (t + 6) (t + 7)).2)
  | .tags k _, prev, t => (roCmp C T C.E.t_kmsg_Tags k prev t ⟨some (t, true), some (t + 5), .call { callee := .value (.func sT), args := #[.tmp (t + 2), .tmp (t + 4)], argTypes := #[C.E.t_kmsg_Tags, C.E.t_kmsg_Tags] }, C.E.tB⟩, t + 6)
  | _, prev, t => ([], prev)
def irSameS (C : Cfg) (T sT : Nat) : Sch → Ir
  | .prim _ k _ p _ _ rest => .seq (.reg [⟨none, some 2, .box T (.tmp 0), C.E.tNil⟩, ⟨none, some 3, .box T (.tmp 1), C.E.tNil⟩, ⟨none, some 4, .assign (.const (.bool false)), C.E.tB⟩])
      (.seq (.reg ([⟨none, some 5, .fieldAddr T (.tmp 2) k, C.E.tNil⟩, ⟨none, some 6, .load (p.ty C.E) (.tmp 5), p.ty C.E⟩, ⟨none, some 7, .fieldAddr T (.tmp 3) k, C.E.tNil⟩, ⟨none, some 8, .load (p.ty C.E) (.tmp 7), p.ty C.E⟩, ⟨none, some 9, .binOp .eql (p.ty C.E) (.tmp 6) (.tmp 8) (p.ty C.E), C.E.tB⟩] ++
        ((rest.roSame C T sT 9 10).1 ++ [⟨none, some 4, .assign (.tmp (rest.roSame C T sT 9 10).2), C.E.tB⟩]))) .ret)
  | _ => .skip
def Sch.tySame (P : Program) (C : Cfg) (T : Nat) : Sch → Bool
  | .fin => true
  | .tags k o => fldOff P T k == some o && (match kindOf P C.E.t_kmsg_Tags with | .agg 1 => true | _ => false)
  | .prim _ k o p _ _ rest => p.eqS && fldOff P T k == some o && isScl (kindOf P (p.ty C.E)) && rest.tySame P C T
  | _ => false
theorem same_prim {P : Program} {w : World} {K : Nat → Prop} {p : Prim} {d : Int} {v : Value} {x : p.T} {cs ds : List Value} {o : Nat} {T : Nat} (he : p.eqS = true) (hs : seg cs o v.cells.toList) (h : p.rep1 w K v x) (hd : p.chkD ds o d = true) :
    cs[o]? = some v ∧ ∃ u, ds[o]? = some u ∧ ∀ y : Operand, bin? P .eql T y v u = some (.bool (p.isD d x)) := by
  have hone := rep1_one h
  have hpu : p ≠ .uuid := by rintro rfl; cases he
  rw [if_neg hpu] at hone
  have huc : v.cells = #[v] := by cases v <;> simp_all [Value.oneCell', Value.cells]
  refine ⟨by simpa using hs 0 v (by simp [huc]), ?_⟩
  cases p with
  | i8 => have h' : v = .int .i8 x := h; subst h'; exact ⟨_, isInt_spec hd, fun y => bin_eql⟩
  | i16 => have h' : v = .int .i16 x := h; subst h'; exact ⟨_, isInt_spec hd, fun y => bin_eql⟩
  | i32 => have h' : v = .int .i32 x := h; subst h'; exact ⟨_, isInt_spec hd, fun y => bin_eql⟩
  | i64 => have h' : v = .int .i64 x := h; subst h'; exact ⟨_, isInt_spec hd, fun y => bin_eql⟩
  | str =>
    have h' : v = strV x := h
    subst h'
    refine ⟨_, isEmpStr_spec hd, fun y => ?_⟩
    unfold strV
    rw [bin_seql, Go.ByteArray.toList_eq, Go.ByteArray.toList_eq]
    show some (Value.bool ((show List UInt8 from x) == [])) = _
    cases x <;> rfl
  | bool => cases he
  | u16 => cases he
  | uuid => cases he
  | nstr => cases he
  | bytes => cases he
  | nbytes => cases he
section
variable {P : Program} {C : Cfg} {sT : Nat} (hT : ∀ (w : World) (K : Nat → Prop) (u : Value) (l : TagL), TagsAt w K u l → Ret P sT #[.agg #[u], .agg #[.map none]] w fun v w' => v = .bool l.isEmpty ∧ Ext none1 w w')
include hT
theorem w_roSame {T b2 b3 : Nat} {cs ds : List Value} {K : Nat → Prop} : ∀ (S : Sch) (x : S.T) (prev t : Nat) (B : Bool) (f : Nat → Value) (w : World) (Q : (Nat → Value) → World → Prop), S.tySame P C T = true → S.Rep w K cs x → S.chkD ds = true → CellsAt w b2 0 cs → CellsAt w b3 0 ds →
    f 2 = .pointer (some ⟨b2, 0, none⟩) → f 3 = .pointer (some ⟨b3, 0, none⟩) → f prev = .bool B → 3 < t → prev < t →
    (∀ f' w', f' (S.roSame C T sT prev t).2 = .bool (B && S.isD x) → Ext none1 w w' → Q f' w') → regW P Q (S.roSame C T sT prev t).1 f w := by
  intro S
  induction S with
  | fin =>
    intro x prev t B f w Q _ _ _ _ _ _ _ hp _ _ h
    exact h f w (by simpa [Sch.roSame, Sch.isD] using hp) (Ext.refl _ _)
  | tags k o =>
    intro (l : TagL) prev t B f w Q hty hr hd hc2 hc3 h2 h3 hp ht0 hpt h
    simp only [Sch.tySame, Bool.and_eq_true, beq_iff_eq] at hty
    obtain ⟨u, hu, hl⟩ := hr
    have hdu := isNilMap_spec hd
    have hkT : kindOf P C.E.t_kmsg_Tags = .agg 1 := by
      have := hty.2
      split at this
      · assumption
      · cases this
    have e2 : ∀ n, (2 = t + n) = False := by intro n; simp; omega
    have e2' : (2 = t) = False := by simp; omega
    have e3 : ∀ n, (3 = t + n) = False := by intro n; simp; omega
    have e3' : (3 = t) = False := by simp; omega
    have ep : ∀ n, (prev = t + n) = False := by intro n; simp; omega
    have c2 : w.cell? ⟨b2, o, none⟩ = some u := by simpa using hc2 o u hu
    have c3 : w.cell? ⟨b3, o, none⟩ = some (.map none) := by simpa using hc3 o _ hdu
    simp only [Sch.roSame, roCmp, Sch.isD] at h ⊢
    rw [regW_plain, stp_move]
    simp only [evF_tmp, hp, updO]
    cases B with
    | false =>
      simp [wantedF, h2, h3, hty.1, Addr.add_mk, e2, e2', e3, e3']
      exact h _ w (by simp) (Ext.refl _ _)
    | true =>
      simp [wantedF, h2, h3, hty.1, Addr.add_mk, e2, e2', e3, e3', ld_agg hkT, cellsFrom, c2, c3]
      refine (hT w K u l hl).mono ?_
      rintro _ w' ⟨rfl, hE⟩
      exact h _ w' (by simp) hE
  | prim g k o p en d rest ih =>
    intro x prev t B f w Q hty hr hd hc2 hc3 h2 h3 hp ht0 hpt h
    obtain ⟨x, xr⟩ := x
    obtain ⟨⟨v, hv, hr1⟩, hrr⟩ := hr
    simp only [Sch.tySame, Bool.and_eq_true, beq_iff_eq] at hty
    simp only [Sch.chkD, Bool.and_eq_true] at hd
    obtain ⟨⟨⟨heq, hF⟩, hk⟩, htr⟩ := hty
    obtain ⟨hcv, u, hdu, hbin⟩ := same_prim (P := P) (T := p.ty C.E) heq hv hr1 hd.1
    have hk' := isScl_spec hk
    have e2 : ∀ n, (2 = t + n) = False := by intro n; simp; omega
    have e2' : (2 = t) = False := by simp; omega
    have e3 : ∀ n, (3 = t + n) = False := by intro n; simp; omega
    have e3' : (3 = t) = False := by simp; omega
    have z0 : (t = 0) = False := by simp; omega
    have z1 : (t = 1) = False := by simp; omega
    have z2 : (t = 2) = False := by simp; omega
    have c2 : w.cell? ⟨b2, o, none⟩ = some v := by simpa using hc2 o v hcv
    have c3 : w.cell? ⟨b3, o, none⟩ = some u := by simpa using hc3 o u hdu
    simp only [Sch.roSame] at h ⊢
    rw [regW_append]
    have next : ∀ f' : Nat → Value, f' 2 = f 2 → f' 3 = f 3 → f' (t + 6) = .bool (B && p.isD d x) → regW P Q (rest.roSame C T sT (t + 6) (t + 7)).1 f' w := by
      intro f' h2' h3' h6
      refine ih xr (t + 6) (t + 7) (B && p.isD d x) f' w Q htr hrr hd.2 hc2 hc3 (h2'.trans h2) (h3'.trans h3) h6 (by omega) (by omega) ?_
      intro f'' w'' hf'' hE
      refine h f'' w'' ?_ hE
      simpa [Sch.isD, Bool.and_assoc] using hf''
    rw [show roCmp C T (p.ty C.E) k prev t ⟨some (t, true), some (t + 5), .binOp .eql (p.ty C.E) (.tmp (t + 2)) (.tmp (t + 4)) (p.ty C.E), C.E.tB⟩ = ⟨none, some t, .move (.tmp prev), C.E.tB⟩ :: _ from rfl]
    rw [regW_plain, stp_move]
    simp only [evF_tmp, hp, updO]
    cases B with
    | false =>
      simp [wantedF, h2, h3, hF, Addr.add_mk, e2, e2', e3, e3']
      exact next _ (by simp [e2, e2', z0, z1, z2]) (by simp [e3, e3', z0, z1, z2]) (by simp)
    | true =>
      simp [wantedF, h2, h3, hF, Addr.add_mk, e2, e2', e3, e3', ld_scl hk', c2, c3, hbin]
      exact next _ (by simp [e2, e2', z0, z1, z2]) (by simp [e3, e3', z0, z1, z2]) (by simp)
  | arrP g k o sT' nul p rest ih => intro x prev t B f w Q hty; simp [Sch.tySame] at hty
  | arrS g k o sT' nul T' PT' sz df e rest ihe ih => intro x prev t B f w Q hty; simp [Sch.tySame] at hty
  | sub g k o T' PT' sz df e rest ihe ih => intro x prev t B f w Q hty; simp [Sch.tySame] at hty
  | opt g k o T' PT' PP sz df e rest ihe ih => intro x prev t B f w Q hty; simp [Sch.tySame] at hty
/-- zzSame of a struct and what it is by default -/
theorem c_sameS {T g nt : Nat} {g0 : Gd} {k o en : Nat} {p : Prim} {d : Int} {rest : Sch} (hI : FnIs P g nt [.t 4] (irSameS C T sT (.prim g0 k o p en d rest))) (hnt : 10 ≤ nt) (hty : (Sch.prim g0 k o p en d rest).tySame P C T = true)
    {w : World} {K : Nat → Prop} {cs ds : Array Value} {x : (Sch.prim g0 k o p en d rest).T} (hr : (Sch.prim g0 k o p en d rest).Rep w K cs.toList x) (hd : (Sch.prim g0 k o p en d rest).chkD ds.toList = true) :
    Ret P g #[.agg cs, .agg ds] w fun v w' => v = .bool ((Sch.prim g0 k o p en d rest).isD x) ∧ Ext none1 w w' := by
  refine hI.call (args := [_, _]) (by simp; omega) ?_
  simp [irSameS, show ∀ a : Array Value, (Value.agg a).cells = a from fun _ => rfl]
  generalize hw1 : w.alloc (.cells cs T) = w1
  have hb1 : w1.heap[w.heap.size]? = some (.cells cs T (0, 0)) := by subst hw1; exact alloc_new
  have hE1 : Ext none1 w w1 := by subst hw1; exact (Ext.refl _ _).alloc _
  have hs1 : w1.heap.size = w.heap.size + 1 := by subst hw1; simp
  generalize hw2 : w1.alloc (.cells ds T) = w2
  have hb2 : w2.heap[w.heap.size + 1]? = some (.cells ds T (0, 0)) := by subst hw2; rw [← hs1]; exact alloc_new
  have hE2 : Ext none1 w1 w2 := by subst hw2; exact (Ext.refl _ _).alloc _
  have hE := hE1.trans hE2
  have hc1 : CellsAt w2 w.heap.size 0 cs.toList := by
    intro j u hj
    rw [cell_of_blk (hE2.old hb1 (fun h => h))]
    simpa using hj
  have hc2 : CellsAt w2 (w.heap.size + 1) 0 ds.toList := by
    intro j u hj
    rw [cell_of_blk hb2]
    simpa using hj
  have hr2 := Sch.Rep_ext hE (fun _ _ _ h => h) (.prim g0 k o p en d rest) hr
  obtain ⟨x, xr⟩ := x
  obtain ⟨⟨v, hv, hr1⟩, hrr⟩ := hr2
  simp only [Sch.tySame, Bool.and_eq_true, beq_iff_eq] at hty
  simp only [Sch.chkD, Bool.and_eq_true] at hd
  obtain ⟨⟨⟨heq, hF⟩, hk⟩, htr⟩ := hty
  obtain ⟨hcv, u, hdu, hbin⟩ := same_prim (P := P) (T := p.ty C.E) heq hv hr1 hd.1
  have hk' := isScl_spec hk
  have c2 : w2.cell? ⟨w.heap.size, o, none⟩ = some v := by simpa using hc1 o v hcv
  have c3 : w2.cell? ⟨w.heap.size + 1, o, none⟩ = some u := by simpa using hc2 o u hdu
  simp [hF, Addr.add_mk, ld_scl hk', c2, c3, hbin]
  rw [regW_append]
  refine w_roSame hT rest xr 9 10 (p.isD d x) _ w2 _ htr hrr hd.2 hc1 hc2 (by simp) (by simp) (by simp) (by omega) (by omega) ?_
  intro f' w' hf' hE'
  simp [hf', Sch.isD]
  exact hE.trans hE'
end
end Go.Kg

set_option linter.unusedSimpArgs false
set_option linter.unusedVariables false
set_option linter.unusedSectionVars false
namespace Go.Kg
open Go
inductive DJ where
  | st (x : DSt)
  | ad (k ty : Nat)
  | sb (k o T PT : Nat) (l : List DSt)
def DJ.sts : DJ → List DSt
  | .st x => [x]
  | .ad _ _ => []
  | .sb _ o _ _ l => l.map fun x => { x with o := o + x.o }
def genDP (C : Cfg) (T PT pv : Nat) : List DSt → Nat → List Ir
  | [], _ => []
  | x :: l, t => .reg (addrR C T PT pv x.k t ++ [⟨none, none, .store x.ty (.tmp (t + 2)) (.const x.v), C.E.tNil⟩]) :: genDP C T PT pv l (t + 3)
def nAdJ : List DJ → Nat
  | [] => 0
  | .st _ :: l => nAdJ l
  | .ad _ _ :: l => nAdJ l + 1
  | .sb _ _ _ _ _ :: l => nAdJ l + 1
def genDJ (C : Cfg) (T PT : Nat) : List DJ → Nat → Nat → List Ir
  | [], _, _ => []
  | .st x :: r, l, t => .reg (addrR C T PT 0 x.k t ++ [⟨none, none, .store x.ty (.tmp (t + 2)) (.const x.v), C.E.tNil⟩]) :: genDJ C T PT r l (t + 3)
  | .ad k ty :: r, l, t => seqL [.reg (addrR C T PT 0 k t ++ [⟨none, some l, .assign (.tmp (t + 2)), ty⟩]), .reg [⟨none, some (t + 3), .move (.tmp l), ty⟩]] :: genDJ C T PT r (l + 1) (t + 4)
  | .sb k _ T' PT' ds :: r, l, t => seqL ([.reg (addrR C T PT 0 k t ++ [⟨none, some l, .assign (.tmp (t + 2)), PT'⟩]), .reg [⟨none, some (t + 3), .move (.tmp l), PT'⟩]] ++ genDP C T' PT' l ds (t + 4)) :: genDJ C T PT r (l + 1) (t + 4 + 3 * ds.length)
def irDefJ (C : Cfg) (T PT : Nat) (L : List DJ) : Ir := seqL (genDJ C T PT L 2 (2 + nAdJ L))
def defOkJ (P : Program) (T n : Nat) : List DJ → Bool
  | [] => true
  | .st x :: l => fldOff P T x.k == some x.o && isScl (kindOf P x.ty) && decide (x.o < n) && x.v.oneCell' && defOkJ P T n l
  | .ad k _ :: l => (fldOff P T k).isSome && defOkJ P T n l
  | .sb k o T' _ ds :: l => fldOff P T k == some o && (ds.all fun x => fldOff P T' x.k == some x.o && isScl (kindOf P x.ty) && decide (o + x.o < n) && x.v.oneCell') && defOkJ P T n l
section
variable {P : Program} {C : Cfg}
theorem default_soundP {T PT pv n o : Nat} : ∀ (l : List DSt) (t : Nat) {f : Nat → Value} {w : World} {b a : Nat} {c : Array Value} {e : TypeId} {Q : Post}, (l.all fun x => fldOff P T x.k == some x.o && isScl (kindOf P x.ty) && decide (o + x.o < n) && x.v.oneCell') = true → pv < t →
    f pv = .pointer (some ⟨b, a + o, none⟩) → w.heap[b]? = some (.cells c e (0, 0)) → a + n ≤ c.size → (∀ f', (∀ y, y < t → f' y = f y) → Q .normal f' (w.setBlk b (.cells (setD a (l.map fun x => { x with o := o + x.o }) c) e (0, 0)))) → (seqL (genDP C T PT pv l t)).wp P Q f w := by
  intro l
  induction l with
  | nil =>
    intro t f w b a c e Q _ _ _ hb _ h
    show Q .normal f w
    have := h f (fun _ _ => rfl)
    simp only [List.map_nil, setD] at this
    rwa [setBlk_self hb] at this
  | cons x l ih =>
    intro t f w b a c e Q hok ht hp hb hn h
    simp only [List.all_cons, Bool.and_eq_true, beq_iff_eq, decide_eq_true_eq] at hok
    obtain ⟨⟨⟨⟨hF, hk⟩, hlt⟩, h1⟩, hokl⟩ := hok
    have z1 : (pv = t) = False := by simp; omega
    have z2 : ∀ k, (pv = t + k) = False := by intro k; simp; omega
    refine seqL_cons (wp_reg ?_)
    simp [addrR, hp, hF, Addr.add_mk, store_scl (isScl_spec hk), h1, put1K_blk hb]
    refine ⟨by omega, ?_⟩
    refine ih (t + 3) (by simpa using hokl) (by omega) (f := _) (b := b) (a := a) ?_ (setBlk_same hb) (by simpa using hn) ?_
    · simp [z1, z2, hp]
    · intro f' hf'
      rw [setBlk_setBlk]
      have := h f' (fun y hy => by
        rw [hf' y (by omega)]
        have y1 : (y = t) = False := by simp; omega
        have y2 : ∀ k, (y = t + k) = False := by intro k; simp; omega
        simp [y1, y2])
      simpa [setD, Nat.add_assoc] using this
theorem default_soundJ {T PT n : Nat} : ∀ (d : List DJ) (l t : Nat) {f : Nat → Value} {w : World} {b a : Nat} {c : Array Value} {e : TypeId} {R : Value → World → Prop}, defOkJ P T n d = true → 0 < l → l + nAdJ d ≤ t →
    f 0 = .pointer (some ⟨b, a, none⟩) → w.heap[b]? = some (.cells c e (0, 0)) → a + n ≤ c.size → R (.tuple #[]) (w.setBlk b (.cells (setD a (d.flatMap DJ.sts) c) e (0, 0))) → (seqL (genDJ C T PT d l t)).wp P (retPost P [] R) f w := by
  intro d
  induction d with
  | nil =>
    intro l t f w b a c e R _ _ _ h0 hb hn hR
    exact default_sound (C := C) (T := T) (PT := PT) (n := n) [] 1 (by simp) rfl (by omega) h0 hb hn hR
  | cons x d ih =>
    intro l t f w b a c e R hok hl ht h0 hb hn hR
    cases x with
    | st x =>
      simp only [defOkJ, Bool.and_eq_true, beq_iff_eq, decide_eq_true_eq] at hok
      obtain ⟨⟨⟨⟨hF, hk⟩, hlt⟩, ho⟩, hokl⟩ := hok
      simp only [nAdJ] at ht
      refine seqL_cons (wp_reg ?_)
      have z1 : (0 = t) = False := by simp; omega
      have z2 : ∀ k, (0 = t + k) = False := by intro k; simp; omega
      simp [addrR, h0, hF, Addr.add_mk, store_scl (isScl_spec hk), ho, put1K_blk hb]
      refine ⟨by omega, ?_⟩
      refine ih l (t + 3) hokl hl (by omega) ?_ (setBlk_same hb) (by simpa using hn) ?_
      · simp [z1, z2, h0]
      · rw [setBlk_setBlk]
        simpa [DJ.sts, setD] using hR
    | ad k ty =>
      simp only [defOkJ, Bool.and_eq_true] at hok
      obtain ⟨hF, hokl⟩ := hok
      obtain ⟨o, hF⟩ := Option.isSome_iff_exists.1 hF
      simp only [nAdJ] at ht
      have z1 : (0 = t) = False := by simp; omega
      have z2 : ∀ k, (0 = t + k) = False := by intro k; simp; omega
      have z3 : (0 = l) = False := by simp; omega
      refine seqL_cons ?_
      refine seqL_cons (wp_reg ?_)
      simp [addrR, h0, hF, Addr.add_mk]
      show (Ir.reg _).wp P _ _ w
      refine wp_reg ?_
      simp
      refine ih (l + 1) (t + 4) hokl (by omega) (by omega) ?_ hb hn ?_
      · simp [z1, z2, z3, h0]
      · simpa [DJ.sts] using hR
    | sb k o T' PT' ds =>
      simp only [defOkJ, Bool.and_eq_true, beq_iff_eq] at hok
      obtain ⟨⟨hF, hds⟩, hokl⟩ := hok
      simp only [nAdJ] at ht
      have z1 : (0 = t) = False := by simp; omega
      have z2 : ∀ k, (0 = t + k) = False := by intro k; simp; omega
      have z3 : (0 = l) = False := by simp; omega
      have z4 : ∀ k, (l = t + k) = False := by intro k; simp; omega
      refine seqL_cons ?_
      simp only [List.cons_append, List.nil_append]
      refine seqL_cons (wp_reg ?_)
      simp [addrR, h0, hF, Addr.add_mk]
      refine seqL_cons (wp_reg ?_)
      simp [z4]
      refine default_soundP (n := n) (o := o) ds (t + 4) hds (by omega) (b := b) (a := a) (c := c) (e := e) ?_ hb hn ?_
      · simp [z4]
      · intro f' hf'
        refine ih (l + 1) (t + 4 + 3 * ds.length) hokl (by omega) (by omega) ?_ (setBlk_same hb) (by rw [setD_size]; exact hn) ?_
        · rw [hf' 0 (by omega)]
          simp [z1, z2, z3, h0]
        · rw [setBlk_setBlk]
          have happ : ∀ (l1 l2 : List DSt) (c : Array Value), setD a l2 (setD a l1 c) = setD a (l1 ++ l2) c := by
            intro l1
            induction l1 with
            | nil => intro l2 c; rfl
            | cons x l1 ih1 => intro l2 c; simp only [setD, List.cons_append, ih1]
          rw [happ]
          simpa [DJ.sts] using hR
/-- Default: w's block with the defaults in; Sd: whose defaults these are -/
theorem defaultCJ {T PT n g nt : Nat} {L : List DJ} {Sd : Sch} (hnt : 1 ≤ nt) (hI : FnIs P g nt [] (irDefJ C T PT L)) (hok : defOkJ P T n L = true) (hst : L.flatMap DJ.sts = Sd.dst C) : DefRC P C n g Sd := by
  intro w b a c e hb hn
  refine hI.ret (args := [_]) (by simpa using hnt) ?_
  refine default_soundJ (n := n) L 2 (2 + nAdJ L) hok (by omega) (Nat.le_refl _) (b := b) (a := a) (c := c) (e := e) ?_ hb hn ?_
  · simp
  · rw [hst]
end
end Go.Kg

set_option linter.unusedSimpArgs false
set_option linter.unusedVariables false
namespace Go.Kg
open Go Go.ChangeShapes Go.WideShapes Go.ChangeAt Go.RowKit
/-- what the bulk of data is -/
structure BulkL {H : Type} (b : DataW H → Nat) (bs : List (DataW H) → Nat) : Prop where
  slice : ∀ e s, b (.slice e s) = bs e + bs s + 1
  agg : ∀ p, b (.agg p) = bs p + 1
  pos : ∀ d, 1 ≤ b d
  nil : bs [] = 0
  cons : ∀ d r, bs (d :: r) = b d + bs r
theorem BulkL.len {H : Type} {b : DataW H → Nat} {bs : List (DataW H) → Nat} (h : BulkL b bs) : ∀ l, l.length ≤ bs l
  | [] => by simp [h.nil]
  | d :: r => by have := h.pos d; have := h.len r; rw [h.cons, List.length_cons]; omega
theorem BulkL.mem {H : Type} {b : DataW H → Nat} {bs : List (DataW H) → Nat} (h : BulkL b bs) : ∀ {l : List (DataW H)} {d}, d ∈ l → b d ≤ bs l
  | x :: r, d, hd => by
    rw [h.cons]
    rcases List.mem_cons.1 hd with rfl | hd
    · omega
    · have := h.mem hd; omega
/-- what is asked of the types of Tree and Tag -/
structure TyTr (P : Program) (E : Env) (tI64 : Nat) : Prop where
  tr : ∃ f0 f1 f2 f3 f4 : Field, P.underlying E.t_spec_Tree = some (.struct #[f0, f1, f2, f3, f4]) ∧ (f0.type = tI64 ∧ f0.offset = 0) ∧ (f1.type = E.tBs ∧ f1.offset = 1) ∧ (f2.type = E.tB ∧ f2.offset = 2) ∧ (f3.type = E.t_l_spec_Tree ∧ f3.offset = 3) ∧ (f4.type = E.t_l_spec_Tag ∧ f4.offset = 4)
  tg : ∃ f0 f1 : Field, P.underlying E.t_spec_Tag = some (.struct #[f0, f1]) ∧ (f0.type = E.tU32 ∧ f0.offset = 0) ∧ (f1.type = E.tBs ∧ f1.offset = 1)
  i64 : P.underlying tI64 = some (.int .i64)
  u32 : P.underlying E.tU32 = some (.int .u32)
  u8 : P.underlying E.tU8 = some (.int .u8)
  bool : P.underlying E.tB = some .bool
  bs : P.underlying E.tBs = some (.slice E.tU8)
  lt : P.underlying E.t_l_spec_Tree = some (.slice E.t_spec_Tree)
  lu : P.underlying E.t_l_spec_Tag = some (.slice E.t_spec_Tag)
  c1 : P.cellsOf tI64 = 1 ∧ P.cellsOf E.tU32 = 1 ∧ P.cellsOf E.tU8 = 1 ∧ P.cellsOf E.tB = 1 ∧ P.cellsOf E.tBs = 1 ∧ P.cellsOf E.t_l_spec_Tree = 1 ∧ P.cellsOf E.t_l_spec_Tag = 1
  cT : P.cellsOf E.t_spec_Tree = 5
  cU : P.cellsOf E.t_spec_Tag = 2
section
variable {H : Type} {enc : TypeId × Value → H} {P : Program} {W : World}
theorem spot_of_cells {a : Addr} {k : Nat} {cs : List Value} (h : W.cells? 0 (a.add (0 * k)) k = some cs) (hk : 0 < k) : a.spot = none := by
  have h0 : a.add (0 * k) = a := by simp [Addr.add]
  rw [h0] at h
  obtain ⟨_, hl, hc⟩ := World.cells?_some h
  have h1 := hc 0 hk
  have h2 : cs[0]? = some cs[0] := List.getElem?_eq_getElem (by omega)
  rw [h2] at h1
  have ha : a.add 0 = a := by simp [Addr.add]
  rw [ha] at h1
  cases hs : a.spot with
  | none => rfl
  | some s =>
    simp only [World.cell?, hs] at h1
    split at h1 <;> simp at h1
/-- bytes within -/
theorem open_bytesIn {t e : TypeId} (ht : P.underlying t = some (.slice e)) (he : P.underlying e = some (.int .u8)) (hc : P.cellsOf e = 1) {b : DataW H → Nat} {bs : List (DataW H) → Nat} (hB : BulkL b bs) {n : Nat} {c : Value} {x : DataW H × List MemPlace}
    (h : DataW.trod enc P W 0 (fun _ => true) true n t [c] = some x) : ∃ s, BytesAt W All c s ∧ s.length + 1 ≤ b x.1 := by
  have hsp : ∀ a len cap, c = .slice (some a) len cap → 0 < cap → a.spot = none := by
    rintro a len cap rfl hcap
    rcases DataW.trod_slice ht h with ⟨h1, _⟩ | ⟨a', len', cap', elems, rest, m, _, h1, hx, hb, hl, hm, hlen, hel, hsp, _⟩
    · cases h1
    · cases h1
      by_cases h0 : 0 < len
      · have := hel 0 h0
        rw [hc] at this
        have hget : elems[0]? = some elems[0] := List.getElem?_eq_getElem (by omega)
        rw [hget] at this
        obtain ⟨cs, hcs, _⟩ := Option.bind_eq_some_iff.1 this
        exact spot_of_cells hcs (by omega)
      · obtain ⟨hr1, hr2⟩ := hsp rfl
        have := hr2 0 (by omega)
        rw [hc] at this
        have hget : rest[0]? = some rest[0] := List.getElem?_eq_getElem (by omega)
        rw [hget] at this
        obtain ⟨cs, hcs, _⟩ := Option.bind_eq_some_iff.1 this
        have e0 : (len + 0) * 1 = 0 * 1 := by omega
        rw [e0] at hcs
        exact spot_of_cells hcs (by omega)
  rcases open_ints ht he hc h with ⟨h1, hx⟩ | ⟨a, len, cap, zs, h1, hb, hl, hm, hzl, hx, hcell, hwf⟩
  · cases h1
    exact ⟨[], .inl ⟨⟨_, rfl⟩, rfl⟩, by have := hB.pos x.1; simpa using this⟩
  · cases h1
    simp only [if_true] at hzl
    have hbk : len + 1 ≤ b x.1 := by
      rw [hx, hB.slice]
      have := hB.len (lits .u8 (zs.take len))
      simp only [lits, List.length_map, List.length_take] at this
      simp only [lits] at this ⊢
      omega
    by_cases hcap : cap = 0
    · subst hcap
      have h0 : len = 0 := by omega
      subst h0
      exact ⟨[], .inl ⟨⟨_, rfl⟩, rfl⟩, by simpa using hbk⟩
    have hs := hsp a len cap rfl (by omega)
    obtain ⟨ab, ao, sp⟩ := a
    simp only at hs
    subst hs
    have hlen : (zs.take len).length = len := by simp; omega
    refine ⟨(zs.take len).map fun z => UInt8.ofNat z.toNat, .inr ⟨ab, ao, cap, by rw [List.length_map, hlen], by rw [List.length_map, hlen]; exact hl, fun _ => trivial, fun i x hx => ?_⟩, by rw [List.length_map, hlen]; exact hbk⟩
    rw [List.getElem?_map, Option.map_eq_some_iff] at hx
    obtain ⟨z, hz, rfl⟩ := hx
    rw [List.getElem?_take] at hz
    split at hz
    · obtain ⟨hi, hzz⟩ := List.getElem?_eq_some_iff.1 hz
      have hc1 := hcell i hi
      rw [Addr.add_mk, List.getD_eq_getElem?_getD, hz] at hc1
      have hw := hwf z (List.mem_of_getElem? hz)
      simp [Lit.wf, IntKind.min, IntKind.max, IntKind.signed, IntKind.bits] at hw
      rw [hc1]
      simp
      omega
    · cases hz
/-- a slice of things of sz cells each -/
theorem open_things {t e : TypeId} {sz : Nat} (ht : P.underlying t = some (.slice e)) (hc : P.cellsOf e = sz) (hsz : 0 < sz) {b : DataW H → Nat} {bs : List (DataW H) → Nat} (hB : BulkL b bs) {n : Nat} {c : Value} {x : DataW H × List MemPlace}
    (h : DataW.trod enc P W 0 (fun _ => true) true n t [c] = some x) (hk : b x.1 ≤ 1048576) :
    ∃ (ls : Option (List (List Value))) (ys : List (DataW H × List MemPlace)) (m : Nat), ArrE W All sz c ls ∧ ys.length = (ls.getD []).length ∧ n = m + 1 ∧ bs (ys.map (·.1)) + 1 ≤ b x.1 ∧
      ∀ (i : Nat) cs y, (ls.getD [])[i]? = some cs → ys[i]? = some y → DataW.trod enc P W 0 (fun _ => true) true m e cs = some y := by
  obtain ⟨m, rfl⟩ : ∃ m, n = m + 1 := by
    cases n with
    | zero => simp [DataW.trod] at h
    | succ m => exact ⟨m, rfl⟩
  rcases DataW.trod_slice ht h with ⟨h1, hx⟩ | ⟨a, len, cap, elems, rest, m', hm', h1, hx, hb, hl, hm, hlen, hel, hsp, _⟩
  · cases h1
    exact ⟨none, [], m, ⟨_, rfl⟩, rfl, rfl, by have := hB.pos x.1; simpa [hB.nil] using this, fun i cs y h => by simp at h⟩
  · cases h1
    cases hm'
    rw [hc] at hel hsp
    have hbk : bs (elems.map (·.1)) + 1 ≤ b x.1 := by rw [hx, hB.slice]; omega
    have hlk : len ≤ 1048576 := by
      have := hB.len (elems.map (·.1))
      rw [List.length_map] at this
      omega
    by_cases hcap : cap = 0
    · subst hcap
      have h0 : len = 0 := by omega
      subst h0
      have he : elems = [] := List.eq_nil_of_length_eq_zero hlen
      subst he
      exact ⟨none, [], m, ⟨_, rfl⟩, rfl, rfl, by simpa using hbk, fun i cs y h => by simp at h⟩
    have hs : a.spot = none := by
      by_cases h0 : 0 < len
      · have := hel 0 h0
        have hget : elems[0]? = some elems[0] := List.getElem?_eq_getElem (by omega)
        rw [hget] at this
        obtain ⟨cs, hcs, _⟩ := Option.bind_eq_some_iff.1 this
        exact spot_of_cells hcs hsz
      · obtain ⟨hr1, hr2⟩ := hsp rfl
        have := hr2 0 (by omega)
        have hget : rest[0]? = some rest[0] := List.getElem?_eq_getElem (by omega)
        rw [hget] at this
        obtain ⟨cs, hcs, _⟩ := Option.bind_eq_some_iff.1 this
        have e0 : (len + 0) * sz = 0 * sz := by
          have : len = 0 := by omega
          subst this; rfl
        rw [e0] at hcs
        exact spot_of_cells hcs hsz
    obtain ⟨ab, ao, sp⟩ := a
    simp only at hs
    subst hs
    -- the cells of each
    have hcs : ∀ i, i < len → ∃ cs y, W.cells? 0 (⟨ab, ao + i * sz, none⟩ : Addr) sz = some cs ∧ elems[i]? = some y ∧ DataW.trod enc P W 0 (fun _ => true) true m e cs = some y := by
      intro i hi
      have h2 := hel i hi
      have hget : elems[i]? = some elems[i] := List.getElem?_eq_getElem (by omega)
      rw [hget] at h2
      obtain ⟨cs, h3, h4⟩ := Option.bind_eq_some_iff.1 h2
      rw [Addr.add_mk] at h3
      exact ⟨cs, _, h3, hget, h4⟩
    let cellsI : Nat → List Value := fun i => (W.cells? 0 (⟨ab, ao + i * sz, none⟩ : Addr) sz).getD []
    have hcI : ∀ i, i < len → W.cells? 0 (⟨ab, ao + i * sz, none⟩ : Addr) sz = some (cellsI i) := by
      intro i hi
      obtain ⟨cs, y, h3, _⟩ := hcs i hi
      simp only [cellsI, h3, Option.getD_some]
    refine ⟨some ((List.range len).map cellsI), elems, m, ⟨ab, ao, cap, by simp, trivial, ⟨by simpa using hl, by simp; omega⟩, ?_⟩, by simp [hlen], rfl, hbk, ?_⟩
    · intro i cs hi
      rw [List.getElem?_map, Option.map_eq_some_iff] at hi
      obtain ⟨j, hj, rfl⟩ := hi
      obtain ⟨hjl, hjj⟩ := List.getElem?_eq_some_iff.1 hj
      simp at hjl hjj
      subst hjj
      obtain ⟨_, h4, h5⟩ := World.cells?_some (hcI i hjl)
      refine ⟨h4, fun j u hu => ?_⟩
      have hj2 := (List.getElem?_eq_some_iff.1 hu).1
      have := h5 j (by omega)
      rw [Addr.add_mk, hu] at this
      exact this
    · intro i cs y hi hy
      simp only [Option.getD_some] at hi
      rw [List.getElem?_map, Option.map_eq_some_iff] at hi
      obtain ⟨j, hj, rfl⟩ := hi
      obtain ⟨hjl, hjj⟩ := List.getElem?_eq_some_iff.1 hj
      simp at hjl hjj
      subst hjj
      obtain ⟨cs', y', h3, h4, h5⟩ := hcs i hjl
      rw [hcI i hjl] at h3
      cases h3
      rw [h4] at hy
      cases hy
      exact h5
variable {E : Env} {tI64 : Nat} (hT : TyTr P E tI64) {b : DataW H → Nat} {bs : List (DataW H) → Nat} (hB : BulkL b bs)
include hT hB
theorem open_tags {n : Nat} {c : Value} {x : DataW H × List MemPlace} (h : DataW.trod enc P W 0 (fun _ => true) true n E.t_l_spec_Tag [c] = some x) (hk : b x.1 ≤ 1048576) :
    ∃ u : List (Nat × List UInt8), UAt W c u ∧ (u.map fun x => 1 + x.2.length).sum + 1 ≤ b x.1 := by
  obtain ⟨f0, f1, hu, ⟨h0t, h0o⟩, ⟨h1t, h1o⟩⟩ := hT.tg
  obtain ⟨ls, ys, m, ha, hl, rfl, hbk, hel⟩ := open_things hT.lu hT.cU (by omega) hB h hk
  -- one tag
  have one : ∀ cs (y : DataW H × List MemPlace), DataW.trod enc P W 0 (fun _ => true) true m E.t_spec_Tag cs = some y → ∃ (k : Nat) (bv : Value) (s : List UInt8), cs = [.int .u32 k, bv] ∧ k < 4294967296 ∧ BytesAt W All bv s ∧ 1 + s.length ≤ b y.1 := by
    intro cs y hy
    obtain ⟨xs, m', rfl, hx, hcl, hxl, hf⟩ := DataW.trod_struct hu hy
    rw [hT.cU] at hcl
    obtain ⟨c0, c1, rfl⟩ : ∃ c0 c1, cs = [c0, c1] := by
      match cs, hcl with
      | [c0, c1], _ => exact ⟨c0, c1, rfl⟩
    obtain ⟨x0, x1, rfl⟩ : ∃ x0 x1, xs = [x0, x1] := by
      match xs, hxl with
      | [x0, x1], _ => exact ⟨x0, x1, rfl⟩
    have e0 := hf 0 f0 rfl
    have e1 := hf 1 f1 rfl
    rw [h0t, h0o, hT.c1.2.1] at e0
    rw [h1t, h1o, hT.c1.2.2.2.2.1] at e1
    simp at e0 e1
    obtain ⟨k, hk0, _, hw⟩ := DataW.trod_int hT.u32 e0
    cases hk0
    simp [Lit.wf, IntKind.min, IntKind.max, IntKind.signed, IntKind.bits] at hw
    obtain ⟨s, hs, hsb⟩ := open_bytesIn hT.bs hT.u8 hT.c1.2.2.1 hB e1
    refine ⟨k.toNat, c1, s, by simp; omega, by omega, hs, ?_⟩
    rw [hx, hB.agg]
    simp only [List.map_cons, List.map_nil, hB.cons, hB.nil]
    omega
  have all : ∀ (L : List (List Value)) (ys : List (DataW H × List MemPlace)), ys.length = L.length → (∀ (i : Nat) cs y, L[i]? = some cs → ys[i]? = some y → DataW.trod enc P W 0 (fun _ => true) true m E.t_spec_Tag cs = some y) →
      ∃ u : List (Nat × List UInt8), u.length = L.length ∧ (∀ (i : Nat) c x, L[i]? = some c → u[i]? = some x → ∃ bv, c = [.int .u32 x.1, bv] ∧ x.1 < 4294967296 ∧ BytesAt W All bv x.2) ∧ (u.map fun x => 1 + x.2.length).sum ≤ bs (ys.map (·.1)) := by
    intro L
    induction L with
    | nil =>
      intro ys hl _
      have : ys = [] := List.eq_nil_of_length_eq_zero hl
      subst this
      exact ⟨[], rfl, fun i c x h => by simp at h, by simp⟩
    | cons cs L ih =>
      intro ys hl hel
      cases ys with
      | nil => simp at hl
      | cons y ys =>
        obtain ⟨u, h1, h2, h3⟩ := ih ys (by simpa using hl) (fun i cs y hi hy => hel (i + 1) cs y (by simpa using hi) (by simpa using hy))
        obtain ⟨k, bv, s, rfl, hk, hs, hsb⟩ := one cs y (hel 0 cs y rfl rfl)
        refine ⟨(k, s) :: u, by simp [h1], ?_, ?_⟩
        · intro i c x hi hx
          cases i with
          | zero => simp at hi hx; subst hi; subst hx; exact ⟨bv, rfl, hk, hs⟩
          | succ i => exact h2 i c x (by simpa using hi) (by simpa using hx)
        · simp only [List.map_cons, List.sum_cons, hB.cons]; omega
  obtain ⟨u, h1, h2, h3⟩ := all (ls.getD []) ys hl hel
  exact ⟨u, ⟨ls, ha, h1.symm, h2⟩, by omega⟩
theorem open_tree : ∀ (n : Nat) (cs : List Value) (x : DataW H × List MemPlace), DataW.trod enc P W 0 (fun _ => true) true n E.t_spec_Tree cs = some x → b x.1 ≤ 1048576 → ∃ t : Tr, TreeAt W cs t ∧ t.sz ≤ b x.1 := by
  intro n
  induction n using Nat.strongRecOn with
  | _ n ih =>
    intro cs x h hk
    obtain ⟨f0, f1, f2, f3, f4, hu, ⟨h0t, h0o⟩, ⟨h1t, h1o⟩, ⟨h2t, h2o⟩, ⟨h3t, h3o⟩, ⟨h4t, h4o⟩⟩ := hT.tr
    obtain ⟨xs, m, rfl, hx, hcl, hxl, hf⟩ := DataW.trod_struct hu h
    rw [hT.cT] at hcl
    obtain ⟨c0, c1, c2, c3, c4, rfl⟩ : ∃ c0 c1 c2 c3 c4, cs = [c0, c1, c2, c3, c4] := by
      match cs, hcl with
      | [c0, c1, c2, c3, c4], _ => exact ⟨c0, c1, c2, c3, c4, rfl⟩
    obtain ⟨x0, x1, x2, x3, x4, rfl⟩ : ∃ x0 x1 x2 x3 x4, xs = [x0, x1, x2, x3, x4] := by
      match xs, hxl with
      | [x0, x1, x2, x3, x4], _ => exact ⟨x0, x1, x2, x3, x4, rfl⟩
    have e0 := hf 0 f0 rfl
    have e1 := hf 1 f1 rfl
    have e2 := hf 2 f2 rfl
    have e3 := hf 3 f3 rfl
    have e4 := hf 4 f4 rfl
    obtain ⟨k1, k2, k3, k4, k5, k6, k7⟩ := hT.c1
    rw [h0t, h0o, k1] at e0
    rw [h1t, h1o, k5] at e1
    rw [h2t, h2o, k4] at e2
    rw [h3t, h3o, k6] at e3
    rw [h4t, h4o, k7] at e4
    simp at e0 e1 e2 e3 e4
    have hbx : b x.1 = b x0.1 + (b x1.1 + (b x2.1 + (b x3.1 + b x4.1))) + 1 := by
      rw [hx, hB.agg]
      simp only [List.map_cons, List.map_nil, hB.cons, hB.nil]
      omega
    obtain ⟨z, hz, _, hw⟩ := DataW.trod_int hT.i64 e0
    cases hz
    simp [Lit.wf, IntKind.min, IntKind.max, IntKind.signed, IntKind.bits] at hw
    obtain ⟨bb, hbb, _⟩ := DataW.trod_bool hT.bool e2
    cases hbb
    obtain ⟨s, hs, hsb⟩ := open_bytesIn hT.bs hT.u8 k3 hB e1
    obtain ⟨u, hua, hub⟩ := open_tags hT hB e4 (by omega)
    obtain ⟨ls, ys, m', ha, hl, hm', hbk, hel⟩ := open_things hT.lt hT.cT (by omega) hB e3 (by omega)
    subst hm'
    have all : ∀ (L : List (List Value)) (ys : List (DataW H × List MemPlace)), ys.length = L.length → bs (ys.map (·.1)) ≤ 1048576 → (∀ (i : Nat) cs y, L[i]? = some cs → ys[i]? = some y → DataW.trod enc P W 0 (fun _ => true) true m' E.t_spec_Tree cs = some y) →
        ∃ l : List Tr, l.length = L.length ∧ (∀ (i : Nat) c t, L[i]? = some c → l[i]? = some t → TreeAt W c t) ∧ Tr.szL l ≤ bs (ys.map (·.1)) := by
      intro L
      induction L with
      | nil =>
        intro ys hl _ _
        have : ys = [] := List.eq_nil_of_length_eq_zero hl
        subst this
        exact ⟨[], rfl, fun i c x h => by simp at h, by simp [Tr.szL]⟩
      | cons cs L ihL =>
        intro ys hl hkk hel
        cases ys with
        | nil => simp at hl
        | cons y ys =>
          simp only [List.map_cons, hB.cons] at hkk
          obtain ⟨l, h1, h2, h3⟩ := ihL ys (by simpa using hl) (by omega) (fun i cs y hi hy => hel (i + 1) cs y (by simpa using hi) (by simpa using hy))
          obtain ⟨t, ht, htz⟩ := ih m' (by omega) cs y (hel 0 cs y rfl rfl) (by omega)
          refine ⟨t :: l, by simp [h1], ?_, ?_⟩
          · intro i c x hi hx
            cases i with
            | zero => simp at hi hx; subst hi; subst hx; exact ht
            | succ i => exact h2 i c x (by simpa using hi) (by simpa using hx)
          · simp only [List.map_cons, Tr.szL, hB.cons]; omega
    obtain ⟨l, h1, h2, h3⟩ := all (ls.getD []) ys hl (by omega) hel
    refine ⟨.mk z s bb l u, .mk ⟨by omega, by omega⟩ hs ha h1.symm h2 hua, ?_⟩
    have hp0 := hB.pos x0.1
    simp only [Tr.sz]
    omega
/-- an argument -/
theorem open_arg {cs : Array Value} {d : DataW H} {ps : List MemPlace} (h : DataW.Trod enc P W 0 (fun _ => true) true E.t_spec_Tree (.agg cs) d ps) (hk : b d ≤ 1048576) : ∃ t : Tr, TreeAt W cs.toList t ∧ t.sz ≤ 1048576 := by
  obtain ⟨n, hn⟩ := h
  obtain ⟨t, h1, h2⟩ := open_tree hT hB n _ _ hn hk
  exact ⟨t, h1, Nat.le_trans h2 hk⟩
end
/-- a struct's value -/
theorem agg_of_ok {P : Program} {w : World} {r : Reach} {base t : Nat} {v : Value} {fs : Array Field} (hu : P.underlying t = some (.struct fs)) (h : Value.okWide P w r base t v) : ∃ cs : Array Value, v = .agg cs := by
  simp only [Value.okWide, hu] at h
  obtain ⟨cs, rfl, _⟩ := h
  exact ⟨cs, rfl⟩
end Go.Kg

set_option linter.unusedSimpArgs false
set_option linter.unusedVariables false
namespace Go.Kg
open Go
/-- the contract of the literal in AppendEach -/
def AE1C (P : Program) (E : Env) : Prop := ∀ {base bd : Nat} {w0 w : World} {v0 v val : Value} {prot : Nat → Prop} {s : List UInt8} {x : Nat × List UInt8} {K : Nat → Prop},
    DstAt E base bd w0 v0 prot s w v → w0.heap.size ≤ bd → base ≤ w0.heap.size → ¬ prot bd → ¬ own1 v bd → x.1 < 4294967296 → x.2.length < 4294967296 → BytesAt w K val x.2 → (∀ k, K k → k < base) → s.length + (tagW x).length ≤ 1099511627776 →
    Ret P E.f_pkmsg_Tags_AppendEach_1 #[.int .u32 x.1, val, .pointer (some ⟨bd, 0, none⟩)] w fun _ w' => ∃ v', DstAt E base bd w0 v0 prot (s ++ tagW x) w' v' ∧ ¬ own1 v' bd ∧ ∀ k, prot k → w'.heap[k]? = w.heap[k]?
/-- while the tags are written -/
structure OutI (E : Env) (base bd n0 n1 : Nat) (w0 : World) (v0 : Value) (s : List UInt8) (l : TagL) (pt fn ov : Value) (w5 : World) (f : Nat → Value) (w : World) (i : Nat) : Prop where
  f0 : f 0 = pt
  f1 : f 1 = fn
  f37 : f 37 = ov
  f38 : f 38 = .int .i64 l.length
  f39 : f 39 = .int .i64 i
  il : i ≤ l.length
  st : ∃ v, DstAt E base bd w0 v0 (fun k => n0 ≤ k ∧ k < n1) (s ++ ((sortTags l).take i).flatMap tagW) w v ∧ ¬ own1 v bd
  same : ∀ k, n0 ≤ k → k < n1 → w.heap[k]? = w5.heap[k]?
theorem stp_callF {P : Program} {f : Nat → Value} {ty : TypeId} {w : World} {K : Value → World → Prop} {t g : Nat} {xs : Array Operand} {ts : Array TypeId} {first cap : Array Value} (h : f t = .func (.func g) first cap) :
    stp P f (.call { callee := .value (.tmp t), args := xs, argTypes := ts }) ty w K = Ret P g (first ++ xs.map (evF f) ++ cap) w K := by simp only [stp, callK, h]
theorem keys_back : ∀ (L : List Value), (∀ v ∈ L, ∃ x : Nat, v = .int .u32 x) → L = (L.map fun v => match v with | .int _ n => n.toNat | _ => 0).map fun x : Nat => Value.int .u32 x
  | [], _ => rfl
  | v :: L, h => by
    obtain ⟨x, rfl⟩ := h v (List.mem_cons_self ..)
    simp only [List.map_cons, Int.toNat_natCast]
    rw [← keys_back L (fun v hv => h v (List.mem_cons_of_mem _ hv))]
theorem flat_le {α : Type} (g : α → List UInt8) : ∀ (l : List α) (i : Nat), ((l.take i).flatMap g).length ≤ (l.flatMap g).length
  | [], i => by simp
  | a :: l, 0 => by simp
  | a :: l, i + 1 => by have := flat_le g l i; simp only [List.take_succ_cons, List.flatMap_cons, List.length_append]; omega
section
variable {P : Program} {E : Env} (ht : TyTg P E)
include ht
set_option maxHeartbeats 4000000 in
theorem c_EachT (kS : kindOf P E.t_l_uint32 = .scl) (k32 : kindOf P E.tU32 = .scl) (hS : SliI P E.t_l_uint32 E.tU32 1 4 (.int .u32 0)) (hi : intKind? P E.tU32 = some .u32) (hu : P.underlying E.tU32 = some (.int .u32)) (hi' : intKind? P E.tInt = some .i64) (hzS : zeroOf P E.t_l_uint32 = some (.slice none 0 0))
    (hI : FnIs P E.f_pkmsg_Tags_Each nt_pkmsg_Tags_Each (rs_pkmsg_Tags_Each E) (ir_pkmsg_Tags_Each E)) (hA : AE1C P E) (hSo : SortC P E)
    {base bd : Nat} {w0 w : World} {v0 v : Value} {s s0 : List UInt8} {b o : Nat} {u : Value} {l : TagL}
    (hD : DstAt E base bd w0 v0 (fun _ => False) s w v) (hbd : w0.heap.size ≤ bd) (hb0 : base ≤ w0.heap.size) (hnb : ¬ own1 v bd) (ho0 : OwnB E.tU8 w0 base v0 s0)
    (hb : ¬ own1 v0 b) (hc : w0.cell? ⟨b, o, none⟩ = some u) (hl : TagsAt w0 (· < base) u l) (hok : tagsOk l) (hne : l ≠ []) (hsz : s.length + (tagsOut l).length ≤ 1099511627776) :
    Ret P E.f_pkmsg_Tags_Each #[.pointer (some ⟨b, o, none⟩), .func (.func E.f_pkmsg_Tags_AppendEach_1) #[] #[.pointer (some ⟨bd, 0, none⟩)]] w fun _ w' => ∃ v', DstAt E base bd w0 v0 (fun _ => False) (s ++ tagsOut l) w' v' := by
  obtain ⟨hcw, hlw⟩ := hD.tags ho0 hb hc hl
  have hpos : 0 < l.length := List.length_pos_iff.2 hne
  rcases tagsAt_iff.1 hlw with ⟨_, h⟩ | ⟨m, es, clock, rfl, hm, hmb, he, hnd, hnb', hlen⟩
  · exact absurd h hne
  have hesl : es.size = l.length := by simpa using he.get.1
  have hbdlt := lt_of_heap hD.cell
  have hwsz := hD.grew.ext.size
  refine hI.call (args := [_, _]) (by simp [nt_pkmsg_Tags_Each]) ?_
  have hm1 : (mapLen? w (some m)) = some (.int .i64 es.size) := by simp [mapLen?, hmb]
  simp [ir_pkmsg_Tags_Each, rs_pkmsg_Tags_Each, ht.g0, Addr.add_mk, ld_scl ht.kM, hcw, isM ht, hm1]
  have hes0 : es ≠ #[] := by rintro rfl; simp at hesl; omega
  refine cw_false (by simp [hes0]) ?_
  simp [ht.g0, Addr.add_mk, ld_scl ht.kM, hcw, isM ht, hm1]
  obtain ⟨ii, hinf, hzi, hsi, hbi⟩ := hS.inf
  obtain ⟨w1, hmk, how1, hg1⟩ := run_make_own (P := P) w w.heap.size E.t_l_uint32 E.tU32 ii _ 1 hS.und hinf hzi hsi .i64 .i64 es.size (by rw [hbi]; have := hok.1; omega) (by have := hok.1; simp [maxLen]; omega) (Nat.le_refl _)
  rw [stepF_ok (v := .slice (some ⟨w.heap.size, 0, none⟩) 0 es.size) (w' := w1) (by simp [runF, execOp, hmk])]
  have hE1 : Ext none1 w w1 := ⟨hg1.os, hg1.tape, hg1.output, hg1.size, fun k hk _ => hg1.block k hk (by simp)⟩
  have ho1 : Own w1 w.heap.size E.tU32 1 (.slice (some ⟨w.heap.size, 0, none⟩) 0 es.size) [] := ⟨0, how1⟩
  have hlt1 : w.heap.size < w1.heap.size := (Own.below ho1 (b := w.heap.size) rfl).2
  simp [hzS, Value.cells, store_scl kS, put1K_blk alloc_new]
  generalize hw2 : (w1.alloc (.cells #[.slice none 0 0] E.t_l_uint32)).setBlk w1.heap.size (.cells #[.slice (some ⟨w.heap.size, 0, none⟩) 0 es.size] E.t_l_uint32 (0, 0)) = w2
  have hE2 : Ext none1 w1 w2 := by subst hw2; exact ((Ext.refl _ w1).alloc _).setBlk (Or.inl (Nat.le_refl _)) _
  have hs2 : w2.heap.size = w1.heap.size + 1 := by subst hw2; simp
  have hb2 : w2.heap[w1.heap.size]? = some (.cells #[.slice (some ⟨w.heap.size, 0, none⟩) 0 es.size] E.t_l_uint32 (0, 0)) := by subst hw2; exact setBlk_same alloc_new
  have hE02 : Ext none1 w w2 := hE1.trans hE2
  have hcw2 : w2.cell? ⟨b, o, none⟩ = some (.map (some m)) := hE02.cell hcw (fun h => h)
  have hm2 : w2.heap[m]? = some (.map es clock) := hE02.old hmb (fun h => h)
  refine ⟨rfl, ?_⟩
  simp [ht.g0, Addr.add_mk, ld_scl ht.kM, hcw2]
  rw [stepF_ok (v := .pointer (some ⟨w2.heap.size, 0, none⟩)) (w' := w2.alloc (.mapIter (some m) clock #[] clock)) (by simp [runF, execOp, run_range_map w2 _ _ _ m es clock ht.uM hm2])]
  generalize hw3 : w2.alloc (.mapIter (some m) clock #[] clock) = w3
  have hE3 : Ext none1 w2 w3 := by subst hw3; exact (Ext.refl _ w2).alloc _
  have hs3 : w3.heap.size = w2.heap.size + 1 := by subst hw3; simp
  have hi3 : w3.heap[w2.heap.size]? = some (.mapIter (some m) clock #[] clock) := by subst hw3; exact alloc_new
  have hE03 : Ext none1 w w3 := hE02.trans hE3
  have hm3 : w3.heap[m]? = some (.map es clock) := hE03.old hmb (fun h => h)
  refine cw_loop (fun f w' => RngI E base bd w.heap.size w0 v0 s v w2.heap.size w1.heap.size m es clock (.pointer (some ⟨b, o, none⟩)) (.func (.func E.f_pkmsg_Tags_AppendEach_1) #[] #[.pointer (some ⟨bd, 0, none⟩)]) w f w') (fun _ w' => rLeft w' m w2.heap.size) ?_ ?_
  · refine ⟨hE03.mono (fun _ _ h => h.elim), by simp, by simp, by simp, by simp, #[], clock, _, [], hi3, Nat.le_refl _, hE3.old hb2 (fun h => h), Own.ext (Own.ext ho1 hE2 (fun _ _ h => h)) hE3 (fun _ _ h => h), ?_, ?_, by simp⟩
    · intro k hk
      have := (Own.below ho1 hk)
      have : k = w.heap.size := by cases hk; rfl
      omega
    · have : (es.toList.filter fun x : MapEntry => !(#[] : Array Nat).contains x.born) = es.toList := by rw [List.filter_eq_self]; intro x _; simp
      rw [this]; simp
  · intro f3 w4 hR
    have hsz4 := hR.ext.size
    have hm4 : w4.heap[m]? = some (.map es clock) := hR.ext.old hmb (by omega)
    have he4 : EL w4 (· < base) clock es.toList l := by
      have := tagsAt_iff.1 ((hlw.ext (C := fun x => w.heap.size ≤ x) hR.ext (fun b _ hb h => by omega)))
      rcases this with ⟨h, _⟩ | ⟨m', es', clock', h, _, hb', he', _⟩
      · cases h
      · cases h
        rw [hm4] at hb'; cases hb'; exact he'
    have hit4 : w2.heap.size < w4.heap.size := by
      obtain ⟨_, _, _, _, h, _⟩ := hR.st
      exact lt_of_heap h
    refine c_round ht (base := base) (bd := bd) (v0 := v0) (v := v) (s := s) kS hS hi hR hm4 he4 hnb' (by have := hok.1; omega) ⟨by omega, hit4⟩ ⟨by omega, by omega⟩ (by omega) (by omega) ?_ ?_
    · rintro f4 w4 rfl hk _ ⟨seen', c0', hr', h0⟩
      obtain ⟨seen, c0, ov, done, hr, hc0, hbo, ho, hoff, hperm, hdl⟩ := hR.st
      rw [hr] at hr'
      cases hr'
      have hseen := all_seen es seen' h0
      have hfil : (es.toList.filter fun x => !seen'.contains x.born) = [] := by
        rw [List.filter_eq_nil_iff]; intro x hx; have := hseen x hx; simp at this; simp [this]
      rw [hfil] at hperm
      simp only [List.map_nil, List.nil_append, he4.keys] at hperm
      obtain ⟨d, hd, hdp⟩ : ∃ d : List Nat, done = d.map (fun x : Nat => Value.int .u32 x) ∧ d.Perm (l.map (·.1)) := by
        refine ⟨done.map fun v => match v with | .int _ n => n.toNat | _ => 0, ?_, ?_⟩
        · refine keys_back done fun v hv => ?_
          obtain ⟨x, _, rfl⟩ := List.mem_map.1 (hperm.mem_iff.1 hv)
          exact ⟨x.1, rfl⟩
        · refine (hperm.map _).trans ?_
          rw [List.map_map]
          exact List.Perm.of_eq (List.map_congr_left fun x _ => by simp)
      have hdl' : d.length = l.length := by rw [hdp.length_eq]; simp
      obtain ⟨n, hnl, hov⟩ := ho
      have hn : n = l.length := by rw [hd] at hnl; simp at hnl; omega
      rcases hov with ⟨_, h⟩ | ⟨g, cap, cur, rfl, hg, hgb, hncap, hcm, hcs, htake⟩
      · omega
      have hgo := hoff g rfl
      have hgo' : w.heap.size ≤ g := hg
      have hglt := lt_of_heap hgb
      have cbp : w4.cell? ⟨w1.heap.size, 0, none⟩ = some (.slice (some ⟨g, 0, none⟩) n cap) := by rw [cell_of_blk hbo]; rfl
      have k4 : f4 4 = .pointer (some ⟨w1.heap.size, 0, none⟩) := (hk 4 (by omega) (by omega)).trans hR.f4
      have k0 : f4 0 = _ := (hk 0 (by omega) (by omega)).trans hR.f0
      have k1 : f4 1 = _ := (hk 1 (by omega) (by omega)).trans hR.f1
      simp [k4, ld_scl kS, cbp]
      rw [stepF_ok (v := .iface E.t_l_uint32 (.slice (some ⟨g, 0, none⟩) n cap)) (w' := w4) (by simp [runF, execOp, Instr.makeInterface, run_underlying hS.und])]
      have hrow : ∀ (i x : Nat), d[i]? = some x → cur[i]? = some (Value.int .u32 (x : Int)) := by
        intro i x hx
        have h1 : (cur.toList.take (n * 1))[i]? = some (Value.int .u32 (x : Int)) := by rw [htake, hd, List.getElem?_map, hx]; rfl
        rw [List.getElem?_take] at h1
        split at h1
        · simpa using h1
        · cases h1
      have hS5 := hSo w4 w1.heap.size g cap d cur (by rw [cbp, hn, hdl']) (by omega) hgb hrow (by omega) (by rw [hdl']; exact hlen.1)
      rw [hdl', ← hn] at hS5
      refine hS5.mono ?_
      rintro _ w5 ⟨d', hd'p, hd's, hE5, hd'c⟩
      have hd'e := sorted_keys hnd (hd'p.trans hdp) hd's
      have hs5 := hE5.size
      have hbp5 : w5.heap[w1.heap.size]? = some (.cells #[.slice (some ⟨g, 0, none⟩) n cap] E.t_l_uint32 (0, 0)) := hE5.old hbo (by omega)
      have cbp5 : w5.cell? ⟨w1.heap.size, 0, none⟩ = some (.slice (some ⟨g, 0, none⟩) n cap) := by rw [cell_of_blk hbp5]; rfl
      simp [k4, ld_scl kS, cbp5, len_slice hS.und]
      have hE05 : Ext (fun x => w.heap.size ≤ x) w w5 := hR.ext.trans (hE5.mono (fun _ _ e => by omega))
      have hD5 := hD.ext hE05 (by omega) (fun k hk => (Own.below hD.own hk).2) hD.grew.size
      refine cw_loop (fun f w' => ∃ i, OutI E base bd w.heap.size w5.heap.size w0 v0 s l (.pointer (some ⟨b, o, none⟩)) (.func (.func E.f_pkmsg_Tags_AppendEach_1) #[] #[.pointer (some ⟨bd, 0, none⟩)]) (.slice (some ⟨g, 0, none⟩) n cap) w5 f w' i) (fun f _ => match f 39 with | .int _ i => l.length - i.toNat | _ => 0) ?_ ?_
      · exact ⟨0, by simp [k0], by simp [k1], by simp, by simp [hn], by simp, by omega, ⟨v, by simpa using hD5, hnb⟩, fun _ _ _ => rfl⟩
      · rintro f6 w6 ⟨i, hO⟩
        obtain ⟨v6, hD6, hn6⟩ := hO.st
        simp [hO.f38, hO.f39]
        by_cases hil : i < l.length
        · refine cw_true (by simp [hil]) ?_
          obtain ⟨x, hx⟩ : ∃ x, (sortTags l)[i]? = some x := ⟨_, List.getElem?_eq_getElem (by rw [sortTags_len]; exact hil)⟩
          have hxl : x ∈ l := (sortTags_mem l x).1 (List.mem_of_getElem? hx)
          have hcell : w6.cell? ⟨g, i, none⟩ = some (.int .u32 x.1) := by
            rw [World.cell?_of_block (a := ⟨g, i, none⟩) (hO.same g hgo' (by omega))]
            refine hd'c i x.1 ?_
            rw [hd'e, List.getElem?_map, hx]; rfl
          obtain ⟨hcw6, hlw6⟩ := hD6.tags ho0 hb hc hl
          rcases tagsAt_iff.1 hlw6 with ⟨h, _⟩ | ⟨m', es', clock', h, _, hb6, he6, hnd6, _⟩
          · cases h
          cases h
          obtain ⟨hx32, j, val, hfind, hval⟩ := he6.find 0 hnd6 x hxl
          have hxb := hok.2.2 x hxl
          have htk : (sortTags l).take (i + 1) = (sortTags l).take i ++ [x] := by rw [List.take_add_one, hx]; rfl
          have hszx : (s ++ ((sortTags l).take i).flatMap tagW).length + (tagW x).length ≤ 1099511627776 := by
            have := flat_le tagW (sortTags l) (i + 1)
            rw [htk] at this
            have e : tagsOut l = (sortTags l).flatMap tagW := rfl
            rw [e] at hsz
            simp only [List.flatMap_append, List.flatMap_cons, List.flatMap_nil, List.append_nil, List.length_append] at this ⊢
            omega
          have hidx := idx_of (P := P) (T := E.t_l_uint32) hS.siz (p := ⟨g, 0, none⟩) (n := n) (c := cap) (k := .i64) (i := i) (by omega)
          simp [hO.f37, hO.f39, hidx, Addr.add_mk, ld_scl k32, hcell, hO.f0, hO.f1, ht.g0, ld_scl ht.kM, hcw6]
          rw [stepF_ok (v := val) (w' := w6) (by simp [runF, execOp, run_lookup ht.uM hu hb6 hfind])]
          rw [stp_callF (g := E.f_pkmsg_Tags_AppendEach_1) (first := #[]) (cap := #[.pointer (some ⟨bd, 0, none⟩)]) (by simp)]
          simp
          refine (hA hD6 hbd hb0 (by omega) hn6 hx32 (by omega) hval (fun _ h => h) hszx).mono ?_
          rintro _ w7 ⟨v7, hD7, hn7, hp7⟩
          have hwi : IntKind.i64.wrap ((i : Int) + 1) = ((i + 1 : Nat) : Int) := by rw [i64_small (by omega) (by omega)]; rfl
          simp [hO.f39, hwi]
          refine ⟨⟨i + 1, by simp [hO.f0], by simp [hO.f1], by simp [hO.f37], by simp [hO.f38], by simp, by omega, ⟨v7, ?_, hn7⟩, fun k h1 h2 => (hp7 k ⟨h1, h2⟩).trans (hO.same k h1 h2)⟩, ?_⟩
          · rw [htk]; simpa [List.append_assoc] using hD7
          · omega
        · refine cw_false (by simp; omega) ?_
          simp
          have hi' : i = l.length := Nat.le_antisymm hO.il (by omega)
          subst hi'
          refine ⟨v6, ?_⟩
          rw [List.take_of_length_le (by rw [sortTags_len]; exact Nat.le_refl _)] at hD6
          exact ⟨hD6.cell, hD6.own, hD6.grew, fun _ h => h.elim⟩
    · intro f' w' h1 h2
      exact ⟨h1, h2⟩
end
end Go.Kg

set_option linter.unusedSimpArgs false
set_option linter.unusedVariables false
namespace Go.Kg
open Go
section
variable {P : Program} {E : Env} (ht : TyTg P E)
include ht
theorem tagsC (kS : kindOf P E.t_l_uint32 = .scl) (k32 : kindOf P E.tU32 = .scl) (hS : SliI P E.t_l_uint32 E.tU32 1 4 (.int .u32 0)) (hS8 : SliI P E.tBs E.tU8 1 1 (.int .u8 0)) (hi : intKind? P E.tU32 = some .u32) (hu : P.underlying E.tU32 = some (.int .u32)) (hi' : intKind? P E.tInt = some .i64) (hzS : zeroOf P E.t_l_uint32 = some (.slice none 0 0))
    (hI0 : FnIs P E.f_pkmsg_Tags_Len nt_pkmsg_Tags_Len (rs_pkmsg_Tags_Len E) (ir_pkmsg_Tags_Len E))
    (hI : FnIs P E.f_pkmsg_Tags_Each nt_pkmsg_Tags_Each (rs_pkmsg_Tags_Each E) (ir_pkmsg_Tags_Each E)) (hI1 : FnIs P E.f_pkmsg_Tags_AppendEach_1 nt_pkmsg_Tags_AppendEach_1 (rs_pkmsg_Tags_AppendEach_1 E) (ir_pkmsg_Tags_AppendEach_1 E))
    (hI2 : FnIs P E.f_pkmsg_Tags_AppendEach nt_pkmsg_Tags_AppendEach (rs_pkmsg_Tags_AppendEach E) (ir_pkmsg_Tags_AppendEach E))
    (hU : ∀ n : Nat, n < 4294967296 → WrC P E.tU8 E.f_kbin_AppendUvarint [.int .u32 n] (uvOut n)) (hSo : SortC P E) : TagsC P E tagsOk := by
  refine ⟨fun w K b o v l hc hl => c_TLen ht hI0 w K b o v l hc hl, ?_, hU⟩
  intro w base v s b o u l hok hb hc hl ho hbs hsz
  have hA : AE1C P E := fun hD h1 h2 h3 h4 h5 h6 h7 h8 h9 => c_AE1 ht hS8 hi hi' hI1 hU hD h1 h2 h3 h4 h5 h6 h7 h8 h9
  have hvc := (ownB_cells ho).1
  refine hI2.call (args := [_, _]) (by simp [nt_pkmsg_Tags_AppendEach]) ?_
  simp [ir_pkmsg_Tags_AppendEach, rs_pkmsg_Tags_AppendEach, hvc]
  generalize hw1 : w.alloc (.cells #[v] E.tBs) = w1
  have hX : Ext none1 w w1 := by subst hw1; exact (Ext.refl none1 w).alloc _
  have hb1 : w1.heap[w.heap.size]? = some (.cells #[v] E.tBs (0, 0)) := by subst hw1; exact alloc_new
  have hnb : ¬ own1 v w.heap.size := fun h => by have := (Own.below ho h).2; omega
  have hD : DstAt E base w.heap.size w v (fun _ => False) s w1 v := ⟨hb1, Own.ext ho hX (fun _ _ h => h), ⟨hX.mono (fun _ _ h => h.elim), fun _ h => .inl h⟩, fun _ h => h.elim⟩
  have hmain : Ret P E.f_pkmsg_Tags_Each #[.pointer (some ⟨b, o, none⟩), .func (.func E.f_pkmsg_Tags_AppendEach_1) #[] #[.pointer (some ⟨w.heap.size, 0, none⟩)]] w1 fun _ w' => ∃ v', DstAt E base w.heap.size w v (fun _ => False) (s ++ tagsOut l) w' v' := by
    by_cases hne : l = []
    · subst hne
      refine (c_Each0 ht hI w1 b o u _ (· < base) (hX.cell hc (fun h => h)) (hl.ext hX (fun _ _ _ h => h))).mono ?_
      rintro _ w' rfl
      exact ⟨v, by simpa [tagsOut, sortTags] using hD⟩
    · exact c_EachT ht kS k32 hS hi hu hi' hzS hI hA hSo hD (Nat.le_refl _) hbs hnb ho hb hc hl hok hne hsz
  refine hmain.mono ?_
  rintro _ w2 ⟨v2, hD2⟩
  have c2 : w2.cell? ⟨w.heap.size, 0, none⟩ = some v2 := by rw [cell_of_blk hD2.cell]; rfl
  simp [ld_scl ht.kBs, c2]
  exact ⟨hD2.own, hD2.grew⟩
end
end Go.Kg

set_option linter.unusedSimpArgs false
set_option linter.unusedVariables false
namespace Go.Kg
open Go Go.Proofs Go.Shelf Go.RowKit Go.Lib Go.Sort
def encU (n : Nat) : Value := .int .u32 n
def ltN (a b : Nat) : Bool := decide (a < b)
theorem swo_ltN : SWO ltN where
  irrefl x := by simp [ltN]
  trans x y z h1 h2 := by simp only [ltN, decide_eq_true_eq] at *; omega
  ntrans x y z h1 h2 := by simp only [ltN, decide_eq_false_iff_not] at *; omega
/-- ordered[i] < ordered[j] -/
theorem c_less {P : Program} {E : Env} (kS : kindOf P E.t_l_uint32 = .scl) (k32 : kindOf P E.tU32 = .scl) (hS : SliI P E.t_l_uint32 E.tU32 1 4 (.int .u32 0)) (hI : FnIs P E.f_pkmsg_Tags_Each_1 nt_pkmsg_Tags_Each_1 (rs_pkmsg_Tags_Each_1 E) (ir_pkmsg_Tags_Each_1 E))
    {W : World} {Bs blk c n : Nat} (G : Nat → Nat) (hs : W.cell? ⟨Bs, 0, none⟩ = some (.slice (some ⟨blk, 0, none⟩) n c)) (hc : ∀ t, t < n → W.cell? ⟨blk, t, none⟩ = some (.int .u32 (G t))) {i j : Nat} (hi : i < n) (hj : j < n) :
    Ret P E.f_pkmsg_Tags_Each_1 #[.int .i64 i, .int .i64 j, .pointer (some ⟨Bs, 0, none⟩)] W fun v w' => v = .bool (decide (G i < G j)) ∧ w' = W.drew := by
  refine hI.call (args := [_, _, _]) (by simp [nt_pkmsg_Tags_Each_1]) ?_
  simp [ir_pkmsg_Tags_Each_1, rs_pkmsg_Tags_Each_1]
  refine cw_regH (fun w' => w' = W.drew) rfl ?_
  have hs' : W.drew.cell? ⟨Bs, 0, none⟩ = some (.slice (some ⟨blk, 0, none⟩) n c) := hs
  have hi1 := idx_of (P := P) (T := E.t_l_uint32) hS.siz (p := ⟨blk, 0, none⟩) (n := n) (c := c) (k := .i64) hi
  have hj1 := idx_of (P := P) (T := E.t_l_uint32) hS.siz (p := ⟨blk, 0, none⟩) (n := n) (c := c) (k := .i64) hj
  have ci : W.drew.cell? ⟨blk, i, none⟩ = some (.int .u32 (G i)) := hc i hi
  have cj : W.drew.cell? ⟨blk, j, none⟩ = some (.int .u32 (G j)) := hc j hj
  simp [ld_scl kS, ld_scl k32, hs, hi1, hj1, Addr.add_mk, hc i hi, hc j hj]
/-- what is asked of the types, of Swapper's literals and of the shelf -/
structure SortTy (P : Program) (E : Env) (ρ : Ren) (ke f2 f6 : Nat) : Prop where
  L : LaysGg.n6 P ρ
  fS : ρ.f 6 = E.f_sort_Slice
  fc : Callable P E.f_sort_Slice
  info : ∃ i, P.info? E.t_l_uint32 = some i ∧ i.desc = .slice E.tU32
  pk : P.packed E.t_l_uint32 = false
  elem : ∃ ie, P.info? E.tU32 = some ie ∧ ie.size = 1 ∧ ie.hasPointers = false ∧ ie.bytes = 4
  kind : ∀ w, (Extern.Rtype.kind E.tU32).run P w = .ok ke w
  lit1 : P.funcs.findIdx? (·.name == "internal/reflectlite" ++ ".Swapper$" ++ toString 2) = some f2
  lit4 : P.funcs.findIdx? (·.name == "internal/reflectlite" ++ ".Swapper$" ++ toString 6) = some f6
  swap : ∃ gS, ∀ args W, (callFunc f6 args).run P W = ((Extern.ReflectliteSwapper.swap gS args).run P W).andThen fun v w' => .ok (.value v) w'
theorem swK4 {ie : TypeInfo} {ke n : Nat} (h1 : ie.hasPointers = false) (h2 : ie.bytes = 4) (hn : 2 ≤ n) : swapperK n ie ke = 6 := by
  have c : (n == 0) = false := by simp; omega
  have d : (n == 1) = false := by simp; omega
  simp [swapperK, h1, h2, c, d]
theorem enters_callable {P : Program} {g : Nat} (h : Callable P g) : ∀ args w, (callFunc g args).run P w = .ok (.enter g args) w := by
  obtain ⟨fn, c, h1, h2, h3⟩ := h
  exact enters_of h1 h3 h2
theorem sortC {P : Program} {E : Env} {ρ : Ren} {ke f2 f6 : Nat} (hT : SortTy P E ρ ke f2 f6) (kS : kindOf P E.t_l_uint32 = .scl) (k32 : kindOf P E.tU32 = .scl) (hS : SliI P E.t_l_uint32 E.tU32 1 4 (.int .u32 0)) (hI : FnIs P E.f_pkmsg_Tags_Each_1 nt_pkmsg_Tags_Each_1 (rs_pkmsg_Tags_Each_1 E) (ir_pkmsg_Tags_Each_1 E)) : SortC P E := by
  intro w Bs blk c d row hcell hne hblk hrow hpos hlen
  obtain ⟨i, hi, hd⟩ := hT.info
  obtain ⟨ie, hie, hs1, hp, hby⟩ := hT.elem
  have hlt := lt_of_heap hblk
  have hBlt := World.block_lt_of_cell? w _ hcell
  have hH : Holds encU w blk 0 d.toArray := by
    intro j hj
    have hj' : j < d.length := by simpa using hj
    have hr := hrow j d[j] (List.getElem?_eq_getElem hj')
    refine ⟨?_, ?_⟩
    · rw [Nat.zero_add, cell_of_blk hblk, hr]
      simp [encU, hj']
    · exact frozen_of_blk hblk
  refine ⟨hT.fc, ?_⟩
  by_cases h2 : 2 ≤ d.length
  · have hless : LessReads P E.f_pkmsg_Tags_Each_1 #[.pointer (some ⟨Bs, 0, none⟩)] encU ltN blk 0 d.toArray.size w := by
      intro m os dk hs i j hi hj
      have hs' : dk.size = d.toArray.size := hs
      have e : sortWorld encU w blk 0 m dk os = putRow encU (grow (Sort.ahead w m) os) blk 0 dk := by
        unfold sortWorld; rw [putRow_grow _ (Sort.ahead w m) _ blk 0 _ hlt]
      have hHg : Holds encU (grow (Sort.ahead w m) os) blk 0 d.toArray := holds_grow _ _ _ blk 0 d.toArray hlt (holds_ahead _ _ _ _ _ _ hH)
      have hr := c_less (n := d.length) (c := c) (Bs := Bs) (blk := blk) kS k32 hS hI (W := sortWorld encU w blk 0 m dk os) (fun t => dk[t]!) ?_ ?_ (i := i) (j := j) (by simpa using hi) (by simpa using hj)
      · exact hr.2.mono fun e w' ⟨v, he, hv, hw⟩ => ⟨by rw [he, hv]; rfl, 1, hw⟩
      · rw [e, cell?_putRow_other _ _ blk 0 dk _ (Or.inl (by show Bs ≠ blk; omega)), cell?_grow _ _ _ (by show Bs < w.heap.size; exact hBlt)]
        exact hcell
      · intro t ht
        rw [e]
        have := cell?_putRow encU _ blk 0 d.toArray dk hHg hs t (by rw [hs']; simpa using ht)
        rw [Nat.zero_add] at this
        exact this
    obtain ⟨gS, hx⟩ := hT.swap
    have hS' := Any.sort_Slice_sorted hT.L E.t_l_uint32 E.tU32 i ie hi hd hT.pk hie ke hT.kind hs1 (fun w => by obtain ⟨dd, i, g1, g2, g3, g4⟩ := kindOf_scl k32; simp [run_isAgg g1, g2]) encU (fun _ => rfl) ltN swo_ltN E.f_pkmsg_Tags_Each_1 #[.pointer (some ⟨Bs, 0, none⟩)]
      (enters_callable hI.callable) blk 0 c d.toArray (by simpa using h2) (by simp; omega) f6 (by rw [swK4 hp hby (by simpa using h2)]; exact hT.lit4) gS hx w hless hH hlt
    rw [hT.fS] at hS'
    refine hS'.mono ?_
    rintro e w' ⟨rfl, d', n, os, hP, hSo, rfl⟩
    refine ⟨_, rfl, d'.toList, ?_, ?_, ?_, ?_⟩
    · have h3 := hP.2.2
      have e1 : d'.extract 0 d.toArray.size = d' := by rw [← hP.1]; exact Array.extract_size
      have e2 : d.toArray.extract 0 d.toArray.size = d.toArray := Array.extract_size
      rw [e1, e2] at h3
      simpa using h3
    · rw [List.pairwise_iff_getElem]
      intro i j hi hj hij
      have := hSo i j (Nat.zero_le _) hij (by rw [← hP.1]; simpa using hj)
      simp only [ltN, decide_eq_false_iff_not] at this
      have hi' : i < d'.size := by simpa using hi
      have hj' : j < d'.size := by simpa using hj
      rw [getElem!_pos d' i hi', getElem!_pos d' j hj'] at this
      simp only [Array.getElem_toList]
      omega
    · refine ⟨rfl, rfl, rfl, by simp [putRow, mapBlock, Sort.ahead], fun k hk hne => ?_⟩
      rw [heap_grow_old _ _ (by simpa [putRow, mapBlock, Sort.ahead] using hk)]
      simp only [putRow, mapBlock, Sort.ahead, Array.getElem?_modify]
      rw [if_neg (fun e => hne e.symm)]
    · intro i x hx
      have hx' : d'[i]? = some x := by simpa using hx
      obtain ⟨hi', hxe⟩ := Array.getElem?_eq_some_iff.1 hx'
      rw [cell?_grow _ _ _ (by simpa [putRow, mapBlock, Sort.ahead] using hlt)]
      have := cell?_putRow encU (Sort.ahead w n) blk 0 d.toArray d' (holds_ahead _ _ _ _ _ _ hH) hP.1 i hi'
      rw [Nat.zero_add, getElem!_pos d' i hi', hxe] at this
      exact this
  · have h1 : d.length = 1 := by omega
    have hS' := Any.sort_Slice_tiny hT.L E.t_l_uint32 E.tU32 i ie hi hd hT.pk hie ke hT.kind (some ⟨blk, 0, none⟩) d.length c (by omega) f2 (by rw [h1]; exact hT.lit1) (.func E.f_pkmsg_Tags_Each_1) #[] #[.pointer (some ⟨Bs, 0, none⟩)] w
    rw [hT.fS] at hS'
    refine hS'.mono ?_
    rintro e w' ⟨rfl, os, rfl⟩
    refine ⟨_, rfl, d, List.Perm.refl _, ?_, ?_, ?_⟩
    · match d, h1 with
      | [x], _ => simp
    · refine ⟨rfl, rfl, rfl, by simp, fun k hk hne => heap_grow_old _ _ hk⟩
    · intro i x hx
      rw [cell?_grow _ _ _ hlt, cell_of_blk hblk]
      exact hrow i x hx
end Go.Kg

set_option linter.unusedSimpArgs false
set_option linter.unusedVariables false
namespace Go.Kg
open Go
section
variable {P : Program} {E : Env} (ht : TyRs P E)
include ht
end
end Go.Kg

set_option linter.unusedSimpArgs false
set_option linter.unusedVariables false
set_option linter.unusedSectionVars false
namespace Go.Kg
open Go
structure TyWd (P : Program) (E : Env) (tLS tLN tN : Nat) (zs zn : Value) : Prop where
  sS : SliI P tLS E.tS 1 16 zs
  sN : SliI P tLN tN 2 24 zn
  kN : kindOf P tN = .agg 2
  n1 : fldOff P tN 1 = some 1
  kS : kindOf P E.tS = .scl
  zN : ∃ a b, zeroOf P tN = some (.agg #[a, b])
  pl : places P tN = some [(0, 1), (1, 1)]
  iInt : intKind? P E.tInt = some .i64
/-- a row of texts -/
def WordsAt (w : World) (v : Value) (ws : List ByteArray) : Prop := ∃ b c, v = .slice (some ⟨b, 0, none⟩) ws.length c ∧ ∀ (i : Nat) s, ws[i]? = some s → w.cell? ⟨b, i, none⟩ = some (.string s)
theorem WordsAt.ext {w w' : World} {v : Value} {ws : List ByteArray} (h : WordsAt w v ws) (he : Ext none1 w w') : WordsAt w' v ws := by
  obtain ⟨b, c, rfl, h⟩ := h
  exact ⟨b, c, rfl, fun i s hi => he.cell (h i s hi) (fun h => h)⟩
section
variable {P : Program} {E : Env} {tLS tLN tN : Nat} {zs zn : Value} (ht : TyWd P E tLS tLN tN zs zn)
include ht
/-- a row of names -/
def NamesAt (w : World) (v : Value) (ws : List ByteArray) : Prop := ∃ b c, v = .slice (some ⟨b, 0, none⟩) ws.length c ∧ ∀ (i : Nat) s, ws[i]? = some s → ∃ n, CellsAt w b (i * 2) [.int .i64 n, .string s]
theorem NamesAt.ext {w w' : World} {v : Value} {ws : List ByteArray} (h : NamesAt w v ws) (he : Ext none1 w w') : NamesAt w' v ws := by
  obtain ⟨b, c, rfl, h⟩ := h
  refine ⟨b, c, rfl, fun i s hi => ?_⟩
  obtain ⟨n, hc⟩ := h i s hi
  exact ⟨n, CellsAt.ext (K := fun _ => True) he (fun _ _ _ h => h) hc trivial⟩
end
end Go.Kg


