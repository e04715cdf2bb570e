import PyProof.Rows.All
import Wide.All
import OpenK.AllK
import Wide.FinOn
import Lean
import PySem.Challenge.RW_et5020_01
/-! The law et5020-01: each of its defs is walked once, at any place (Does: a contract of a def); the plain lemmas on texts
stand beside; the main text joins them: an invariant over the outer loop (what is told and what is due are the same data). -/
set_option Elab.async false
section
open PySem PySem.W PyProof.Rows
namespace Mine
set_option maxRecDepth 100000
set_option maxHeartbeats 8000000
open_top hd for PySem.Challenge.rw_et5020_01
end Mine
end
theorem Mine.pause0 : True := by (w_top off); first | (walk1; done) | trivial
section
open PySem PySem.W PySem.Spec PySem.Calls PyProof.Rows
namespace Mine
abbrev Led := List (Addr × Obj)
/-- what a call of the def at f with vs gives back, at any place -/
def Does (w : World) (p : Program) (loose : List Str) (mean : ExcName → Option Value) (mg mb : Str → Option Value) (f : Addr) (vs : List Value) (news : Led) (d : Nat) (Ret : Value → Led → Prop) : Prop :=
  ∀ (dp un : Nat) (gd : Option (List Code)) (cn : Str) (cs : Scope) (a : Addr) (ccd : Value) (cl : List (Str × Addr)) (outer : List Env) (A₀ : Around) (base h₀ : Heap) (L : Addr) (m : Str → Option Value) (s : Shared) (Q E : Value → Shared → Prop),
    Below A₀ base outer h₀ → Fr h₀ L s.heap m → (hd.heap_39 w.params).In h₀ → News h₀ L s.heap news → Top p loose mean mg mb h₀ → cs.kind = .function → dp + d < recursionLimit → un + 8 * d < cLine →
    (∀ r news' h' tk', Ret r news' → Fr h₀ L h' m → News h₀ L h' news' → Q r { s with heap := h', toks := tk' }) →
      wpAny (model Challenge.rw_et5020_01.row.prog w) (ktrTop dp un gd cn cs L a ccd cl outer) (call (.ref f) vs) Q E s
/-- the same with arguments by name -/
def DoesK (w : World) (p : Program) (loose : List Str) (mean : ExcName → Option Value) (mg mb : Str → Option Value) (f : Addr) (vs : List Value) (kw : List (Str × Value)) (news : Led) (d : Nat) (Ret : Value → Led → Prop) : Prop :=
  ∀ (dp un : Nat) (gd : Option (List Code)) (cn : Str) (cs : Scope) (a : Addr) (ccd : Value) (cl : List (Str × Addr)) (outer : List Env) (A₀ : Around) (base h₀ : Heap) (L : Addr) (m : Str → Option Value) (s : Shared) (Q E : Value → Shared → Prop),
    Below A₀ base outer h₀ → Fr h₀ L s.heap m → (hd.heap_39 w.params).In h₀ → News h₀ L s.heap news → Top p loose mean mg mb h₀ → cs.kind = .function → dp + d < recursionLimit → un + 8 * d < cLine →
    (∀ r news' h' tk', Ret r news' → Fr h₀ L h' m → News h₀ L h' news' → Q r { s with heap := h', toks := tk' }) →
      wpAny (model Challenge.rw_et5020_01.row.prog w) (ktrTop dp un gd cn cs L a ccd cl outer) (call (.ref f) vs kw) Q E s
def Stop (P : Prop) : Prop := P
theorem stop_of {P : Prop} (h : Stop P) : P := h
theorem stop_to {P : Prop} (h : P) : Stop P := h
theorem ne_of_lts {l : Addr} {rest : List (Addr × Obj)} (h : ∀ p ∈ rest, p.1 < l) : ∀ p ∈ rest, p.1 ≠ l := fun p hp => Nat.ne_of_lt (h p hp)
theorem news_12 {h₀ h : Heap} {L : Addr} {a b : Addr × Obj} {rest : Led} (N : News h₀ L h (a :: b :: rest)) : News h₀ L h (a :: rest) := fun p hp => by
  rcases List.mem_cons.mp hp with rfl | hp
  · exact N _ (.head _)
  · exact N p (.tail _ (.tail _ hp))
theorem news_13 {h₀ h : Heap} {L : Addr} {a b c : Addr × Obj} {rest : Led} (N : News h₀ L h (a :: b :: c :: rest)) : News h₀ L h (a :: rest) := fun p hp => by
  rcases List.mem_cons.mp hp with rfl | hp
  · exact N _ (.head _)
  · exact N p (.tail _ (.tail _ (.tail _ hp)))
end Mine
end
theorem Mine.pause1 : True := by (w_top off); first | (walk1; done) | trivial
section
open PySem PySem.W PySem.Spec PySem.Calls PyProof.Rows
namespace Mine
section
local macro_rules | `(tactic| k_all) => `(tactic| with_reducible assumption)
set_option maxRecDepth 100000 in
set_option maxHeartbeats 8000000 in
theorem next_does {w : World} {p : Program} {loose : List Str} {mean : ExcName → Option Value} {mg mb : Str → Option Value} {st sl : Addr} {i n many : Int} {ti tn tm e e2 : Nat} {vs : List Value} {ns : List Int} {rest : Led}
    (hI : IntsAre vs ns) (hlen : ns.length ≤ 63) (h1 : @Ne Nat st sl) (h2 : ∀ p ∈ rest, p.1 ≠ st) (hi0 : 0 ≤ i) (hi1 : i ≤ ns.length) (hn0 : 0 ≤ n) (hn1 : n < 2147483647) (hm0 : 0 < many) (hm1 : many < 100) :
    Does w p loose mean mg mb 27 [.ref st, .int many tm] ((st, listOf #[.ref sl, .int i ti, .int n tn] e) :: (sl, listOf vs.toArray e2) :: rest) 1
      (fun r news' => ∃ x tx i' ti' n' tn', r = .int x tx ∧ news' = (st, listOf #[.ref sl, .int i' ti', .int n' tn'] e) :: (sl, listOf vs.toArray e2) :: rest ∧ 0 ≤ x ∧ x < many ∧ 0 ≤ i' ∧ i' ≤ ns.length ∧ 0 ≤ n' ∧ n' < 2147483647) := by
  unfold Does
  k_fill
  intro dp un gd cn cs a ccd cl outer A₀ base h₀ L m s Q E B F X N T hk hd hu hret
  refine wpAny_call ?_
  k_dflt cell_enter
  k_steps
  all_goals
    rename News h₀ L _ _ => kN
    rename Fr h₀ L _ m => kF
    refine hret _ _ _ _ ⟨_, _, _, _, _, _, rfl, rfl, ?_, ?_, ?_, ?_, ?_, ?_⟩ kF kN
    all_goals first
      | exact Int.fmod_nonneg_of_pos _ (by omega)
      | exact Int.fmod_lt_of_pos _ (by omega)
      | omega
end
end Mine
end
theorem Mine.pause2 : True := by (w_top off); first | (walk1; done) | trivial
section
open PySem PySem.W PySem.Spec PySem.Calls PyProof.Rows
open Builtin Builtin.Str StrLaws
namespace Mine
def CutInv (x y : Str) (pieces : List Str) (piece : Str) (k : Int) : Prop :=
  0 ≤ k ∧ k ≤ x.length ∧ (pieces.length : Int) ≤ k ∧ (piece.length : Int) ≤ k ∧ ∃ a rest f, ChainG x y x.length a rest f ∧ (∀ j, f ≤ j → ¬ At x y x.length j) ∧ a ≤ k.toNat ∧ (∀ j, a ≤ j → j < k.toNat → ¬ At x y x.length j) ∧ piece = strSub x a k.toNat ∧ pieces ++ partsFrom x y.length a rest = Txt.split x y

theorem len_cps (x : Str) : x.cps.toList.length = x.length := by simp [Str.length]

theorem slice_at {x y : Str} {k : Nat} (hk : k ≤ x.length) (hy : 1 ≤ y.length) :
    ((Txt.slice x (some (k : Int)) (some ((k : Int) + y.length)) == y) = true) ↔ At x y x.length k := by
  rw [beq_iff_eq]
  by_cases hb : k + y.length ≤ x.length
  · have e : Txt.slice x (some (k : Int)) (some ((k : Int) + y.length)) = ⟨((x.cps.toList.drop k).take y.length).toArray⟩ := by
      have := sliceText_nat x (a := k) (b := k + y.length) (by omega) hb
      rw [show k + y.length - k = y.length by omega] at this
      have e2 : ((k + y.length : Nat) : Int) = (k : Int) + y.length := by omega
      rw [e2] at this
      exact this
    rw [e]
    unfold At
    rw [subAt_eq, beq_iff_eq]
    constructor
    · intro h
      refine ⟨hb, ?_⟩
      rw [← h]
      simp [Str.length]
    · intro h
      apply Str.ext'
      apply Array.toList_inj.mp
      simpa using h.2
  · constructor
    · intro h
      exfalso
      have h1 : (Txt.slice x (some (k : Int)) (some ((k : Int) + y.length))).length ≤ x.length - k := by
        unfold Txt.slice
        have hl : (strSliceIndices (some (k : Int)) (some ((k : Int) + y.length)) 1 x.length).length ≤ x.length - k := by
          unfold strSliceIndices sliceRange
          simp only [show (1 : Int) > 0 by decide, if_true, List.length_map, List.length_range]
          split <;> (try split) <;> (try split) <;> (try simp only [List.length_map, List.length_range, List.length_nil]) <;> omega
        split
        · rename_i h2
          simp only [Bool.and_eq_true, beq_iff_eq] at h2
          omega
        · show (List.filterMap _ (strSliceIndices _ _ 1 x.length)).toArray.size ≤ _
          rw [List.size_toArray]
          exact Nat.le_trans (List.length_filterMap_le _ _) hl
      rw [h] at h1
      omega
    · intro h
      exact absurd h.1 hb

theorem sub_nil (x : Str) (a : Nat) : strSub x a a = Str.ofString "" := by
  apply Str.ext'
  apply Array.toList_inj.mp
  rw [strSub_toList]
  simp
  rfl
theorem sub_len (x : Str) {a b : Nat} (hb : b ≤ x.length) : (strSub x a b).length = b - a := by
  rw [← len_cps, strSub_toList, List.length_take, List.length_drop, len_cps]
  omega
theorem sub_snoc (x : Str) {a k : Nat} (h : a ≤ k) (hk : k < x.length) : strSub x a k ++ Txt.item x (k : Int) = strSub x a (k + 1) := by
  have hk' : k < x.cps.size := hk
  have e : Txt.item x (k : Int) = ⟨#[x.cps[k]]⟩ := item_meets (by omega) (by simp [hk'])
  rw [e]
  apply Str.ext'
  apply Array.toList_inj.mp
  simp only [Str.cps_append, Array.toList_append, strSub_toList]
  have e2 : k + 1 - a = (k - a) + 1 := by omega
  rw [e2, List.take_add_one, List.getElem?_drop]
  have e3 : a + (k - a) = k := by omega
  rw [e3]
  simp [hk']

theorem cut_start {x y : Str} (hy : 1 ≤ y.length) (hyk : Builtin.Str.strKind y = Builtin.Str.strKind ⟨#[0]⟩) : CutInv x y [] (Str.ofString "") 0 := by
  obtain ⟨f, hG, hf⟩ := occ_tight x y hy
  refine ⟨by omega, by omega, by simp, by decide, 0, _, f, hG, hf, Nat.zero_le _, fun j h1 h2 => absurd h2 (Nat.not_lt_zero _), (sub_nil x 0).symm, ?_⟩
  rw [List.nil_append]
  unfold Txt.split
  have key : ∀ f, (∀ j, f ≤ j → ¬ At x y x.length j) → occurrences x y 0 x.length (x.length + 1) = [] → partsFrom x y.length 0 (occurrences x y 0 x.length (x.length + 1)) = [x] := by
    intro f _ h
    rw [h]
    show [strSub x 0 x.length] = [x]
    rw [sub_whole]
  split
  · rename_i hc
    rw [Bool.or_eq_true, decide_eq_true_eq, decide_eq_true_eq] at hc
    have hno : ∀ j, ¬ At x y x.length j := by
      intro j hj
      rcases hc with h | h
      · have := hj.1; omega
      · rw [hyk] at h
        have h0 : Builtin.Str.strKind ⟨#[0]⟩ ≤ Builtin.Str.strKind x := by
          unfold Builtin.Str.strKind
          split <;> split <;> (try split) <;> (try split) <;> simp_all
        omega
    refine key f hf ?_
    cases ho : occurrences x y 0 x.length (x.length + 1) with
    | nil => rfl
    | cons c r => rw [ho] at hG; exact absurd hG.2.1 (hno c)
  · split
    · rename_i he
      exact key f hf (List.isEmpty_iff.mp he)
    · rw [partsBetween_eq]

theorem cut_hit {x y : Str} {ps : List Str} {p : Str} {k : Int} (hy : 1 ≤ y.length) (h : CutInv x y ps p k)
    (hs : (Txt.slice x (some k) (some (k + y.length)) == y) = true) : CutInv x y (ps ++ [p]) (Str.ofString "") (k + y.length) := by
  obtain ⟨h0, h1, h2, h3, a, rest, f, hG, hf, ha, hno, hp, hsp⟩ := h
  obtain ⟨n, rfl⟩ := Int.eq_ofNat_of_zero_le h0
  simp only [Int.toNat_natCast] at ha hno hp
  have hA := (slice_at (by omega) hy).mp hs
  have hb := hA.1
  refine ⟨by omega, by omega, by rw [List.length_append, List.length_singleton]; omega, by show ((0 : Nat) : Int) ≤ _; omega, ?_⟩
  cases rest with
  | nil =>
    have : f = a := hG
    exact absurd hA (hf n (by omega))
  | cons c r =>
    have e : c = n := by
      have g1 := hG.1
      have g2 := hG.2.1
      have g3 := hG.2.2.1
      rcases Nat.lt_trichotomy c n with q | q | q
      · exact absurd g2 (hno c g1 q)
      · exact q
      · exact absurd hA (g3 n ha q)
    subst e
    have et : ((c : Int) + (y.length : Int)).toNat = c + y.length := by omega
    refine ⟨c + y.length, r, f, hG.2.2.2, hf, by rw [et]; exact Nat.le_refl _, ?_, ?_, ?_⟩
    · rw [et]; intro j q1 q2; omega
    · rw [et]; exact (sub_nil _ _).symm
    · rw [← hsp, hp]
      show _ = ps ++ (strSub x a c :: partsFrom x y.length (c + y.length) r)
      simp
theorem cut_miss {x y : Str} {ps : List Str} {p : Str} {k : Int} (hy : 1 ≤ y.length) (h : CutInv x y ps p k) (hk : k < x.length)
    (hs : (Txt.slice x (some k) (some (k + y.length)) == y) = false) : CutInv x y ps (p ++ Txt.item x k) (k + 1) := by
  obtain ⟨h0, h1, h2, h3, a, rest, f, hG, hf, ha, hno, hp, hsp⟩ := h
  obtain ⟨n, rfl⟩ := Int.eq_ofNat_of_zero_le h0
  simp only [Int.toNat_natCast] at ha hno hp
  have hA : ¬ At x y x.length n := fun q => by
    rw [(slice_at (by omega) hy).mpr q] at hs
    cases hs
  have et : ((n : Int) + 1).toNat = n + 1 := by omega
  have ep : p ++ Txt.item x (n : Int) = strSub x a (n + 1) := by rw [hp]; exact sub_snoc x ha (by omega)
  refine ⟨by omega, by omega, by omega, ?_, a, rest, f, hG, hf, by omega, ?_, ?_, hsp⟩
  · rw [ep, sub_len x (by omega)]; omega
  · rw [et]; intro j q1 q2
    by_cases q : j < n
    · exact hno j q1 q
    · have : j = n := by omega
      rw [this]; exact hA
  · rw [et]; exact ep
theorem cut_end {x y : Str} {ps : List Str} {p : Str} {k : Int} (hy : 1 ≤ y.length) (h : CutInv x y ps p k) (hk : ¬ k < x.length) : ps ++ [p] = Txt.split x y := by
  obtain ⟨h0, h1, h2, h3, a, rest, f, hG, hf, ha, hno, hp, hsp⟩ := h
  obtain ⟨n, rfl⟩ := Int.eq_ofNat_of_zero_le h0
  simp only [Int.toNat_natCast] at ha hno hp
  have hn : n = x.length := by omega
  subst hn
  cases rest with
  | nil => rw [← hsp, hp]; rfl
  | cons c r =>
    exfalso
    have q := hG.2.1
    exact hno c hG.1 (by have := q.1; omega) q
end Mine
end
theorem Mine.pause3 : True := by (w_top off); first | (walk1; done) | trivial
section
open PySem PySem.W PySem.Spec PySem.Calls PyProof.Rows
open Builtin Builtin.Str StrLaws
namespace Mine
def sp (x : Str) (j : Nat) : Bool := Unicode.isSpace (x.cps.getD j 0)
def blanksS : Str := Str.ofString " \t\n\r\x0c\xa0\u2003"
def alpha : List Nat := [97, 98, 69, 49, 44, 59, 32, 58, 9, 10, 160, 13, 12, 8195]
def Plain (x : Str) : Prop := ∀ c ∈ x.cps.toList, c ∈ alpha
theorem alpha_sp : ∀ c ∈ alpha, decide (c ∈ blanksS.cps.toList) = Unicode.isSpace c := by decide +kernel
theorem blank_eq {x : Str} (hp : Plain x) {k : Int} (h0 : 0 ≤ k) (h1 : k < x.length) :
    (occurrences blanksS (Txt.item x k) 0 blanksS.length 1).isEmpty = !sp x k.toNat := by
  have hk : k.toNat < x.cps.size := by show k.toNat < x.length; omega
  have e : Txt.item x k = ⟨#[x.cps[k.toNat]]⟩ := item_meets h0 (by simp [hk])
  have hm : x.cps[k.toNat] ∈ x.cps.toList := by simp
  have := found_one blanksS x.cps[k.toNat]
  rw [alpha_sp _ (hp _ hm)] at this
  rw [e]
  have e2 : sp x k.toNat = Unicode.isSpace x.cps[k.toNat] := by simp [sp, Array.getD, hk]
  rw [e2, ← this]
  simp
def TrimA (x : Str) (k : Int) : Prop := 0 ≤ k ∧ k ≤ x.length ∧ ∀ j, j < k.toNat → sp x j = true
def TrimB (x : Str) (f k : Int) : Prop := f ≤ k ∧ k ≤ x.length ∧ ∀ j, k.toNat ≤ j → j < x.length → sp x j = true
theorem trimA_next {x : Str} {k : Int} (h : TrimA x k) (h1 : k < x.length) (hs : sp x k.toNat = true) : TrimA x (k + 1) := by
  obtain ⟨a, b, c⟩ := h
  refine ⟨by omega, by omega, fun j hj => ?_⟩
  by_cases q : j < k.toNat
  · exact c j q
  · have : j = k.toNat := by omega
    rw [this]; exact hs
theorem trimB_next {x : Str} {f k : Int} (h0 : 0 ≤ f) (h : TrimB x f k) (h1 : f < k) (hs : sp x (k - 1).toNat = true) : TrimB x f (k - 1) := by
  obtain ⟨a, b, c⟩ := h
  refine ⟨by omega, by omega, fun j hj h2 => ?_⟩
  by_cases q : k.toNat ≤ j
  · exact c j q h2
  · have : j = (k - 1).toNat := by omega
    rw [this]; exact hs
theorem trim_end {x : Str} {f e : Int} (hA : TrimA x f) (hB : TrimB x f e) (hf : f = x.length ∨ sp x f.toNat = false) (he : e = f ∨ sp x (e - 1).toNat = false) : Txt.slice x (some f) (some e) = Txt.strip x := by
  obtain ⟨a0, a1, a2⟩ := hA
  obtain ⟨b0, b1, b2⟩ := hB
  obtain ⟨l0, l1, l2⟩ := lo_facts Unicode.isSpace x
  obtain ⟨m0, m1, m2, m3⟩ := hi_facts Unicode.isSpace x (stripLo Unicode.isSpace true x) l0
  have hs : Txt.strip x = strSub x (stripLo Unicode.isSpace true x) (stripHi Unicode.isSpace true x (stripLo Unicode.isSpace true x)) := by unfold Txt.strip; rw [PyProof.Rows.stripBy_eq]
  rw [hs]
  generalize stripLo Unicode.isSpace true x = lo at *
  generalize stripHi Unicode.isSpace true x lo = hi at *
  obtain ⟨n, rfl⟩ := Int.eq_ofNat_of_zero_le a0
  obtain ⟨k, rfl⟩ := Int.eq_ofNat_of_zero_le (show 0 ≤ e by omega)
  have ek : ((k : Int) - 1).toNat = k - 1 := by omega
  rw [ek] at he
  simp only [Int.toNat_natCast] at a2 b2 hf
  have e1 : n = lo := by
    rcases Nat.lt_trichotomy n lo with q | q | q
    · exfalso
      have := l1 n q
      rcases hf with h | h
      · omega
      · unfold sp at h; rw [this] at h; cases h
    · exact q
    · exfalso
      have := a2 lo q
      rcases l2 with h | h
      · omega
      · unfold sp at this; rw [this] at h; cases h
  subst e1
  have e2 : k = hi := by
    rcases Nat.lt_trichotomy k hi with q | q | q
    · exfalso
      have := b2 (hi - 1) (by omega) (by omega)
      rcases m3 with h | h
      · omega
      · unfold sp at this; rw [this] at h; cases h
    · exact q
    · exfalso
      have := m2 (k - 1) (by omega) (by omega)
      rcases he with h | h
      · omega
      · unfold sp at h; rw [this] at h; cases h
  subst e2
  have := sliceText_nat x (a := n) (b := k) (by omega) (by omega)
  refine Eq.trans this ?_
  apply Str.ext'
  apply Array.toList_inj.mp
  rw [strSub_toList]
end Mine
namespace Mine
open PySem PySem.W PySem.Spec PySem.Calls PyProof.Rows
open Builtin Builtin.Str StrLaws
theorem plain_sub {x : Str} (h : Plain x) (a b : Nat) : Plain (strSub x a b) := by
  intro c hc
  rw [strSub_toList] at hc
  exact h c (List.mem_of_mem_drop (List.mem_of_mem_take hc))
theorem plain_parts {x : Str} (h : Plain x) (w : Nat) : ∀ (cuts : List Nat) (a : Nat), ∀ z ∈ partsFrom x w a cuts, Plain z
  | [], a, z, hz => by rw [List.mem_singleton.mp hz]; exact plain_sub h _ _
  | c :: r, a, z, hz => by
    rcases List.mem_cons.mp hz with rfl | hz
    · exact plain_sub h _ _
    · exact plain_parts h w r _ z hz
theorem plain_split {x y z : Str} (h : Plain x) (hz : z ∈ Txt.split x y) : Plain z := by
  unfold Txt.split at hz
  split at hz
  · rw [List.mem_singleton.mp hz]; exact h
  · split at hz
    · rw [List.mem_singleton.mp hz]; exact h
    · rw [partsBetween_eq] at hz
      exact plain_parts h _ _ _ z hz
theorem split_few {x y : Str} (hy : 1 ≤ y.length) : (Txt.split x y).length ≤ x.length + 1 := by
  have := split_weight x y hy
  omega
end Mine
end
theorem Mine.pause4 : True := by (w_top off); first | (walk1; done) | trivial
section
open PySem PySem.W PySem.Spec PySem.Calls PyProof.Rows
open Builtin Builtin.Str StrLaws
namespace Mine
structure CutS where
  vs : List Value
  ss : List Str
  e : Nat
  piece : Str
  tp : Tok
  k : Int
  tk : Tok
local macro_rules | `(tactic| walk_at "exec While Compare cons nil") => `(tactic| refine stop_of ?_)
local macro_rules | `(tactic| k_all) => `(tactic| first | with_reducible assumption | exact ne_of_lts (by with_reducible assumption))
set_option maxRecDepth 100000 in
set_option maxHeartbeats 8000000 in
theorem cut_does {w : World} {p : Program} {loose : List Str} {mean : ExcName → Option Value} {mg mb : Str → Option Value} {x y : Str} {tx ty : Tok} {rest : Led}
    (hx : x.length ≤ 100) (hy0 : 1 ≤ y.length) (hy : y.length ≤ 2) (hyk : Builtin.Str.strKind y = Builtin.Str.strKind ⟨#[0]⟩) :
    Does w p loose mean mg mb 34 [.str x tx, .str y ty] rest 1
      (fun r news' => ∃ l vs e, r = .ref l ∧ news' = (l, listOf vs.toArray e) :: rest ∧ StrsAre vs (Txt.split x y) ∧ ∀ p ∈ rest, p.1 ≠ l) := by
  unfold Does
  k_fill
  intro dp un gd cn cs a ccd cl outer A₀ base h₀ L m s Q E B F X N T hk hd hu hret
  refine wpAny_call ?_
  k_dflt cell_enter
  k_steps
  refine stop_to ?_
  (rename Fr _ _ _ _ => lF'); (rename News _ _ _ ((_, _) :: _) => lN')
  with_unfolding_all refine' ksw_while (fun c : CutS => (_, W.listOf c.vs.toArray c.e) :: rest) (fun c => [(Str.ofString "piece", .str c.piece c.tp), (Str.ofString "k", .int c.k c.tk)]) (fun c => StrsAre c.vs c.ss) [] (fun c => CutInv x y c.ss c.piece c.k) (fun c => x.length - c.k.toNat) ⟨[], [], _, _, _, _, _⟩ lF' lN' ?hf ?hkk ?hp ?turn ?hE
  (case hf => exact StrsAre.nil)
  (case hkk => kst_all)
  (case hp => exact cut_start hy0 hyk)
  (case hE => with_unfolding_all passes_own)
  clear lF' lN'
  rintro ⟨vs, ss, e, piece, tp, k, tk⟩ u h tk' hS hC kFr kNews
  dsimp only [kstB] at hS hC kFr kNews
  simp only [List.contains_nil, Bool.false_eq_true, if_false] at kFr
  have c0 := hC.1
  have c1 := hC.2.1
  have c2 := hC.2.2.1
  have c3 := hC.2.2.2.1
  have c4 := hS.length
  try k_fold
  k_steps
  · rename News _ _ _ (_ :: _) => N9
    rename Fr _ _ _ _ => F9
    (try simp only [List.push_toArray] at N9)
    refine ksw_end ⟨vs ++ [.str piece tp], ss ++ [piece], _, _, _, _, _⟩ F9 N9 (fun _ h => h) (hS.append' (.cons _ _ .nil)) (by kst_all) (by ksw_same) (cut_hit hy0 hC (by assumption)) ?_
    show x.length - (k + ↑y.length).toNat < x.length - k.toNat
    omega
  · rename News _ _ _ (_ :: _) => N9
    rename Fr _ _ _ _ => F9
    refine ksw_end ⟨vs, ss, _, _, _, _, _⟩ F9 N9 (fun _ h => h) hS (by kst_all) (by ksw_same) (cut_miss hy0 hC (by assumption) (by assumption)) ?_
    show x.length - (k + 1).toNat < x.length - k.toNat
    omega
  · rename News _ _ _ ((_, W.listOf #[Value.str piece tp] 0) :: _) => N8
    rename News h₀ L _ _ => kN
    rename Fr h₀ L _ m => kF
    rename StrsAre vs ss => hS
    refine hret _ _ _ _ ⟨_, vs ++ [.str piece tp], 0, rfl, rfl, ?_, ?_⟩ kF (news_13 kN)
    · rw [← cut_end hy0 hC (by assumption)]
      exact hS.append' (.cons _ _ .nil)
    · intro p hp
      exact Nat.ne_of_lt (Heap.lt_size (N8 p (.tail _ (.tail _ hp))).1)
end Mine
end
theorem Mine.pause5 : True := by (w_top off); first | (walk1; done) | trivial
section
open PySem PySem.W PySem.Spec PySem.Calls PyProof.Rows
open Builtin Builtin.Str StrLaws
namespace Mine
structure IntS where
  k : Int
  tk : Tok
local macro_rules | `(tactic| walk_at "exec While BoolOp cons nil") => `(tactic| refine stop_of ?_)
set_option maxRecDepth 100000 in
set_option maxHeartbeats 8000000 in
theorem trim_does {w : World} {p : Program} {loose : List Str} {mean : ExcName → Option Value} {mg mb : Str → Option Value} {x : Str} {tx : Tok} {rest : Led}
    (hx : x.length ≤ 100) (hp : Plain x) :
    Does w p loose mean mg mb 41 [.str x tx] rest 1
      (fun r news' => ∃ t, r = .str (Txt.strip x) t ∧ news' = rest) := by
  unfold Does
  k_fill
  intro dp un gd cn cs a ccd cl outer A₀ base h₀ L m s Q E B F X N T hk hd hu hret
  refine wpAny_call ?_
  k_dflt cell_enter
  k_steps
  refine stop_to ?_
  (rename Fr _ _ _ _ => lF'); (rename News _ _ _ _ => lN')
  with_unfolding_all refine' ksw_while (fun _ : IntS => rest) (fun c => [(Str.ofString "first", .int c.k c.tk)]) (fun _ => True) [] (fun c => TrimA x c.k) (fun c => x.length - c.k.toNat) ⟨_, _⟩ lF' lN' ?hf ?hkk ?hp ?turn ?hE
  (case hf => trivial)
  (case hkk => kst_all)
  (case hp => exact ⟨by show (0 : Int) ≤ 0; omega, by show (0 : Int) ≤ _; omega, fun j h => absurd h (Nat.not_lt_zero _)⟩)
  (case hE => with_unfolding_all passes_own)
  clear lF' lN'
  rintro ⟨k, tk⟩ u h tk' hS hC kFr kNews
  dsimp only [kstB] at hS hC kFr kNews
  simp only [List.contains_nil, Bool.false_eq_true, if_false] at kFr
  have c0 := hC.1
  have c1 := hC.2.1
  have bl : ∀ i : Int, 0 ≤ i → i < x.length → (occurrences blanksS (Txt.item x i) 0 blanksS.length 1).isEmpty = !sp x i.toNat := fun i => blank_eq hp
  unfold blanksS at bl
  try k_fold
  k_steps
  rotate_left
  · rename News _ _ _ _ => N9
    rename Fr _ _ _ _ => F9
    rename List.isEmpty _ = false => hb
    rw [bl _ c0 (by assumption)] at hb
    refine ksw_end ⟨k + 1, _⟩ F9 N9 (fun _ h => h) trivial (by kst_all) (by ksw_same) (trimA_next hC (by assumption) (by simpa using hb)) ?_
    show x.length - (k + 1).toNat < x.length - k.toNat
    omega
  all_goals (first | (have hf : k = x.length ∨ sp x k.toNat = false := Or.inl (by omega)) | ((rename List.isEmpty _ = true => hb); rw [bl _ c0 (by assumption)] at hb; (have hf : k = x.length ∨ sp x k.toNat = false := Or.inr (by simpa using hb))))
  · refine stop_to ?_
    (rename Fr _ _ _ _ => lF'); (rename News _ _ _ _ => lN')
    with_unfolding_all refine' ksw_while (fun _ : IntS => rest) (fun c => [(Str.ofString "last", .int c.k c.tk)]) (fun _ => True) [] (fun c => TrimB x k c.k) (fun c => c.k.toNat) ⟨_, _⟩ lF' lN' ?hf2 ?hkk2 ?hp2 ?turn2 ?hE2
    (case hf2 => trivial)
    (case hkk2 => kst_all)
    (case hp2 => exact ⟨c1, by show (x.length : Int) ≤ _; omega, fun j h1 h2 => by have : x.length ≤ j := h1; omega⟩)
    (case hE2 => with_unfolding_all passes_own)
    clear lF' lN'
    rintro ⟨k2, tk2⟩ u2 h2 tk2' hS2 hC2 kFr2 kNews2
    dsimp only [kstB] at hS2 hC2 kFr2 kNews2
    simp only [List.contains_nil, Bool.false_eq_true, if_false] at kFr2
    have d0 := hC2.1
    have d1 := hC2.2.1
    try k_fold
    k_steps
    rename News h₀ L _ _ => kN
    rename Fr h₀ L _ m => kF
    have e := trim_end hC hC2 hf (.inl (by omega))
    exact hret _ _ _ _ ⟨_, by rw [e], rfl⟩ kF kN
  · refine stop_to ?_
    (rename Fr _ _ _ _ => lF'); (rename News _ _ _ _ => lN')
    with_unfolding_all refine' ksw_while (fun _ : IntS => rest) (fun c => [(Str.ofString "last", .int c.k c.tk)]) (fun _ => True) [] (fun c => TrimB x k c.k) (fun c => c.k.toNat) ⟨_, _⟩ lF' lN' ?hf3 ?hkk3 ?hp3 ?turn3 ?hE3
    (case hf3 => trivial)
    (case hkk3 => kst_all)
    (case hp3 => exact ⟨c1, by show (x.length : Int) ≤ _; omega, fun j h1 h2 => by have : x.length ≤ j := h1; omega⟩)
    (case hE3 => with_unfolding_all passes_own)
    clear lF' lN'
    rintro ⟨k2, tk2⟩ u2 h2 tk2' hS2 hC2 kFr2 kNews2
    dsimp only [kstB] at hS2 hC2 kFr2 kNews2
    simp only [List.contains_nil, Bool.false_eq_true, if_false] at kFr2
    have d0 := hC2.1
    have d1 := hC2.2.1
    try k_fold
    k_steps
    rotate_left
    · rename News _ _ _ _ => N9
      rename Fr _ _ _ _ => F9
      rename List.isEmpty _ = false => hb9
      rw [bl _ (by omega) (by omega)] at hb9
      refine ksw_end ⟨k2 - 1, _⟩ F9 N9 (fun _ h => h) trivial (by kst_all) (by ksw_same) (trimB_next c0 hC2 (by assumption) (by simpa using hb9)) ?_
      show (k2 - 1).toNat < k2.toNat
      omega
    · rename News h₀ L _ _ => kN
      rename Fr h₀ L _ m => kF
      have e := trim_end hC hC2 hf (.inl (by omega))
      exact hret _ _ _ _ ⟨_, by rw [e], rfl⟩ kF kN
    · rename News h₀ L _ _ => kN
      rename Fr h₀ L _ m => kF
      rename List.isEmpty _ = true => hb9
      rw [bl _ (by omega) (by omega)] at hb9
      have e := trim_end hC hC2 hf (.inr (by simpa using hb9))
      exact hret _ _ _ _ ⟨_, by rw [e], rfl⟩ kF kN
end Mine
end
theorem Mine.pause6 : True := by (w_top off); first | (walk1; done) | trivial
section
open PySem PySem.W PySem.Spec PySem.Calls PyProof.Rows
open Builtin Builtin.Str StrLaws
namespace Mine
local macro_rules | `(tactic| cell_enter) => `(tactic| (refine code_def (by k_asm) (by k_asm) (by k_asm) (by k_asm) (by k_asm) (by exact rfl) (by exact rfl) (by assumption) (by k_is) (by k_is) (by ktr_room) (by exact binds_K (by k_in) rfl (by k_is) rfl rfl rfl) (by exact locs rfl) ?_ (by exact rfl) (by exact rfl) (by exact rfl) (by decide); intro _ _ _ _ _ _ Bn _ _; (try dsimp only); (try k_lift Bn); (try k_fold)))
local macro_rules | `(tactic| walk_at "LeaveK") => `(tactic| refine stop_of ?_)
set_option maxRecDepth 100000 in
set_option maxHeartbeats 8000000 in
theorem parse_does {w : World} {p : Program} {loose : List Str} {mean : ExcName → Option Value} {mg mb : Str → Option Value} {x y : Str} {tx ty : Tok} {rest : Led}
    (hx0 : 1 ≤ x.length) (hx : x.length ≤ 100) (hy0 : 1 ≤ y.length) (hy : y.length ≤ 2) :
    Does w p loose mean mg mb 20 [.str x tx, .str y ty] rest 1
      (fun r news' => ∃ l vs e, r = .ref l ∧ news' = (l, listOf vs.toArray e) :: rest ∧ StrsAre vs (((Txt.split x y).map Txt.strip).filter (fun z => z.length != 0)) ∧ ∀ p ∈ rest, p.1 ≠ l) := by
  unfold Does
  k_fill
  intro dp un gd cn cs a ccd cl outer A₀ base h₀ L m s Q E B F X N T hk hd hu hret
  have hyy : (y.length == 0) = false := by rw [beq_eq_false_iff_ne]; omega
  refine wpAny_call ?_
  k_dflt cell_enter
  k_steps
  · refine stop_to ?_
    (with_reducible rename NewPlain _ _ _ _ => npX)
    (with_reducible rename CarriedAll _ _ => caX)
    rename List.map _ _ = Txt.split x y => eX
    obtain ⟨nX, NX⟩ := made_enters npX (by assumption) (by assumption) (by assumption)
    refine leaveK_ (by assumption) NX (fun kF kN => ?_)
    refine hret _ _ _ _ ⟨_, _, nX, rfl, rfl, ?_, ?_⟩ kF (news_12 kN)
    · rw [eX] at caX
      refine StrsAre.of_carried (Eq.mp (congrArg _ ?_) caX)
      rw [List.filter_map, List.map_map]
      congr 1
      apply List.filter_congr
      intro a _
      show (((Txt.strip a).length : Int) != 0) = ((Txt.strip a).length != 0)
      rw [Bool.eq_iff_iff, bne_iff_ne, bne_iff_ne]
      omega
    · exact fun p hp => npX.2 p (.tail _ hp)
  · exfalso; omega
set_option maxRecDepth 100000 in
set_option maxHeartbeats 8000000 in
theorem parse1_does {w : World} {p : Program} {loose : List Str} {mean : ExcName → Option Value} {mg mb : Str → Option Value} {x : Str} {tx : Tok} {rest : Led}
    (hx0 : 1 ≤ x.length) (hx : x.length ≤ 100) :
    Does w p loose mean mg mb 20 [.str x tx] rest 1
      (fun r news' => ∃ l vs e, r = .ref l ∧ news' = (l, listOf vs.toArray e) :: rest ∧ StrsAre vs (((Txt.split x (Str.ofString ",")).map Txt.strip).filter (fun z => z.length != 0)) ∧ ∀ p ∈ rest, p.1 ≠ l) := by
  unfold Does
  k_fill
  intro dp un gd cn cs a ccd cl outer A₀ base h₀ L m s Q E B F X N T hk hd hu hret
  have hyy : ((Str.ofString ",").length == 0) = false := by decide
  refine wpAny_call ?_
  k_dflt cell_enter
  k_steps
  · refine stop_to ?_
    (with_reducible rename NewPlain _ _ _ _ => npX)
    (with_reducible rename CarriedAll _ _ => caX)
    rename List.map _ _ = Txt.split x (Str.ofString ",") => eX
    obtain ⟨nX, NX⟩ := made_enters npX (by assumption) (by assumption) (by assumption)
    refine leaveK_ (by assumption) NX (fun kF kN => ?_)
    refine hret _ _ _ _ ⟨_, _, nX, rfl, rfl, ?_, ?_⟩ kF (news_12 kN)
    · rw [eX] at caX
      refine StrsAre.of_carried (Eq.mp (congrArg _ ?_) caX)
      rw [List.filter_map, List.map_map]
      congr 1
      apply List.filter_congr
      intro a _
      show (((Txt.strip a).length : Int) != 0) = ((Txt.strip a).length != 0)
      rw [Bool.eq_iff_iff, bne_iff_ne, bne_iff_ne]
      omega
    · exact fun p hp => npX.2 p (.tail _ hp)
  · exfalso; omega
set_option maxRecDepth 100000 in
set_option maxHeartbeats 8000000 in
theorem parsek_does {w : World} {p : Program} {loose : List Str} {mean : ExcName → Option Value} {mg mb : Str → Option Value} {x y : Str} {tx ty : Tok} {rest : Led}
    (hx0 : 1 ≤ x.length) (hx : x.length ≤ 100) (hy0 : 1 ≤ y.length) (hy : y.length ≤ 2) :
    DoesK w p loose mean mg mb 20 [.str x tx] [(Str.ofString "split_token", .str y ty)] rest 1
      (fun r news' => ∃ l vs e, r = .ref l ∧ news' = (l, listOf vs.toArray e) :: rest ∧ StrsAre vs (((Txt.split x y).map Txt.strip).filter (fun z => z.length != 0)) ∧ ∀ p ∈ rest, p.1 ≠ l) := by
  unfold DoesK
  k_fill
  intro dp un gd cn cs a ccd cl outer A₀ base h₀ L m s Q E B F X N T hk hd hu hret
  have hyy : (y.length == 0) = false := by rw [beq_eq_false_iff_ne]; omega
  refine wpAny_call ?_
  k_dflt cell_enter
  k_steps
  · refine stop_to ?_
    (with_reducible rename NewPlain _ _ _ _ => npX)
    (with_reducible rename CarriedAll _ _ => caX)
    rename List.map _ _ = Txt.split x y => eX
    obtain ⟨nX, NX⟩ := made_enters npX (by assumption) (by assumption) (by assumption)
    refine leaveK_ (by assumption) NX (fun kF kN => ?_)
    refine hret _ _ _ _ ⟨_, _, nX, rfl, rfl, ?_, ?_⟩ kF (news_12 kN)
    · rw [eX] at caX
      refine StrsAre.of_carried (Eq.mp (congrArg _ ?_) caX)
      rw [List.filter_map, List.map_map]
      congr 1
      apply List.filter_congr
      intro a _
      show (((Txt.strip a).length : Int) != 0) = ((Txt.strip a).length != 0)
      rw [Bool.eq_iff_iff, bne_iff_ne, bne_iff_ne]
      omega
    · exact fun p hp => npX.2 p (.tail _ hp)
  · exfalso; omega
end Mine
end
theorem Mine.pause7 : True := by (w_top off); first | (walk1; done) | trivial
section
open PySem PySem.W PySem.Spec PySem.Calls PyProof.Rows
namespace Mine
section
local macro_rules | `(tactic| cell_enter) => `(tactic| (refine code_def (by k_asm) (by k_asm) (by k_asm) (by k_asm) (by k_asm) (by exact rfl) (by exact rfl) (by assumption) (by k_is) (by k_is) (by ktr_room) (by exact binds_K (by k_in) rfl (by k_is) rfl rfl rfl) (by exact locs rfl) ?_ (by exact rfl) (by exact rfl) (by exact rfl) (by decide); intro _ _ _ _ _ _ Bn _ _; (try dsimp only); (try k_lift Bn); (try k_fold)))
set_option maxRecDepth 100000 in
set_option maxHeartbeats 8000000 in
theorem parse0_none {w : World} {p : Program} {loose : List Str} {mean : ExcName → Option Value} {mg mb : Str → Option Value} {rest : Led} :
    Does w p loose mean mg mb 20 [Value.none] (rest) 1 (fun r news' => r = Value.none ∧ news' = rest) := by
  unfold Does
  k_fill
  intro dp un gd cn cs a' ccd cl outer A₀ base h₀ L m s Q E B F X N T hk hd hu hret
  refine wpAny_call ?_
  k_dflt cell_enter
  k_steps
  rename News h₀ L _ _ => kN
  rename Fr h₀ L _ m => kF
  exact hret _ _ _ _ ⟨rfl, rfl⟩ kF kN
set_option maxRecDepth 100000 in
set_option maxHeartbeats 8000000 in
theorem parse0_str {w : World} {p : Program} {loose : List Str} {mean : ExcName → Option Value} {mg mb : Str → Option Value} {t : Tok} {rest : Led} :
    Does w p loose mean mg mb 20 [Value.str (Str.ofString "") t] (rest) 1 (fun r news' => r = Value.str (Str.ofString "") t ∧ news' = rest) := by
  unfold Does
  k_fill
  intro dp un gd cn cs a' ccd cl outer A₀ base h₀ L m s Q E B F X N T hk hd hu hret
  refine wpAny_call ?_
  k_dflt cell_enter
  k_steps
  rename News h₀ L _ _ => kN
  rename Fr h₀ L _ m => kF
  exact hret _ _ _ _ ⟨rfl, rfl⟩ kF kN
set_option maxRecDepth 100000 in
set_option maxHeartbeats 8000000 in
theorem parse0_int {w : World} {p : Program} {loose : List Str} {mean : ExcName → Option Value} {mg mb : Str → Option Value} {t : Tok} {rest : Led} :
    Does w p loose mean mg mb 20 [Value.int 0 t] (rest) 1 (fun r news' => r = Value.int 0 t ∧ news' = rest) := by
  unfold Does
  k_fill
  intro dp un gd cn cs a' ccd cl outer A₀ base h₀ L m s Q E B F X N T hk hd hu hret
  refine wpAny_call ?_
  k_dflt cell_enter
  k_steps
  rename News h₀ L _ _ => kN
  rename Fr h₀ L _ m => kF
  exact hret _ _ _ _ ⟨rfl, rfl⟩ kF kN
set_option maxRecDepth 100000 in
set_option maxHeartbeats 8000000 in
theorem parse0_bool {w : World} {p : Program} {loose : List Str} {mean : ExcName → Option Value} {mg mb : Str → Option Value} {rest : Led} :
    Does w p loose mean mg mb 20 [Value.bool false] (rest) 1 (fun r news' => r = Value.bool false ∧ news' = rest) := by
  unfold Does
  k_fill
  intro dp un gd cn cs a' ccd cl outer A₀ base h₀ L m s Q E B F X N T hk hd hu hret
  refine wpAny_call ?_
  k_dflt cell_enter
  k_steps
  rename News h₀ L _ _ => kN
  rename Fr h₀ L _ m => kF
  exact hret _ _ _ _ ⟨rfl, rfl⟩ kF kN
set_option maxRecDepth 100000 in
set_option maxHeartbeats 8000000 in
theorem parse0_list {w : World} {p : Program} {loose : List Str} {mean : ExcName → Option Value} {mg mb : Str → Option Value} {a : Addr} {e : Nat} {rest : Led} :
    Does w p loose mean mg mb 20 [Value.ref a] ((a, listOf #[] e) :: rest) 1 (fun r news' => r = Value.ref a ∧ news' = (a, listOf #[] e) :: rest) := by
  unfold Does
  k_fill
  intro dp un gd cn cs a' ccd cl outer A₀ base h₀ L m s Q E B F X N T hk hd hu hret
  refine wpAny_call ?_
  k_dflt cell_enter
  k_steps
  rename News h₀ L _ _ => kN
  rename Fr h₀ L _ m => kF
  exact hret _ _ _ _ ⟨rfl, rfl⟩ kF kN
set_option maxRecDepth 100000 in
set_option maxHeartbeats 8000000 in
theorem parse0_tup {w : World} {p : Program} {loose : List Str} {mean : ExcName → Option Value} {mg mb : Str → Option Value} {a : Addr} {rest : Led} :
    Does w p loose mean mg mb 20 [Value.ref a] ((a, ({ cls := .type "tuple", data := .seq #[] } : Obj)) :: rest) 1 (fun r news' => r = Value.ref a ∧ news' = (a, ({ cls := .type "tuple", data := .seq #[] } : Obj)) :: rest) := by
  unfold Does
  k_fill
  intro dp un gd cn cs a' ccd cl outer A₀ base h₀ L m s Q E B F X N T hk hd hu hret
  refine wpAny_call ?_
  k_dflt cell_enter
  k_steps
  rename News h₀ L _ _ => kN
  rename Fr h₀ L _ m => kF
  exact hret _ _ _ _ ⟨rfl, rfl⟩ kF kN
end
end Mine
end
theorem Mine.pause8 : True := by (w_top off); first | (walk1; done) | trivial
section
open PySem PySem.W PySem.Spec PySem.Calls PyProof.Rows
open Builtin Builtin.Str StrLaws
namespace Mine
theorem use_does {w : World} {p : Program} {loose : List Str} {mean : ExcName → Option Value} {mg mb : Str → Option Value} {f : Addr} {vs : List Value} {news : Led} {d : Nat} {Ret : Value → Led → Prop}
    {dp un : Nat} {gd : Option (List Code)} {cn : Str} {cs : Scope} {a : Addr} {ccd : Value} {cl : List (Str × Addr)} {outer : List Env} {A₀ : Around} {base h₀ : Heap} {L : Addr} {m : Str → Option Value} {s : Shared} {Q E : Value → Shared → Prop}
    (B : Below A₀ base outer h₀) (F : Fr h₀ L s.heap m) (X : (hd.heap_39 w.params).In h₀) (N : News h₀ L s.heap news) (T : Top p loose mean mg mb h₀) (D : Does w p loose mean mg mb f vs news d Ret) (hk : cs.kind = .function) (hd : dp + d < recursionLimit) (hu : un + 8 * d < cLine)
    (h : ∀ r news' h' tk', Ret r news' → Fr h₀ L h' m → News h₀ L h' news' → Q r { s with heap := h', toks := tk' }) :
    wpAny (model Challenge.rw_et5020_01.row.prog w) (ktrTop dp un gd cn cs L a ccd cl outer) (call (.ref f) vs) Q E s := D _ _ _ _ _ _ _ _ _ _ _ _ _ _ _ _ _ B F X N T hk hd hu h
section
variable {prog : Program} {w : World} {A : Around} {h₀ : Heap} {L : Addr} {m : Str → Option Value} {env : Env} {elt : Expr} {x : Str} {scope : Scope} {cl : List (Str × Addr)} {s : Shared} {S : List (Addr × Obj) → Prop} {Fin : List Value → List (Addr × Obj) → Prop} {news : List (Addr × Obj)}
theorem strs_snoc {y : Str} {t : Tok} {vs : List Value} {ys : List Str} (h : StrsAre vs ys) : StrsAre (vs ++ [.str y t]) (ys ++ [y]) := h.append' (.cons _ _ .nil)
theorem strs_rest {vs : List Value} {ss : List Str} (hS : StrsAre vs ss) (g : Str → Str)
    (turn : ∀ z t I oI C oC D m₂ ys h tk (E' : Value → Shared → Prop), z ∈ ss → LCg.NsObj oC m₂ → m₂ x = some (.str z t) → Fr h₀ L h m → News h₀ L h ((I, oI) :: (C, oC) :: (D, LCg.lst ys) :: news) → LCg.Off3 I C D news → ((@Ne Nat I C) ∧ (@Ne Nat I D) ∧ (@Ne Nat C D)) →
      wpAny (model prog w) A (eval elt (compEnvC scope cl C env)) (LCg.CompEnd h₀ L m { s with heap := h, toks := tk } I oI C oC D (LCg.lst ys) S (fun y news' => KCtEl news (g z) y news')) E' { s with heap := h, toks := tk })
    (fin : ∀ ys, StrsAre ys (ss.map g) → Fin ys news) : LCg.CompRest prog w A h₀ L m env elt x scope cl s S (fun i v => vs.toArray[i]? = some v) Fin vs.toArray.size 0 [] news := by
  -- by what is still to come: the texts done stand in front
  have go : ∀ (post fore : List Str) (ys : List Value), ss = fore ++ post → StrsAre ys (fore.map g) →
      LCg.CompRest prog w A h₀ L m env elt x scope cl s S (fun i v => vs.toArray[i]? = some v) Fin post.length fore.length ys news := by
    intro post
    induction post with
    | nil =>
      intro fore ys e hy
      rw [List.append_nil] at e
      exact LCg.CompRest.zero (fin ys (e ▸ hy))
    | cons z rest ih =>
      intro fore ys e hy
      refine LCg.CompRest.succ fun v I oI C oC D m₂ h tk E' hv hC hx F N off ne => ?_
      have hz : ss[fore.length]? = some z := by rw [e]; simp
      obtain ⟨z', t, rfl, hz'⟩ := hS.item fore.length v (by simpa using hv)
      have ez : z' = z := Option.some.inj (hz'.symm.trans hz)
      subst ez
      refine wpAny_mono (turn z' t I oI C oC D m₂ ys h tk E' (List.mem_of_getElem? hz) hC hx F N off ne) (fun y s₂ hq => ?_) fun _ _ q => q
      obtain ⟨h', tk', nw, e', F', N', off', hS', hnw, t', rfl⟩ := hq
      rw [hnw] at N' off' hS'
      have next := ih (fore ++ [z']) (ys ++ [.str (g z') t']) (by rw [e]; simp) (by rw [List.map_append]; exact strs_snoc hy)
      rw [List.length_append, List.length_singleton] at next
      exact ⟨h', tk', news, e', F', N', off', hS', next⟩
  have all := go ss [] [] rfl .nil
  rw [← hS.length, ← List.size_toArray] at all
  exact all
end
end Mine
end
theorem Mine.pause9 : True := by (w_top off); first | (walk1; done) | trivial
section
open PySem PySem.W PySem.Spec PySem.Calls PyProof.Rows
open Builtin Builtin.Str StrLaws
namespace Mine
local macro_rules | `(tactic| walk_at "exec Assign cons ListComp") => `(tactic| refine stop_of ?_)
local macro_rules | `(tactic| walk_at "LeaveK") => `(tactic| refine stop_of ?_)
local macro_rules | `(tactic| walk_at "CompSrc") => `(tactic| refine stop_of ?_)
local macro_rules | `(tactic| walk_at "call ref") => `(tactic| refine stop_of ?_)
set_option maxRecDepth 100000 in
set_option maxHeartbeats 8000000 in
theorem due_does {w : World} {p : Program} {loose : List Str} {mean : ExcName → Option Value} {mg mb : Str → Option Value} {x y : Str} {tx ty : Tok} {rest : Led}
    (hx : x.length ≤ 100) (hp : Plain x) (hy0 : 1 ≤ y.length) (hy : y.length ≤ 2) (hyk : Builtin.Str.strKind y = Builtin.Str.strKind ⟨#[0]⟩) :
    Does w p loose mean mg mb 46 [.str x tx, .str y ty] rest 2
      (fun r news' => ∃ l vs e, r = .ref l ∧ news' = (l, listOf vs.toArray e) :: rest ∧ StrsAre vs (((Txt.split x y).map Txt.strip).filter (fun z => z.length != 0)) ∧ ∀ p ∈ rest, p.1 ≠ l) := by
  unfold Does
  k_fill
  intro dp un gd cn cs a ccd cl outer A₀ base h₀ L m s Q E B F X N T hk hd hu hret
  refine wpAny_call ?_
  k_dflt cell_enter
  k_steps
  refine stop_to ?_
  k_dflt (refine LCg.Assign_ListComp_U (F₀ := by k_asm) (by rfl) (by with_unfolding_all rfl) (by with_unfolding_all rfl) (by decide) (by rfl) (by decide) (by rfl) (by rfl) (by rfl) ?_)
  try k_fold
  k_steps
  refine stop_to ?_
  k_dflt (refine' use_does ?q1 ?q2 ?q3 ?q4 ?q5 (cut_does hx hy0 hy hyk) ?q6 ?q7 ?q8 ?q9)
  (case q1 => k_asm)
  (case q2 => k_asm)
  (case q3 => k_asm)
  (case q4 => k_asm)
  (case q5 => k_asm)
  (case q6 => exact rfl)
  (case q7 => ktr_room)
  (case q8 => ktr_units)
  rintro r news' h1 tk1 ⟨l, vs, e, rfl, rfl, hS, hne⟩ F1 N1
  (try dsimp only)
  (try k_fold)
  k_steps
  refine stop_to ?_
  have hfew := split_few (x := x) hy0
  have hlen := hS.length
  refine LCg.CompSrc.ledger rfl F1 N1 (.head _) (by rw [List.size_toArray, sizeLine_eq]; omega) ?_
  intro g2
  refine strs_rest hS Txt.strip ?_ ?_
  · intro z t I oI C oC D m2 ys h2 tk2 E' hz hC hx2 F2 N2 off ne
    have hz1 := part_short hz
    have hz2 := plain_split hp hz
    try k_fold
    k_steps
    refine stop_to ?_
    k_dflt (refine' use_does ?u1 ?u2 ?u3 ?u4 ?u5 (trim_does (by omega) hz2) ?u6 ?u7 ?u8 ?u9)
    (case u1 => k_asm)
    (case u2 => k_asm)
    (case u3 => k_asm)
    (case u4 => k_asm)
    (case u5 => k_asm)
    (case u6 => exact rfl)
    (case u7 => ktr_room)
    (case u8 => ktr_units)
    rintro r news' h3 tk3 ⟨t3, rfl, rfl⟩ F3 N3
    k_unfold
    exact LCg.CompEnd.intro F3 N3 _ (fun _ h => h) off (.inr ⟨_, .head _, rfl, _, rfl⟩) ⟨rfl, t3, rfl⟩
  · intro ys hys D h2 tk2 F2 N2 off
    try k_fold
    k_steps
    refine stop_to ?_
    (with_reducible rename NewPlain _ _ _ _ => npX)
    (with_reducible rename CarriedAll _ _ => caX)
    obtain ⟨nX, NX⟩ := made_enters npX (by assumption) (by assumption) (by assumption)
    refine leaveK_ (by assumption) NX (fun kF kN => ?_)
    refine hret _ _ _ _ ⟨_, _, nX, rfl, rfl, ?_, ?_⟩ kF (news_13 kN)
    · refine StrsAre.of_carried (Eq.mp (congrArg _ ?_) caX)
      congr 1
      apply List.filter_congr
      intro a _
      rw [Bool.eq_iff_iff, bne_iff_ne, bne_iff_ne]
      constructor
      · intro h e
        exact h (Str.ext' (Array.eq_empty_of_size_eq_zero e))
      · intro h e
        exact h (by rw [e]; rfl)
    · exact fun p hp => npX.2 p (.tail _ (.tail _ hp))
end Mine
end
theorem Mine.pause10 : True := by (w_top off); first | (walk1; done) | trivial
section
open PySem PySem.W PySem.Spec PySem.Calls PyProof.Rows
namespace Mine
theorem isNot_str_same {M : Model} {A : Around} {E : Value → Shared → Prop} {s : Shared} {Q : Value → Shared → Prop} {x : Str} {t : Tok} (ht : 0 < t) (h : Q (.bool false) s) : wpAny M A (compareOp .IsNot (.str x t) (.str x t)) Q E s := by
  show wpAny M A (do return .bool (!(← isSame (.str x t) (.str x t)))) Q E s
  refine wpAny_bind ?_
  show wpAny M A (isSame.created (x == x) t t) _ E s
  unfold isSame.created
  have h0 : (t == 0) = false := by rw [beq_eq_false_iff_ne]; exact Nat.ne_of_gt ht
  simp only [h0, Bool.or_false, Bool.false_eq_true, if_false, beq_self_eq_true, if_true]
  exact wpAny_pure (wpAny_pure h)
theorem isNot_zero_same {M : Model} {A : Around} {E : Value → Shared → Prop} {s : Shared} {Q : Value → Shared → Prop} {t : Tok} (h : Q (.bool false) s) : wpAny M A (compareOp .IsNot (.int 0 (t + 1)) (.int 0 (t + 1))) Q E s := by
  show wpAny M A (do return .bool (!(← isSame (.int 0 (t + 1)) (.int 0 (t + 1))))) Q E s
  refine wpAny_bind ?_
  show wpAny M A (isSame.cachedInt (t + 1) (t + 1)) _ E s
  unfold isSame.cachedInt
  have h0 : ((t + 1) == 0) = false := by rw [beq_eq_false_iff_ne]; exact Nat.succ_ne_zero _
  simp only [h0, Bool.or_false, Bool.false_eq_true, if_false]
  exact wpAny_bind (wpAny_rule (wpAny_pure (wpAny_pure h)))
theorem execs_gen {M : Model} {A : Around} {ss : List Stmt} {env : Env} {Q : Flow → Shared → Prop} {E : Value → Shared → Prop} {h : Heap} {g} {d} {t : Nat} {o} (h0 : 0 < t) (k : ∀ tk, 0 < tk → wpAny M A (execs ss env) Q E ⟨h, g, d, tk, o⟩) : wpAny M A (execs ss env) Q E ⟨h, g, d, t, o⟩ := k t h0
end Mine
end
theorem Mine.pause11 : True := by (w_top off); first | (walk1; done) | trivial
section
open PySem PySem.W PySem.Spec PySem.Calls PyProof.Rows
open Builtin Builtin.Str StrLaws
namespace Mine
structure TS where
  i : Int
  ti : Nat
  n : Int
  tn : Nat
  text : Str
  tt : Tok
section
variable {prog : Program} {w : World} {A : Around} {E : Value → Shared → Prop} {s : Shared} {env : Env} {h₀ : Heap} {x : Str} {body : List Stmt} {Q : Flow → Shared → Prop}
theorem text_loop {r st sl : Addr} {R : Led} {b₀ : Int} {t₀ u₀ v₀ : Tok} {n : Nat} {m₀ : Str → Option Value} (P : List Int → TS → Prop) (c₀ : TS)
    (hh : A.handled = none) (hr : IsRange s.heap r 0 b₀ 1 t₀ u₀ v₀) (hsmall : Builtin.Range.small 0 b₀ 1 = true) (hn : Builtin.Range.rangeSize 0 b₀ 1 = (n : Int)) (F : Fr h₀ env.locals s.heap m₀)
    (N : News h₀ env.locals s.heap ((st, listOf #[.ref sl, .int c₀.i c₀.ti, .int c₀.n c₀.tn] 0) :: R)) (hk : m₀ (Str.ofString "text") = some (.str c₀.text c₀.tt)) (hp : P [] c₀)
    (turn : ∀ (c : TS) (pre : List Int) (k : Int) t (u : Str → Option Value) h tk own, pre.length < n → OwnOff own (st :: R.map (·.1)) → P pre c →
      Fr h₀ env.locals h (fun y => if y = x then some (.int k t) else if y = Str.ofString "text" then some (.str c.text c.tt) else m₀ y) → News h₀ env.locals h ((st, listOf #[.ref sl, .int c.i c.ti, .int c.n c.tn] 0) :: (R ++ own)) →
      wpAny (model prog w) A (execs body env) (InvPostN h₀ env.locals (KstS (fun c : TS => (st, listOf #[.ref sl, .int c.i c.ti, .int c.n c.tn] 0) :: R) (fun c => [(Str.ofString "text", .str c.text c.tt)]) (fun _ => True) x [] m₀ P (pre ++ [k])) own (st :: R.map (·.1)) { s with heap := h, toks := tk } Q) E { s with heap := h, toks := tk })
    (done : ∀ (c : TS) (u : Str → Option Value) h tk, P (rangeKs 0 n) c → Fr h₀ env.locals h (fun y => if y = x then u y else if y = Str.ofString "text" then some (.str c.text c.tt) else m₀ y) → News h₀ env.locals h ((st, listOf #[.ref sl, .int c.i c.ti, .int c.n c.tn] 0) :: R) → Q .next { s with heap := h, toks := tk }) :
    wpAny (model prog w) A (pyIter (.ref r)) (fun it s₂ => LoopAtV prog w A h₀ env x body Q E it s₂) E s := by
  refine kst_range (fun c : TS => (st, listOf #[.ref sl, .int c.i c.ti, .int c.n c.tn] 0) :: R) (fun c => [(Str.ofString "text", .str c.text c.tt)]) (fun _ => True) [] P c₀ hh hr hsmall hn F N trivial ?_ hp ?_ ?_
  · intro p hp
    rw [List.mem_singleton.mp hp]; exact hk
  · intro c pre k t u h tk own _ hlt hoff _ hP F1 N1
    dsimp only [kstB] at F1
    simp only [List.contains_nil, Bool.false_eq_true, if_false] at F1
    exact turn c pre k t u h tk own hlt hoff hP F1 N1
  · intro c u h tk _ hP F1 N1
    dsimp only [kstB] at F1
    simp only [List.contains_nil, Bool.false_eq_true, if_false] at F1
    exact done c u h tk hP F1 N1
/-- an item of a list of texts at a bounded place -/
theorem pick_str {L a : Addr} {news : Led} {vs : List Value} {ys : List Str} {e : Nat} {k : Int} {u : Tok} {value slice : PySem.Expr} {Q : Value → Shared → Prop}
    (N : News h₀ L s.heap news) (hm : (a, listOf vs.toArray e) ∈ news) (hS : StrsAre vs ys) (h0 : 0 ≤ k) (h1 : k < ys.length) (hl : ys.length ≤ 100) (h : ∀ y t, y ∈ ys → Q (.str y t) s)
    (hs : subscripted slice false (.ref a) (.int k u) = operate [.ref a, .int k u] (getItem (.ref a) (.int k u)) := by with_unfolding_all rfl) (hg : ∀ r, letTemporaryGo value (.ref a) r = pure () := by intro _; with_unfolding_all rfl) :
    wpAny (model prog w) A (subscriptTail value slice (.ref a) (.int k u)) Q E s := by
  have hlt : k.toNat < ys.length := by omega
  refine item_strsA (News.isList N hm) hS h0 h1 (by omega) (fun t => h _ t ?_) hs hg
  rw [List.getD_eq_getElem?_getD, List.getElem?_eq_getElem hlt]
  exact List.getElem_mem hlt
end
end Mine
end
theorem Mine.pause12 : True := by (w_top off); first | (walk1; done) | trivial
section
open PySem PySem.W PySem.Spec PySem.Calls PyProof.Rows
open Builtin Builtin.Str StrLaws
namespace Mine
theorem end_sub2 {A B tl own : Led} {a b : Addr × Obj} : ∀ p ∈ A ++ (B ++ ([a, b] ++ tl)), p ∈ a :: b :: (A ++ (B ++ (tl ++ own))) := fun p hp => by
  simp only [List.mem_cons, List.mem_append, List.not_mem_nil, or_false] at hp ⊢
  rcases hp with h | h | h | h
  · simp [h]
  · simp [h]
  · rcases h with h | h <;> simp [h]
  · simp [h]
theorem end_own2 {A B tl own : Led} {a b : Addr × Obj} : ∀ p ∈ own, p ∈ a :: b :: (A ++ (B ++ (tl ++ own))) := fun p hp => by
  simp only [List.mem_cons, List.mem_append]
  simp [hp]
theorem off_adr {A B T : Led} {l : Addr} (h : ∀ p ∈ A ++ (B ++ T), p.1 ≠ l) : ∀ b ∈ (A ++ B).map (·.1), b ≠ l := fun b hb => by
  obtain ⟨q, hq, rfl⟩ := List.mem_map.mp hb
  refine h q ?_
  rw [← List.append_assoc]
  exact List.mem_append.mpr (.inl hq)
theorem off_own {A B tl own : Led} {l : Addr} (h : ∀ p ∈ A ++ (B ++ (tl ++ own)), p.1 ≠ l) : ∀ p ∈ own, p.1 ≠ l := fun p hp => h p (by
  simp only [List.mem_append]
  simp [hp])
theorem off_tail {l : Led} {a : Addr × Obj} {x : Addr} (h : ∀ p ∈ a :: l, p.1 ≠ x) : ∀ p ∈ l, p.1 ≠ x := fun p hp => h p (.tail _ hp)
theorem two_all {P : Addr × Obj → Prop} {a b : Addr × Obj} (ha : P a) (hb : P b) : ∀ q ∈ [a, b], P q := fun q hq => by
  rcases List.mem_cons.mp hq with rfl | hq
  · exact ha
  · rw [List.mem_singleton.mp hq]; exact hb
theorem datAll_strs {l : Led} : ∀ {vs : List Value} {zs : List Str}, StrsAre vs zs → DatAll l vs (zs.map Dat.str)
  | _, _, .nil => .nil
  | _, _, .cons y t r => .cons (.str y t) (datAll_strs r)
theorem dat_snoc {cst tl : Led} {a b : Addr × Obj} {l : Addr} {tv vs : List Value} {ds : List Dat} {zs : List Str} {e : Nat} (hf : DatAll (cst ++ tl) tv ds) (hS : StrsAre vs zs) (hm : (l, listOf vs.toArray e) ∈ [a, b]) :
    DatAll (cst ++ ([a, b] ++ tl)) (tv ++ [.ref l]) (ds ++ [Dat.list (zs.map Dat.str)]) :=
  (hf.mono kd_sub).append (.one (.list (kd_new hm) (datAll_strs hS)))
theorem plain_strip {x : Str} (h : Plain x) : Plain (Txt.strip x) := by
  unfold Txt.strip
  rw [PyProof.Rows.stripBy_eq]
  exact plain_sub h _ _
theorem plain_ok {x : Str} (h : Plain x) : PyData.strOk x = true := by
  unfold PyData.strOk
  rw [← Array.all_toList]
  refine List.all_eq_true.mpr fun c hc => decide_eq_true ?_
  have := (by decide : ∀ c ∈ alpha, c < 0x110000)
  exact this c (h c hc)
theorem list_ok {x y : Str} (h : Plain x) : kqdOk 8 (Dat.list ((((Txt.split x y).map Txt.strip).filter (fun z => z.length != 0)).map Dat.str)) = true := by
  simp only [kqdOk]
  refine List.all_eq_true.mpr fun d hd => ?_
  obtain ⟨z, hz, rfl⟩ := List.mem_map.mp hd
  obtain ⟨v, hv, rfl⟩ := List.mem_map.mp (List.mem_filter.mp hz).1
  simp only [kqdOk]
  exact plain_ok (plain_strip (plain_split h hv))
theorem all_snoc {ds : List Dat} {d : Dat} (h : ∀ d ∈ ds, kqdOk 8 d = true) (hd : kqdOk 8 d = true) : ∀ e ∈ ds ++ [d], kqdOk 8 e = true := fun e he => by
  rcases List.mem_append.mp he with q | q
  · exact h e q
  · rw [List.mem_singleton.mp q]; exact hd
theorem use_doesK {w : World} {p : Program} {loose : List Str} {mean : ExcName → Option Value} {mg mb : Str → Option Value} {f : Addr} {vs : List Value} {kw : List (Str × Value)} {news : Led} {d : Nat} {Ret : Value → Led → Prop}
    {dp un : Nat} {gd : Option (List Code)} {cn : Str} {cs : Scope} {a : Addr} {ccd : Value} {cl : List (Str × Addr)} {outer : List Env} {A₀ : Around} {base h₀ : Heap} {L : Addr} {m : Str → Option Value} {s : Shared} {Q E : Value → Shared → Prop}
    (B : Below A₀ base outer h₀) (F : Fr h₀ L s.heap m) (X : (hd.heap_39 w.params).In h₀) (N : News h₀ L s.heap news) (T : Top p loose mean mg mb h₀) (D : DoesK w p loose mean mg mb f vs kw news d Ret) (hk : cs.kind = .function) (hd : dp + d < recursionLimit) (hu : un + 8 * d < cLine)
    (h : ∀ r news' h' tk', Ret r news' → Fr h₀ L h' m → News h₀ L h' news' → Q r { s with heap := h', toks := tk' }) :
    wpAny (model Challenge.rw_et5020_01.row.prog w) (ktrTop dp un gd cn cs L a ccd cl outer) (call (.ref f) vs kw) Q E s := D _ _ _ _ _ _ _ _ _ _ _ _ _ _ _ _ _ B F X N T hk hd hu h
theorem nonempty_len {x : Str} (h : (x == Str.ofString "") = false) : 1 ≤ x.length := by
  rcases Nat.eq_zero_or_pos x.length with q | q
  · exfalso
    rw [beq_eq_false_iff_ne] at h
    exact h (Str.ext' (Array.eq_empty_of_size_eq_zero q))
  · exact q
end Mine
end
theorem Mine.pause13 : True := by (w_top off); first | (walk1; done) | trivial
section
open PySem PySem.W PySem.Spec PySem.Calls PyProof.Rows
open Builtin Builtin.Str StrLaws
namespace Mine
theorem news_front {h₀ h : Heap} {L : Addr} {a1 a2 a3 a4 a5 a6 a7 x y : Addr × Obj} (N : News h₀ L h [a1, a2, a3, a4, a5, a6, a7, x, y]) : News h₀ L h (x :: y :: [a1, a2, a3, a4, a5, a6, a7]) := fun p hp => N p (by
  simp only [List.mem_cons, List.not_mem_nil, or_false] at hp ⊢
  rcases hp with h | h | h | h | h | h | h | h | h <;> simp [h])
theorem news_move {h₀ h : Heap} {L : Addr} {a1 a2 a3 a4 : Addr × Obj} {r : Led} (N : News h₀ L h (a1 :: a2 :: a3 :: a4 :: r)) : News h₀ L h (a1 :: a2 :: a4 :: a3 :: r) := fun p hp => N p (by
  simp only [List.mem_cons] at hp ⊢
  rcases hp with h | h | h | h | h <;> simp [h])
def signL : List Str := [Str.ofString "a", Str.ofString "b", Str.ofString "E", Str.ofString "1", Str.ofString ",", Str.ofString ",", Str.ofString ",", Str.ofString ";", Str.ofString " ", Str.ofString ":", Str.ofString "\t", Str.ofString "\n", Str.ofString "\xa0", Str.ofString "\r", Str.ofString "\x0c", Str.ofString "\u2003"]
def tokL : List Str := [Str.ofString ";", Str.ofString ":", Str.ofString "::", Str.ofString " ", Str.ofString "ab", Str.ofString ",;"]
theorem sign_ok : ∀ y ∈ signL, y.length = 1 ∧ ∀ c ∈ y.cps.toList, c ∈ alpha := by decide +kernel
theorem tok_ok : ∀ y ∈ tokL, (1 ≤ y.length ∧ y.length ≤ 2) ∧ Builtin.Str.strKind y = Builtin.Str.strKind ⟨#[0]⟩ := by decide +kernel
theorem plain_app {x y : Str} (hx : Plain x) (hy : Plain y) : Plain (x ++ y) := fun c hc => by
  rw [Str.cps_append, Array.toList_append] at hc
  exact (List.mem_append.mp hc).elim (hx c) (hy c)
theorem plain_nil : Plain (Str.ofString "") := by unfold Plain; decide
theorem abs_news {h₀ h : Heap} {L : Addr} {a1 a2 a3 a4 a5 a6 a7 : Addr × Obj} {tt sg : Addr} {tv sv : List Value} {u v : Nat} (N : News h₀ L h [a1, a2, a3, a4, a5, a6, a7, (tt, listOf tv.toArray u), (sg, listOf sv.toArray v)]) (h1 : StrsAre tv tokL) (h2 : StrsAre sv signL) :
    ∃ tv sv : List Value, News h₀ L h [a1, a2, a3, a4, a5, a6, a7, (tt, listOf tv.toArray u), (sg, listOf sv.toArray v)] ∧ StrsAre tv tokL ∧ StrsAre sv signL := ⟨tv, sv, N, h1, h2⟩
theorem news_dup {h₀ h : Heap} {L : Addr} {l : Led} (a : Addr × Obj) (N : News h₀ L h l) (hm : a ∈ l) : News h₀ L h (a :: l) := fun p hp => by
  rcases List.mem_cons.mp hp with rfl | hp
  · exact N _ hm
  · exact N p hp
theorem news_tl {h₀ h : Heap} {L : Addr} {l : Led} {a : Addr × Obj} (N : News h₀ L h (a :: l)) : News h₀ L h l := fun p hp => N p (.tail _ hp)
theorem text_sub {A B own : Led} : ∀ p ∈ A ++ B, p ∈ A ++ (B ++ own) := fun p hp => by
  simp only [List.mem_append] at hp ⊢
  rcases hp with h | h <;> simp [h]
theorem text_own {A B own : Led} : ∀ p ∈ own, p ∈ A ++ (B ++ own) := fun p hp => by
  simp only [List.mem_append]
  simp [hp]
theorem end_sub {A B tl own : Led} : ∀ p ∈ A ++ (B ++ ([] ++ tl)), p ∈ A ++ (B ++ (tl ++ own)) := fun p hp => by
  simp only [List.nil_append, List.mem_append] at hp ⊢
  rcases hp with h | h | h <;> simp [h]
theorem end_own {A B tl own : Led} : ∀ p ∈ own, p ∈ A ++ (B ++ (tl ++ own)) := fun p hp => by
  simp only [List.mem_append]
  simp [hp]
structure MS where
  i : Int
  ti : Nat
  n : Int
  tn : Nat
  tv : List Value
  te : Nat
  dv : List Value
  de : Nat
  ds : List Dat
section
local macro_rules | `(tactic| walk_at "call ref") => `(tactic| refine stop_of ?_)
local macro_rules | `(tactic| walk_at "pyIter ref") => `(tactic| refine stop_of ?_)
local macro_rules | `(tactic| walk_at "call type:range") => `(tactic| ((rename Fr _ _ _ _ => F'); (rename News _ _ _ _ => N'); (with_unfolding_all refine range1_rows F' N' ?_); intro _ _ _ _ _ _ _ _ _))
local macro_rules | `(tactic| k_all) => `(tactic| first | exact List.forall_mem_nil _ | with_reducible assumption | (refine' List.forall_mem_cons.mpr ⟨neN (by (try dsimp only); omega), ?_⟩; k_all))
set_option maxRecDepth 100000 in
set_option maxHeartbeats 8000000 in
theorem law_holds : PySem.Challenge.rw_et5020_01.Holds := hd (by
  k_with_none
  k_with "execs cons" => refine stop_of ?_
  k_go0
  (all_goals try k_fold)
  k_steps
  refine stop_to ?_
  (try k_gentoks)
  (with_reducible refine wpAny_execs_cons ?_)
  (try dsimp only)
  k_steps
  refine stop_to ?_
  (try k_gentoks)
  (with_reducible refine wpAny_execs_cons ?_)
  (try dsimp only)
  k_steps
  refine stop_to ?_
  (try k_gentoks)
  (with_reducible refine wpAny_execs_cons ?_)
  (try dsimp only)
  k_steps
  refine stop_to ?_
  refine execs_gen (Nat.succ_pos _) ?_
  intro tkN hkN
  (with_reducible refine wpAny_execs_cons ?_)
  (try dsimp only)
  k_with_none
  k_steps
  refine stop_to ?_
  (rename Heap.CodeRec _ _ _ => hcd; clear hcd)
  (rename Dflts _ _ _ _ _ _ => hD; clear hD)
  rename_i sl ws _ hIs hC0 hL0 _ st _ l1a _ tkS sg _ l1b _ tkT tt _ l1c _ e1 _ l1d e2 _ l1e nt _ l1f _ _ td _ l1g _ _ du _ l1h _ lF lN
  have hlen : (List.take 60 _).length ≤ 63 := Nat.le_trans (Nat.le_of_eq hC0) (by omega)
  generalize List.take 60 _ = ns at hIs hC0 hL0 hlen
  replace lN := news_move (news_front lN)
  obtain ⟨tv, sv, lN, hTV, hSV⟩ := abs_news lN (by unfold tokL; repeat' constructor) (by unfold signL; repeat' constructor)
  k_dflt (refine' use_does ?r1_1 ?r2_1 ?r3_1 lN ?r5_1 (next_does hIs hlen ?o1_1 ?o2_1 ?o3_1 ?o4_1 ?o5_1 ?o6_1 ?o7_1 ?o8_1) ?r6_1 ?r7_1 ?r8_1 ?r9_1)
  (case o1_1 => omega)
  (case o3_1 => omega)
  (case o4_1 => omega)
  (case o5_1 => omega)
  (case o6_1 => omega)
  (case o7_1 => omega)
  (case o8_1 => omega)
  (case o2_1 => k_all)
  (case r1_1 => k_asm)
  (case r2_1 => k_asm)
  (case r3_1 => k_asm)
  (case r5_1 => k_asm)
  (case r6_1 => exact rfl)
  (case r7_1 => ktr_room)
  (case r8_1 => (have hcL9 := cLine_is; simp only [units_deeper, units_caller]; omega))
  rintro r0 news0 hh0 tk0 ⟨x0, tx0, i0, ti0, n0, tn0, rfl, rfl, hx00, hx01, hi00, hi01, hn00, hn01⟩ FF0 NN0
  (try dsimp only)
  (try k_fold)
  k_steps
  refine stop_to ?_
  rename_i h2 tk2 t1 u1 v1 hR F2 N2 hkp
  dsimp only at hR ⊢
  with_unfolding_all
   refine' kd_range (fun c : MS => [(st, W.listOf #[.ref sl, .int c.i c.ti, .int c.n c.tn] 0), (sl, W.listOf ws.toArray 0), (td, W.listOf c.tv.toArray c.te), (du, W.listOf c.dv.toArray c.de)])
    [(nt, W.listOf #[Value.none, .str (Str.ofString "") tkN, .ref e1, .ref e2, .int 0 (tkN + 1), .bool false] 0), (e2, { cls := .type "tuple", data := .seq #[] 0 }), (e1, W.listOf #[] 0), (tt, W.listOf tv.toArray 0), (sg, W.listOf sv.toArray 0)]
    (fun _ => []) (fun l c => DatAll l c.tv c.ds ∧ DatAll l c.dv c.ds) [Str.ofString "form", Str.ofString "value", Str.ofString "text", Str.ofString "token"]
    (fun pre c => 0 ≤ c.i ∧ c.i ≤ ns.length ∧ 0 ≤ c.n ∧ c.n < 2147483647 ∧ c.ds.length ≤ pre.length ∧ ∀ d ∈ c.ds, kqdOk 8 d = true)
    [st, sl, td, du, nt, e2, e1, tt, sg] ⟨i0, ti0, n0, tn0, [], 0, [], 0, []⟩ (by rfl) hR (small_one (by omega) (by omega) (by omega) (by omega)) (rangeSize_nat _ _) F2 N2 ?w1 ?w2 ?w3 ?w4 ?w5 ?w6 ?w7
  (case w1 => exact fun _ h => h)
  (case w2 => exact fun _ => rfl)
  (case w3 => exact ⟨.nil, .nil⟩)
  (case w4 => exact fun _ h => (nomatch h))
  (case w5 => exact ⟨hi00, hi01, hn00, hn01, Nat.le_refl _, fun _ h => (nomatch h)⟩)
  all_goals (try clear N2); all_goals (try clear F2)
  (case w6 =>
    rintro ⟨i1, ti1, n1, tn1, tvs, te, dvs, de, ds⟩ tl pre k tk u h3 tk3 own hk1 hk2 hsep hoff ⟨hf1, hf2⟩ ⟨hi10, hi11, hn10, hn11, hdl, hdo⟩ F1 N1
    dsimp only [kstB] at hf1 hf2 hi10 hi11 hn10 hn11 hdl hdo F1 N1
    simp only [List.cons_append, List.nil_append] at N1
    have ht1 : tvs.length = ds.length := hf1.length
    have ht2 : dvs.length = ds.length := hf2.length
    have oS := hoff.ne (.head _)
    have oT := hoff.ne (.tail _ (.tail _ (.head _)))
    have oD := hoff.ne (.tail _ (.tail _ (.tail _ (.head _))))
    try k_fold
    k_steps
    refine stop_to ?_
    rename News _ _ _ _ => N1
    k_dflt (refine' use_does ?r1_2 ?r2_2 ?r3_2 N1 ?r5_2 (next_does hIs hlen ?o1_2 ?o2_2 ?o3_2 ?o4_2 ?o5_2 ?o6_2 ?o7_2 ?o8_2) ?r6_2 ?r7_2 ?r8_2 ?r9_2)
    (case o1_2 => omega)
    (case o3_2 => omega)
    (case o4_2 => omega)
    (case o5_2 => omega)
    (case o6_2 => omega)
    (case o7_2 => omega)
    (case o8_2 => omega)
    (case o2_2 => k_all)
    (case r1_2 => k_asm)
    (case r2_2 => k_asm)
    (case r3_2 => k_asm)
    (case r5_2 => k_asm)
    (case r6_2 => exact rfl)
    (case r7_2 => ktr_room)
    (case r8_2 => (have hcL9 := cLine_is; simp only [units_deeper, units_caller]; omega))
    rintro r2 news2 hh2 tk2 ⟨x2, tx2, i2, ti2, n2, tn2, rfl, rfl, hx20, hx21, hi20, hi21, hn20, hn21⟩ FF2 NN2
    (try dsimp only)
    (try k_fold)
    k_steps
    rotate_left
    · -- a text
      k_with "subscriptTail Name Call ref int" => refine stop_of ?_
      refine stop_to ?_
      rename News _ _ _ _ => N2
      k_dflt (refine' use_does ?r1_3 ?r2_3 ?r3_3 N2 ?r5_3 (next_does hIs hlen ?o1_3 ?o2_3 ?o3_3 ?o4_3 ?o5_3 ?o6_3 ?o7_3 ?o8_3) ?r6_3 ?r7_3 ?r8_3 ?r9_3)
      (case o1_3 => omega)
      (case o3_3 => omega)
      (case o4_3 => omega)
      (case o5_3 => omega)
      (case o6_3 => omega)
      (case o7_3 => omega)
      (case o8_3 => omega)
      (case o2_3 => k_all)
      (case r1_3 => k_asm)
      (case r2_3 => k_asm)
      (case r3_3 => k_asm)
      (case r5_3 => k_asm)
      (case r6_3 => exact rfl)
      (case r7_3 => ktr_room)
      (case r8_3 => (have hcL9 := cLine_is; simp only [units_deeper, units_caller]; omega))
      rintro r4 news4 hh4 tk4 ⟨x4, tx4, i4, ti4, n4, tn4, rfl, rfl, hx40, hx41, hi40, hi41, hn40, hn41⟩ FF4 NN4
      (try dsimp only)
      (try k_fold)
      k_steps
      refine stop_to ?_
      rename_i h5 tk5 t5 u5 v5 hR5 F5 N5 hkp5
      dsimp only at hR5 ⊢
      with_unfolding_all
       refine' text_loop (fun pre c => 0 ≤ c.i ∧ c.i ≤ ns.length ∧ 0 ≤ c.n ∧ c.n < 2147483647 ∧ Plain c.text ∧ c.text.length ≤ pre.length)
        ⟨i4, ti4, n4, tn4, _, _⟩ (by rfl) hR5 (small_one (by omega) (by omega) (by omega) (by omega)) (rangeSize_nat _ _) F5 N5 ?y1 ?y2 ?y3 ?y4
      (case y1 => rfl)
      (case y2 => exact ⟨hi40, hi41, hn40, hn41, plain_nil, Nat.le_refl _⟩)
      all_goals (try clear N5); all_goals (try clear F5)
      · rintro ⟨i5, ti5, n5, tn5, txt, ttx⟩ pre5 k5 t6 u6 h6 tk6 own5 hlt5 hoff5 ⟨hi50, hi51, hn50, hn51, hpl, hle⟩ F6 N6
        dsimp only at hi50 hi51 hn50 hn51 hpl hle F6 N6
        simp only [List.cons_append] at N6
        have oS5 := List.forall_mem_append.mpr ⟨oS, hoff5.ne (.head _)⟩
        try k_fold
        k_steps
        refine stop_to ?_
        rename News _ _ _ _ => N6
        k_dflt (refine' use_does ?r1_4 ?r2_4 ?r3_4 N6 ?r5_4 (next_does hIs hlen ?o1_4 ?o2_4 ?o3_4 ?o4_4 ?o5_4 ?o6_4 ?o7_4 ?o8_4) ?r6_4 ?r7_4 ?r8_4 ?r9_4)
        (case o1_4 => omega)
        (case o3_4 => omega)
        (case o4_4 => omega)
        (case o5_4 => omega)
        (case o6_4 => omega)
        (case o7_4 => omega)
        (case o8_4 => omega)
        (case o2_4 => k_all)
        (case r1_4 => k_asm)
        (case r2_4 => k_asm)
        (case r3_4 => k_asm)
        (case r5_4 => k_asm)
        (case r6_4 => exact rfl)
        (case r7_4 => ktr_room)
        (case r8_4 => (have hcL9 := cLine_is; simp only [units_deeper, units_caller]; omega))
        rintro r6 news6 hh6 tk6 ⟨x6, tx6, i6, ti6, n6, tn6, rfl, rfl, hx60, hx61, hi60, hi61, hn60, hn61⟩ FF6 NN6
        (try dsimp only)
        (try k_fold)
        k_steps
        refine stop_to ?_
        have hsl16 : signL.length = 16 := rfl
        rename News _ _ _ _ => N7
        with_unfolding_all refine pick_str N7 (by k_memK) hSV hx60 (by omega) (by omega) ?_
        intro y ty hy
        obtain ⟨hy1, hy2⟩ := sign_ok y hy
        have hy3 : Plain y := hy2
        try k_fold
        k_steps
        rename News _ _ _ _ => N9
        rename Fr _ _ _ _ => F9
        refine kst_end ⟨i6, ti6, n6, tn6, txt ++ y, _⟩ F9 N9 (text_sub (A := [_, _, _, _, _, _, _, _, _])) (text_own (A := [_, _, _, _, _, _, _, _, _])) rfl trivial (by kst_all) (by kst_same) ⟨hi60, hi61, hn60, hn61, plain_app hpl hy3, ?_⟩
        show (txt ++ y).length ≤ (pre5 ++ [k5]).length
        rw [Str.length_append, List.length_append, List.length_singleton]
        omega
      · rintro ⟨i5, ti5, n5, tn5, txt, ttx⟩ u6 h6 tk6 ⟨hi50, hi51, hn50, hn51, hpl, hle⟩ F6 N6
        dsimp only at hi50 hi51 hn50 hn51 hpl hle F6 N6
        rw [rangeKs_length] at hle
        try k_fold
        k_steps
        refine stop_to ?_
        rename News _ _ _ _ => N6
        k_dflt (refine' use_does ?r1_5 ?r2_5 ?r3_5 N6 ?r5_5 (next_does hIs hlen ?o1_5 ?o2_5 ?o3_5 ?o4_5 ?o5_5 ?o6_5 ?o7_5 ?o8_5) ?r6_5 ?r7_5 ?r8_5 ?r9_5)
        (case o1_5 => omega)
        (case o3_5 => omega)
        (case o4_5 => omega)
        (case o5_5 => omega)
        (case o6_5 => omega)
        (case o7_5 => omega)
        (case o8_5 => omega)
        (case o2_5 => k_all)
        (case r1_5 => k_asm)
        (case r2_5 => k_asm)
        (case r3_5 => k_asm)
        (case r5_5 => k_asm)
        (case r6_5 => exact rfl)
        (case r7_5 => ktr_room)
        (case r8_5 => (have hcL9 := cLine_is; simp only [units_deeper, units_caller]; omega))
        rintro r6 news6 hh6 tk6 ⟨x6, tx6, i6, ti6, n6, tn6, rfl, rfl, hx60, hx61, hi60, hi61, hn60, hn61⟩ FF6 NN6
        (try dsimp only)
        (try k_fold)
        k_steps
        refine stop_to ?_
        have htl6 : tokL.length = 6 := rfl
        rename News _ _ _ _ => N7
        with_unfolding_all refine pick_str N7 (by k_memK) hTV hx60 (by omega) (by omega) ?_
        intro y ty hy
        obtain ⟨⟨hy0, hy1⟩, hyk⟩ := tok_ok y hy
        try k_fold
        k_steps
        · -- the empty text
          refine stop_to ?_
          rename (_ == _) = true => hE
          have hE' := beq_iff_eq.mp hE
          subst hE'
          rename News _ _ _ _ => N8
          k_dflt (refine' use_does ?r1_6 ?r2_6 ?r3_6 N8 ?r5_6 (parse0_str) ?r6_6 ?r7_6 ?r8_6 ?r9_6)
          (case r1_6 => k_asm)
          (case r2_6 => k_asm)
          (case r3_6 => k_asm)
          (case r5_6 => k_asm)
          (case r6_6 => exact rfl)
          (case r7_6 => ktr_room)
          (case r8_6 => (have hcL9 := cLine_is; simp only [units_deeper, units_caller]; omega))
          rintro r8 news8 hh8 tk8 ⟨rfl, rfl⟩ FF8 NN8
          (try dsimp only)
          (try k_fold)
          k_steps
          rename Fr _ _ _ _ => F9
          refine kd_end ⟨i6, ti6, n6, tn6, tvs, te, dvs, de, ds⟩ [] hsep F9 NN8 (end_sub (A := [_, _, _, _]) (B := [_, _, _, _, _])) (end_own (A := [_, _, _, _]) (B := [_, _, _, _, _])) rfl (fun _ h => nomatch h) (fun _ h => nomatch h) (fun _ h => nomatch h) (by kst_same) ⟨hf1, hf2⟩ ⟨hi60, hi61, hn60, hn61, (by show ds.length ≤ (pre ++ [k]).length; rw [List.length_append]; omega), hdo⟩
        · refine stop_to ?_
          rename (_ == _) = false => hE
          have hne0 := nonempty_len hE
          rename News _ _ _ _ => N8
          k_dflt (refine' use_does ?r1_7 ?r2_7 ?r3_7 N8 ?r5_7 (parse1_does hne0 (by omega)) ?r6_7 ?r7_7 ?r8_7 ?r9_7)
          (case r1_7 => k_asm)
          (case r2_7 => k_asm)
          (case r3_7 => k_asm)
          (case r5_7 => k_asm)
          (case r6_7 => exact rfl)
          (case r7_7 => ktr_room)
          (case r8_7 => (have hcL9 := cLine_is; simp only [units_deeper, units_caller]; omega))
          rintro r8 news8 hh8 tk8 ⟨l1, vs1, q1, rfl, rfl, hS1, hd1⟩ FF8 NN8
          (try dsimp only)
          (try k_fold)
          have a1 : @Ne Nat td l1 := hd1 (td, W.listOf tvs.toArray te) (by k_memK)
          have a2 : @Ne Nat du l1 := hd1 (du, W.listOf dvs.toArray de) (by k_memK)
          k_steps
          refine stop_to ?_
          rename News _ _ _ _ => N9
          k_dflt (refine' use_does ?r1_8 ?r2_8 ?r3_8 N9 ?r5_8 (due_does (by omega) hpl (by decide) (by decide) (by decide +kernel)) ?r6_8 ?r7_8 ?r8_8 ?r9_8)
          (case r1_8 => k_asm)
          (case r2_8 => k_asm)
          (case r3_8 => k_asm)
          (case r5_8 => k_asm)
          (case r6_8 => exact rfl)
          (case r7_8 => ktr_room)
          (case r8_8 => (have hcL9 := cLine_is; simp only [units_deeper, units_caller]; omega))
          rintro r9 news9 hh9 tk9 ⟨l2, vs2, q2, rfl, rfl, hS2, hd2⟩ FF9 NN9
          (try dsimp only)
          (try k_fold)
          have b1 : @Ne Nat du l2 := hd2 (du, W.listOf dvs.toArray de) (by k_memK)
          k_steps
          rename News _ _ _ _ => NN
          (try simp only [List.push_toArray] at NN)
          rename Fr _ _ _ _ => F9
          refine kd_end ⟨i6, ti6, n6, tn6, tvs ++ [.ref l1], te + 1, dvs ++ [.ref l2], de + 1, ds ++ [Dat.list ((((Txt.split txt (Str.ofString ",")).map Txt.strip).filter (fun z => z.length != 0)).map Dat.str)]⟩ [(l2, W.listOf vs2.toArray q2), (l1, W.listOf vs1.toArray q1)] hsep F9 NN (end_sub2 (A := [_, _, _, _]) (B := [_, _, _, _, _])) (end_own2 (A := [_, _, _, _]) (B := [_, _, _, _, _])) rfl (two_all (off_adr (A := [_, _, _, _]) (B := [_, _, _, _, _]) (off_tail hd2)) (off_adr (A := [_, _, _, _]) (B := [_, _, _, _, _]) hd1)) (two_all (off_own (A := [_, _, _, _]) (B := [_, _, _, _, _]) (off_tail hd2)) (off_own (A := [_, _, _, _]) (B := [_, _, _, _, _]) hd1)) (fun _ h => nomatch h) (by kst_same) ⟨dat_snoc hf1 hS1 (by k_memK), dat_snoc hf2 hS2 (by k_memK)⟩ ⟨hi60, hi61, hn60, hn61, (by show (ds ++ [_]).length ≤ (pre ++ [k]).length; rw [List.length_append, List.length_append, List.length_singleton, List.length_singleton]; omega), all_snoc hdo (list_ok hpl)⟩
        · refine stop_to ?_
          rename (_ == _) = false => hE
          have hne0 := nonempty_len hE
          rename News _ _ _ _ => N8
          k_dflt (refine' use_does ?r1_9 ?r2_9 ?r3_9 N8 ?r5_9 (parse_does hne0 (by omega) hy0 hy1) ?r6_9 ?r7_9 ?r8_9 ?r9_9)
          (case r1_9 => k_asm)
          (case r2_9 => k_asm)
          (case r3_9 => k_asm)
          (case r5_9 => k_asm)
          (case r6_9 => exact rfl)
          (case r7_9 => ktr_room)
          (case r8_9 => (have hcL9 := cLine_is; simp only [units_deeper, units_caller]; omega))
          rintro r8 news8 hh8 tk8 ⟨l1, vs1, q1, rfl, rfl, hS1, hd1⟩ FF8 NN8
          (try dsimp only)
          (try k_fold)
          have a1 : @Ne Nat td l1 := hd1 (td, W.listOf tvs.toArray te) (by k_memK)
          have a2 : @Ne Nat du l1 := hd1 (du, W.listOf dvs.toArray de) (by k_memK)
          k_steps
          refine stop_to ?_
          rename News _ _ _ _ => N9
          k_dflt (refine' use_does ?r1_10 ?r2_10 ?r3_10 N9 ?r5_10 (due_does (by omega) hpl hy0 hy1 hyk) ?r6_10 ?r7_10 ?r8_10 ?r9_10)
          (case r1_10 => k_asm)
          (case r2_10 => k_asm)
          (case r3_10 => k_asm)
          (case r5_10 => k_asm)
          (case r6_10 => exact rfl)
          (case r7_10 => ktr_room)
          (case r8_10 => (have hcL9 := cLine_is; simp only [units_deeper, units_caller]; omega))
          rintro r9 news9 hh9 tk9 ⟨l2, vs2, q2, rfl, rfl, hS2, hd2⟩ FF9 NN9
          (try dsimp only)
          (try k_fold)
          have b1 : @Ne Nat du l2 := hd2 (du, W.listOf dvs.toArray de) (by k_memK)
          k_steps
          rename News _ _ _ _ => NN
          (try simp only [List.push_toArray] at NN)
          rename Fr _ _ _ _ => F9
          refine kd_end ⟨i6, ti6, n6, tn6, tvs ++ [.ref l1], te + 1, dvs ++ [.ref l2], de + 1, ds ++ [Dat.list ((((Txt.split txt y).map Txt.strip).filter (fun z => z.length != 0)).map Dat.str)]⟩ [(l2, W.listOf vs2.toArray q2), (l1, W.listOf vs1.toArray q1)] hsep F9 NN (end_sub2 (A := [_, _, _, _]) (B := [_, _, _, _, _])) (end_own2 (A := [_, _, _, _]) (B := [_, _, _, _, _])) rfl (two_all (off_adr (A := [_, _, _, _]) (B := [_, _, _, _, _]) (off_tail hd2)) (off_adr (A := [_, _, _, _]) (B := [_, _, _, _, _]) hd1)) (two_all (off_own (A := [_, _, _, _]) (B := [_, _, _, _, _]) (off_tail hd2)) (off_own (A := [_, _, _, _]) (B := [_, _, _, _, _]) hd1)) (fun _ h => nomatch h) (by kst_same) ⟨dat_snoc hf1 hS1 (by k_memK), dat_snoc hf2 hS2 (by k_memK)⟩ ⟨hi60, hi61, hn60, hn61, (by show (ds ++ [_]).length ≤ (pre ++ [k]).length; rw [List.length_append, List.length_append, List.length_singleton, List.length_singleton]; omega), all_snoc hdo (list_ok hpl)⟩
        · refine stop_to ?_
          rename (_ == _) = false => hE
          have hne0 := nonempty_len hE
          rename News _ _ _ _ => N8
          k_dflt (refine' use_doesK ?r1_11 ?r2_11 ?r3_11 N8 ?r5_11 (parsek_does hne0 (by omega) hy0 hy1) ?r6_11 ?r7_11 ?r8_11 ?r9_11)
          (case r1_11 => k_asm)
          (case r2_11 => k_asm)
          (case r3_11 => k_asm)
          (case r5_11 => k_asm)
          (case r6_11 => exact rfl)
          (case r7_11 => ktr_room)
          (case r8_11 => (have hcL9 := cLine_is; simp only [units_deeper, units_caller]; omega))
          rintro r8 news8 hh8 tk8 ⟨l1, vs1, q1, rfl, rfl, hS1, hd1⟩ FF8 NN8
          (try dsimp only)
          (try k_fold)
          have a1 : @Ne Nat td l1 := hd1 (td, W.listOf tvs.toArray te) (by k_memK)
          have a2 : @Ne Nat du l1 := hd1 (du, W.listOf dvs.toArray de) (by k_memK)
          k_steps
          refine stop_to ?_
          rename News _ _ _ _ => N9
          k_dflt (refine' use_does ?r1_12 ?r2_12 ?r3_12 N9 ?r5_12 (due_does (by omega) hpl hy0 hy1 hyk) ?r6_12 ?r7_12 ?r8_12 ?r9_12)
          (case r1_12 => k_asm)
          (case r2_12 => k_asm)
          (case r3_12 => k_asm)
          (case r5_12 => k_asm)
          (case r6_12 => exact rfl)
          (case r7_12 => ktr_room)
          (case r8_12 => (have hcL9 := cLine_is; simp only [units_deeper, units_caller]; omega))
          rintro r9 news9 hh9 tk9 ⟨l2, vs2, q2, rfl, rfl, hS2, hd2⟩ FF9 NN9
          (try dsimp only)
          (try k_fold)
          have b1 : @Ne Nat du l2 := hd2 (du, W.listOf dvs.toArray de) (by k_memK)
          k_steps
          rename News _ _ _ _ => NN
          (try simp only [List.push_toArray] at NN)
          rename Fr _ _ _ _ => F9
          refine kd_end ⟨i6, ti6, n6, tn6, tvs ++ [.ref l1], te + 1, dvs ++ [.ref l2], de + 1, ds ++ [Dat.list ((((Txt.split txt y).map Txt.strip).filter (fun z => z.length != 0)).map Dat.str)]⟩ [(l2, W.listOf vs2.toArray q2), (l1, W.listOf vs1.toArray q1)] hsep F9 NN (end_sub2 (A := [_, _, _, _]) (B := [_, _, _, _, _])) (end_own2 (A := [_, _, _, _]) (B := [_, _, _, _, _])) rfl (two_all (off_adr (A := [_, _, _, _]) (B := [_, _, _, _, _]) (off_tail hd2)) (off_adr (A := [_, _, _, _]) (B := [_, _, _, _, _]) hd1)) (two_all (off_own (A := [_, _, _, _]) (B := [_, _, _, _, _]) (off_tail hd2)) (off_own (A := [_, _, _, _]) (B := [_, _, _, _, _]) hd1)) (fun _ h => nomatch h) (by kst_same) ⟨dat_snoc hf1 hS1 (by k_memK), dat_snoc hf2 hS2 (by k_memK)⟩ ⟨hi60, hi61, hn60, hn61, (by show (ds ++ [_]).length ≤ (pre ++ [k]).length; rw [List.length_append, List.length_append, List.length_singleton, List.length_singleton]; omega), all_snoc hdo (list_ok hpl)⟩
    · -- a value that counts as nothing
      k_with_none
      refine stop_to ?_
      rename News _ _ _ _ => N2
      k_dflt (refine' use_does ?r1_13 ?r2_13 ?r3_13 N2 ?r5_13 (next_does hIs hlen ?o1_13 ?o2_13 ?o3_13 ?o4_13 ?o5_13 ?o6_13 ?o7_13 ?o8_13) ?r6_13 ?r7_13 ?r8_13 ?r9_13)
      (case o1_13 => omega)
      (case o3_13 => omega)
      (case o4_13 => omega)
      (case o5_13 => omega)
      (case o6_13 => omega)
      (case o7_13 => omega)
      (case o8_13 => omega)
      (case o2_13 => k_all)
      (case r1_13 => k_asm)
      (case r2_13 => k_asm)
      (case r3_13 => k_asm)
      (case r5_13 => k_asm)
      (case r6_13 => exact rfl)
      (case r7_13 => ktr_room)
      (case r8_13 => (have hcL9 := cLine_is; simp only [units_deeper, units_caller]; omega))
      rintro r3 news3 hh3 tk3 ⟨x3, tx3, i3, ti3, n3, tn3, rfl, rfl, hx30, hx31, hi30, hi31, hn30, hn31⟩ FF3 NN3
      (try dsimp only)
      (try k_fold)
      have hx3 : x3 = 0 ∨ x3 = 1 ∨ x3 = 2 ∨ x3 = 3 ∨ x3 = 4 ∨ x3 = 5 := by omega
      rcases hx3 with rfl | rfl | rfl | rfl | rfl | rfl
      · k_steps
        refine stop_to ?_
        rename News _ _ _ _ => N3
        k_dflt (refine' use_does ?r1_14 ?r2_14 ?r3_14 N3 ?r5_14 (parse0_none) ?r6_14 ?r7_14 ?r8_14 ?r9_14)
        (case r1_14 => k_asm)
        (case r2_14 => k_asm)
        (case r3_14 => k_asm)
        (case r5_14 => k_asm)
        (case r6_14 => exact rfl)
        (case r7_14 => ktr_room)
        (case r8_14 => (have hcL9 := cLine_is; simp only [units_deeper, units_caller]; omega))
        rintro r4 news4 hh4 tk4 ⟨rfl, rfl⟩ FF4 NN4
        (try dsimp only)
        (try k_fold)
        k_steps
        rename Fr _ _ _ _ => F9
        refine kd_end ⟨i3, ti3, n3, tn3, tvs, te, dvs, de, ds⟩ [] hsep F9 NN4 (end_sub (A := [_, _, _, _]) (B := [_, _, _, _, _])) (end_own (A := [_, _, _, _]) (B := [_, _, _, _, _])) rfl (fun _ h => nomatch h) (fun _ h => nomatch h) (fun _ h => nomatch h) (by kst_same) ⟨hf1, hf2⟩ ⟨hi30, hi31, hn30, hn31, (by show ds.length ≤ (pre ++ [k]).length; rw [List.length_append]; omega), hdo⟩
      · k_steps
        refine stop_to ?_
        rename News _ _ _ _ => N3
        k_dflt (refine' use_does ?r1_15 ?r2_15 ?r3_15 N3 ?r5_15 (parse0_str) ?r6_15 ?r7_15 ?r8_15 ?r9_15)
        (case r1_15 => k_asm)
        (case r2_15 => k_asm)
        (case r3_15 => k_asm)
        (case r5_15 => k_asm)
        (case r6_15 => exact rfl)
        (case r7_15 => ktr_room)
        (case r8_15 => (have hcL9 := cLine_is; simp only [units_deeper, units_caller]; omega))
        rintro r4 news4 hh4 tk4 ⟨rfl, rfl⟩ FF4 NN4
        (try dsimp only)
        (try k_fold)
        k_steps
        refine isNot_str_same hkN ?_
        k_steps
        rename Fr _ _ _ _ => F9
        refine kd_end ⟨i3, ti3, n3, tn3, tvs, te, dvs, de, ds⟩ [] hsep F9 NN4 (end_sub (A := [_, _, _, _]) (B := [_, _, _, _, _])) (end_own (A := [_, _, _, _]) (B := [_, _, _, _, _])) rfl (fun _ h => nomatch h) (fun _ h => nomatch h) (fun _ h => nomatch h) (by kst_same) ⟨hf1, hf2⟩ ⟨hi30, hi31, hn30, hn31, (by show ds.length ≤ (pre ++ [k]).length; rw [List.length_append]; omega), hdo⟩
      · k_steps
        refine stop_to ?_
        rename News _ _ _ _ => N3
        k_dflt (refine' use_does ?r1_16 ?r2_16 ?r3_16 (news_dup (e1, W.listOf #[] 0) N3 (by k_memK)) ?r5_16 (parse0_list) ?r6_16 ?r7_16 ?r8_16 ?r9_16)
        (case r1_16 => k_asm)
        (case r2_16 => k_asm)
        (case r3_16 => k_asm)
        (case r5_16 => k_asm)
        (case r6_16 => exact rfl)
        (case r7_16 => ktr_room)
        (case r8_16 => (have hcL9 := cLine_is; simp only [units_deeper, units_caller]; omega))
        rintro r4 news4 hh4 tk4 ⟨rfl, rfl⟩ FF4 NN4
        (try dsimp only)
        (try k_fold)
        replace NN4 := news_tl NN4
        k_steps
        rename Fr _ _ _ _ => F9
        refine kd_end ⟨i3, ti3, n3, tn3, tvs, te, dvs, de, ds⟩ [] hsep F9 NN4 (end_sub (A := [_, _, _, _]) (B := [_, _, _, _, _])) (end_own (A := [_, _, _, _]) (B := [_, _, _, _, _])) rfl (fun _ h => nomatch h) (fun _ h => nomatch h) (fun _ h => nomatch h) (by kst_same) ⟨hf1, hf2⟩ ⟨hi30, hi31, hn30, hn31, (by show ds.length ≤ (pre ++ [k]).length; rw [List.length_append]; omega), hdo⟩
      · k_steps
        refine stop_to ?_
        rename News _ _ _ _ => N3
        k_dflt (refine' use_does ?r1_17 ?r2_17 ?r3_17 (news_dup (e2, { cls := .type "tuple", data := .seq #[] }) N3 (by k_memK)) ?r5_17 (parse0_tup) ?r6_17 ?r7_17 ?r8_17 ?r9_17)
        (case r1_17 => k_asm)
        (case r2_17 => k_asm)
        (case r3_17 => k_asm)
        (case r5_17 => k_asm)
        (case r6_17 => exact rfl)
        (case r7_17 => ktr_room)
        (case r8_17 => (have hcL9 := cLine_is; simp only [units_deeper, units_caller]; omega))
        rintro r4 news4 hh4 tk4 ⟨rfl, rfl⟩ FF4 NN4
        (try dsimp only)
        (try k_fold)
        replace NN4 := news_tl NN4
        k_steps
        rename Fr _ _ _ _ => F9
        refine kd_end ⟨i3, ti3, n3, tn3, tvs, te, dvs, de, ds⟩ [] hsep F9 NN4 (end_sub (A := [_, _, _, _]) (B := [_, _, _, _, _])) (end_own (A := [_, _, _, _]) (B := [_, _, _, _, _])) rfl (fun _ h => nomatch h) (fun _ h => nomatch h) (fun _ h => nomatch h) (by kst_same) ⟨hf1, hf2⟩ ⟨hi30, hi31, hn30, hn31, (by show ds.length ≤ (pre ++ [k]).length; rw [List.length_append]; omega), hdo⟩
      · k_steps
        refine stop_to ?_
        rename News _ _ _ _ => N3
        k_dflt (refine' use_does ?r1_18 ?r2_18 ?r3_18 N3 ?r5_18 (parse0_int) ?r6_18 ?r7_18 ?r8_18 ?r9_18)
        (case r1_18 => k_asm)
        (case r2_18 => k_asm)
        (case r3_18 => k_asm)
        (case r5_18 => k_asm)
        (case r6_18 => exact rfl)
        (case r7_18 => ktr_room)
        (case r8_18 => (have hcL9 := cLine_is; simp only [units_deeper, units_caller]; omega))
        rintro r4 news4 hh4 tk4 ⟨rfl, rfl⟩ FF4 NN4
        (try dsimp only)
        (try k_fold)
        k_steps
        refine isNot_zero_same ?_
        k_steps
        rename Fr _ _ _ _ => F9
        refine kd_end ⟨i3, ti3, n3, tn3, tvs, te, dvs, de, ds⟩ [] hsep F9 NN4 (end_sub (A := [_, _, _, _]) (B := [_, _, _, _, _])) (end_own (A := [_, _, _, _]) (B := [_, _, _, _, _])) rfl (fun _ h => nomatch h) (fun _ h => nomatch h) (fun _ h => nomatch h) (by kst_same) ⟨hf1, hf2⟩ ⟨hi30, hi31, hn30, hn31, (by show ds.length ≤ (pre ++ [k]).length; rw [List.length_append]; omega), hdo⟩
      · k_steps
        refine stop_to ?_
        rename News _ _ _ _ => N3
        k_dflt (refine' use_does ?r1_19 ?r2_19 ?r3_19 N3 ?r5_19 (parse0_bool) ?r6_19 ?r7_19 ?r8_19 ?r9_19)
        (case r1_19 => k_asm)
        (case r2_19 => k_asm)
        (case r3_19 => k_asm)
        (case r5_19 => k_asm)
        (case r6_19 => exact rfl)
        (case r7_19 => ktr_room)
        (case r8_19 => (have hcL9 := cLine_is; simp only [units_deeper, units_caller]; omega))
        rintro r4 news4 hh4 tk4 ⟨rfl, rfl⟩ FF4 NN4
        (try dsimp only)
        (try k_fold)
        k_steps
        rename Fr _ _ _ _ => F9
        refine kd_end ⟨i3, ti3, n3, tn3, tvs, te, dvs, de, ds⟩ [] hsep F9 NN4 (end_sub (A := [_, _, _, _]) (B := [_, _, _, _, _])) (end_own (A := [_, _, _, _]) (B := [_, _, _, _, _])) rfl (fun _ h => nomatch h) (fun _ h => nomatch h) (fun _ h => nomatch h) (by kst_same) ⟨hf1, hf2⟩ ⟨hi30, hi31, hn30, hn31, (by show ds.length ≤ (pre ++ [k]).length; rw [List.length_append]; omega), hdo⟩
  )
  (case w7 =>
    rintro ⟨i1, ti1, n1, tn1, tvs, te, dvs, de, ds⟩ tl u h3 tk3 hoff ⟨hf1, hf2⟩ ⟨hi10, hi11, hn10, hn11, hdl, hdo⟩ F1 N1
    dsimp only [kstB] at hf1 hf2 hi10 hi11 hn10 hn11 hdl hdo F1 N1
    simp only [List.cons_append, List.nil_append] at N1
    try k_fold
    k_steps))
end
end Mine
end
theorem Mine.pause14 : True := by (w_top off); first | (walk1; done) | trivial
theorem PySem.Challenge.cw_et5020_01_holds : PySem.Challenge.rw_et5020_01.Holds := by
  exact Mine.law_holds
