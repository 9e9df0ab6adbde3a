import PyProof.Rows.All
import Wide.All
import OpenK.AllK
import Wide.FinOn
import PySem.Challenge.RW_ny0024_01
set_option Elab.async false
set_option compiler.extract_closed false
section
open PySem PySem.W PyProof.Rows
set_option Elab.async false
namespace Mine
set_option maxRecDepth 100000
set_option maxHeartbeats 8000000
open_top hd for PySem.Challenge.rw_ny0024_01
end Mine
end
section
open PySem PySem.W PySem.Spec PySem.Calls PyProof.Rows
set_option Elab.async false
set_option maxRecDepth 100000
set_option maxHeartbeats 8000000
namespace Mine

/-- what the top left, seen at a heap -/
structure Gd (w : World) (mean : ExcName → Option Value) (mg mb : Str → Option Value) (h : Heap) : Prop where
  k : (Mine.hd.heap_39 w.params).In h
  t : Top Mine.hd.view_39 (looseW Mine.hd.view_39 []) mean mg mb h

theorem Gd.keeps {w mean mg mb} {h h' : Heap} (g : Gd w mean mg mb h) (k : h.StaysIn h') : Gd w mean mg mb h' :=
  ⟨g.k.keeps k, g.t.keeps k⟩

/-- a call of the def at f with vs: it ends, every object stands, and P holds of what comes back -/
noncomputable def Does (w : World) (k : Nat) (f : Addr) (vs : List Value) (C : Heap → Prop) (P : Value → Heap → Heap → Prop) : Prop :=
  ∀ (mean : ExcName → Option Value) (mg mb : Str → Option Value) (dp un : Nat) (fr : Option (List Env)) (gd : Option (List Code)) (s : Shared) (Q E : Value → Shared → Prop),
    Gd w mean mg mb s.heap → C s.heap → dp + k < recursionLimit → un + 8 * k < cLine →
    (∀ v h' tk', s.heap.StaysIn h' → P v s.heap h' → Q v { s with heap := h', toks := tk' }) →
    wpAny (model Challenge.rw_ny0024_01.row.prog w) { handled := none, depth := dp, frames := fr, guards := gd, units := un } (call (.ref f) vs) Q E s

theorem enter {w : World} {mean : ExcName → Option Value} {mg mb : Str → Option Value} {A : Around} {s : Shared} {Q E : Value → Shared → Prop} {f : Addr} {vs : List Value}
    {name qual : Str} {params : Arguments} {body : List Stmt} {scope : Scope} {dV kV doc pm cdv ct oc : Value} {an od : Option Addr} {osl : Array (Option Value)} {binds : List (Str × Value)}
    (G : Gd w mean mg mb s.heap)
    (ho : (Mine.hd.heap_39 w.params).lookup f = some ⟨oc, od, .func (fnOf name qual params body scope dV kV doc pm an cdv ct), osl⟩)
    (hcd : codeIn (Mine.hd.heap_39 w.params) cdv qual = true) (hroom : A.depth < recursionLimit)
    (hbind : BindsTo s (fnOf name qual params body scope dV kV doc pm an cdv ct) ⟨vs, []⟩ binds) (hloc : ∀ y ∈ binds, scope.names.lookup y.1 = some .local)
    (m : Str → Option Value) (hm : (fun y => binds.reverse.lookup y) = m)
    (h : ∀ L h₁ tk, Fr s.heap L h₁ m → News s.heap L h₁ [] →
      wpAny (model Challenge.rw_ny0024_01.row.prog w) (A.deeper (envOf qual scope L f cdv)) (execs body (envOf qual scope L f cdv))
        (fun fl s' => Q (match fl with | .ret v => v | _ => .none) s') (fun _ _ => False) { s with heap := h₁, toks := tk })
    (hco : scope.isCoroutine = false) (hgen : scope.isGenerator = false) (hk : scope.kind = .function)
    (hcell : ∀ x ∈ scope.names, x.2 ≠ .cell) :
    wpAny (model Challenge.rw_ny0024_01.row.prog w) A (call (.ref f) vs) Q E s := by
  refine wpAny_call ?_
  refine codeAny_call_def (fd := fnOf name qual params body scope dV kV doc pm an cdv ct) (body := body) (binds := binds) hroom (G.k _ _ ho) rfl G.t.nolimit (codeRec_of G.k hcd) rfl hbind hcell hloc (fun h₁ hns hk₁ => ?_) hco hgen hk
  subst hm
  exact wpAny_mono (h s.heap.objs.size h₁ _ ⟨hns, hk₁, Nat.le_refl _⟩ News.nil) (fun fl s' hl => hl) fun _ _ x => x.elim

theorem enter2 {w : World} {mean : ExcName → Option Value} {mg mb : Str → Option Value} {A : Around} {s : Shared} {Q E : Value → Shared → Prop} {f : Addr} {vs : List Value}
    {name qual : Str} {params : Arguments} {body : List Stmt} {scope : Scope} {dV kV doc pm cdv ct oc : Value} {an od : Option Addr} {osl : Array (Option Value)}
    (G : Gd w mean mg mb s.heap)
    (ho : (Mine.hd.heap_39 w.params).lookup f = some ⟨oc, od, .func (fnOf name qual params body scope dV kV doc pm an cdv ct), osl⟩)
    (hcd : codeIn (Mine.hd.heap_39 w.params) cdv qual = true) (hroom : A.depth < recursionLimit)
    (hbind : bindArgs (fnOf name qual params body scope dV kV doc pm an cdv ct) ⟨vs, []⟩ = pure ((params.args.map (·.arg)).zip vs))
    (hloc : ((params.args.map (·.arg)).zip vs).all (fun y => decide (scope.names.lookup y.1 = some .local)) = true)
    (h : ∀ L h₁ tk, Fr s.heap L h₁ (fun y => ((params.args.map (·.arg)).zip vs).reverse.lookup y) → News s.heap L h₁ [] →
      wpAny (model Challenge.rw_ny0024_01.row.prog w) (A.deeper (envOf qual scope L f cdv)) (execs body (envOf qual scope L f cdv))
        (fun fl s' => Q (match fl with | .ret v => v | _ => .none) s') (fun _ _ => False) { s with heap := h₁, toks := tk })
    (hco : scope.isCoroutine = false) (hgen : scope.isGenerator = false) (hk : scope.kind = .function)
    (hcell : ∀ x ∈ scope.names, x.2 ≠ .cell) :
    wpAny (model Challenge.rw_ny0024_01.row.prog w) A (call (.ref f) vs) Q E s :=
  enter G ho hcd hroom (BindsTo.of_eq hbind) (fun y hy => of_decide_eq_true (List.all_eq_true.mp hloc y hy)) _ rfl h hco hgen hk hcell

section
variable {w : World} {mean : ExcName → Option Value} {mg mb : Str → Option Value} {A : Around} {s : Shared} {Q E : Value → Shared → Prop} {f : Addr} {vs : List Value} {h₀ : Heap} {L : Addr} {m : Str → Option Value} {news : List (Addr × Obj)} {k : Nat} {C : Heap → Prop}

theorem fr_stays {h h' : Heap} (F : Fr h₀ L h m) (k : h.StaysIn h') : Fr h₀ L h' m :=
  ⟨F.ns.keeps k, fun b o e => k _ _ (F.keep b o e), F.above⟩
theorem news_stays {h h' : Heap} (N : News h₀ L h news) (k : h.StaysIn h') : News h₀ L h' news :=
  fun p hp => ⟨k _ _ (N p hp).1, (N p hp).2⟩

theorem news_more {h h' : Heap} {tl : List (Addr × Obj)} (F : Fr h₀ L h m) (N : News h₀ L h news) (k : h.StaysIn h') (hp : ∀ p ∈ tl, h'.get? p.1 = some p.2 ∧ h.get? p.1 = none) : News h₀ L h' (tl ++ news) := by
  intro p hq
  rcases List.mem_append.mp hq with hq | hq
  · refine ⟨(hp p hq).1, fun e => ?_, ?_⟩
    · obtain ⟨o, _, _, ho, _⟩ := F.ns
      have := (hp p hq).2
      rw [e, ho] at this
      cases this
    · cases q : h₀.get? p.1 with
      | none => rfl
      | some o => have := (hp p hq).2; rw [F.keep _ _ q] at this; cases this
  · exact ⟨k _ _ (N p hq).1, (N p hq).2⟩

theorem use {P : Value → Heap → Heap → Prop} (D : Does w k f vs C P) (F : Fr h₀ L s.heap m) (N : News h₀ L s.heap news)
    (X : (Mine.hd.heap_39 w.params).In h₀) (T : Top Mine.hd.view_39 (looseW Mine.hd.view_39 []) mean mg mb h₀) (hC : C s.heap)
    (hh : A.handled = none) (hd : A.depth + k < recursionLimit) (hu : A.units + 8 * k < cLine)
    (h : ∀ v h' tk', Fr h₀ L h' m → News h₀ L h' news → s.heap.StaysIn h' → P v s.heap h' → Q v { s with heap := h', toks := tk' }) :
    wpAny (model Challenge.rw_ny0024_01.row.prog w) A (call (.ref f) vs) Q E s :=
  by
    obtain ⟨ha, dp, fr, gd, un⟩ := A
    cases hh
    exact D mean mg mb dp un fr gd s Q E (Gd.keeps ⟨X, T⟩ F.keep) hC hd hu fun v h' tk' st p => h v h' tk' (fr_stays F st) (news_stays N st) st p

/-- the answer is a plain value -/
theorem useR {R : Tok → Value} (D : Does w k f vs C (fun v _ _ => ∃ t, v = R t)) (F : Fr h₀ L s.heap m) (N : News h₀ L s.heap news)
    (X : (Mine.hd.heap_39 w.params).In h₀) (T : Top Mine.hd.view_39 (looseW Mine.hd.view_39 []) mean mg mb h₀) (hC : C s.heap)
    (hh : A.handled = none) (hd : A.depth + k < recursionLimit) (hu : A.units + 8 * k < cLine)
    (h : ∀ t h' tk', Fr h₀ L h' m → News h₀ L h' news → s.heap.StaysIn h' → Q (R t) { s with heap := h', toks := tk' }) :
    wpAny (model Challenge.rw_ny0024_01.row.prog w) A (call (.ref f) vs) Q E s :=
  use D F N X T hC hh hd hu fun v h' tk' F' N' st p => by obtain ⟨t, rfl⟩ := p; exact h t h' tk' F' N' st
end

theorem room1 {dp k m R : Nat} (h : dp + m < R) (hk : k + 1 ≤ m) : dp + 1 + k < R := by omega
theorem room0 {dp m R : Nat} (h : dp + m < R) : dp < R := by omega
theorem units1 {un k m C : Nat} (h : un + 8 * m < C) (hk : k + 1 ≤ m) : un + 3 + 8 * k < C := by omega
theorem units0 {un m C : Nat} (h : un + 8 * m < C) (hk : 1 ≤ m) : un + 3 < C := by omega
theorem units2 {un m C : Nat} (h : un + 8 * m < C) (hk : 1 ≤ m) : un + 3 + 1 + 2 < C := by omega
theorem units3 {un m C : Nat} (h : un + 8 * m < C) (hk : 1 ≤ m) : un + 3 + 1 < C := by omega
/-- a def of plain values -/
abbrev Plain (w : World) (k : Nat) (f : Addr) (vs : List Value) (R : Tok → Value) : Prop := Does w k f vs (fun _ => True) (fun v _ _ => ∃ t, v = R t)

/-- a text by its signs -/
noncomputable def S (l : List Nat) : Str := ⟨l.toArray⟩

end Mine
end
section
open PySem PySem.W PySem.Spec PySem.Calls PyProof.Rows
open PySem.Builtin PySem.Builtin.Str
set_option Elab.async false
set_option maxRecDepth 100000
set_option maxHeartbeats 8000000
namespace Mine

theorem S_app (a b : List Nat) : S a ++ S b = S (a ++ b) := by
  show (⟨a.toArray ++ b.toArray⟩ : Str) = ⟨(a ++ b).toArray⟩
  simp
theorem S_len (a : List Nat) : (S a).length = a.length := by simp [S, Str.length]
theorem S_inj {a b : List Nat} : S a = S b ↔ a = b := by simp [S]
theorem beqS (a b : List Nat) : (S a == S b) = decide (a = b) := by
  rw [Bool.eq_iff_iff]; simp [S_inj]
theorem bneS (a b : List Nat) : (S a != S b) = !decide (a = b) := by
  show (!(S a == S b)) = _; rw [beqS]
theorem mk_S (a : List Nat) : (⟨a.toArray⟩ : Str) = S a := rfl
theorem lit_empty : Str.ofString "" = S [] := by decide +kernel
theorem lit_tilde : Str.ofString "~" = S [126] := by decide +kernel
theorem lit_lt : Str.ofString "<" = S [60] := by decide +kernel
theorem lit_gt : Str.ofString ">" = S [62] := by decide +kernel
theorem lit_lt2 : Str.ofString "<<" = S [60, 60] := by decide +kernel
theorem lit_gt2 : Str.ofString ">>" = S [62, 62] := by decide +kernel
theorem lit_dash : Str.ofString "-" = S [45] := by decide +kernel
theorem lit_zero : Str.ofString "0" = S [48] := by decide +kernel
theorem lit_lb : Str.ofString "{" = S [123] := by decide +kernel
theorem lit_rb : Str.ofString "}" = S [125] := by decide +kernel
theorem lit_colon : Str.ofString ":" = S [58] := by decide +kernel
theorem lit_lp : Str.ofString "(" = S [40] := by decide +kernel
theorem lit_rp : Str.ofString ")" = S [41] := by decide +kernel
theorem lit_bang : Str.ofString "!" = S [33] := by decide +kernel
theorem lit_hat : Str.ofString "^" = S [94] := by decide +kernel
theorem lit_hatq : Str.ofString "^?" = S [94, 63] := by decide +kernel
theorem lit_p2 : Str.ofString "~:0(" = S [126, 58, 48, 40] := by decide +kernel
theorem lit_p3 : Str.ofString ":-7(" = S [58, 45, 55, 40] := by decide +kernel
theorem lit_p4 : Str.ofString "a:07(" = S [97, 58, 48, 55, 40] := by decide +kernel
theorem lit_p5 : Str.ofString "a:-0(" = S [97, 58, 45, 48, 40] := by decide +kernel
theorem lit_p6 : Str.ofString "lib/a.py:70(" = S [108, 105, 98, 47, 97, 46, 112, 121, 58, 55, 48, 40] := by decide +kernel
theorem lit_fmt1 : Str.ofString "{%s}" = S [123, 37, 115, 125] := by decide +kernel
theorem lit_fmt2 : Str.ofString "%s:%d(%s)" = S [37, 115, 58, 37, 100, 40, 37, 115, 41] := by decide +kernel
theorem pos_of_ne {l : List Nat} (h : ¬ l = []) : (0 : Int) < l.length := by
  have := List.length_pos_iff.mpr h; omega
theorem pos_of_dec {l : List Nat} (h : decide (l = []) = false) : (0 : Int) < l.length := pos_of_ne (of_decide_eq_false h)
theorem S_of (x : Str) : x = S x.cps.toList := by simp [S]

/-- a bound of a slice, clipped -/
noncomputable def clip (n : Nat) (v : Int) : Nat := min (if v < 0 then v + n else v).toNat n
/-- a slice of a text's signs -/
noncomputable def sl (lo hi : Option Int) (l : List Nat) : List Nat :=
  (l.drop (lo.elim 0 (clip l.length))).take (hi.elim l.length (clip l.length) - lo.elim 0 (clip l.length))

theorem sl_le (lo hi : Option Int) (l : List Nat) : (sl lo hi l).length ≤ l.length := by
  unfold sl; simp; omega

theorem clip_int (n : Nat) (v : Int) : max 0 (min (if v < 0 then v + n else v) (n : Int)) = ((clip n v : Nat) : Int) := by
  unfold clip
  generalize (if v < 0 then v + (n : Int) else v) = x
  omega
theorem clip_same {n m : Nat} (h : m ≤ n) : max 0 (min (if (m : Int) < 0 then (m : Int) + n else m) (n : Int)) = (m : Int) := by
  rw [if_neg (by omega)]
  omega
theorem clip_le (n : Nat) (v : Int) : clip n v ≤ n := Nat.min_le_right _ _
noncomputable def clp (n : Nat) (v : Option Int) (d : Int) : Int := match v with | none => d | some i => max 0 (min (if i < 0 then i + n else i) (n : Int))
theorem idx_part (lo : Option Int) (n d : Nat) (h : d ≤ n) : clp n lo d = clp n (some ((lo.elim d (clip n) : Nat) : Int)) d := by
  cases lo with
  | none => exact (clip_same h).symm
  | some v => exact (clip_int n v).trans (clip_same (clip_le n v)).symm
theorem idx_clip (lo hi : Option Int) (n : Nat) :
    strSliceIndices lo hi 1 n = strSliceIndices (some ((lo.elim 0 (clip n) : Nat) : Int)) (some ((hi.elim n (clip n) : Nat) : Int)) 1 n := by
  refine (show strSliceIndices lo hi 1 n = sliceRange (clp n lo (0 : Nat)) (clp n hi n) 1 by cases lo <;> cases hi <;> rfl).trans ?_
  rw [idx_part lo n 0 (Nat.zero_le _), idx_part hi n n (Nat.le_refl _)]
  rfl

theorem slice_S (lo hi : Option Int) (l : List Nat) : Txt.slice (S l) lo hi = S (sl lo hi l) := by
  have e3 : ∀ v : Int, clip l.length v ≤ l.length := by intro v; unfold clip; omega
  have ha : lo.elim 0 (clip l.length) ≤ l.length := by cases lo; simp; exact e3 _
  have hb : hi.elim l.length (clip l.length) ≤ l.length := by cases hi; simp; exact e3 _
  have e : Txt.slice (S l) lo hi = StrLaws.sliceText (S l) (some ((lo.elim 0 (clip l.length) : Nat) : Int)) (some ((hi.elim l.length (clip l.length) : Nat) : Int)) := by
    unfold Txt.slice StrLaws.sliceText
    rw [S_len, idx_clip]
  rw [e]
  unfold sl
  generalize lo.elim 0 (clip l.length) = a at *
  generalize hi.elim l.length (clip l.length) = b at *
  by_cases hab : a ≤ b
  · rw [StrLaws.sliceText_nat (S l) hab (by rw [S_len]; exact hb)]
    simp [S]
  · unfold StrLaws.sliceText
    rw [S_len]
    have hz : strSliceIndices (some (a : Int)) (some (b : Int)) 1 l.length = [] := by
      simp only [strSliceIndices, show (1 : Int) > 0 by decide, if_true, sliceRange]
      have q : ¬ (max (0 : Int) (min (if (a : Int) < 0 then (a : Int) + l.length else a) l.length) < max (0 : Int) (min (if (b : Int) < 0 then (b : Int) + l.length else b) l.length)) := by
        rw [if_neg (by omega), if_neg (by omega)]; omega
      rw [if_neg q]
      rfl
    rw [hz, if_neg (by simp; omega)]
    simp [S, show b - a = 0 by omega]

theorem sl_to (k : Nat) (l : List Nat) : sl none (some (k : Int)) l = l.take k := by
  simp only [sl, clip, Option.elim]
  rw [if_neg (by omega)]
  simp [List.take_eq_take_iff]
theorem sl_to_one (l : List Nat) : sl none (some 1) l = l.take 1 := sl_to 1 l
theorem sl_to_two (l : List Nat) : sl none (some 2) l = l.take 2 := sl_to 2 l
theorem sl_from (k : Nat) (l : List Nat) : sl (some (k : Int)) none l = l.drop k := by
  simp only [sl, clip, Option.elim]
  rw [if_neg (by omega)]
  by_cases h : k ≤ l.length
  · rw [show min (Int.toNat (k : Int)) l.length = k by omega, List.take_of_length_le (by simp)]
  · rw [show min (Int.toNat (k : Int)) l.length = l.length by omega]
    rw [List.drop_eq_nil_of_le (by omega), List.drop_eq_nil_of_le (by omega)]
    simp
theorem sl_from_one (l : List Nat) : sl (some 1) none l = l.tail := by rw [← List.drop_one]; exact sl_from 1 l
theorem sl_last (l : List Nat) : sl (some (-1)) none l = l.drop (l.length - 1) := by
  simp only [sl, clip, Option.elim]
  rw [if_pos (by omega)]
  rw [show min (Int.toNat (-1 + (l.length : Int))) l.length = l.length - 1 by omega]
  rw [List.take_of_length_le (by simp)]
theorem sl_init (l : List Nat) : sl none (some (-1)) l = l.dropLast := by
  simp only [sl, clip, Option.elim]
  rw [if_pos (by omega)]
  rw [show min (Int.toNat (-1 + (l.length : Int))) l.length = l.length - 1 by omega]
  simp [List.dropLast_eq_take]
theorem sl_inner (k : Nat) (l : List Nat) : sl (some (k : Int)) (some (-1)) l = (l.drop k).dropLast := by
  simp only [sl, clip, Option.elim]
  rw [if_pos (by omega), if_neg (by omega)]
  rw [show min (Int.toNat (-1 + (l.length : Int))) l.length = l.length - 1 by omega]
  by_cases h : k ≤ l.length
  · rw [show min (Int.toNat (k : Int)) l.length = k by omega]
    rw [List.dropLast_eq_take, List.length_drop]
    congr 1; omega
  · rw [show min (Int.toNat (k : Int)) l.length = l.length by omega]
    rw [List.drop_eq_nil_of_le (Nat.le_refl _), List.drop_eq_nil_of_le (by omega)]
    simp
theorem sl_inner_one (l : List Nat) : sl (some 1) (some (-1)) l = l.tail.dropLast := by rw [← List.drop_one]; exact sl_inner 1 l

theorem sl_toI {v : Int} (h : 0 ≤ v) (l : List Nat) : sl none (some v) l = l.take v.toNat := by
  obtain ⟨n, rfl⟩ := Int.eq_ofNat_of_zero_le h; exact sl_to n l
theorem sl_fromI {v : Int} (h : 0 ≤ v) (l : List Nat) : sl (some v) none l = l.drop v.toNat := by
  obtain ⟨n, rfl⟩ := Int.eq_ofNat_of_zero_le h; exact sl_from n l
theorem sl_innerI {v : Int} (h : 0 ≤ v) (l : List Nat) : sl (some v) (some (-1)) l = (l.drop v.toNat).dropLast := by
  obtain ⟨n, rfl⟩ := Int.eq_ofNat_of_zero_le h; exact sl_inner n l

/-- where a sign stands first -/
noncomputable def fnd (c : Nat) (l : List Nat) : Int := match l.findIdx? (· == c) with | some i => (i : Int) | none => -1

theorem at_S (l : List Nat) (c i : Nat) : StrLaws.At (S l) (S [c]) l.length i ↔ l[i]? = some c := by
  unfold StrLaws.At
  rw [StrLaws.subAt_eq, S_len]
  have e1 : (S l).cps.toList = l := by simp [S]
  have e2 : (S [c]).cps.toList = [c] := by simp [S]
  rw [e1, e2]
  constructor
  · rintro ⟨h1, h2⟩
    simp at h1 h2
    rw [List.getElem?_eq_getElem (by omega)]
    have h3 : l.drop i = l[i] :: l.drop (i + 1) := List.drop_eq_getElem_cons (by omega)
    rw [h3] at h2
    simp only [List.take_succ_cons, List.take_zero] at h2
    exact congrArg some (List.cons.inj h2).1
  · intro h
    obtain ⟨h1, h2⟩ := List.getElem?_eq_some_iff.mp h
    refine ⟨by simp; omega, ?_⟩
    rw [List.drop_eq_getElem_cons h1]
    simp [h2]

theorem find_S (c : Nat) (l : List Nat) : Txt.find (S l) (S [c]) = fnd c l := by
  unfold Txt.find fnd
  rcases StrLaws.occ_head (S l) (S [c]) 1 (Nat.le_refl _) with ⟨h0, h1⟩ | ⟨i, r, h0, h1, h2⟩
  · rw [h0]
    rw [S_len] at h1
    have : l.findIdx? (· == c) = none := by
      rw [List.findIdx?_eq_none_iff]
      intro x hx
      obtain ⟨i, hi⟩ := List.getElem?_of_mem hx
      have := h1 i
      rw [at_S] at this
      simp only [beq_eq_false_iff_ne]
      intro e
      exact this (e ▸ hi)
    rw [this]
  · rw [h0]
    rw [S_len] at h1 h2
    have hi := (at_S _ _ _).mp h1
    have : l.findIdx? (· == c) = some i := by
      rw [List.findIdx?_eq_some_iff_getElem]
      obtain ⟨a, b⟩ := List.getElem?_eq_some_iff.mp hi
      refine ⟨a, by simp [b], fun j hj => ?_⟩
      have := h2 j hj
      rw [at_S] at this
      rw [List.getElem?_eq_getElem (by omega)] at this
      simpa using this
    rw [this]

theorem starts_S (c : Nat) (l : List Nat) : Txt.startswith (S l) (S [c]) = decide (l.head? = some c) := by
  unfold Txt.startswith
  rw [S_len, S_len, StrLaws.subAt_eq, S_len]
  have e1 : (S l).cps.toList = l := by simp [S]
  have e2 : (S [c]).cps.toList = [c] := by simp [S]
  rw [e1, e2]
  cases l with
  | nil => simp
  | cons a r => rw [Bool.eq_iff_iff]; simp
theorem ends_S (c : Nat) (l : List Nat) : Txt.endswith (S l) (S [c]) = decide (l.getLast? = some c) := by
  unfold Txt.endswith
  rw [S_len, S_len, StrLaws.subAt_eq, S_len]
  have e1 : (S l).cps.toList = l := by simp [S]
  have e2 : (S [c]).cps.toList = [c] := by simp [S]
  rw [e1, e2]
  rw [Bool.eq_iff_iff]; rcases List.eq_nil_or_concat l with rfl | ⟨m, a, rfl⟩ <;> simp

theorem item_S {l : List Nat} {i : Nat} {c : Nat} (h : l[i]? = some c) : Txt.item (S l) i = S [c] := by
  have := item_meets (x := S l) (i := (i : Int)) (n := c) (by omega) (by simpa [S] using h)
  rw [this]; rfl

section
variable {prog : Program} {w : World} {A : Around} {E : Value → Shared → Prop} {s : Shared} {value slice : Expr} {l : List Nat} {t : Tok} {h₀ : Heap} {L : Addr} {m : Str → Option Value} {news : List (Addr × Obj)} {Q : Value → Shared → Prop}

theorem slS_ns {j : Int} {uj : Tok} {r : List Nat} (hF : Fr h₀ L s.heap m) (hN : News h₀ L s.heap news) (hr : sl none (some j) l = r) (h : ∀ h' t' k, Fr h₀ L h' m → News h₀ L h' news → Q (.str (S r) t') { s with heap := h', toks := k })
    (hs : subscripted slice false (.str (S l) t) (.ref s.heap.objs.size) = operate [.ref s.heap.objs.size, .str (S l) t] (getItem (.str (S l) t) (.ref s.heap.objs.size)))
    (ht : ∀ r, letTemporaryGo value (.str (S l) t) r = pure ()) (hsz : l.length ≤ 16777216) :
    wpAny (model prog w) A (subscriptTail value slice (.str (S l) t) (.ref s.heap.objs.size)) Q E { s with heap := s.heap.push { cls := .type "slice", data := .fields #[.none, .int j uj, .none] } } :=
  slice_strN_ns hF hN (fun h' t' k F' N' => by rw [slice_S, hr]; exact h h' t' k F' N') hs ht (by rw [S_len, sizeLine_eq]; exact hsz)
theorem slS_sn {i : Int} {ui : Tok} {r : List Nat} (hF : Fr h₀ L s.heap m) (hN : News h₀ L s.heap news) (hr : sl (some i) none l = r) (h : ∀ h' t' k, Fr h₀ L h' m → News h₀ L h' news → Q (.str (S r) t') { s with heap := h', toks := k })
    (hs : subscripted slice false (.str (S l) t) (.ref s.heap.objs.size) = operate [.ref s.heap.objs.size, .str (S l) t] (getItem (.str (S l) t) (.ref s.heap.objs.size)))
    (ht : ∀ r, letTemporaryGo value (.str (S l) t) r = pure ()) (hsz : l.length ≤ 16777216) :
    wpAny (model prog w) A (subscriptTail value slice (.str (S l) t) (.ref s.heap.objs.size)) Q E { s with heap := s.heap.push { cls := .type "slice", data := .fields #[.int i ui, .none, .none] } } :=
  slice_strN_sn hF hN (fun h' t' k F' N' => by rw [slice_S, hr]; exact h h' t' k F' N') hs ht (by rw [S_len, sizeLine_eq]; exact hsz)
theorem slS_ss {i j : Int} {ui uj : Tok} {r : List Nat} (hF : Fr h₀ L s.heap m) (hN : News h₀ L s.heap news) (hr : sl (some i) (some j) l = r) (h : ∀ h' t' k, Fr h₀ L h' m → News h₀ L h' news → Q (.str (S r) t') { s with heap := h', toks := k })
    (hs : subscripted slice false (.str (S l) t) (.ref s.heap.objs.size) = operate [.ref s.heap.objs.size, .str (S l) t] (getItem (.str (S l) t) (.ref s.heap.objs.size)))
    (ht : ∀ r, letTemporaryGo value (.str (S l) t) r = pure ()) (hsz : l.length ≤ 16777216) :
    wpAny (model prog w) A (subscriptTail value slice (.str (S l) t) (.ref s.heap.objs.size)) Q E { s with heap := s.heap.push { cls := .type "slice", data := .fields #[.int i ui, .int j uj, .none] } } :=
  slice_strN_ss hF hN (fun h' t' k F' N' => by rw [slice_S, hr]; exact h h' t' k F' N') hs ht (by rw [S_len, sizeLine_eq]; exact hsz)
/-- a sign of a text at a place -/
theorem itemS {i : Int} {n c : Nat} {u : Tok} (hi : i = n) (hc : l[n]? = some c) (hz : l.length ≤ 16777216) (h : Q (.str (S [c]) s.toks) { s with toks := s.toks + 1 })
    (hs : subscripted slice false (.str (S l) t) (.int i u) = operate [.str (S l) t, .int i u] (getItem (.str (S l) t) (.int i u)))
    (ht : ∀ r, letTemporaryGo value (.str (S l) t) r = pure ()) :
    wpAny (model prog w) A (subscriptTail value slice (.str (S l) t) (.int i u)) Q E s := by
  subst hi
  obtain ⟨hn, _⟩ := List.getElem?_eq_some_iff.mp hc
  refine item_str (fitsSsize_of (N := 9223372036854775808) (by omega) (by omega) (Int.le_refl _)) (by rw [S_len]; omega) (by rw [S_len]; omega) (fun _ => ?_) hs ht
  rw [item_S hc]; exact h
theorem itemD {i : Int} {u : Tok} (h0 : 0 ≤ i) (hn : i < l.length) (hz : l.length ≤ 16777216) (h : Q (.str (S [l.getD i.toNat 0]) s.toks) { s with toks := s.toks + 1 })
    (hs : subscripted slice false (.str (S l) t) (.int i u) = operate [.str (S l) t, .int i u] (getItem (.str (S l) t) (.int i u)))
    (ht : ∀ r, letTemporaryGo value (.str (S l) t) r = pure ()) :
    wpAny (model prog w) A (subscriptTail value slice (.str (S l) t) (.int i u)) Q E s :=
  itemS (n := i.toNat) (c := l.getD i.toNat 0) (by omega) (by simp [List.getD, List.getElem?_eq_getElem (show i.toNat < l.length by omega)]) hz h hs ht
theorem lastD {i : Int} {u : Tok} (hi : i = -1) (hn : l ≠ []) (hz : l.length ≤ 16777216) (h : Q (.str (S [l.getLast hn]) s.toks) { s with toks := s.toks + 1 })
    (hs : subscripted slice false (.str (S l) t) (.int i u) = operate [.str (S l) t, .int i u] (getItem (.str (S l) t) (.int i u)))
    (ht : ∀ r, letTemporaryGo value (.str (S l) t) r = pure ()) :
    wpAny (model prog w) A (subscriptTail value slice (.str (S l) t) (.int i u)) Q E s := by
  subst hi
  have hp : 0 < l.length := List.length_pos_iff.mpr hn
  refine item_str (fitsSsize_of (N := 9223372036854775808) (by omega) (by omega) (Int.le_refl _)) (by rw [S_len]; omega) (by rw [S_len]; omega) (fun _ => ?_) hs ht
  have e : Txt.item (S l) (-1) = S [l.getLast hn] := by
    unfold Txt.item Txt.charAt
    rw [S_len, StrLaws.seqIndex_neg (by omega) (by omega)]
    simp only [Option.bind, S]
    rw [show (-1 + (l.length : Int)).toNat = l.length - 1 by omega]
    have q : (l.toArray)[l.length - 1]? = some (l.getLast hn) := by
      rw [List.getElem?_toArray, List.getElem?_eq_getElem (by omega), List.getLast_eq_getElem]
    rw [q]; rfl
  rw [e]; exact h
theorem findS {c : Nat} {u : Tok} (h : Q (.int (fnd c l) s.toks) { s with toks := s.toks + 1 }) : wpAny (model prog w) A (call (.builtin "str.find") [.str (S l) t, .str (S [c]) u]) Q E s :=
  SC.find (by rw [find_S]; exact h)
theorem startsS {c : Nat} {u : Tok} (h : Q (.bool (decide (l.head? = some c))) s) : wpAny (model prog w) A (call (.builtin "str.startswith") [.str (S l) t, .str (S [c]) u]) Q E s :=
  SC.startswith (by rw [starts_S]; exact h)
theorem endsS {c : Nat} {u : Tok} (h : Q (.bool (decide (l.getLast? = some c))) s) : wpAny (model prog w) A (call (.builtin "str.endswith") [.str (S l) t, .str (S [c]) u]) Q E s :=
  SC.endswith (by rw [ends_S]; exact h)
theorem lenS (hz : l.length ≤ 16777216) (h : Q (.int l.length (s.toks + 1)) { s with toks := s.toks + 1 + 1 }) : wpAny (model prog w) A (call (.builtin "len") [.str (S l) t]) Q E s :=
  len_str (by rw [S_len]; omega) (by rw [S_len]; exact h)
theorem chr_to {i : Int} (n : Nat) (hi : i = n) (hn : n < 1114112)
    (h : Q (.str (S [n]) s.toks) { s with toks := s.toks + 1 }) : wpAny (model prog w) A (call (.builtin "chr") [.int i t]) Q E s := by
  subst hi
  exact chr_of_range (i := (n : Int)) (by omega) (by omega) h
theorem chrI {i : Int} (h0 : 0 ≤ i) (hn : i < 1114112)
    (h : Q (.str (S [i.toNat]) s.toks) { s with toks := s.toks + 1 }) : wpAny (model prog w) A (call (.builtin "chr") [.int i t]) Q E s := chr_of_range (by omega) (by omega) h
theorem ordS (h1 : l.length = 1) (h : Q (.int ((l.getD 0 0 : Nat) : Int) s.toks) { s with toks := s.toks + 1 }) : wpAny (model prog w) A (call (.builtin "ord") [.str (S l) t]) Q E s := by
  match l, h1 with
  | [c], _ => exact P.ord_of_char h
theorem eqS {y : List Nat} {u : Tok} (h : Q (.bool (decide (l = y))) s) : wpAny (model prog w) A (compareOp .Eq (.str (S l) t) (.str (S y) u)) Q E s :=
  eq_str (by rw [beqS]; exact h)
theorem neS {y : List Nat} {u : Tok} (h : Q (.bool (decide (l ≠ y))) s) : wpAny (model prog w) A (compareOp .NotEq (.str (S l) t) (.str (S y) u)) Q E s :=
  ne_str (by rw [bneS, ← decide_not]; exact h)
theorem addS {y : List Nat} {u : Tok} (hz : l.length + y.length ≤ 16777216) (h : ∀ t' tk, Q (.str (S (l ++ y)) t') { s with toks := tk }) : wpAny (model prog w) A (binaryOp .Add (.str (S l) t) (.str (S y) u)) Q E s :=
  add_str (fun t' tk => by rw [S_app]; exact h t' tk) (by rw [S_len, S_len, sizeLine_eq]; exact hz)
theorem constS {x : Str} {k : Nat} {pos : Pos} {env : Env} (e : x = S l) (h : Q (.str (S l) s.toks) { s with toks := s.toks + 1 }) : wpAny (model prog w) A (eval (.Constant (.str x) k pos) env) Q E s :=
  Constant_str (by rw [e]; exact h)
end

/-- the walk rests here -/
noncomputable def Hold (p : Prop) : Prop := p
theorem hold {p : Prop} (h : Hold p) : p := h

section
variable {M : Model} {A : Around} {E : Value → Shared → Prop} {s : Shared} {h₀ : Heap} {L : Addr} {m : Str → Option Value} {news : List (Addr × Obj)} {t : Sem Value} {Q : Value → Shared → Prop}
/-- ways that meet in one text -/
noncomputable def MeetS (h₀ : Heap) (L : Addr) (m : Str → Option Value) (news : List (Addr × Obj)) (s : Shared) (r : List Nat) (v : Value) (s' : Shared) : Prop :=
  ∃ t h' tk, v = .str (S r) t ∧ s' = { s with heap := h', toks := tk } ∧ Fr h₀ L h' m ∧ News h₀ L h' news
theorem joinS (r : List Nat) (_F : Fr h₀ L s.heap m) (_N : News h₀ L s.heap news) (h : wpAny M A t (MeetS h₀ L m news s r) E s)
    (k : ∀ t h' tk, Fr h₀ L h' m → News h₀ L h' news → Q (.str (S r) t) { s with heap := h', toks := tk }) : wpAny M A t Q E s :=
  wpAny_mono h (fun v s' hx => by obtain ⟨t, h', tk, e1, e2, F, N⟩ := hx; subst e1; subst e2; exact k t h' tk F N) fun _ _ x => x
theorem meetS {r r' : List Nat} {u : Tok} {h' : Heap} {tk : Nat} (e : r' = r) (F : Fr h₀ L h' m) (N : News h₀ L h' news) : MeetS h₀ L m news s r (.str (S r') u) { s with heap := h', toks := tk } :=
  ⟨u, h', tk, by rw [e], rfl, F, N⟩
end
end Mine
end
section
open PySem PySem.W PySem.Spec PySem.Calls PyProof.Rows
set_option Elab.async false
set_option maxRecDepth 100000
set_option maxHeartbeats 8000000
namespace Mine

theorem fill (w : World) (h : Heap) : (Mine.hd.heap_39 w.params).In h → (model Challenge.rw_ny0024_01.row.prog w) = (model Challenge.rw_ny0024_01.row.prog w) := by
  k_fill
  exact fun _ => rfl

local macro_rules | `(tactic| walk_at "mine start") => `(tactic| ((have X := Gd.k (by assumption)); (have T := Gd.t (by assumption)); k_dflt (refine' enter2 (by assumption) ?ho ?hcd ?hroom ?hb ?hl ?_ ?c2 ?c3 ?c4 ?c5; (case ho => k_is); (case hcd => k_is); (case hroom => ktr_room); (case hb => kernel_rfl); (case hl => kernel_rfl); (case c2 => exact rfl); (case c3 => exact rfl); (case c4 => exact rfl); (case c5 => decide); k_whole); intro L h₁ tk F N; (simp only [List.map_cons, List.map_nil, List.zip_cons_cons, List.zip_nil_right, List.reverse_cons, List.reverse_nil, List.nil_append, List.cons_append] at F); k_fold))
local macro_rules | `(tactic| walk_at "mine steps") => `(tactic| repeat' (first | (k_unfold; (try dsimp only)) | walk1 | (dsimp only; walk1) | fail "no step"))
local macro_rules | `(tactic| walk_at "mine args") => `(tactic| ((case F => k_asm); (case N => k_asm); (case X => k_asm); (case T => k_asm); (case hh => exact rfl); (case d => ktr_room); (case u => ktr_units); k_whole))
local macro_rules | `(tactic| walk_at "mine keep") => `(tactic| (exact Fr.keep (by assumption)))
local macro_rules | `(tactic| ktr_room) => `(tactic| with_unfolding_all first | exact room1 (by assumption : _ + _ < recursionLimit) (by decide) | exact room0 (by assumption : _ + _ < recursionLimit))
local macro_rules | `(tactic| ktr_units) => `(tactic| with_unfolding_all first | exact units1 (by assumption : _ + _ < cLine) (by decide) | exact units0 (by assumption : _ + _ < cLine) (by decide) | exact units2 (by assumption : _ + _ < cLine) (by decide) | exact units3 (by assumption : _ + _ < cLine) (by decide))

theorem ctoi_int (w) (c : Int) (t : Tok) : Plain w 1 35 [.int c t] (fun _ => .int c t) := by
  intro mean mg mb dp un fr gd s Q E G hC hd hu hret
  walk_at "mine start"
  walk_at "mine steps"
  exact hret _ _ _ (by walk_at "mine keep") ⟨0, rfl⟩

theorem ctoi_str (w) (c : Nat) (t : Tok) : Plain w 1 35 [.str (S [c]) t] (fun t => .int c t) := by
  intro mean mg mb dp un fr gd s Q E G hC hd hu hret
  walk_at "mine start"
  walk_at "mine steps"
  exact hret _ _ _ (by walk_at "mine keep") ⟨_, rfl⟩

local macro_rules | `(tactic| walk_at "call ref") => `(tactic| (k_here; k_dflt (first | (refine' useR (ctoi_str _ _ _) ?F ?N ?X ?T trivial ?hh ?d ?u ?_; walk_at "mine args") | (refine' useR (ctoi_int _ _ _) ?F ?N ?X ?T trivial ?hh ?d ?u ?_; walk_at "mine args")); intro t' h' tk' F' N' st'))

theorem iscntrl_str (w) (c : Nat) (t : Tok) : Plain w 2 42 [.str (S [c]) t] (fun _ => .bool (decide (c ≤ 31 ∨ c = 127))) := by
  intro mean mg mb dp un fr gd s Q E G hC hd hu hret
  walk_at "mine start"
  walk_at "mine steps"
  all_goals (refine hret _ _ _ (by walk_at "mine keep") ⟨0, congrArg Value.bool ?_⟩; rw [Bool.eq_iff_iff]; simp; omega)

theorem isdigit_str (w) (c : Nat) (t : Tok) : Plain w 2 49 [.str (S [c]) t] (fun _ => .bool (decide (48 ≤ c ∧ c ≤ 57))) := by
  intro mean mg mb dp un fr gd s Q E G hC hd hu hret
  walk_at "mine start"
  walk_at "mine steps"
  all_goals (refine hret _ _ _ (by walk_at "mine keep") ⟨0, congrArg Value.bool ?_⟩; rw [Bool.eq_iff_iff]; simp; omega)

theorem isprint_str (w) (c : Nat) (t : Tok) : Plain w 2 56 [.str (S [c]) t] (fun _ => .bool (decide (32 ≤ c ∧ c ≤ 126))) := by
  intro mean mg mb dp un fr gd s Q E G hC hd hu hret
  walk_at "mine start"
  walk_at "mine steps"
  all_goals (refine hret _ _ _ (by walk_at "mine keep") ⟨0, congrArg Value.bool ?_⟩; rw [Bool.eq_iff_iff]; simp; omega)

theorem isprint_int (w) (c : Int) (t : Tok) : Plain w 2 56 [.int c t] (fun _ => .bool (decide (32 ≤ c ∧ c ≤ 126))) := by
  intro mean mg mb dp un fr gd s Q E G hC hd hu hret
  walk_at "mine start"
  walk_at "mine steps"
  all_goals (refine hret _ _ _ (by walk_at "mine keep") ⟨0, congrArg Value.bool ?_⟩; rw [Bool.eq_iff_iff]; simp; omega)

theorem isprint_one (w) (l : List Nat) (h : l.length = 1) (t : Tok) : Plain w 2 56 [.str (S l) t] (fun _ => .bool (decide (32 ≤ l.getD 0 0 ∧ l.getD 0 0 ≤ 126))) := by
  match l, h with
  | [c], _ => exact isprint_str w c t

theorem spaceFin : ∀ k : Fin 33, (([9, 10, 11, 12, 13, 32] : List Int).any fun x => x == ((k.val : Nat) : Int)) = decide ((9 ≤ k.val ∧ k.val ≤ 13) ∨ k.val = 32) := by decide +kernel
theorem space_eq (c : Nat) : (([9, 10, 11, 12, 13, 32] : List Int).any fun x => x == (c : Int)) = decide ((9 ≤ c ∧ c ≤ 13) ∨ c = 32) := by
  rcases Nat.lt_or_ge c 33 with h | h
  · exact spaceFin ⟨c, h⟩
  · rw [decide_eq_false (by omega), List.any_eq_false]
    intro x hx e
    have h1 : x ≤ 32 := of_decide_eq_true (List.all_eq_true.mp (show (([9, 10, 11, 12, 13, 32] : List Int).all fun x => decide (x ≤ 32)) = true by decide) x hx)
    have h2 := eq_of_beq e
    omega
theorem isspace_str (w) (c : Nat) (t : Tok) : Plain w 2 63 [.str (S [c]) t] (fun _ => .bool (decide ((9 ≤ c ∧ c ≤ 13) ∨ c = 32))) := by
  intro mean mg mb dp un fr gd s Q E G hC hd hu hret
  walk_at "mine start"
  walk_at "mine steps"
  all_goals (refine hret _ _ _ (by walk_at "mine keep") ⟨0, congrArg Value.bool ?_⟩; exact space_eq c)

theorem ctrl_str (w) (c : Nat) (t : Tok) : Plain w 2 70 [.str (S [c]) t] (fun t => .str (S [c % 32]) t) := by
  intro mean mg mb dp un fr gd s Q E G hC hd hu hret
  walk_at "mine start"
  walk_at "mine steps"
  refine chr_to (c % 32) (by rw [bitAnd_m5]; omega) (by omega) ?_
  exact hret _ _ _ (by walk_at "mine keep") ⟨_, rfl⟩

theorem ctrl_int (w) (c : Int) (t : Tok) : Plain w 2 70 [.int c t] (fun t => .int (c % 32) t) := by
  intro mean mg mb dp un fr gd s Q E G hC hd hu hret
  walk_at "mine start"
  walk_at "mine steps"
  rw [bitAnd_m5]
  exact hret _ _ _ (by walk_at "mine keep") ⟨_, rfl⟩

theorem or128 (c : Nat) (hc : c < 256) : Builtin.bitOr (c : Int) 128 = (c % 128 + 128 : Nat) := by
  rw [bitOr_and, show (128 : Int) = 2 ^ 7 by decide, kbt_bit]
  omega

theorem alt_str (w) (c : Nat) (hc : c < 256) (t : Tok) : Plain w 2 77 [.str (S [c]) t] (fun t => .str (S [c % 128 + 128]) t) := by
  intro mean mg mb dp un fr gd s Q E G hC hd hu hret
  walk_at "mine start"
  walk_at "mine steps"
  refine chr_to _ (or128 c hc) (by omega) ?_
  exact hret _ _ _ (by walk_at "mine keep") ⟨_, rfl⟩

theorem alt_int (w) (c : Int) (h0 : 0 ≤ c) (hc : c < 256) (t : Tok) : Plain w 2 77 [.int c t] (fun t => .int (c % 128 + 128) t) := by
  intro mean mg mb dp un fr gd s Q E G hC hd hu hret
  walk_at "mine start"
  walk_at "mine steps"
  obtain ⟨n, rfl⟩ := Int.eq_ofNat_of_zero_le h0
  rw [or128 n (by omega)]
  refine hret _ _ _ (by walk_at "mine keep") ⟨_, congrArg (fun x => Value.int x _) ?_⟩
  omega

noncomputable def mark (n : Int) : Nat := if n % 28 ≤ 8 then (n % 28).toNat else if n % 28 = 27 then 127 else (n % 28).toNat + 5
noncomputable def rep (b : Int) : List Nat := if b = 127 then [94, 63] else if 32 ≤ b % 128 ∧ b % 128 ≤ 126 then [(b % 128).toNat] else if b % 128 < 32 then [94, (b % 128).toNat + 64] else [94, 159]
noncomputable def unc (b : Int) : List Nat := if 128 ≤ b % 256 then 33 :: rep b else rep b

local macro_rules | `(tactic| walk_at "call ref") => `(tactic| (k_here; k_dflt (first | (refine' useR (isprint_int _ _ _) ?F ?N ?X ?T trivial ?hh ?d ?u ?_; walk_at "mine args") | (refine' useR (isprint_str _ _ _) ?F ?N ?X ?T trivial ?hh ?d ?u ?_; walk_at "mine args")); intro t' h' tk' F' N' st'))

theorem mark_fin : ∀ k : Fin 28, ((((k.val : Nat) : Int) + 5 * if 8 < ((k.val : Nat) : Int) then 1 else 0) + 95 * if ((k.val : Nat) : Int) = 27 then 1 else 0).toNat =
    if ((k.val : Nat) : Int) ≤ 8 then ((k.val : Nat) : Int).toNat else if ((k.val : Nat) : Int) = 27 then 127 else ((k.val : Nat) : Int).toNat + 5 := by decide +kernel
theorem mark_eq (m : Int) (h0 : 0 ≤ m) (h1 : m < 28) : ((m + 5 * if 8 < m then 1 else 0) + 95 * if m = 27 then 1 else 0).toNat = if m ≤ 8 then m.toNat else if m = 27 then 127 else m.toNat + 5 := by
  obtain ⟨k, rfl⟩ := Int.eq_ofNat_of_zero_le h0
  exact mark_fin ⟨k, Int.ofNat_lt.mp h1⟩
theorem mark_does (w) (n : Int) (t : Tok) : Plain w 1 91 [.int n t] (fun t => .str (S [mark n]) t) := by
  intro mean mg mb dp un fr gd s Q E G hC hd hu hret
  walk_at "mine start"
  walk_at "mine steps"
  refine hret _ _ _ (by walk_at "mine keep") ⟨_, congrArg (fun x => Value.str (S [x]) _) ?_⟩
  have e : n.fmod 28 = n % 28 := by rw [Int.fmod_eq_emod_of_nonneg _ (by omega)]
  simp only [e, mark, decide_eq_true_eq, beq_iff_eq]
  exact mark_eq _ (Int.emod_nonneg n (by decide)) (Int.emod_lt_of_pos n (by decide))

theorem or32 (b : Int) (h : ¬ (32 ≤ b % 128 ∧ b % 128 ≤ 126)) : Builtin.bitOr (Builtin.bitAnd b 127) 32 + 32 = ((if b % 128 < 32 then (b % 128).toNat + 64 else 159 : Nat) : Int) := by
  rw [bitOr_and, bitAnd_m7, show (32 : Int) = 2 ^ 5 by decide, kbt_bit]
  split <;> omega
theorem bit128 (b : Int) : Builtin.bitAnd b 128 = if 128 ≤ b % 256 then 128 else 0 := by
  rw [show (128 : Int) = 2 ^ 7 by decide, kbt_bit]
  split <;> omega

theorem unctrl_does (w) (b : Int) (t : Tok) : Plain w 3 84 [.int b t] (fun t => .str (S (unc b)) t) := by
  intro mean mg mb dp un fr gd s Q E G hC hd hu hret
  walk_at "mine start"
  walk_at "mine steps"
  all_goals (try refine chr_to _ (or32 b (by simp_all [bitAnd_m7])) (by split <;> omega) ?_)
  all_goals walk_at "mine steps"
  all_goals (refine hret _ _ _ (by walk_at "mine keep") ⟨_, congrArg (fun x => Value.str x _) ?_⟩)
  all_goals (simp_all [bitAnd_m7, bit128, unc, rep])
  all_goals (simp only [lit_bang, lit_hat, lit_hatq, S_app, mk_S, List.cons_append, List.nil_append])
  all_goals ((repeat' split) <;> first | rfl | (exfalso; omega))
end Mine
end
section
open PySem PySem.W PySem.Spec PySem.Calls PyProof.Rows
set_option Elab.async false
set_option maxRecDepth 100000
set_option maxHeartbeats 8000000
namespace Mine

/-- a turn's end: what the next turn finds -/
noncomputable def TurnEnd {σ : Type} (h₀ : Heap) (L : Addr) (x : Str) (fp : List Addr) (own : List (Addr × Obj)) (Led : σ → List (Addr × Obj)) (M : σ → Str → Option Value) (J : σ → Prop) (s : Shared) (Q : Flow → Shared → Prop) (f : Flow) (s' : Shared) : Prop :=
  match f with
  | .ret v => Q (.ret v) s'
  | .brk => Q .next s'
  | _ => ∃ c m' h' tk, s' = { s with heap := h', toks := tk } ∧ Fr h₀ L h' m' ∧ News h₀ L h' (Led c ++ own) ∧ (∀ q ∈ Led c, q.1 ∉ fp) ∧ (∀ z, z ≠ x → m' z = M c z) ∧ J c

theorem turnNext {σ : Type} {h₀ : Heap} {L : Addr} {x : Str} {fp : List Addr} {own : List (Addr × Obj)} {Led : σ → List (Addr × Obj)} {M : σ → Str → Option Value} {J : σ → Prop} {s s' : Shared} {Q : Flow → Shared → Prop}
    (c : σ) {m' : Str → Option Value} {h' : Heap} {tk : Nat} (e : s' = { s with heap := h', toks := tk }) (F : Fr h₀ L h' m') (N : News h₀ L h' (Led c ++ own)) (off : ∀ q ∈ Led c, q.1 ∉ fp) (hm : ∀ z, z ≠ x → m' z = M c z) (j : J c) :
    TurnEnd h₀ L x fp own Led M J s Q .next s' := ⟨c, m', h', tk, e, F, N, off, hm, j⟩

theorem mapSet (k x : Str) (v u w : Option Value) (r : Str → Option Value) : ∀ z, z ≠ x → (if z = k then v else if z = x then u else if z = k then w else r z) = if z = k then v else r z := by
  intro z hz
  by_cases hp : z = k
  · simp only [hp, if_true]
  · simp only [if_neg hp, if_neg hz]

section
variable {prog : Program} {w : World} {A : Around} {E : Value → Shared → Prop} {s : Shared} {env : Env} {h₀ : Heap} {x : Str} {body : List Stmt} {Q : Flow → Shared → Prop} {σ : Type} {m₀ : Str → Option Value}

theorem frM {h : Heap} {L : Addr} {m M : Str → Option Value} {v : Value} (F : Fr h₀ L h (fun y => if y = x then some v else m y)) (e : ∀ z, z ≠ x → m z = M z) : Fr h₀ L h (fun y => if y = x then some v else M y) := by
  have em : (fun y => if y = x then some v else M y) = fun y => if y = x then some v else m y := by
    funext y
    by_cases hy : y = x
    · rw [if_pos hy, if_pos hy]
    · rw [if_neg hy, if_neg hy, e y hy]
  rw [em]; exact F
theorem frOut {h : Heap} {L : Addr} {m M : Str → Option Value} (F : Fr h₀ L h m) (e : ∀ z, z ≠ x → m z = M z) : Fr h₀ L h (fun y => if y = x then m y else M y) := by
  have em : (fun y => if y = x then m y else M y) = m := by
    funext y
    by_cases hy : y = x
    · rw [if_pos hy]
    · rw [if_neg hy, e y hy]
  rw [em]; exact F

theorem loopS {I : Addr} {fp wr : List Addr} {n : Nat} {P : Nat → Value → Prop} {St : Nat → Heap → Prop} (W : Walks prog w A I fp wr n P St)
    (Led : σ → List (Addr × Obj)) (M : σ → Str → Option Value) (J : Nat → σ → Prop) (c₀ : σ)
    (hLf : env.locals ∉ fp) (hwr : ∀ b ∈ wr, h₀.get? b = none) (hfp : ∀ q ∈ Led c₀, q.1 ∉ fp) (hst : St 0 s.heap)
    (F : Fr h₀ env.locals s.heap m₀) (N : News h₀ env.locals s.heap (Led c₀)) (hm : ∀ z, z ≠ x → m₀ z = M c₀ z) (hj : J 0 c₀)
    (turn : ∀ i v c h tk own, i < n → P i v → (∀ q ∈ Led c, q.1 ∉ fp) → (∀ p ∈ own, p.1 ∈ fp) → (∀ b ∈ fp, h₀.get? b = none → ∀ o, h.get? b = some o → (b, o) ∈ own) → St (i + 1) h → J i c →
      Fr h₀ env.locals h (fun y => if y = x then some v else M c y) → News h₀ env.locals h (Led c ++ own) →
      wpAny (model prog w) A (execs body env) (TurnEnd h₀ env.locals x fp own Led M (J (i + 1)) { s with heap := h, toks := tk } Q) E { s with heap := h, toks := tk })
    (done : ∀ c m h tk, J n c → (∀ z, z ≠ x → m z = M c z) → Fr h₀ env.locals h m → News h₀ env.locals h (Led c) → Q .next { s with heap := h, toks := tk }) :
    LoopAtV prog w A h₀ env x body Q E (.ref I) s := by
  let J' : Nat → (Str → Option Value) → List (Addr × Obj) → Prop := fun i m₁ news₁ => ∃ c, news₁ = Led c ∧ (∀ q ∈ Led c, q.1 ∉ fp) ∧ (∀ z, z ≠ x → m₁ z = M c z) ∧ J i c
  refine ⟨I, fp, wr, n, P, St, m₀, Led c₀, J', rfl, W, hLf, hwr, (fun p hp h => hfp p hp (W.sub _ h)), hst, F, N, ⟨c₀, rfl, hfp, hm, hj⟩, ?_, ?_⟩
  · rintro i v m₁ news₁ s₁ own ⟨hh', tk', rfl⟩ hin hP ⟨c, rfl, hoff, hm₁, hJ⟩ hnw hown hget hall hst₁ F₁ N₁
    have N₂ : News h₀ env.locals hh' (Led c ++ own) := fun p hp => N₁ p ((List.mem_append.mp hp).elim (fun h => List.mem_append.mpr (.inr h)) fun h => List.mem_append.mpr (.inl h))
    refine wpAny_mono (turn i v c hh' tk' own hin hP hoff hown hall hst₁ hJ (frM F₁ hm₁) N₂) (fun f s₂ p => ?_) fun _ _ e => e
    have fin : (∃ c m' h' tk, s₂ = { s with heap := h', toks := tk } ∧ Fr h₀ env.locals h' m' ∧ News h₀ env.locals h' (Led c ++ own) ∧ (∀ q ∈ Led c, q.1 ∉ fp) ∧ (∀ z, z ≠ x → m' z = M c z) ∧ J (i + 1) c) →
        LoopStepU h₀ env.locals wr own (J' (i + 1)) { s with heap := hh', toks := tk' } .next s₂ := by
      rintro ⟨c', m', h', tk, rfl, F', N', hf', hm', hJ'⟩
      refine ⟨rfl, h', tk, m', Led c', rfl, F', fun p hp => N' p ((List.mem_append.mp hp).elim (fun h => List.mem_append.mpr (.inr h)) fun h => List.mem_append.mpr (.inl h)), fun p hp h => hf' p hp (W.sub _ h), c', rfl, hf', hm', hJ'⟩
    cases f with
    | ret v => exact .ret p
    | brk => exact .brk p
    | next => exact .next (fin p)
    | cont => exact .cont (fin p)
  · rintro h' tk m' news' F' N' _ ⟨c, rfl, _, hm', hJ⟩
    exact done c m' h' tk hJ hm' F' N'

/-- a loop over a text's signs -/
theorem loopText (Led : σ → List (Addr × Obj)) (M : σ → Str → Option Value) (J : List Nat → σ → Prop) (c₀ : σ) {l : List Nat} {tx : Tok} {L : Addr}
    (hh : A.handled = none) (F : Fr h₀ L s.heap m₀) (N : News h₀ L s.heap (Led c₀)) (hL : env.locals = L) (hm : ∀ z, z ≠ x → m₀ z = M c₀ z) (hj : J [] c₀)
    (turn : ∀ pre n post t c h tk I own, l = pre ++ n :: post → (∀ q ∈ Led c, q.1 ≠ I) → (∀ p ∈ own, p.1 = I) → J pre c →
      Fr h₀ L h (fun y => if y = x then some (.str (S [n]) t) else M c y) → News h₀ L h (Led c ++ own) →
      wpAny (model prog w) A (execs body env) (TurnEnd h₀ L x [I] own Led M (J (pre ++ [n])) { s with heap := h, toks := tk } Q) E { s with heap := h, toks := tk })
    (done : ∀ c m h tk, J l c → (∀ z, z ≠ x → m z = M c z) → Fr h₀ L h m → News h₀ L h (Led c) → Q .next { s with heap := h, toks := tk }) :
    wpAny (model prog w) A (pyIter (.str (S l) tx)) (fun it s₂ => LoopAtV prog w A h₀ env x body Q E it s₂) E s := by
  subst hL
  refine wpAny_pyIter_str fun o St hW hst => ?_
  refine loopS (m₀ := m₀) (hW A hh) Led M (fun i c => J (l.take i) c) c₀ ?_ ?_ ?_ hst (F.push _) (fun p hp => ⟨Heap.get?_push_of_some _ (N p hp).1, (N p hp).2⟩) hm (by simpa using hj) ?_ ?_
  · intro hm
    exact absurd F.ns.lt ((List.mem_singleton.mp hm) ▸ Nat.lt_irrefl _)
  · intro b' hb
    rw [List.mem_singleton.mp hb]
    exact next_is_new F
  · intro p hp hI
    exact absurd (Heap.lt_size (N p hp).1) ((List.mem_singleton.mp hI) ▸ Nat.lt_irrefl _)
  · rintro i v c h tk own hi ⟨n, u, hn, rfl⟩ hoff hown _ _ hJ F₁ N₁
    have hn' : l[i]? = some n := by simpa [S] using hn
    obtain ⟨hlt, hg⟩ := List.getElem?_eq_some_iff.mp hn'
    have hs : l.take (i + 1) = l.take i ++ [n] := by rw [List.take_add_one, hn']; rfl
    have e : l = l.take i ++ n :: l.drop (i + 1) := by
      have ht := List.take_append_drop (i + 1) l
      rw [hs, List.append_assoc] at ht
      exact ht.symm
    rw [hs]
    exact turn _ n _ u c h tk _ own e (fun q hq hI => hoff q hq (List.mem_singleton.mpr hI)) (fun p hp => List.mem_singleton.mp (hown p hp)) hJ F₁ N₁
  · intro c m h tk hJ hm' F' N'
    have hl : (S l).cps.size = l.length := by simp [S]
    rw [hl, List.take_length] at hJ
    exact done c m h tk hJ hm' F' N'

/-- a loop over a list's items -/
theorem loopList (Led : σ → List (Addr × Obj)) (M : σ → Str → Option Value) (J : List Value → σ → Prop) (c₀ : σ) {a : Addr} {vs : List Value} {L : Addr}
    (hh : A.handled = none) (hl : s.heap.IsList a vs.toArray) (hne : a ≠ L) (ha : ∀ q ∈ Led c₀, q.1 ≠ a) (F : Fr h₀ L s.heap m₀) (N : News h₀ L s.heap (Led c₀)) (hL : env.locals = L) (hm : ∀ z, z ≠ x → m₀ z = M c₀ z) (hj : J [] c₀)
    (turn : ∀ pre v post c h tk I own, vs = pre ++ v :: post → (∀ q ∈ Led c, q.1 ∉ [I, a]) → (∀ p ∈ own, p.1 ∈ [I, a]) → (∀ b ∈ [I, a], h₀.get? b = none → ∃ o, (b, o) ∈ own) → h₀.get? I = none → J pre c →
      Fr h₀ L h (fun y => if y = x then some v else M c y) → News h₀ L h (Led c ++ own) →
      wpAny (model prog w) A (execs body env) (TurnEnd h₀ L x [I, a] own Led M (J (pre ++ [v])) { s with heap := h, toks := tk } Q) E { s with heap := h, toks := tk })
    (done : ∀ c m h tk, J vs c → (∀ z, z ≠ x → m z = M c z) → Fr h₀ L h m → News h₀ L h (Led c) → Q .next { s with heap := h, toks := tk }) :
    wpAny (model prog w) A (pyIter (.ref a)) (fun it s₂ => LoopAtV prog w A h₀ env x body Q E it s₂) E s := by
  subst hL
  obtain ⟨ol, hol, _⟩ := id hl
  have hlt : a < s.heap.objs.size := Heap.lt_size hol
  have hnI : a ≠ s.heap.objs.size := Nat.ne_of_lt hlt
  refine wpAny_pyIter_list hl ?_
  have W := Walks.list (prog := prog) (w := w) hh s.heap.objs.size a hnI vs.toArray
  refine loopS (m₀ := m₀) W Led M (fun i c => J (vs.take i) c) c₀ ?_ ?_ ?_ ⟨⟨_, Heap.get?_push_size _ rfl, rfl, rfl⟩, hl.at fun o e => Heap.get?_push_of_some _ e⟩ (F.push _) (fun p hp => ⟨Heap.get?_push_of_some _ (N p hp).1, (N p hp).2⟩) hm (by simpa using hj) ?_ ?_
  · intro hm
    rcases List.mem_cons.mp hm with e | hm
    · exact absurd F.ns.lt (e ▸ Nat.lt_irrefl _)
    · exact hne (List.mem_singleton.mp hm).symm
  · intro b hb
    rw [List.mem_singleton.mp hb]
    exact next_is_new F
  · intro p hp hI
    rcases List.mem_cons.mp hI with e | hm
    · exact absurd (Heap.lt_size (N p hp).1) (e ▸ Nat.lt_irrefl _)
    · exact ha p hp (List.mem_singleton.mp hm)
  · rintro i v c h tk own hi hv hoff hown hall hst hJ F₁ N₁
    have hn' : vs[i]? = some v := by simpa using hv
    have hs : vs.take (i + 1) = vs.take i ++ [v] := by rw [List.take_add_one, hn']; rfl
    have e : vs = vs.take i ++ v :: vs.drop (i + 1) := by
      have ht := List.take_append_drop (i + 1) vs
      rw [hs, List.append_assoc] at ht
      exact ht.symm
    rw [hs]
    refine turn _ v _ c h tk _ own e hoff hown (fun b hb hb0 => ?_) (next_is_new F) hJ F₁ N₁
    rcases List.mem_cons.mp hb with e | hb'
    · obtain ⟨⟨o, ho, _⟩, _⟩ := hst
      exact ⟨o, hall b hb hb0 o (e ▸ ho)⟩
    · obtain ⟨_, ⟨o, ho, _⟩⟩ := hst
      exact ⟨o, hall b hb hb0 o (List.mem_singleton.mp hb' ▸ ho)⟩
  · intro c m h tk hJ hm' F' N'
    rw [List.size_toArray, List.take_length] at hJ
    exact done c m h tk hJ hm' F' N'
end
end Mine
end
section
open PySem PySem.W PySem.Spec PySem.Calls PyProof.Rows
set_option Elab.async false
set_option maxRecDepth 100000
set_option maxHeartbeats 8000000
namespace Mine
section
variable {prog : Program} {w : World} {A : Around} {E : Value → Shared → Prop} {s : Shared}

theorem adjust_two : Builtin.Slice.sliceAdjust none (some (2 : Int)) 1 ((3 : Nat) : Int) = ((0 : Int), (2 : Int)) := by decide +kernel
theorem places_two : Builtin.Slice.slicePlaces (0 : Int) (2 : Int) 1 = 2 := by decide +kernel

theorem sliceTwo {sl : Addr} {u : Tok} {Q : Int × Int × Nat → Shared → Prop} (hs : s.heap.IsSliceOf sl .none (.int 2 u) .none) (h : Q ((0 : Int), 1, 2) s) :
    wpAny (model prog w) A (Builtin.Slice.sliceApplied (.ref sl) (pure ((3 : Nat) : Int))) Q E s := by
  obtain ⟨os, hos, hcs, hds⟩ := id hs
  unfold Builtin.Slice.sliceApplied Builtin.Slice.sliceFields
  refine wpAny_bind (wpAny_bind (wpAny_field hos hds (x := .none) rfl (wpAny_bind (wpAny_field hos hds (x := .int 2 u) rfl (wpAny_bind (wpAny_field hos hds (x := .none) rfl (wpAny_pure ?_)))))))
  refine wpAny_bind (slicePart_none ?_)
  show wpAny _ _ (if ((1 : Int) == 0) = true then _ else _) _ _ s
  rw [if_neg (by decide)]
  refine wpAny_bind (slicePart_none (wpAny_bind (slicePart_int (wpAny_bind (wpAny_pure ?_)))))
  show wpAny _ _ (match Builtin.Slice.sliceAdjust none (some (2 : Int)) 1 ((3 : Nat) : Int) with | (lo, hi) => pure (lo, (1 : Int), Builtin.Slice.slicePlaces lo hi 1)) _ _ s
  rw [adjust_two]
  show wpAny _ _ (pure ((0 : Int), (1 : Int), Builtin.Slice.slicePlaces (0 : Int) (2 : Int) 1)) _ _ s
  rw [places_two]
  exact wpAny_pure h

theorem getItem_two {t sl : Addr} {x y z : Value} {u : Tok} {Q : Value → Shared → Prop} (ht : IsTup s.heap t #[x, y, z]) (hs : s.heap.IsSliceOf sl .none (.int 2 u) .none)
    (h : Q (.ref s.heap.objs.size) { s with heap := s.heap.push { cls := .type "tuple", data := .seq #[x, y] } }) : wpAny (model prog w) A (getItem (.ref t) (.ref sl)) Q E s := by
  have hdrop : sizeOk (.seq #[x, y]) := by
    show (#[x, y] : Array Value).size ≤ sizeLine
    rw [sizeLine_eq]; simp
  obtain ⟨os, hos, hcs, hds⟩ := id hs
  have hTs : s.TypeIs (.ref sl) "slice" := ⟨os, hos, hcs⟩
  unfold getItem
  try with_reducible refine wpAny_holding ?_
  first | refine wpAny_bind (wpAny_pure ?_) | skip
  refine wpAny_bind (wpAny_sequenceKey ht.typeIs (by decide) ?_)
  refine wpAny_bind (wpAny_callSpecial?_slot (name := Str.ofString "__getitem__") ht.typeIs slot_tuple_getitem
    (wpAny_call_entry slot_tuple_getitem ht.typeIs entry_tuple_getitem ?_ (args_tuple_getitem _ _)))
  show wpAny _ _ (Builtin.Tuple.tupleItemsOf (.ref t) >>= _) _ _ s
  refine wpAny_bind (tupleItemsOf_ ht ?_)
  refine wpAny_bind (wpAny_typeOf hTs ?_)
  rw [if_pos (by decide)]
  refine wpAny_bind (sliceTwo hs ?_)
  show wpAny _ _ (if ((0 : Int) == 0 && (1 : Int) == 1 && (2 : Nat) == 3) = true then _ else _) _ _ s
  rw [if_neg (by decide)]
  show wpAny _ _ (Builtin.Tuple.tupleExact #[x, y] >>= _) _ _ s
  first
    | exact wpAny_bind (m := Builtin.Tuple.tupleExact _) (wpAny_newObj_type (wpAny_pure ⟨_, rfl, wpAny_pure h⟩) hdrop)
    | exact wpAny_bind (m := Builtin.Tuple.tupleExact _) (wpAny_newObj_type (wpAny_bind (wpAny_pure (wpAny_pure ⟨_, rfl, wpAny_pure h⟩))) hdrop)
    | exact wpAny_bind (wpAny_bind (m := Builtin.Tuple.tupleExact _) (wpAny_newObj_type (wpAny_pure (wpAny_pure ⟨_, rfl, wpAny_pure h⟩)) hdrop))
    | exact wpAny_bind (wpAny_bind (m := Builtin.Tuple.tupleExact _) (wpAny_newObj_type (wpAny_pure ⟨_, rfl, wpAny_pure h⟩) hdrop))

theorem sliceTup2 {value slice : Expr} {t : Addr} {x y z : Value} {u : Tok} {Q : Value → Shared → Prop} {h₀ : Heap} {L : Addr} {m : Str → Option Value} {news : List (Addr × Obj)}
    (F : Fr h₀ L s.heap m) (N : News h₀ L s.heap news) (ht : IsTup s.heap t #[x, y, z])
    (h : ∀ D h', Fr h₀ L h' m → News h₀ L h' ((D, { cls := .type "tuple", data := .seq #[x, y] }) :: news) → (∀ p ∈ news, p.1 < D) → Q (.ref D) { s with heap := h' })
    (hs : subscripted slice false (.ref t) (.ref s.heap.objs.size) = operate [.ref s.heap.objs.size, .ref t] (getItem (.ref t) (.ref s.heap.objs.size)))
    (hg : ∀ r, letTemporaryGo value (.ref t) r = pure ()) :
    wpAny (model prog w) A (subscriptTail value slice (.ref t) (.ref s.heap.objs.size)) Q E { s with heap := s.heap.push { cls := .type "slice", data := .fields #[.none, .int 2 u, .none] } } := by
  have ht' : IsTup (s.heap.push { cls := .type "slice", data := .fields #[.none, .int 2 u, .none] }) t #[x, y, z] := ht.keeps fun _ _ e => Heap.get?_push_of_some _ e
  refine subscriptTail_ops (s := { s with heap := s.heap.push { cls := .type "slice", data := .fields #[.none, .int 2 u, .none] } }) ht'.typeIs slot_tuple_getitem.lookup
    (getItem_two ht' (Heap.IsSliceOf.new ..) ?_) hs hg
  have N1 := News.push (F.push { cls := .type "slice", data := .fields #[.none, .int 2 u, .none] }) (N.grown fun _ _ e => Heap.get?_push_of_some _ e) { cls := .type "tuple", data := .seq #[x, y] }
  exact h _ _ ((F.push _).push _) N1 (fun p hp => by have := Heap.lt_size (N p hp).1; rw [Heap.size_push]; exact Nat.lt_succ_of_lt this)

theorem eqS_at (A : Around) (s : Shared) (x y : List Nat) (t u : Tok) : SeqAt.EqAt A s (.str (S x) t) (.str (S y) u) (decide (x = y)) := by
  have := (eqGives_str (S x) (S y) t u).at A s
  rw [beqS] at this
  exact this
theorem eqI_at (A : Around) (s : Shared) (x y : Int) (t u : Tok) : SeqAt.EqAt A s (.int x t) (.int y u) (decide (x = y)) := by
  have := (MeetsSeq.EqGives.int x y t u).at A s
  rw [show (x == y) = decide (x = y) by rw [Bool.eq_iff_iff]; simp] at this
  exact this
theorem two_at {A : Around} {x y : List Nat} {i j : Int} {t u t' u' : Tok} : ∀ k (h1 : k < (#[.str (S x) t, .int i u] : Array Value).size) (h2 : k < (#[.str (S y) t', .int j u'] : Array Value).size),
    SeqAt.EqAt A s (#[.str (S x) t, .int i u] : Array Value)[k] (#[.str (S y) t', .int j u'] : Array Value)[k] (if k = 0 then decide (x = y) else decide (i = j)) := by
  intro k h1 h2
  match k, h1 with
  | 0, _ => exact eqS_at _ _ _ _ _ _
  | 1, _ => exact eqI_at _ _ _ _ _ _
theorem eqTup2 {l b : Addr} {x y : List Nat} {i j : Int} {t u t' u' : Tok} {Q : Value → Shared → Prop} (hl : IsTup s.heap l #[.str (S x) t, .int i u]) (hb : IsTup s.heap b #[.str (S y) t', .int j u']) (hu : A.units < cLine)
    (h : Q (.bool (decide (x = y ∧ i = j))) s) : wpAny (model prog w) A (compareOp .Eq (.ref l) (.ref b)) Q E s := by
  refine SeqAt.eq_tupleAt hl hb hu two_at ?_
  have e : ((List.range (min (#[Value.str (S x) t, .int i u] : Array Value).size (#[Value.str (S y) t', .int j u'] : Array Value).size)).all (fun k => if k = 0 then decide (x = y) else decide (i = j)) && (#[Value.str (S x) t, .int i u] : Array Value).size == (#[Value.str (S y) t', .int j u'] : Array Value).size) = decide (x = y ∧ i = j) := by
    show ((List.range 2).all (fun k => if k = 0 then decide (x = y) else decide (i = j)) && true) = _
    simp [List.range_succ, Bool.decide_and]
  rw [e]; exact h
theorem neTup2 {l b : Addr} {x y : List Nat} {i j : Int} {t u t' u' : Tok} {Q : Value → Shared → Prop} (hl : IsTup s.heap l #[.str (S x) t, .int i u]) (hb : IsTup s.heap b #[.str (S y) t', .int j u']) (hu : A.units < cLine)
    (h : Q (.bool (decide (¬ (x = y ∧ i = j)))) s) : wpAny (model prog w) A (compareOp .NotEq (.ref l) (.ref b)) Q E s := by
  refine SeqAt.RcNeAt.tuples hl hb hu two_at prog w E Q ?_
  have e : (!((List.range (min (#[Value.str (S x) t, .int i u] : Array Value).size (#[Value.str (S y) t', .int j u'] : Array Value).size)).all (fun k => if k = 0 then decide (x = y) else decide (i = j)) && (#[Value.str (S x) t, .int i u] : Array Value).size == (#[Value.str (S y) t', .int j u'] : Array Value).size)) = decide (¬ (x = y ∧ i = j)) := by
    show (!((List.range 2).all (fun k => if k = 0 then decide (x = y) else decide (i = j)) && true)) = _
    rw [decide_not]
    simp [List.range_succ, Bool.decide_and]
  rw [e]; exact h
end
end Mine
end
section
open PySem PySem.W PySem.Spec PySem.Calls PyProof.Rows
open PySem.Builtin PySem.Builtin.Str
set_option Elab.async false
set_option maxRecDepth 100000
set_option maxHeartbeats 8000000
namespace Mine
/-- the figures of a number -/
noncomputable def decN (n : Nat) : List Nat := (Str.ofString (toString (n : Int))).cps.toList
/-- a line as %d writes it -/
noncomputable def decZ (n : Int) : List Nat := if n < 0 then 45 :: decN n.natAbs else decN n.natAbs

theorem int_textZ (c : Percent) (h1 : c.alt = false) (h2 : c.type = 100) (h3 : c.prec = none) (n : Int) : percentInt c (decide (n < 0)) (decN n.natAbs) = decZ n := by
  unfold percentInt decZ
  by_cases h : n < 0 <;> simp [h1, h2, h3, h]

theorem decN_len {n : Nat} (h : n < 10 ^ 100) : (decN n).length ≤ 100 := by
  have := toString_length_le (v := (n : Int)) (by omega) (k := 100) (by decide) (by omega)
  unfold decN
  rw [Array.length_toList]
  exact this
theorem decZ_len {n : Int} (h : n.natAbs < 10 ^ 100) : (decZ n).length ≤ 101 := by
  have := decN_len h
  unfold decZ; split <;> simp <;> omega

theorem after_intZ {M : Model} {A : Around} {E : Value → Shared → Prop} {s : Shared} {l : List Nat} {p : List Value} {r : List Nat}
    {f : Nat → List Value × Writer × List Nat → Sem (ForInStep (List Value × Writer × List Nat))} {Q : List Value × Writer × List Nat → Shared → Prop}
    {w : Writer} {T : PySem.Str} {N : Nat} {o : Option Value} {c : Percent} {n : Int} {d : List Nat} (g : KPc.Good w T N) (h1 : c.alt = false) (h2 : c.type = 100) (h3 : c.prec = none) (hm : n.natAbs < 10 ^ 100)
    (hd : d = (PySem.Str.ofString (toString ((n.natAbs : Nat) : Int))).cps.toList) (ho : o = none) (h : ∀ w', KPc.Good w' (T ++ S (decZ n)) (N + 101) → wpAny M A (forIn l (p, w', r) f) Q E s) :
    wpAny M A (forIn l (p, w.add ⟨(percentInt c (decide (n < 0)) d).toArray⟩ o, r) f) Q E s := by
  rw [hd]
  have e := int_textZ c h1 h2 h3 n
  unfold decN at e
  rw [e]
  have := KPc.after_str (y := S (decZ n)) (l := l) (p := p) (r := r) (f := f) (Q := Q) (M := M) (A := A) (E := E) (s := s) (K := 101) (o := o) g (by rw [S_len]; exact decZ_len hm) (KPc.obj_none ho) h
  exact this

local macro_rules | `(tactic| kpt_piece) => `(tactic| (refine after_intZ (by kpc_g) rfl rfl rfl (by assumption) rfl (by kpc_none) ?_; intro _ _))
local macro_rules | `(tactic| kpt_hd) => `(tactic| assumption)

theorem std_meets (b : Addr) (wh nm : Str) (ln : Int) (t t1 t2 t3 : Tok) (h1 : wh.length ≤ 1000000) (h2 : nm.length ≤ 1000000) (h3 : ln.natAbs < 10 ^ 100) (h4 : ln.natAbs.log2 < 1920) :
    Meets («str.__mod__» ⟨[.str (Str.mk #[37, 115, 58, 37, 100, 40, 37, 115, 41]) t, .ref b], []⟩)
      (fun _ R s => IsTup s.heap b #[.str wh t1, .int ln t2, .str nm t3] ∧ ∀ t' k, R (.ok (.ret (.str (wh ++ Str.ofString ":" ++ S (decZ ln) ++ Str.ofString "(" ++ nm ++ Str.ofString ")") t'))) { s with toks := k }) := by
  kpt_run

theorem brace_meets (t u : Tok) (z : Str) (hz : z.length ≤ 1000000) : Meets («str.__mod__» ⟨[.str (Str.mk #[123, 37, 115, 125]) t, .str z u], []⟩) (fun _ R s => ∀ t' k, R (.ok (.ret (.str (Str.ofString "{" ++ z ++ Str.ofString "}") t'))) { s with toks := k }) := by
  kpc_run_s

section
variable {prog : Program} {w : World} {A : Around} {E : Value → Shared → Prop} {s : Shared} {t u : Tok} {Q : Value → Shared → Prop}
theorem log_small {n : Int} (h : n.natAbs < 10 ^ 100) : n.natAbs.log2 < 1920 := by
  rcases Nat.eq_zero_or_pos n.natAbs with h0 | h0
  · rw [h0]; decide
  · exact (Nat.log2_lt (by omega)).mpr (Nat.lt_of_lt_of_le h (by decide +kernel))
theorem stdMod {b : Addr} {wh nm : List Nat} {ln : Int} {t1 t2 t3 : Tok} (ht : IsTup s.heap b #[.str (S wh) t1, .int ln t2, .str (S nm) t3]) (h1 : wh.length ≤ 1000000) (h2 : nm.length ≤ 1000000) (h3 : ln.natAbs < 10 ^ 100)
    (h : ∀ t' k, Q (.str (S (wh ++ 58 :: (decZ ln ++ 40 :: (nm ++ [41])))) t') { s with toks := k }) :
    wpAny (model prog w) A (binaryOp .Mod (.str (S [37, 115, 58, 37, 100, 40, 37, 115, 41]) t) (.ref b)) Q E s := by
  have hT : s.TypeIs (.ref b) "tuple" := by
    obtain ⟨o, ho, hc, _⟩ := ht
    exact ⟨o, ho, hc⟩
  refine KPt.bin_left (T := "str") (U := "tuple") (op := .Mod) (by decide) (typeIs_str s _ t) hT F.fills_str_mod KPt.fills_tuple F.slot_str_mod
    (call_meets F.slot_str_mod (typeIs_str s _ t) F.entry_str_mod (F.args_str_mod_2 _ _) (std_meets b (S wh) (S nm) ln t t1 t2 t3 (by rw [S_len]; exact h1) (by rw [S_len]; exact h2) h3 (log_small h3)) ⟨ht, fun t' k => ⟨(fun e => nomatch e), ?_⟩⟩)
  have e : S wh ++ Str.ofString ":" ++ S (decZ ln) ++ Str.ofString "(" ++ S nm ++ Str.ofString ")" = S (wh ++ 58 :: (decZ ln ++ 40 :: (nm ++ [41]))) := by
    rw [lit_colon, lit_lp, lit_rp]
    simp only [S_app, List.append_assoc, List.cons_append, List.nil_append]
  rw [e]
  exact h t' k
theorem braceMod {x : List Nat} (hx : x.length ≤ 1000000) (h : ∀ t' k, Q (.str (S (123 :: (x ++ [125]))) t') { s with toks := k }) :
    wpAny (model prog w) A (binaryOp .Mod (.str (S [123, 37, 115, 125]) t) (.str (S x) u)) Q E s := by
  refine KPc.mod_str (X' := Str.mk #[123, 37, 115, 125]) (T := fun z => Str.ofString "{" ++ z ++ Str.ofString "}") rfl (by rw [S_len]; exact hx) (fun z hz => brace_meets t u z hz) (fun t' k => ?_)
  have e : Str.ofString "{" ++ S x ++ Str.ofString "}" = S (123 :: (x ++ [125])) := by
    rw [lit_lb, lit_rb]
    simp only [S_app, List.append_assoc, List.cons_append, List.nil_append]
  rw [e]
  exact h t' k
end
end Mine
end
section
open PySem PySem.W PySem.Spec PySem.Calls PyProof.Rows
set_option Elab.async false
set_option maxRecDepth 100000
set_option maxHeartbeats 8000000
namespace Mine
theorem enterC {w : World} {mean : ExcName → Option Value} {mg mb : Str → Option Value} {A : Around} {s : Shared} {Q E : Value → Shared → Prop} {f : Addr} {vs : List Value}
    {name qual : Str} {params : Arguments} {body : List Stmt} {scope : Scope} {dV kV doc pm cdv ct oc : Value} {an od : Option Addr} {osl : Array (Option Value)}
    (G : Gd w mean mg mb s.heap)
    (ho : (Mine.hd.heap_39 w.params).lookup f = some ⟨oc, od, .func (fnOf name qual params body scope dV kV doc pm an cdv ct), osl⟩)
    (hcd : codeIn (Mine.hd.heap_39 w.params) cdv qual = true) (hroom : A.depth < recursionLimit)
    (hbind : bindArgs (fnOf name qual params body scope dV kV doc pm an cdv ct) ⟨vs, []⟩ = pure ((params.args.map (·.arg)).zip vs))
    (hkind : (((params.args.map (·.arg)).zip vs).all fun y => scope.names.lookup y.1 == some .local || scope.names.lookup y.1 == some .cell) = true)
    (hnd : ((cellsFrom 0 scope.names []).map (·.1)).Nodup)
    (h : ∀ L h₁ tk cells, Fr s.heap L h₁ (bindL (envOfC qual scope L f cdv).kindOf ((params.args.map (·.arg)).zip vs) fun _ => none) → News s.heap L h₁ cells →
      CellsAre (bindC (envOfC qual scope L f cdv).kindOf ((params.args.map (·.arg)).zip vs) fun _ => none) (cellsFrom (L + 1) scope.names []) cells →
      wpAny (model Challenge.rw_ny0024_01.row.prog w) (A.deeper (envOfC qual scope L f cdv)) (execs body (envOfC qual scope L f cdv))
        (fun fl s' => Q (match fl with | .ret v => v | _ => .none) s') (fun _ _ => False) { s with heap := h₁, toks := tk })
    (hco : scope.isCoroutine = false) (hgen : scope.isGenerator = false) (hk : scope.kind = .function) :
    wpAny (model Challenge.rw_ny0024_01.row.prog w) A (call (.ref f) vs) Q E s := by
  refine wpAny_call ?_
  refine codeAny_call_function (fd := fnOf name qual params body scope dV kV doc pm an cdv ct) hroom (G.k _ _ ho) rfl hco hgen rfl (codeRec_of G.k hcd) (BindsTo.of_eq hbind _ _ _ _ ?_)
  refine wpAny_newFunctionEnv_cells hk (kindsX hkind _) fun env' he s' x => ?_
  subst he
  refine ⟨G.t.nolimit.keeps x.toInCall.keep, codeAny_func ?_⟩
  obtain ⟨h₁, tk, rfl, _⟩ := x.done
  have hk₁ := x.toInCall.keep
  obtain ⟨cells, NC, Y⟩ := Cl.news (h₀ := s.heap) (Nat.le_refl _) fun n c hm => ⟨x.cell n c (lookup_of_mem_nodup (cellsFrom_names scope.names 0 (s.heap.objs.size + 1) [] [] rfl ▸ hnd) hm), x.above n c hm⟩
  exact wpAny_mono (h s.heap.objs.size h₁ tk cells ⟨x.toInCall.ns, hk₁, Nat.le_refl _⟩ NC Y) (fun fl s' hl => hl) fun _ _ x => x.elim
end Mine
end
section
open PySem PySem.W PySem.Spec PySem.Calls PyProof.Rows
open LCg LCt
set_option Elab.async false
set_option maxRecDepth 100000
set_option maxHeartbeats 8000000
namespace Mine
section
variable {prog : Program} {w : World} {A : Around} {E : Value → Shared → Prop} {s : Shared} {h₀ : Heap} {L : Addr} {m : Str → Option Value} {env : Env}

theorem compEnd_mono {s₁ s₂ : Shared} {I C D : Addr} {oI oC oD : Obj} {S : List (Addr × Obj) → Prop} {r r' : Value → List (Addr × Obj) → Prop} {y : Value}
    (h : CompEnd h₀ L m s₁ I oI C oC D oD S r y s₂) (k : ∀ y n, r y n → r' y n) : CompEnd h₀ L m s₁ I oI C oC D oD S r' y s₂ := by
  obtain ⟨h', tk, news', e, F, N, off, hS, hr⟩ := h
  exact ⟨h', tk, news', e, F, N, off, hS, k _ _ hr⟩

/-- a comprehension without a test, by an invariant -/
theorem restU {elt : Expr} {x : Str} {scope : Scope} {cl : List (Str × Addr)} {S : List (Addr × Obj) → Prop} {P : Nat → Value → Prop} {Fin : List Value → List (Addr × Obj) → Prop} (n : Nat)
    (Inv : Nat → List Value → List (Addr × Obj) → Prop)
    (step : ∀ i ys news v I oI C oC D m₂ h tk (E' : Value → Shared → Prop), i < n → Inv i ys news → P i v → NsObj oC m₂ → m₂ x = some v → Fr h₀ L h m → News h₀ L h ((I, oI) :: (C, oC) :: (D, lst ys) :: news) → Off3 I C D news → ((@Ne Nat I C) ∧ (@Ne Nat I D) ∧ (@Ne Nat C D)) →
      wpAny (model prog w) A (eval elt (compEnvC scope cl C env)) (CompEnd h₀ L m { s with heap := h, toks := tk } I oI C oC D (lst ys) S (fun y news' => Inv (i + 1) (ys ++ [y]) news')) E' { s with heap := h, toks := tk })
    (fin : ∀ ys news, Inv n ys news → Fin ys news) :
    ∀ k i ys news, i + k = n → Inv i ys news → CompRest prog w A h₀ L m env elt x scope cl s S P Fin k i ys news := by
  intro k
  induction k with
  | zero => intro i ys news e h; exact fin ys news ((show i = n by omega) ▸ h)
  | succ k ih =>
    intro i ys news e h
    refine CompRest.succ fun v I oI C oC D m₂ h' tk E' hp hn hx F N off ne => ?_
    exact wpAny_mono (step i ys news v I oI C oC D m₂ h' tk E' (by omega) h hp hn hx F N off ne) (fun y s₂ c => compEnd_mono c fun y n hi => ih (i + 1) _ n (by omega) hi) fun _ _ x => x

/-- a comprehension with one test, by an invariant -/
theorem restT {ct elt : Expr} {x : Str} {scope : Scope} {cl : List (Str × Addr)} {S : List (Addr × Obj) → Prop} {P : Nat → Value → Prop} {Fin : List Value → List (Addr × Obj) → Prop} (n : Nat)
    (Inv : Nat → List Value → List (Addr × Obj) → Prop)
    (step : ∀ i ys news v I oI C oC D m₂ h tk (E' : Value → Shared → Prop), i < n → Inv i ys news → P i v → NsObj oC m₂ → m₂ x = some v → Fr h₀ L h m → News h₀ L h ((I, oI) :: (C, oC) :: (D, lst ys) :: news) → Off3 I C D news → ((@Ne Nat I C) ∧ (@Ne Nat I D) ∧ (@Ne Nat C D)) →
      wpAny (model prog w) A (isTrue ct (compEnvC scope cl C env) (eval ct (compEnvC scope cl C env))) (fun ok s' => if ok = true then
        wpAny (model prog w) A (eval elt (compEnvC scope cl C env)) (CompEnd h₀ L m { s with heap := h, toks := tk } I oI C oC D (lst ys) S (fun y news' => Inv (i + 1) (ys ++ [y]) news')) E' s'
        else CompEnd h₀ L m { s with heap := h, toks := tk } I oI C oC D (lst ys) S (fun _ news' => Inv (i + 1) ys news') Value.none s') E' { s with heap := h, toks := tk })
    (fin : ∀ ys news, Inv n ys news → Fin ys news) :
    ∀ k i ys news, i + k = n → Inv i ys news → CompRestT prog w A h₀ L m env ct elt x scope cl s S P Fin k i ys news := by
  intro k
  induction k with
  | zero => intro i ys news e h; exact fin ys news ((show i = n by omega) ▸ h)
  | succ k ih =>
    intro i ys news e h
    refine CompRestT.succ fun v I oI C oC D m₂ h' tk E' hp hn hx F N off ne => ?_
    refine wpAny_mono (step i ys news v I oI C oC D m₂ h' tk E' (by omega) h hp hn hx F N off ne) (fun ok s₂ c => ?_) fun _ _ x => x
    cases ok with
    | true =>
      rw [if_pos rfl] at c ⊢
      exact wpAny_mono c (fun y s₃ c' => compEnd_mono c' fun y n hi => ih (i + 1) _ n (by omega) hi) fun _ _ x => x
    | false =>
      rw [if_neg Bool.false_ne_true] at c ⊢
      exact compEnd_mono c fun _ n hi => ih (i + 1) _ n (by omega) hi
end
end Mine
end
section
open PySem PySem.W PySem.Spec PySem.Calls PyProof.Rows
set_option Elab.async false
set_option maxRecDepth 100000
set_option maxHeartbeats 8000000
namespace Mine
/-- a while's turn's end -/
noncomputable def WEnd {σ : Type} (h₀ : Heap) (L : Addr) (news : List (Addr × Obj)) (Mp : σ → Str → Option Value) (J : σ → Prop) (s : Shared) (Q : Flow → Shared → Prop) (f : Flow) (s' : Shared) : Prop :=
  match f with
  | .ret v => Q (.ret v) s'
  | .brk => Q .next s'
  | _ => ∃ c m' h' tk, s' = { s with heap := h', toks := tk } ∧ Fr h₀ L h' m' ∧ News h₀ L h' news ∧ (∀ z, m' z = Mp c z) ∧ J c
section
variable {prog : Program} {w : World} {A : Around} {E : Value → Shared → Prop} {s : Shared} {env : Env} {h₀ : Heap} {Q : Flow → Shared → Prop} {σ : Type} {m₀ : Str → Option Value} {L : Addr} {news : List (Addr × Obj)}
theorem wNext {Mp : σ → Str → Option Value} {J : σ → Prop} {s' : Shared} (c : σ) {m' : Str → Option Value} {h' : Heap} {tk : Nat} (e : s' = { s with heap := h', toks := tk }) (F : Fr h₀ L h' m') (N : News h₀ L h' news) (hm : ∀ z, m' z = Mp c z) (j : J c) :
    WEnd h₀ L news Mp J s Q .next s' := ⟨c, m', h', tk, e, F, N, hm, j⟩
theorem whileS {test : Expr} {body : List Stmt} {pos : Pos} (Mp : σ → Str → Option Value) (J : σ → Prop) (μ : σ → Nat) (c₀ : σ) (F : Fr h₀ L s.heap m₀) (N : News h₀ L s.heap news) (hm : ∀ z, m₀ z = Mp c₀ z) (hj : J c₀)
    (turn : ∀ c h tk, J c → Fr h₀ L h (Mp c) → News h₀ L h news →
      wpAny (model prog w) A (isTrue test env (eval test env)) (fun b s₂ => if b then wpAny (model prog w) A (execs body env) (WEnd h₀ L news Mp (fun c' => J c' ∧ μ c' < μ c) { s with heap := h, toks := tk } Q) (fun _ _ => False) s₂ else Q .next s₂) (fun _ _ => False) { s with heap := h, toks := tk }) :
    wpAny (model prog w) A (exec (.While test body [] pos) env) Q E s := by
  refine wpAny_While ?_
  refine codeAny_whileLoop (fun n s' => ∃ c h tk, s' = { s with heap := h, toks := tk } ∧ J c ∧ Fr h₀ L h (Mp c) ∧ News h₀ L h news ∧ n = μ c) ?_ (μ c₀) ⟨c₀, s.heap, s.toks, rfl, hj, (funext hm : m₀ = Mp c₀) ▸ F, N, rfl⟩
  rintro n s' ⟨c, h, tk, rfl, hJ, F', N', rfl⟩
  refine wpAny_mono (turn c h tk hJ F' N') (fun b s₂ hb => ?_) fun _ _ x => x.elim
  cases b with
  | true =>
    rw [if_pos rfl] at hb ⊢
    refine wpAny_mono hb (fun f s₃ hf => ?_) fun _ _ x => x.elim
    have fin : (∃ c' m' h' tk', s₃ = { s with heap := h', toks := tk' } ∧ Fr h₀ L h' m' ∧ News h₀ L h' news ∧ (∀ z, m' z = Mp c' z) ∧ J c' ∧ μ c' < μ c) →
        ∃ m, m < μ c ∧ ∃ c h tk, s₃ = { s with heap := h, toks := tk } ∧ J c ∧ Fr h₀ L h (Mp c) ∧ News h₀ L h news ∧ m = μ c := by
      rintro ⟨c', m', h', tk', rfl, F₃, N₃, hm', hJ', hlt⟩
      exact ⟨μ c', hlt, c', h', tk', rfl, hJ', (funext hm' : m' = Mp c') ▸ F₃, N₃, rfl⟩
    cases f with
    | next => exact fin hf
    | cont => exact fin hf
    | brk => exact hf
    | ret v => exact hf
  | false =>
    rw [if_neg Bool.false_ne_true] at hb ⊢
    exact wpAny_execs_nil hb
end
end Mine
end
section
open PySem PySem.W PySem.Spec PySem.Calls PyProof.Rows
set_option Elab.async false
set_option maxRecDepth 100000
set_option maxHeartbeats 8000000
namespace Mine
theorem pick_tail (l : List Value) : kms_pick l (some 1) none = l.tail := by
  unfold kms_pick kms_lo kms_hi
  dsimp only
  rw [if_neg (by omega)]
  cases l with
  | nil => rfl
  | cons a r => simp
theorem pick_init (l : List Value) : kms_pick l none (some (-1)) = l.dropLast := by
  unfold kms_pick kms_lo kms_hi
  dsimp only
  rw [if_pos (by omega)]
  simp [List.dropLast_eq_take]
theorem pick_from {k : Int} (h : 0 ≤ k) (l : List Value) : kms_pick l (some k) none = l.drop k.toNat := by
  unfold kms_pick kms_lo kms_hi
  dsimp only
  rw [if_neg (by omega)]
  by_cases hk : k.toNat ≤ l.length
  · rw [Nat.min_eq_left hk, List.take_of_length_le (by rw [List.length_drop]; omega)]
  · rw [Nat.min_eq_right (by omega), List.drop_of_length_le (Nat.le_refl _), List.drop_of_length_le (by omega), List.take_nil]
theorem pick_to {k : Int} (h : 0 ≤ k) (l : List Value) : kms_pick l none (some k) = l.take k.toNat := by
  unfold kms_pick kms_lo kms_hi
  dsimp only
  rw [if_neg (by omega), List.drop_zero, Nat.sub_zero]
  by_cases hk : k.toNat ≤ l.length
  · rw [Nat.min_eq_left hk]
  · rw [Nat.min_eq_right (by omega), List.take_of_length_le (Nat.le_refl _), List.take_of_length_le (by omega)]
theorem ints_drop {vs : List Value} {ns : List Int} (h : IntsAre vs ns) : ∀ k, IntsAre (vs.drop k) (ns.drop k) := by
  induction h with
  | nil => intro k; simp; exact .nil
  | cons n t h ih =>
    intro k
    cases k with
    | zero => exact .cons n t h
    | succ k => exact ih k
theorem ints_take {vs : List Value} {ns : List Int} (h : IntsAre vs ns) : ∀ k, IntsAre (vs.take k) (ns.take k) := by
  induction h with
  | nil => intro k; simp; exact .nil
  | cons n t h ih =>
    intro k
    cases k with
    | zero => exact .nil
    | succ k => exact .cons n t (ih k)
theorem strs_tail {vs : List Value} {xs : List Str} (h : StrsAre vs xs) : StrsAre vs.tail xs.tail := by
  cases h with
  | nil => exact .nil
  | cons y t h => exact h
theorem strs_init {vs : List Value} {xs : List Str} (h : StrsAre vs xs) : StrsAre vs.dropLast xs.dropLast := by
  induction h with
  | nil => exact .nil
  | cons y t h ih =>
    cases h with
    | nil => exact .nil
    | cons z u h' => exact .cons y t ih
theorem strs_len {vs : List Value} {xs : List Str} (h : StrsAre vs xs) : vs.length = xs.length := by
  induction h with
  | nil => rfl
  | cons y t _ ih => simp [ih]
theorem strs_get {vs : List Value} {xs : List Str} (h : StrsAre vs xs) : ∀ {i : Nat} {v : Value}, vs[i]? = some v → ∃ x t, xs[i]? = some x ∧ v = .str x t := by
  induction h with
  | nil => intro i v e; simp at e
  | cons y t h ih =>
    intro i v e
    cases i with
    | zero => simp at e; exact ⟨y, t, by simp, e.symm⟩
    | succ i => exact ih (by simpa using e)
theorem strs_last {vs : List Value} {xs : List Str} (h : StrsAre vs xs) (hv : vs ≠ []) : ∃ x t, xs.getLast? = some x ∧ vs.getLast hv = .str x t := by
  have e : vs[vs.length - 1]? = some (vs.getLast hv) := by rw [List.getLast_eq_getElem, List.getElem?_eq_getElem]
  obtain ⟨x, t, hx, ht⟩ := strs_get h e
  refine ⟨x, t, ?_, ht⟩
  rw [List.getLast?_eq_getElem?, ← strs_len h]
  exact hx
section
variable {prog : Program} {w : World} {A : Around} {E : Value → Shared → Prop} {s : Shared} {h₀ : Heap} {L l : Addr} {m : Str → Option Value} {news : List (Addr × Obj)} {value slice : PySem.Expr} {us : List Value} {u : Tok} {Q : Value → Shared → Prop}
theorem slL_tail (F : Fr h₀ L s.heap m) (N : News h₀ L s.heap news) (hl : s.heap.IsList l us.toArray) (hz : us.length ≤ 16777216)
    (h : ∀ D h', Fr h₀ L h' m → News h₀ L h' ((D, W.listOf us.tail.toArray 0) :: news) → (∀ p ∈ news, p.1 < D) → Q (.ref D) { s with heap := h' })
    (hs : subscripted slice false (.ref l) (.ref s.heap.objs.size) = operate [.ref s.heap.objs.size, .ref l] (getItem (.ref l) (.ref s.heap.objs.size))) (ht : ∀ r, letTemporaryGo value (.ref l) r = pure ()) :
    wpAny (model prog w) A (subscriptTail value slice (.ref l) (.ref s.heap.objs.size)) Q E { s with heap := s.heap.push { cls := .type "slice", data := .fields #[.int 1 u, .none, .none] } } :=
  kms_slice_lit F N hl (IsPart.int _ _) IsPart.none (pick_tail us) h hs ht (by rw [sizeLine_eq, List.size_toArray]; exact hz)
theorem slL_init (F : Fr h₀ L s.heap m) (N : News h₀ L s.heap news) (hl : s.heap.IsList l us.toArray) (hz : us.length ≤ 16777216)
    (h : ∀ D h', Fr h₀ L h' m → News h₀ L h' ((D, W.listOf us.dropLast.toArray 0) :: news) → (∀ p ∈ news, p.1 < D) → Q (.ref D) { s with heap := h' })
    (hs : subscripted slice false (.ref l) (.ref s.heap.objs.size) = operate [.ref s.heap.objs.size, .ref l] (getItem (.ref l) (.ref s.heap.objs.size))) (ht : ∀ r, letTemporaryGo value (.ref l) r = pure ()) :
    wpAny (model prog w) A (subscriptTail value slice (.ref l) (.ref s.heap.objs.size)) Q E { s with heap := s.heap.push { cls := .type "slice", data := .fields #[.none, .int (-1) u, .none] } } :=
  kms_slice_lit F N hl IsPart.none (IsPart.int _ _) (pick_init us) h hs ht (by rw [sizeLine_eq, List.size_toArray]; exact hz)
theorem slL_from {k : Int} (F : Fr h₀ L s.heap m) (N : News h₀ L s.heap news) (hl : s.heap.IsList l us.toArray) (hk : 0 ≤ k) (hz : us.length ≤ 16777216)
    (h : ∀ D h', Fr h₀ L h' m → News h₀ L h' ((D, W.listOf (us.drop k.toNat).toArray 0) :: news) → (∀ p ∈ news, p.1 < D) → Q (.ref D) { s with heap := h' })
    (hs : subscripted slice false (.ref l) (.ref s.heap.objs.size) = operate [.ref s.heap.objs.size, .ref l] (getItem (.ref l) (.ref s.heap.objs.size))) (ht : ∀ r, letTemporaryGo value (.ref l) r = pure ()) :
    wpAny (model prog w) A (subscriptTail value slice (.ref l) (.ref s.heap.objs.size)) Q E { s with heap := s.heap.push { cls := .type "slice", data := .fields #[.int k u, .none, .none] } } :=
  kms_slice_lit F N hl (IsPart.int _ _) IsPart.none (pick_from hk us) h hs ht (by rw [sizeLine_eq, List.size_toArray]; exact hz)
theorem slL_to {k : Int} (F : Fr h₀ L s.heap m) (N : News h₀ L s.heap news) (hl : s.heap.IsList l us.toArray) (hk : 0 ≤ k) (hz : us.length ≤ 16777216)
    (h : ∀ D h', Fr h₀ L h' m → News h₀ L h' ((D, W.listOf (us.take k.toNat).toArray 0) :: news) → (∀ p ∈ news, p.1 < D) → Q (.ref D) { s with heap := h' })
    (hs : subscripted slice false (.ref l) (.ref s.heap.objs.size) = operate [.ref s.heap.objs.size, .ref l] (getItem (.ref l) (.ref s.heap.objs.size))) (ht : ∀ r, letTemporaryGo value (.ref l) r = pure ()) :
    wpAny (model prog w) A (subscriptTail value slice (.ref l) (.ref s.heap.objs.size)) Q E { s with heap := s.heap.push { cls := .type "slice", data := .fields #[.none, .int k u, .none] } } :=
  kms_slice_lit F N hl IsPart.none (IsPart.int _ _) (pick_to hk us) h hs ht (by rw [sizeLine_eq, List.size_toArray]; exact hz)
theorem lastL (hl : s.heap.IsList l us.toArray) (hn : us ≠ []) (hz : us.length ≤ 16777216) (h : Q (us.getLast hn) s)
    (hs : subscripted slice false (.ref l) (.int (-1) u) = operate [.ref l, .int (-1) u] (getItem (.ref l) (.int (-1) u))) :
    wpAny (model prog w) A (subscriptTail value slice (.ref l) (.int (-1) u)) Q E s := by
  have hp : 0 < us.length := List.length_pos_iff.mpr hn
  refine tail_any hl.typeIs slot_list_getitem.lookup (wpAny_getItem_list_neg (x := us.getLast hn) hl (by omega) (by rw [List.size_toArray]; omega) (by omega) ?_ h) hs
  · rw [List.size_toArray, show (-1 + (us.length : Int)).toNat = us.length - 1 by omega, List.getElem?_toArray, List.getElem?_eq_getElem (by omega), List.getLast_eq_getElem]
theorem itemL {k : Int} {v : Value} (hl : s.heap.IsList l us.toArray) (h0 : 0 ≤ k) (hk : k < 2 ^ 62) (hv : us[k.toNat]? = some v) (h : Q v s)
    (hs : subscripted slice false (.ref l) (.int k u) = operate [.ref l, .int k u] (getItem (.ref l) (.int k u))) :
    wpAny (model prog w) A (subscriptTail value slice (.ref l) (.int k u)) Q E s :=
  tail_any hl.typeIs slot_list_getitem.lookup (wpAny_getItem_list hl h0 (by omega) (by simpa using hv) h) hs
theorem itemN {j : Nat} {v : Value} (hl : s.heap.IsList l us.toArray) (hj : j < 1000) (hv : us[j]? = some v) (h : Q v s)
    (hs : subscripted slice false (.ref l) (.int (j : Int) u) = operate [.ref l, .int (j : Int) u] (getItem (.ref l) (.int (j : Int) u))) :
    wpAny (model prog w) A (subscriptTail value slice (.ref l) (.int (j : Int) u)) Q E s :=
  itemL hl (Int.natCast_nonneg _) (by omega) (by rw [Int.toNat_natCast]; exact hv) h hs
theorem small_nat {n : Nat} (h : n ≤ 1000) : Builtin.Range.small 0 (n : Int) 1 = true := small_one (by omega) (by omega) (by omega) (by omega)
theorem size_ok {n : Nat} (h : n ≤ 1000) : n ≤ sizeLine := by rw [sizeLine_eq]; omega
theorem anyInts {x : Int} {us : List Value} {ns : List Int} (hi : IntsAre us ns) : (us.any fun v => match v with | .int n _ => decide (n = x) | _ => false) = decide (x ∈ ns) := by
  induction hi with
  | nil => simp
  | cons n t _ ih =>
    rw [List.any_cons, ih, Bool.eq_iff_iff, Bool.or_eq_true, decide_eq_true_eq, decide_eq_true_eq, decide_eq_true_eq, List.mem_cons]
    exact ⟨fun h => h.elim (fun e => .inl e.symm) .inr, fun h => h.elim (fun e => .inl e.symm) .inr⟩
theorem inInts {x : Int} {t : Tok} {ns : List Int} (hl : s.heap.IsList l us.toArray) (hi : IntsAre us ns) (h : Q (.bool (decide (x ∈ ns))) s) :
    wpAny (model prog w) A (compareOp .In (.int x t) (.ref l)) Q E s := by
  refine SeqAt.in_listAt (fun v => match v with | .int n _ => decide (n = x) | _ => false) hl (fun y hy => ?_) ?_
  · obtain ⟨n, t', rfl⟩ := hi.all y (by simpa using hy)
    exact eqI_at _ _ _ _ _ _
  · rw [List.any_toArray, anyInts hi]; exact h
end
end Mine
end
section
open PySem PySem.W PySem.Spec PySem.Calls PyProof.Rows
set_option maxRecDepth 100000
set_option maxHeartbeats 8000000
namespace Mine
local macro_rules | `(tactic| ktr_room) => `(tactic| with_unfolding_all first | exact room1 (by assumption : _ + _ < recursionLimit) (by decide) | exact room0 (by assumption : _ + _ < recursionLimit))
local macro_rules | `(tactic| ktr_units) => `(tactic| with_unfolding_all first | exact units1 (by assumption : _ + _ < cLine) (by decide) | exact units0 (by assumption : _ + _ < cLine) (by decide) | exact units2 (by assumption : _ + _ < cLine) (by decide) | exact units3 (by assumption : _ + _ < cLine) (by decide))
local macro_rules | `(tactic| walk_at "mine item") => `(tactic| (k_here; (with_reducible show wpAny _ _ (subscriptTail _ _ (Value.str _ _) (Value.int _ _)) _ _ _); k_dflt (refine' itemD ?a ?b ?z ?_ ?hs ?ht; (case a => omega); (case b => first | omega | exact pos_of_ne (by assumption) | exact pos_of_dec (by assumption)); (case z => walk_at "mine size"); walk_at "mine hs"; k_whole)))
local macro_rules | `(tactic| walk_at "mine last") => `(tactic| (k_here; (with_reducible show wpAny _ _ (subscriptTail _ _ (Value.str _ _) (Value.int (-1) _)) _ _ _); k_dflt (refine' lastD ?a ?b ?z ?_ ?hs ?ht; (case a => rfl); (case b => assumption); (case z => walk_at "mine size"); walk_at "mine hs"; k_whole)))
local macro_rules | `(tactic| walk_at "mine hs") => `(tactic| ((case hs => with_unfolding_all rfl); (case ht => intro _; with_unfolding_all rfl)))
local macro_rules | `(tactic| walk_at "mine fn") => `(tactic| ((case F => k_asm); (case N => k_asm)))
local macro_rules | `(tactic| walk_at "mine start") => `(tactic| ((have X := Gd.k (by assumption)); (have T := Gd.t (by assumption)); k_dflt (refine' enter2 (by assumption) ?ho ?hcd ?hroom ?hb ?hl ?_ ?c2 ?c3 ?c4 ?c5; (case ho => k_is); (case hcd => k_is); (case hroom => ktr_room); (case hb => kernel_rfl); (case hl => kernel_rfl); (case c2 => exact rfl); (case c3 => exact rfl); (case c4 => exact rfl); (case c5 => decide); k_whole); intro L h₁ tk F N; (simp only [List.map_cons, List.map_nil, List.zip_cons_cons, List.zip_nil_right, List.reverse_cons, List.reverse_nil, List.nil_append, List.cons_append] at F); k_fold))
local macro_rules | `(tactic| walk_at "mine startC") => `(tactic| ((have X := Gd.k (by assumption)); (have T := Gd.t (by assumption)); k_dflt (refine' enterC (by assumption) ?ho ?hcd ?hroom ?hb ?hl ?hn ?_ ?c2 ?c3 ?c4; (case ho => k_is); (case hcd => k_is); (case hroom => ktr_room); (case hb => kernel_rfl); (case hl => kernel_rfl); (case hn => decide +kernel); (case c2 => exact rfl); (case c3 => exact rfl); (case c4 => exact rfl); k_whole); intro L h₁ tk cells F N Y; k_fold))
local macro_rules | `(tactic| walk_at "mine steps") => `(tactic| repeat' (first | (k_unfold; (try dsimp only)) | walk1 | (dsimp only; walk1) | fail "no step"))
local macro_rules | `(tactic| walk_at "mine args") => `(tactic| ((case F => k_asm); (case N => k_asm); (case X => k_asm); (case T => k_asm); (case hh => exact rfl); (case d => ktr_room); (case u => ktr_units); k_whole))
local macro_rules | `(tactic| walk_at "mine keep") => `(tactic| (exact Fr.keep (by assumption)))
local macro_rules | `(tactic| walk_at "mine size") => `(tactic| ((try simp only [List.length_append, List.length_cons, List.length_nil, List.length_tail, List.length_take, List.length_drop, List.length_dropLast]); omega))
local macro_rules | `(tactic| walk_at "mine lit") => `(tactic| first | exact lit_empty | exact lit_tilde | exact lit_lt | exact lit_gt | exact lit_lt2 | exact lit_gt2 | exact lit_dash | exact lit_zero | exact lit_lb | exact lit_rb | exact lit_colon | exact lit_lp | exact lit_rp | exact lit_bang | exact lit_hat | exact lit_hatq | exact lit_p2 | exact lit_p3 | exact lit_p4 | exact lit_p5 | exact lit_p6 | exact lit_fmt1 | exact lit_fmt2)
local macro_rules | `(tactic| walk_at "mine sl") => `(tactic| first | exact sl_to_one _ | exact sl_to_two _ | exact sl_from_one _ | exact sl_last _ | exact sl_init _ | exact sl_inner_one _ | exact sl_toI (by omega) _ | exact sl_fromI (by omega) _ | exact sl_innerI (by omega) _)
local macro_rules | `(tactic| walk_at "eval Constant str") => `(tactic| (k_here; k_dflt (refine' constS ?e ?_; (case e => walk_at "mine lit"); k_whole)))
local macro_rules | `(tactic| walk_at "call builtin:len") => `(tactic| (k_here; k_dflt (refine' lenS ?z ?_; (case z => walk_at "mine size"); k_whole)))
local macro_rules | `(tactic| walk_at "compareOp Eq str str") => `(tactic| (k_here; k_dflt (refine' eqS ?_; k_whole)))
local macro_rules | `(tactic| walk_at "compareOp NotEq str str") => `(tactic| (k_here; k_dflt (refine' neS ?_; k_whole)))
local macro_rules | `(tactic| walk_at "call builtin:str.find") => `(tactic| (k_here; k_dflt (refine' findS ?_; k_whole)))
local macro_rules | `(tactic| walk_at "call builtin:str.startswith") => `(tactic| (k_here; k_dflt (refine' startsS ?_; k_whole)))
local macro_rules | `(tactic| walk_at "call builtin:str.endswith") => `(tactic| (k_here; k_dflt (refine' endsS ?_; k_whole)))
local macro_rules | `(tactic| walk_at "binaryOp Add str str") => `(tactic| (k_here; k_dflt (refine' addS ?z ?_; (case z => walk_at "mine size"); k_whole); intro t' tk'))
local macro_rules | `(tactic| walk_at "subscriptTail") => `(tactic| walk_at "mine item")
local macro_rules | `(tactic| walk_at "subscriptTail") => `(tactic| (k_here; (with_reducible show wpAny _ _ (subscriptTail _ (Expr.Slice none (some _) none _) (Value.str _ _) (Value.ref _)) _ _ _); k_dflt (refine' slS_ns (s := ⟨_, _, _, _, _⟩) ?F ?N ?r ?_ ?hs ?ht ?z; walk_at "mine fn"; (case r => walk_at "mine sl"); (case z => walk_at "mine size"); walk_at "mine hs"; k_whole); intro h' t' k' F' N'; (try k_sweep)))
local macro_rules | `(tactic| walk_at "subscriptTail") => `(tactic| (k_here; (with_reducible show wpAny _ _ (subscriptTail _ (Expr.Slice (some _) none none _) (Value.str _ _) (Value.ref _)) _ _ _); k_dflt (refine' slS_sn (s := ⟨_, _, _, _, _⟩) ?F ?N ?r ?_ ?hs ?ht ?z; walk_at "mine fn"; (case r => walk_at "mine sl"); (case z => walk_at "mine size"); walk_at "mine hs"; k_whole); intro h' t' k' F' N'; (try k_sweep)))
local macro_rules | `(tactic| walk_at "subscriptTail") => `(tactic| (k_here; (with_reducible show wpAny _ _ (subscriptTail _ (Expr.Slice (some _) (some _) none _) (Value.str _ _) (Value.ref _)) _ _ _); k_dflt (refine' slS_ss (s := ⟨_, _, _, _, _⟩) ?F ?N ?r ?_ ?hs ?ht ?z; walk_at "mine fn"; (case r => walk_at "mine sl"); (case z => walk_at "mine size"); walk_at "mine hs"; k_whole); intro h' t' k' F' N'; (try k_sweep)))
local macro_rules | `(tactic| walk_at "call builtin:chr") => `(tactic| (k_here; k_dflt (refine' chrI ?a ?b ?_; (case a => omega); (case b => omega); k_whole)))
local macro_rules | `(tactic| walk_at "call builtin:ord") => `(tactic| (k_here; k_dflt (refine' ordS ?a ?_; (case a => first | rfl | omega); k_whole)))
local macro_rules | `(tactic| walk_at "subscriptTail") => `(tactic| (k_here; (with_reducible show wpAny _ _ (subscriptTail _ (Expr.Slice none (some _) none _) (Value.ref _) (Value.ref _)) _ _ _); k_dflt (refine' sliceTup2 (s := ⟨_, _, _, _, _⟩) ?F ?N ?t ?_ ?hs ?ht; walk_at "mine fn"; (case t => first | assumption | exact IsTup.keeps (by assumption) (Fr.keep (by assumption))); walk_at "mine hs"; k_whole); intro D' h' F' N' l1; (try k_lt l1); (try k_sweep)))
local macro_rules | `(tactic| walk_at "subscriptTail") => `(tactic| (k_here; (with_reducible show wpAny _ _ (subscriptTail _ _ (Value.ref _) (Value.int _ _)) _ _ _); k_dflt (refine' item_tupleT ?t ?a ?b ?c ?d ?_; (case t => first | assumption | exact IsTup.keeps (by assumption) (Fr.keep (by assumption))); (case a => decide); (case b => decide); (case c => rfl); (case d => rfl); k_whole)))
local macro_rules | `(tactic| walk_at "mine tup") => `(tactic| first | assumption | exact News.isTup (by k_asm) (by k_mem) | exact IsTup.keeps (by assumption) (Fr.keep (by assumption)))
local macro_rules | `(tactic| walk_at "compareOp Eq ref ref") => `(tactic| (k_here; k_dflt (refine' eqTup2 ?a ?b ?u ?_; (case a => walk_at "mine tup"); (case b => walk_at "mine tup"); (case u => ktr_units); k_whole)))
local macro_rules | `(tactic| walk_at "compareOp NotEq ref ref") => `(tactic| (k_here; k_dflt (refine' neTup2 ?a ?b ?u ?_; (case a => walk_at "mine tup"); (case b => walk_at "mine tup"); (case u => ktr_units); k_whole)))
local macro_rules | `(tactic| walk_at "binaryOp Mod str ref") => `(tactic| (k_here; k_dflt (refine' stdMod ?t ?a ?b ?c ?_; (case t => walk_at "mine tup"); (case a => omega); (case b => omega); (case c => assumption); k_whole); intro t' k'))
local macro_rules | `(tactic| walk_at "binaryOp Mod str str") => `(tactic| (k_here; k_dflt (refine' braceMod ?z ?_; (case z => walk_at "mine size"); k_whole); intro t' k'))
local macro_rules | `(tactic| walk_at "subscriptTail") => `(tactic| walk_at "mine last")
local macro_rules | `(tactic| walk_at "subscriptTail Name Name str int") => `(tactic| walk_at "mine item")
local macro_rules | `(tactic| walk_at "subscriptTail Name Constant str int") => `(tactic| walk_at "mine item")
local macro_rules | `(tactic| walk_at "subscriptTail Name UnaryOp str int") => `(tactic| walk_at "mine item")
local macro_rules | `(tactic| walk_at "subscriptTail Name BinOp str int") => `(tactic| walk_at "mine item")
local macro_rules | `(tactic| walk_at "subscriptTail Name UnaryOp str int") => `(tactic| walk_at "mine last")
section
local macro_rules | `(tactic| walk_at "call ref") => `(tactic| (k_here; k_dflt (first | (refine' useR (alt_int _ _ ?h0 ?hc _) ?F ?N ?X ?T trivial ?hh ?d ?u ?_; (case h0 => omega); (case hc => omega); walk_at "mine args") | (refine' useR (alt_str _ _ ?hc _) ?F ?N ?X ?T trivial ?hh ?d ?u ?_; (case hc => omega); walk_at "mine args") | (refine' useR (iscntrl_str _ _ _) ?F ?N ?X ?T trivial ?hh ?d ?u ?_; walk_at "mine args") | (refine' useR (isspace_str _ _ _) ?F ?N ?X ?T trivial ?hh ?d ?u ?_; walk_at "mine args") | (refine' useR (isdigit_str _ _ _) ?F ?N ?X ?T trivial ?hh ?d ?u ?_; walk_at "mine args") | (refine' useR (ctrl_str _ _ _) ?F ?N ?X ?T trivial ?hh ?d ?u ?_; walk_at "mine args") | (refine' useR (ctrl_int _ _ _) ?F ?N ?X ?T trivial ?hh ?d ?u ?_; walk_at "mine args") | (refine' useR (isprint_one _ _ ?h1 _) ?F ?N ?X ?T trivial ?hh ?d ?u ?_; (case h1 => omega); walk_at "mine args") | (refine' useR (isprint_str _ _ _) ?F ?N ?X ?T trivial ?hh ?d ?u ?_; walk_at "mine args")); intro t' h' tk' F' N' st'))

noncomputable def figs (r : List Nat) : List Nat := if r.take 1 = [45] then r.tail else r
noncomputable def val (l : List Nat) : Int := l.foldl (fun a c => 10 * a + ((c % 32 : Nat) : Int) - 16) 0
noncomputable def digs (l : List Nat) : Bool := l.all fun c => decide (48 ≤ c ∧ c ≤ 57)
noncomputable def numOf (r : List Nat) : Option Int :=
  if figs r = [] ∨ ((figs r).getD 0 0 = 48 ∧ ¬ r = [48]) then none
  else if digs (figs r) = true then some (if figs r = r then val (figs r) else - val (figs r)) else none
/-- an answer that may be None -/
noncomputable def IsNum (o : Option Int) (v : Value) : Prop := match o with | none => v = .none | some i => ∃ t, v = .int i t
theorem digs_bad {l pre post : List Nat} {n : Nat} (e : l = pre ++ n :: post) (h : ¬ (48 ≤ n ∧ n ≤ 57)) : ¬ digs l = true := by
  intro hd
  unfold digs at hd
  rw [List.all_eq_true] at hd
  exact h (of_decide_eq_true (hd n (by rw [e]; simp)))
theorem figs_len (r : List Nat) : (figs r).length ≤ r.length := by unfold figs; split <;> simp

section
local macro_rules | `(tactic| walk_at "exec For") => `(tactic| (k_here; (rename Fr _ _ _ _ => lF'); (with_unfolding_all refine' For_invVF lF' ?k1 ?k2 ?_; (case k1 => exact rfl); (case k2 => exact rfl); k_whole)))
local macro_rules | `(tactic| walk_at "pyIter str") => `(tactic| (k_here; refine hold ?_))
local macro_rules | `(tactic| walk_at "eval IfExp") => `(tactic| (k_here; refine hold ?_))

theorem num_does (w) (r : List Nat) (t : Tok) (h1 : r.length ≤ 1000000) :
    Does w 3 124 [.str (S r) t] (fun _ => True) (fun v _ _ => IsNum (numOf r) v) := by
  intro mean mg mb dp un fr gd s Q E G hC hd hu hret
  have hfl := figs_len r
  walk_at "mine start"
  walk_at "mine steps"
  unfold Hold
  refine joinS (figs r) (by assumption) (by assumption) ?_ ?_
  · refine IfExp_ ?_
    walk_at "mine steps"
    all_goals (refine meetS ?_ (by assumption) (by assumption); simp_all [figs])
  · intro t₁ h₂ tk₂ F₂ N₂
    walk_at "mine steps"
    all_goals try (refine hret _ _ _ (by walk_at "mine keep") ?_; simp_all [numOf, IsNum]; done)
    all_goals unfold Hold
    all_goals (have hno : numOf r = if digs (figs r) = true then some (if figs r = r then val (figs r) else - val (figs r)) else none := by unfold numOf; rw [if_neg (by simp_all)])
    all_goals rename_i h0 F1 N1
    all_goals (refine loopText (σ := Int × Tok) (fun c => []) (fun c y => if y = Str.ofString "worth" then some (.int c.1 c.2) else if y = Str.ofString "figures" then some (.str (S (figs r)) t₁) else List.lookup y [(Str.ofString "run", Value.str (S r) t)]) (fun pre c => c.1 = val pre ∧ digs pre = true) (0, _) rfl F1 N1 rfl (fun z _ => rfl) ⟨rfl, rfl⟩ ?_ ?_)
    all_goals first
      | (rintro pre n post t' ⟨v, tv⟩ h tk I own e hoff hown ⟨hv, hdg⟩ F3 N3
         dsimp only [List.cons_append, List.nil_append] at *
         walk_at "mine steps"
         all_goals first
           | (refine' turnNext (_, _) rfl ?F ?N ?o ?m ?j; (case F => assumption); (case m => exact mapSet _ _ _ _ _ _); (case N => assumption); (case o => exact fun q hq => nomatch hq); (case j => refine ⟨?_, ?_⟩; (simp [val, hv]); (simp_all [digs])))
           | (refine hret _ _ _ (by walk_at "mine keep") ?_; rw [hno, if_neg (digs_bad e (by assumption))]; rfl))
      | (rintro ⟨v, tv⟩ m h tk ⟨hv, hdg⟩ hm F3 N3
         have F4 := frOut F3 hm
         dsimp only at *
         walk_at "mine steps"
         unfold Hold
         refine IfExp_ ?_
         walk_at "mine steps"
         all_goals (refine hret _ _ _ (by walk_at "mine keep") ?_; rw [hno, if_pos hdg]; first | (rw [if_pos (by assumption)]; exact ⟨_, by rw [hv]⟩) | (rw [if_neg (by assumption)]; exact ⟨_, by rw [hv]⟩)))
end
end
section
local macro_rules | `(tactic| walk_at "call ref") => `(tactic| (k_here; k_dflt (first | (refine' useR (alt_int _ _ ?h0 ?hc _) ?F ?N ?X ?T trivial ?hh ?d ?u ?_; (case h0 => omega); (case hc => omega); walk_at "mine args") | (refine' useR (alt_str _ _ ?hc _) ?F ?N ?X ?T trivial ?hh ?d ?u ?_; (case hc => omega); walk_at "mine args") | (refine' useR (iscntrl_str _ _ _) ?F ?N ?X ?T trivial ?hh ?d ?u ?_; walk_at "mine args") | (refine' useR (isspace_str _ _ _) ?F ?N ?X ?T trivial ?hh ?d ?u ?_; walk_at "mine args") | (refine' useR (isdigit_str _ _ _) ?F ?N ?X ?T trivial ?hh ?d ?u ?_; walk_at "mine args") | (refine' useR (ctrl_str _ _ _) ?F ?N ?X ?T trivial ?hh ?d ?u ?_; walk_at "mine args") | (refine' useR (ctrl_int _ _ _) ?F ?N ?X ?T trivial ?hh ?d ?u ?_; walk_at "mine args") | (refine' useR (isprint_one _ _ ?h1 _) ?F ?N ?X ?T trivial ?hh ?d ?u ?_; (case h1 => omega); walk_at "mine args") | (refine' useR (isprint_str _ _ _) ?F ?N ?X ?T trivial ?hh ?d ?u ?_; walk_at "mine args")); intro t' h' tk' F' N' st'))

noncomputable def restOf (l : List Nat) : List Nat := if 1 < l.length ∧ l.getD 0 0 = 33 then l.tail else l
noncomputable def keyOf (l : List Nat) : Int :=
  if l = [94, 63] then 256
  else if restOf l = [94, 159] then (if restOf l = l then 127 else 255)
  else if (restOf l).length = 2 ∧ (restOf l).getD 0 0 = 94 ∧ 64 ≤ (restOf l).getD 1 0 ∧ (restOf l).getD 1 0 ≤ 95 then
    (if restOf l = l then (((restOf l).getD 1 0 % 32 : Nat) : Int) else (((restOf l).getD 1 0 % 32 + 128 : Nat) : Int))
  else if (restOf l).length = 1 ∧ 32 ≤ (restOf l).getD 0 0 ∧ (restOf l).getD 0 0 ≤ 126 then
    (if restOf l = l then (((restOf l).getD 0 0 : Nat) : Int) else (((restOf l).getD 0 0 + 128 : Nat) : Int))
  else -1

theorem kq0 {l : List Nat} (h : l = [94, 63]) : 256 = keyOf l := by subst h; decide +kernel
theorem kq1 {l : List Nat} (a : ¬ l = [94, 63]) (b : restOf l = [94] ++ [Int.toNat 159]) (c : restOf l = l) : 127 = keyOf l := by
  unfold keyOf; rw [if_neg a, if_pos (show restOf l = [94, 159] from b), if_pos c]
theorem kq2 {l : List Nat} (a : ¬ l = [94, 63]) (b : restOf l = [94] ++ [Int.toNat 159]) (c : ¬ restOf l = l) : (([(127 % 128 + 128 : Int).toNat % 128 + 128].getD 0 0 : Nat) : Int) = keyOf l := by
  unfold keyOf; rw [if_neg a, if_pos (show restOf l = [94, 159] from b), if_neg c]; rfl
theorem two_is {l : List Nat} (c : (l.length : Int) = 2) (d : [l.getD (Int.toNat 0) 0] = [94]) (e : 64 ≤ (([l.getD (Int.toNat 1) 0].getD 0 0 : Nat) : Int)) (f : (([l.getD (Int.toNat 1) 0].getD 0 0 : Nat) : Int) ≤ 95) :
    l.length = 2 ∧ l.getD 0 0 = 94 ∧ 64 ≤ l.getD 1 0 ∧ l.getD 1 0 ≤ 95 := ⟨by omega, (List.cons.inj d).1, Int.ofNat_le.mp e, Int.ofNat_le.mp f⟩
theorem kq3 {l : List Nat} (a : ¬ l = [94, 63]) (b : ¬ restOf l = [94] ++ [Int.toNat 159]) (c : ((restOf l).length : Int) = 2) (d : [(restOf l).getD (Int.toNat 0) 0] = [94]) (e : 64 ≤ (([(restOf l).getD (Int.toNat 1) 0].getD 0 0 : Nat) : Int)) (f : (([(restOf l).getD (Int.toNat 1) 0].getD 0 0 : Nat) : Int) ≤ 95)
    (g : restOf l = l) : (([(restOf l).getD (Int.toNat 1) 0].getD 0 0 : Nat) : Int) % 32 = keyOf l := by
  unfold keyOf; rw [if_neg a, if_neg (show ¬ restOf l = [94, 159] from b), if_pos (two_is c d e f), if_pos g]; rfl
theorem kq4 {l : List Nat} (a : ¬ l = [94, 63]) (b : ¬ restOf l = [94] ++ [Int.toNat 159]) (c : ((restOf l).length : Int) = 2) (d : [(restOf l).getD (Int.toNat 0) 0] = [94]) (e : 64 ≤ (([(restOf l).getD (Int.toNat 1) 0].getD 0 0 : Nat) : Int)) (f : (([(restOf l).getD (Int.toNat 1) 0].getD 0 0 : Nat) : Int) ≤ 95)
    (g : ¬ restOf l = l) : (([((([(restOf l).getD (Int.toNat 1) 0].getD 0 0 : Nat) : Int) % 32 % 128 + 128).toNat % 128 + 128].getD 0 0 : Nat) : Int) = keyOf l := by
  unfold keyOf; rw [if_neg a, if_neg (show ¬ restOf l = [94, 159] from b), if_pos (two_is c d e f), if_neg g]
  show ((((((restOf l).getD 1 0 : Nat) : Int) % 32 % 128 + 128).toNat % 128 + 128 : Nat) : Int) = _
  generalize (restOf l).getD 1 0 = x
  omega
theorem key_no {l : List Nat} (a : ¬ l = [94, 63]) (b : ¬ restOf l = [94] ++ [Int.toNat 159]) (c : ¬ ((restOf l).length = 2 ∧ (restOf l).getD 0 0 = 94 ∧ 64 ≤ (restOf l).getD 1 0 ∧ (restOf l).getD 1 0 ≤ 95)) (d : ¬ ((restOf l).length = 1 ∧ 32 ≤ (restOf l).getD 0 0 ∧ (restOf l).getD 0 0 ≤ 126)) : -1 = keyOf l := by
  unfold keyOf; rw [if_neg a, if_neg (show ¬ restOf l = [94, 159] from b), if_neg c, if_neg d]
theorem kq5 {l : List Nat} {p : Prop} (c : (l.length : Int) = 2) (d : (l.length : Int) = 1) : p := by omega
theorem kq6 {l : List Nat} (a : ¬ l = [94, 63]) (b : ¬ restOf l = [94] ++ [Int.toNat 159]) (f : ¬ (([(restOf l).getD (Int.toNat 1) 0].getD 0 0 : Nat) : Int) ≤ 95) (g : ((restOf l).length : Int) ≠ 1) : -1 = keyOf l :=
  key_no a b (fun x => f (Int.ofNat_le.mpr x.2.2.2)) (fun x => g (by rw [x.1]; rfl))
theorem kq7 {l : List Nat} (a : ¬ l = [94, 63]) (b : ¬ restOf l = [94] ++ [Int.toNat 159]) (f : ¬ 64 ≤ (([(restOf l).getD (Int.toNat 1) 0].getD 0 0 : Nat) : Int)) (g : ((restOf l).length : Int) ≠ 1) : -1 = keyOf l :=
  key_no a b (fun x => f (Int.ofNat_le.mpr x.2.2.1)) (fun x => g (by rw [x.1]; rfl))
theorem kq8 {l : List Nat} (a : ¬ l = [94, 63]) (b : ¬ restOf l = [94] ++ [Int.toNat 159]) (f : ¬ [(restOf l).getD (Int.toNat 0) 0] = [94]) (g : ((restOf l).length : Int) ≠ 1) : -1 = keyOf l :=
  key_no a b (fun x => f (congrArg (fun y => [y]) x.2.1)) (fun x => g (by rw [x.1]; rfl))
theorem kq9 {l : List Nat} (a : ¬ l = [94, 63]) (b : ¬ restOf l = [94] ++ [Int.toNat 159]) (f : ((restOf l).length : Int) ≠ 2) (g : ((restOf l).length : Int) ≠ 1) : -1 = keyOf l :=
  key_no a b (fun x => f (by rw [x.1]; rfl)) (fun x => g (by rw [x.1]; rfl))
theorem kqA {l : List Nat} (a : ¬ l = [94, 63]) (b : ¬ restOf l = [94] ++ [Int.toNat 159]) (f : ((restOf l).length : Int) ≠ 2) (g : ¬ (32 ≤ (restOf l).getD 0 0 ∧ (restOf l).getD 0 0 ≤ 126)) : -1 = keyOf l :=
  key_no a b (fun x => f (by rw [x.1]; rfl)) (fun x => g x.2)
theorem kqB {l : List Nat} (a : ¬ l = [94, 63]) (b : ¬ restOf l = [94] ++ [Int.toNat 159]) (f : ((restOf l).length : Int) ≠ 2) (o : ((restOf l).length : Int) = 1) (g : 32 ≤ (restOf l).getD 0 0 ∧ (restOf l).getD 0 0 ≤ 126) (h : restOf l = l) : (((restOf l).getD 0 0 : Nat) : Int) = keyOf l := by
  unfold keyOf; rw [if_neg a, if_neg (show ¬ restOf l = [94, 159] from b), if_neg (fun x => f (by rw [x.1]; rfl)), if_pos ⟨by omega, g⟩, if_pos h]
theorem kqC {l : List Nat} (a : ¬ l = [94, 63]) (b : ¬ restOf l = [94] ++ [Int.toNat 159]) (f : ((restOf l).length : Int) ≠ 2) (o : ((restOf l).length : Int) = 1) (g : 32 ≤ (restOf l).getD 0 0 ∧ (restOf l).getD 0 0 ≤ 126) (h : ¬ restOf l = l) :
    (([((((restOf l).getD 0 0 : Nat) : Int) % 128 + 128).toNat % 128 + 128].getD 0 0 : Nat) : Int) = keyOf l := by
  unfold keyOf; rw [if_neg a, if_neg (show ¬ restOf l = [94, 159] from b), if_neg (fun x => f (by rw [x.1]; rfl)), if_pos ⟨by omega, g⟩, if_neg h]
  show ((((((restOf l).getD 0 0 : Nat) : Int) % 128 + 128).toNat % 128 + 128 : Nat) : Int) = _
  generalize (restOf l).getD 0 0 = x at g
  omega
section
local macro_rules | `(tactic| walk_at "eval IfExp") => `(tactic| (k_here; refine hold ?_))
local macro_rules | `(tactic| walk_at "call ref") => `(tactic| (k_here; exact kq5 (by assumption) (by assumption)))

theorem key_does (w) (l : List Nat) (t : Tok) (h1 : l.length ≤ 1000000) :
    Plain w 3 136 [.str (S l) t] (fun t => .int (keyOf l) t) := by
  intro mean mg mb dp un fr gd s Q E G hC hd hu hret
  walk_at "mine start"
  walk_at "mine steps"
  unfold Hold
  refine joinS (restOf l) (by assumption) (by assumption) ?_ ?_
  · refine IfExp_ ?_
    walk_at "mine steps"
    all_goals (refine meetS ?_ (by assumption) (by assumption); unfold restOf; clear hret; split <;> simp_all <;> omega)
  · intro t₁ h₂ tk₂ F₂ N₂
    have hr : (restOf l).length ≤ 1000000 := by unfold restOf; split <;> (try simp) <;> omega
    walk_at "mine steps"
    all_goals (try (unfold Hold; refine IfExp_ ?_; walk_at "mine steps"))
    all_goals (refine hret _ _ _ (by walk_at "mine keep") ⟨_, congrArg (fun x => Value.int x _) ?_⟩)
    all_goals clear hret
    all_goals first
      | exact kq5 (l := restOf l) (by assumption) (by assumption)
      | exact kq0 (by assumption)
      | exact kq1 (by assumption) (by assumption) (by assumption)
      | exact kq2 (by assumption) (by assumption) (by assumption)
      | exact kq3 (by assumption) (by assumption) (by assumption) (by assumption) (by assumption) (by assumption) (by assumption)
      | exact kq4 (by assumption) (by assumption) (by assumption) (by assumption) (by assumption) (by assumption) (by assumption)
      | exact kqB (by assumption) (by assumption) (by assumption) (by assumption) (by assumption) (by assumption)
      | exact kqC (by assumption) (by assumption) (by assumption) (by assumption) (by assumption) (by assumption)
      | exact kq6 (by assumption) (by assumption) (by assumption) (by assumption)
      | exact kq7 (by assumption) (by assumption) (by assumption) (by assumption)
      | exact kq8 (by assumption) (by assumption) (by assumption) (by assumption)
      | exact kqA (by assumption) (by assumption) (by assumption) (by assumption)
      | exact kq9 (by assumption) (by assumption) (by assumption) (by assumption)
end
end
section
local macro_rules | `(tactic| walk_at "mine cut") => `(tactic| skip)

local macro_rules | `(tactic| walk_at "call ref") => `(tactic| (k_here; k_dflt (first | (refine' useR (alt_int _ _ ?h0 ?hc _) ?F ?N ?X ?T trivial ?hh ?d ?u ?_; (case h0 => omega); (case hc => omega); walk_at "mine args") | (refine' useR (alt_str _ _ ?hc _) ?F ?N ?X ?T trivial ?hh ?d ?u ?_; (case hc => omega); walk_at "mine args") | (refine' useR (iscntrl_str _ _ _) ?F ?N ?X ?T trivial ?hh ?d ?u ?_; walk_at "mine args") | (refine' useR (isspace_str _ _ _) ?F ?N ?X ?T trivial ?hh ?d ?u ?_; walk_at "mine args") | (refine' useR (isdigit_str _ _ _) ?F ?N ?X ?T trivial ?hh ?d ?u ?_; walk_at "mine args") | (refine' useR (ctrl_str _ _ _) ?F ?N ?X ?T trivial ?hh ?d ?u ?_; walk_at "mine args") | (refine' useR (ctrl_int _ _ _) ?F ?N ?X ?T trivial ?hh ?d ?u ?_; walk_at "mine args") | (refine' useR (isprint_one _ _ ?h1 _) ?F ?N ?X ?T trivial ?hh ?d ?u ?_; (case h1 => omega); walk_at "mine args") | (refine' useR (isprint_str _ _ _) ?F ?N ?X ?T trivial ?hh ?d ?u ?_; walk_at "mine args")); intro t' h' tk' F' N' st'))

noncomputable def isCut (b : Bool) (c : Nat) : Bool := decide (c ≤ 31 ∨ c = 127) && (!b || decide ((9 ≤ c ∧ c ≤ 13) ∨ c = 32))
noncomputable def cutStep (b : Bool) (st : List (List Nat) × List Nat) (c : Nat) : List (List Nat) × List Nat := if isCut b c then (st.1 ++ [st.2], []) else (st.1, st.2 ++ [c])
noncomputable def cutOf (b : Bool) (l : List Nat) : List (List Nat) := (l.foldl (cutStep b) ([], [])).1 ++ [(l.foldl (cutStep b) ([], [])).2]

/-- a list of texts at an address -/
noncomputable def SL (h : Heap) (a : Addr) (ls : List (List Nat)) : Prop := ∃ (vs : List Value) (n : Nat), h.get? a = some (W.listOf vs.toArray n) ∧ StrsAre vs (ls.map S)

theorem useL {w : World} {mean : ExcName → Option Value} {mg mb : Str → Option Value} {A : Around} {s : Shared} {Q E : Value → Shared → Prop} {f : Addr} {vs : List Value} {h₀ : Heap} {L : Addr} {m : Str → Option Value} {news : List (Addr × Obj)} {k : Nat} {C : Heap → Prop} {ls : List (List Nat)}
    (D : Does w k f vs C (fun v h h' => ∃ a, v = .ref a ∧ SL h' a ls ∧ h.get? a = none)) (F : Fr h₀ L s.heap m) (N : News h₀ L s.heap news)
    (X : (Mine.hd.heap_39 w.params).In h₀) (T : Top Mine.hd.view_39 (looseW Mine.hd.view_39 []) mean mg mb h₀) (hC : C s.heap)
    (hh : A.handled = none) (hd : A.depth + k < recursionLimit) (hu : A.units + 8 * k < cLine)
    (h : ∀ a us n h' tk', Fr h₀ L h' m → News h₀ L h' ((a, W.listOf (List.toArray us) n) :: news) → StrsAre us (ls.map S) → Q (.ref a) { s with heap := h', toks := tk' }) :
    wpAny (model Challenge.rw_ny0024_01.row.prog w) A (call (.ref f) vs) Q E s :=
  use D F N X T hC hh hd hu fun v h' tk' F' N' st p => by
    obtain ⟨a, rfl, ⟨us, n, g0, hs⟩, e1⟩ := p
    exact h a us n h' tk' F' (news_more (tl := [(a, W.listOf us.toArray n)]) F N st fun p hp => by rw [List.mem_singleton.mp hp]; exact ⟨g0, e1⟩) hs

noncomputable def CutJ (b : Bool) (pre : List Nat) (c : Array Value × Nat × List Nat × Tok) : Prop :=
  StrsAre c.1.toList ((pre.foldl (cutStep b) ([], [])).1.map S) ∧ c.2.2.1 = (pre.foldl (cutStep b) ([], [])).2 ∧ c.1.size ≤ pre.length ∧ c.2.2.1.length ≤ pre.length
theorem cutJ_yes {b : Bool} {pre : List Nat} {n : Nat} {vs : Array Value} {ep ep' : Nat} {part : List Nat} {tp tp' : Tok} (h : CutJ b pre (vs, ep, part, tp)) (hc : isCut b n = true) :
    CutJ b (pre ++ [n]) (vs.push (.str (S part) tp), ep', [], tp') := by
  obtain ⟨h1, h2, h3, h4⟩ := h
  dsimp only at *
  refine ⟨?_, ?_, ?_, ?_⟩
  · simp only [List.foldl_append, List.foldl_cons, List.foldl_nil, cutStep, hc, if_true, List.map_append, List.map_cons, List.map_nil, Array.toList_push]
    rw [← h2]
    exact h1.append' (.cons _ _ .nil)
  · simp [List.foldl_append, cutStep, hc]
  · simp; omega
  · simp
theorem cutJ_no {b : Bool} {pre : List Nat} {n : Nat} {vs : Array Value} {ep : Nat} {part : List Nat} {tp tp' : Tok} (h : CutJ b pre (vs, ep, part, tp)) (hc : isCut b n = false) :
    CutJ b (pre ++ [n]) (vs, ep, part ++ [n], tp') := by
  obtain ⟨h1, h2, h3, h4⟩ := h
  dsimp only at *
  refine ⟨?_, ?_, ?_, ?_⟩
  · simpa [List.foldl_append, cutStep, hc] using h1
  · simp [List.foldl_append, cutStep, hc, h2]
  · simp; omega
  · simp; omega

theorem cutMap (v u w : Option Value) (r : Str → Option Value) : ∀ z, z ≠ Str.ofString "sign" → (if z = Str.ofString "part" then v else if z = Str.ofString "sign" then u else if z = Str.ofString "part" then w else r z) = if z = Str.ofString "part" then v else r z := by
  intro z hz
  by_cases hp : z = Str.ofString "part"
  · simp only [hp, if_true]
  · simp only [if_neg hp, if_neg hz]
theorem strs_cast {vs : List Value} {ls : List (List Nat)} {p : List Nat} {t : Tok} (h : StrsAre vs (ls.map S)) : StrsAre (vs ++ [.str (S p) t]) ((ls ++ [p]).map S) := by
  rw [List.map_append]; exact h.append' (.cons _ _ .nil)

section
local macro_rules | `(tactic| k_all) => `(tactic| assumption)
local macro_rules | `(tactic| walk_at "exec For") => `(tactic| (k_here; (rename Fr _ _ _ _ => lF'); (with_unfolding_all refine' For_invVF lF' ?k1 ?k2 ?_; (case k1 => exact rfl); (case k2 => exact rfl); k_whole)))
local macro_rules | `(tactic| walk_at "pyIter str") => `(tactic| (k_here; refine hold ?_))

theorem cut_does (w) (l : List Nat) (b : Bool) (t : Tok) (h1 : l.length ≤ 1000000) :
    Does w 3 117 [.str (S l) t, .bool b] (fun _ => True) (fun v h h' => ∃ a, v = .ref a ∧ SL h' a (cutOf b l) ∧ h.get? a = none) := by
  intro mean mg mb dp un fr gd s Q E G hC hd hu hret
  walk_at "mine start"
  walk_at "mine steps"
  unfold Hold
  rename_i a h4 q3 h3 h2 F2 N2
  refine loopText (σ := Array Value × Nat × List Nat × Tok) (fun c => [(a, W.listOf c.1 c.2.1)])
    (fun c y => if y = Str.ofString "part" then some (.str (S c.2.2.1) c.2.2.2) else if y = Str.ofString "parts" then some (.ref a) else List.lookup y [(Str.ofString "spaces", Value.bool b), (Str.ofString "text", Value.str (S l) t)])
    (CutJ b) (#[], 0, [], _) rfl F2 N2 rfl (fun z _ => rfl) ⟨.nil, rfl, Nat.le_refl _, Nat.le_refl _⟩ ?_ ?_
  · rintro pre n post t' ⟨vs, ep, part, tp⟩ h tk I own e hoff hown hJ F3 N3
    have hlen : pre.length + post.length + 1 = l.length := by rw [e]; simp; omega
    have hz := hJ.2.2
    have hof2 : ∀ q : Addr × Obj, ∀ o, q ∈ [(a, o)] → q.1 ∉ [I] := fun q o hq => by rw [List.mem_singleton.mp hq]; exact fun h => hoff _ (List.Mem.head _) (List.mem_singleton.mp h)
    have hoa : ∀ p ∈ own, p.1 ≠ a := fun p hp e => hoff _ (List.Mem.head _) ((hown p hp).symm.trans e).symm
    dsimp only [List.cons_append, List.nil_append] at *
    walk_at "mine steps"
    all_goals first
      | (refine' turnNext (vs.push (.str (S part) tp), _, [], _) rfl ?F ?N ?o ?m ?j; (case F => assumption); (case m => exact cutMap _ _ _ _); (case N => assumption); (case o => exact fun q => hof2 q _); (case j => exact cutJ_yes hJ (by simp_all [isCut])))
      | (refine' turnNext (vs, _, part ++ [n], _) rfl ?F ?N ?o ?m ?j; (case F => assumption); (case m => exact cutMap _ _ _ _); (case N => assumption); (case o => exact fun q => hof2 q _); (case j => exact cutJ_no hJ (by simp_all [isCut] <;> omega)))
  · rintro ⟨vs, ep, part, tp⟩ m h tk hJ hm F3 N3
    have F4 := frOut F3 hm
    have hz := hJ.2.2
    dsimp only at *
    walk_at "mine steps"
    rename News _ _ _ _ => N5
    refine add_arrays (by assumption) N5 (News.isList N5 (by k_mem)) (News.isList N5 (by k_mem)) ?_ ?_
    · intro h6 F6 N6
      walk_at "mine steps"
      refine hret _ _ _ (by walk_at "mine keep") ⟨_, rfl, ⟨_, _, (N6 _ (List.Mem.head _)).1, ?_⟩, (N6 _ (List.Mem.head _)).2.2⟩
      obtain ⟨j1, j2, _, _⟩ := hJ
      dsimp only at j1 j2
      rw [j2]
      exact strs_cast j1
    · rw [sizeLine_eq]; simp; omega
end
end
section
theorem cutStep_split (b : Bool) (l : List Nat) : ∀ (ps : List (List Nat)) (p : List Nat), (l.foldl (cutStep b) (ps, p)) = (ps ++ (l.foldl (cutStep b) ([], p)).1, (l.foldl (cutStep b) ([], p)).2) := by
  induction l with
  | nil => intro ps p; simp
  | cons c r ih =>
    intro ps p
    rw [List.foldl_cons, List.foldl_cons]
    unfold cutStep
    cases h : isCut b c with
    | true =>
      simp only [if_true]
      have := ih (ps ++ [p]) []
      unfold cutStep at this ih
      rw [this, ih ([] ++ [p]) []]
      simp
    | false =>
      simp only [Bool.false_eq_true, if_false]
      have := ih ps (p ++ [c])
      unfold cutStep at this
      exact this
/-- the cut with a first part under way -/
noncomputable def cutWith (b : Bool) (p l : List Nat) : List (List Nat) := (l.foldl (cutStep b) ([], p)).1 ++ [(l.foldl (cutStep b) ([], p)).2]
theorem cutWith_nil (b : Bool) (p : List Nat) : cutWith b p [] = [p] := rfl
theorem cutWith_yes {b : Bool} {c : Nat} (h : isCut b c = true) (p r : List Nat) : cutWith b p (c :: r) = p :: cutWith b [] r := by
  unfold cutWith
  rw [List.foldl_cons, show cutStep b ([], p) c = ([] ++ [p], []) by simp [cutStep, h], cutStep_split]
  simp
theorem cutWith_no {b : Bool} {c : Nat} (h : isCut b c = false) (p r : List Nat) : cutWith b p (c :: r) = cutWith b (p ++ [c]) r := by
  unfold cutWith
  rw [List.foldl_cons, show cutStep b ([], p) c = ([], p ++ [c]) by simp [cutStep, h]]
theorem cutOf_with (b : Bool) (l : List Nat) : cutOf b l = cutWith b [] l := rfl
theorem cutWith_len (b : Bool) (l : List Nat) : ∀ p, (cutWith b p l).length ≤ l.length + 1 ∧ ∀ x ∈ cutWith b p l, x.length ≤ p.length + l.length := by
  induction l with
  | nil => intro p; simp [cutWith_nil]
  | cons c r ih =>
    intro p
    cases h : isCut b c with
    | true =>
      rw [cutWith_yes h]
      obtain ⟨h1, h2⟩ := ih []
      refine ⟨by simp; omega, fun x hx => ?_⟩
      rcases List.mem_cons.mp hx with rfl | hx
      · omega
      · have := h2 x hx; simp at this ⊢; omega
    | false =>
      rw [cutWith_no h]
      obtain ⟨h1, h2⟩ := ih (p ++ [c])
      refine ⟨by simp; omega, fun x hx => ?_⟩
      have := h2 x hx; simp at this ⊢; omega
theorem cutWith_ne (b : Bool) (p l : List Nat) : cutWith b p l ≠ [] := by unfold cutWith; simp
end
section
local macro_rules | `(tactic| walk_at "call ref") => `(tactic| (k_here; k_dflt (first | (refine' useR (alt_int _ _ ?h0 ?hc _) ?F ?N ?X ?T trivial ?hh ?d ?u ?_; (case h0 => omega); (case hc => omega); walk_at "mine args") | (refine' useR (alt_str _ _ ?hc _) ?F ?N ?X ?T trivial ?hh ?d ?u ?_; (case hc => omega); walk_at "mine args") | (refine' useR (iscntrl_str _ _ _) ?F ?N ?X ?T trivial ?hh ?d ?u ?_; walk_at "mine args") | (refine' useR (isspace_str _ _ _) ?F ?N ?X ?T trivial ?hh ?d ?u ?_; walk_at "mine args") | (refine' useR (isdigit_str _ _ _) ?F ?N ?X ?T trivial ?hh ?d ?u ?_; walk_at "mine args") | (refine' useR (ctrl_str _ _ _) ?F ?N ?X ?T trivial ?hh ?d ?u ?_; walk_at "mine args") | (refine' useR (ctrl_int _ _ _) ?F ?N ?X ?T trivial ?hh ?d ?u ?_; walk_at "mine args") | (refine' useR (isprint_one _ _ ?h1 _) ?F ?N ?X ?T trivial ?hh ?d ?u ?_; (case h1 => omega); walk_at "mine args") | (refine' useR (isprint_str _ _ _) ?F ?N ?X ?T trivial ?hh ?d ?u ?_; walk_at "mine args")); intro t' h' tk' F' N' st'))

/-- what func_std_string writes -/
noncomputable def stdOf (wh : List Nat) (ln : Int) (nm : List Nat) : List Nat :=
  if wh = [126] ∧ ln = 0 then (if nm.head? = some 60 ∧ nm.getLast? = some 62 then 123 :: (nm.tail.dropLast ++ [125]) else nm)
  else wh ++ 58 :: (decZ ln ++ 40 :: (nm ++ [41]))

theorem std_does (w) (a : Addr) (wh nm : List Nat) (ln : Int) (t1 t2 t3 : Tok) (h1 : wh.length ≤ 1000000) (h2 : nm.length ≤ 1000000) (h3 : ln.natAbs < 10 ^ 100) :
    Does w 1 28 [.ref a] (fun h => IsTup h a #[.str (S wh) t1, .int ln t2, .str (S nm) t3]) (fun v _ _ => ∃ t, v = .str (S (stdOf wh ln nm)) t) := by
  intro mean mg mb dp un fr gd s Q E G hC hd hu hret
  walk_at "mine start"
  walk_at "mine steps"
  all_goals (refine hret _ _ _ (by walk_at "mine keep") ⟨_, congrArg (fun x => Value.str (S x) _) ?_⟩; simp_all [stdOf])
theorem getname_does (w) (a : Addr) (x y z : Value) :
    Does w 1 21 [.ref a] (fun h => IsTup h a #[x, y, z]) (fun v _ _ => ∃ _ : Tok, v = z) := by
  intro mean mg mb dp un fr gd s Q E G hC hd hu hret
  walk_at "mine start"
  walk_at "mine steps"
  exact hret _ _ _ (by walk_at "mine keep") ⟨0, rfl⟩
end
section
local macro_rules | `(tactic| walk_at "call ref") => `(tactic| (k_here; k_dflt (first | (refine' useR (alt_int _ _ ?h0 ?hc _) ?F ?N ?X ?T trivial ?hh ?d ?u ?_; (case h0 => omega); (case hc => omega); walk_at "mine args") | (refine' useR (alt_str _ _ ?hc _) ?F ?N ?X ?T trivial ?hh ?d ?u ?_; (case hc => omega); walk_at "mine args") | (refine' useR (iscntrl_str _ _ _) ?F ?N ?X ?T trivial ?hh ?d ?u ?_; walk_at "mine args") | (refine' useR (isspace_str _ _ _) ?F ?N ?X ?T trivial ?hh ?d ?u ?_; walk_at "mine args") | (refine' useR (isdigit_str _ _ _) ?F ?N ?X ?T trivial ?hh ?d ?u ?_; walk_at "mine args") | (refine' useR (ctrl_str _ _ _) ?F ?N ?X ?T trivial ?hh ?d ?u ?_; walk_at "mine args") | (refine' useR (ctrl_int _ _ _) ?F ?N ?X ?T trivial ?hh ?d ?u ?_; walk_at "mine args") | (refine' useR (isprint_one _ _ ?h1 _) ?F ?N ?X ?T trivial ?hh ?d ?u ?_; (case h1 => omega); walk_at "mine args") | (refine' useR (isprint_str _ _ _) ?F ?N ?X ?T trivial ?hh ?d ?u ?_; walk_at "mine args")); intro t' h' tk' F' N' st'))

abbrev Tri := List Nat × Int × List Nat
noncomputable def tupO (r : Tri) (t1 t2 t3 : Tok) : Obj := { cls := .type "tuple", data := .seq #[.str (S r.1) t1, .int r.2.1 t2, .str (S r.2.2) t3] }
/-- values that are triples of the ledger -/
inductive Tris (news : List (Addr × Obj)) : List Value → List Tri → Prop
  | nil : Tris news [] []
  | cons {r : Tri} {vs : List Value} {ts : List Tri} {d : Addr} (t1 t2 t3 : Tok) : (d, tupO r t1 t2 t3) ∈ news → Tris news vs ts → Tris news (.ref d :: vs) (r :: ts)
theorem Tris.mono {news news' : List (Addr × Obj)} {vs : List Value} {ts : List Tri} (h : Tris news vs ts) (k : ∀ p ∈ news, p ∈ news') : Tris news' vs ts := by
  induction h with
  | nil => exact .nil
  | cons t1 t2 t3 hm _ ih => exact .cons t1 t2 t3 (k _ hm) ih
theorem Tris.length {news : List (Addr × Obj)} {vs : List Value} {ts : List Tri} (h : Tris news vs ts) : vs.length = ts.length := by
  induction h with
  | nil => rfl
  | cons t1 t2 t3 hm _ ih => simp [ih]
theorem Tris.append {news : List (Addr × Obj)} {vs vs' : List Value} {ts ts' : List Tri} (h : Tris news vs ts) (h' : Tris news vs' ts') : Tris news (vs ++ vs') (ts ++ ts') := by
  induction h with
  | nil => exact h'
  | cons t1 t2 t3 hm _ ih => exact .cons t1 t2 t3 hm ih

section
variable {M : Model} {A : Around} {E : Value → Shared → Prop} {s : Shared} {h₀ : Heap} {L : Addr} {m : Str → Option Value} {Q : Flow → Shared → Prop}
/-- ways that meet: the list of triples told so far -/
noncomputable def MeetT (h₀ : Heap) (L : Addr) (m : Str → Option Value) (a ca : Addr) (o : Obj) (ts : List Tri) (s : Shared) (f : Flow) (s' : Shared) : Prop :=
  ∃ (vs : Array Value) (ep : Nat) (rest : List (Addr × Obj)) (h' : Heap) (tk : Nat), f = .next ∧ s' = { s with heap := h', toks := tk } ∧ Fr h₀ L h' m ∧ News h₀ L h' ((a, W.listOf vs ep) :: (ca, o) :: rest) ∧ Tris rest vs.toList ts ∧ (∀ p ∈ rest, p.1 ≠ a)
theorem joinT {st : Sem Flow} {a ca : Addr} {o ob : Obj} (ts : List Tri) {news : List (Addr × Obj)} (_F : Fr h₀ L s.heap m) (_N : News h₀ L s.heap ((a, ob) :: (ca, o) :: news)) (h : wpAny M A st (MeetT h₀ L m a ca o ts s) E s)
    (k : ∀ vs ep rest h' tk, Fr h₀ L h' m → News h₀ L h' ((a, W.listOf vs ep) :: (ca, o) :: rest) → Tris rest vs.toList ts → (∀ p ∈ rest, p.1 ≠ a) → Q .next { s with heap := h', toks := tk }) :
    wpAny M A st Q E s :=
  wpAny_mono h (fun f s' hx => by obtain ⟨vs, ep, rest, h', tk, e1, e2, F, N, T, off⟩ := hx; subst e1; subst e2; exact k vs ep rest h' tk F N T off) fun _ _ x => x
theorem meetT_add {a ca D : Addr} {o : Obj} {ts ts₀ : List Tri} {vs : Array Value} {ep : Nat} {rest : List (Addr × Obj)} {h' : Heap} {tk : Nat} {t1 t2 t3 : Tok} (r : Tri) (F : Fr h₀ L h' m)
    (N : News h₀ L h' ((D, { cls := .type "tuple", data := .seq #[.str (S r.1) t1, .int r.2.1 t2, .str (S r.2.2) t3] }) :: (a, W.listOf (vs.push (.ref D)) ep) :: (ca, o) :: rest))
    (T : Tris rest vs.toList ts₀) (off : ∀ p ∈ rest, p.1 ≠ a) (hD : D ≠ a) (e : ts = ts₀ ++ [r]) : MeetT h₀ L m a ca o ts s .next { s with heap := h', toks := tk } := by
  refine ⟨vs.push (.ref D), ep, (D, tupO r t1 t2 t3) :: rest, h', tk, rfl, rfl, F, fun p hp => N p ?_, ?_, ?_⟩
  · simp only [List.mem_cons] at hp ⊢
    rcases hp with h | h | h | h
    · exact .inr (.inl h)
    · exact .inr (.inr (.inl h))
    · exact .inl h
    · exact .inr (.inr (.inr h))
  · rw [e, Array.toList_push]
    exact (T.mono fun p hp => .tail _ hp).append (.cons t1 t2 t3 (.head _) .nil)
  · intro p hp
    rcases List.mem_cons.mp hp with rfl | hp
    · exact hD
    · exact off p hp
theorem meetT_same {a ca : Addr} {o : Obj} {ts ts₀ : List Tri} {vs : Array Value} {ep : Nat} {rest : List (Addr × Obj)} {h' : Heap} {tk : Nat} (F : Fr h₀ L h' m)
    (N : News h₀ L h' ((a, W.listOf vs ep) :: (ca, o) :: rest)) (T : Tris rest vs.toList ts₀) (off : ∀ p ∈ rest, p.1 ≠ a) (e : ts = ts₀) : MeetT h₀ L m a ca o ts s .next { s with heap := h', toks := tk } :=
  ⟨vs, ep, rest, h', tk, rfl, rfl, F, N, e ▸ T, off⟩
end

/-- where a reading may begin -/
noncomputable def posTo (l : List Nat) (n : Nat) : List Nat := (List.range n).filter (fun j => decide (l.getD j 0 = 58 ∧ l.getLast? = some 41))
noncomputable abbrev posN (l : List Nat) : List Nat := posTo l l.length
noncomputable def castL (l : List Nat) : List Int := l.map fun (j : Nat) => (j : Int)
theorem posTo_yes {l : List Nat} {n : Nat} (h : l.getD n 0 = 58 ∧ l.getLast? = some 41) : castL (posTo l (n + 1)) = castL (posTo l n) ++ [(n : Int)] := by
  unfold posTo castL; rw [List.range_succ, List.filter_append, List.map_append, List.filter_cons_of_pos (by simpa using h)]; rfl
theorem posTo_no {l : List Nat} {n : Nat} (h : ¬ (l.getD n 0 = 58 ∧ l.getLast? = some 41)) : castL (posTo l (n + 1)) = castL (posTo l n) := by
  unfold posTo castL; rw [List.range_succ, List.filter_append, List.map_append, List.filter_cons_of_neg (by simpa using h)]; simp
theorem pos_yes {l : List Nat} {i : Nat} {hne : l ≠ []} (h1 : [l.getD (0 + (i : Int)).toNat 0] = [58]) (h2 : [l.getLast hne] = [41]) : l.getD i 0 = 58 ∧ l.getLast? = some 41 := by
  rw [show (0 + (i : Int)).toNat = i by omega] at h1
  exact ⟨(List.cons.inj h1).1, by rw [List.getLast?_eq_some_getLast hne, (List.cons.inj h2).1]⟩
theorem pos_no1 {l : List Nat} {i : Nat} (h1 : ¬ [l.getD (0 + (i : Int)).toNat 0] = [58]) : ¬ (l.getD i 0 = 58 ∧ l.getLast? = some 41) := by
  rw [show (0 + (i : Int)).toNat = i by omega] at h1
  exact fun h => h1 (by rw [h.1])
theorem pos_no2 {l : List Nat} {i : Nat} {hne : l ≠ []} (h2 : ¬ [l.getLast hne] = [41]) : ¬ (l.getD i 0 = 58 ∧ l.getLast? = some 41) := by
  refine fun h => h2 ?_
  have := h.2
  rw [List.getLast?_eq_some_getLast hne] at this
  rw [Option.some.inj this]
theorem mapNone (z : Str) (v : Option Value) : (if z = Str.ofString "told" then v else none) = if z = Str.ofString "line" then none else if z = Str.ofString "k" then none else if z = Str.ofString "behind" then none else if z = Str.ofString "told" then v else none := by
  by_cases h1 : z = Str.ofString "line"
  · rw [h1, if_pos rfl, if_neg (by decide +kernel)]
  · by_cases h2 : z = Str.ofString "k"
    · rw [h2, if_neg (by decide +kernel), if_neg (by decide +kernel), if_pos rfl]
    · by_cases h3 : z = Str.ofString "behind"
      · rw [h3, if_neg (by decide +kernel), if_neg (by decide +kernel), if_neg (by decide +kernel), if_pos rfl]
      · rw [if_neg h1, if_neg h2, if_neg h3]
theorem ints_snoc {ys : List Value} {xs : List Int} {i : Nat} {t : Tok} (h : IntsAre ys xs) : IntsAre (ys ++ [.int (0 + (i : Int)) t]) (xs ++ [(i : Int)]) := by
  rw [Int.zero_add]
  induction h with
  | nil => exact .cons _ _ .nil
  | cons n t _ ih => exact .cons n t ih
theorem posN_len (l : List Nat) : (posN l).length ≤ l.length := by
  unfold posN posTo; exact Nat.le_trans (List.length_filter_le _ _) (by simp)

noncomputable def told1 (l : List Nat) : List Tri := if l.take 1 = [60] ∧ l.drop (l.length - 1) = [62] then [] else [([126], 0, l)]
noncomputable def told2 (l : List Nat) : List Tri := if l.take 1 = [123] ∧ l.drop (l.length - 1) = [125] then [([126], 0, 60 :: (l.tail.dropLast ++ [62]))] else []
/-- what a colon at i tells -/
noncomputable def readAt (l : List Nat) (i : Nat) : List Tri :=
  if 0 < fnd 40 (l.drop (i + 1)) then
    match numOf ((l.drop (i + 1)).take (fnd 40 (l.drop (i + 1))).toNat) with
    | some n => if l.take i = [126] ∧ n = 0 then [] else [(l.take i, n, ((l.drop (i + 1)).drop ((fnd 40 (l.drop (i + 1))).toNat + 1)).dropLast)]
    | none => []
  else []
noncomputable def readOf (l : List Nat) : List Tri := told1 l ++ told2 l ++ (posN l).flatMap (readAt l)
theorem told_len (l : List Nat) : (told1 l ++ told2 l).length ≤ 2 := by
  unfold told1 told2; split <;> split <;> simp
theorem readAt_len (l : List Nat) (i : Nat) : (readAt l i).length ≤ 1 := by
  unfold readAt; (repeat' split) <;> simp
theorem flat_len (l : List Nat) (ps : List Nat) : (ps.flatMap (readAt l)).length ≤ ps.length := by
  induction ps with
  | nil => simp
  | cons p r ih => have := readAt_len l p; rw [List.flatMap_cons, List.length_append, List.length_cons]; omega
theorem ints_at {ys pre post : List Value} {v : Value} {ps : List Nat} (h : IntsAre ys (castL ps)) (e : ys = pre ++ v :: post) : ∃ j t, ps[pre.length]? = some j ∧ v = .int (j : Int) t := by
  have hl := h.length
  have hlt : pre.length < ps.length := by
    rw [e] at hl; simp [castL] at hl; omega
  obtain ⟨t, ht⟩ := h.get pre.length ((ps[pre.length] : Nat) : Int) (by simp [castL, hlt])
  refine ⟨ps[pre.length], t, by simp [hlt], ?_⟩
  rw [e] at ht
  simpa using ht
theorem mapThree (v1 v2 v3 u ln kk bh : Option Value) (r : Str → Option Value) : ∀ z, z ≠ Str.ofString "i" → (if z = Str.ofString "line" then v1 else if z = Str.ofString "k" then v2 else if z = Str.ofString "behind" then v3 else if z = Str.ofString "i" then u else if z = Str.ofString "line" then ln else if z = Str.ofString "k" then kk else if z = Str.ofString "behind" then bh else r z)
    = if z = Str.ofString "line" then v1 else if z = Str.ofString "k" then v2 else if z = Str.ofString "behind" then v3 else r z := by
  intro z hz
  by_cases h1 : z = Str.ofString "line"
  · rw [if_pos h1, if_pos h1]
  · by_cases h2 : z = Str.ofString "k"
    · rw [if_neg h1, if_pos h2, if_neg h1, if_pos h2]
    · by_cases h3 : z = Str.ofString "behind"
      · rw [if_neg h1, if_neg h2, if_pos h3, if_neg h1, if_neg h2, if_pos h3]
      · rw [if_neg h1, if_neg h2, if_neg h3, if_neg hz, if_neg h1, if_neg h2, if_neg h3, if_neg h1, if_neg h2, if_neg h3]
theorem reorder {h₀ h : Heap} {L : Addr} {p q1 q2 A B : Addr × Obj} {rest own : List (Addr × Obj)} (N : News h₀ L h (p :: q1 :: q2 :: A :: B :: (rest ++ own))) : News h₀ L h (A :: B :: ((p :: rest) ++ own)) := by
  intro x hx
  refine N x ?_
  simp only [List.mem_cons, List.mem_append] at hx ⊢
  rcases hx with h | h | (h | h) | h
  · exact .inr (.inr (.inr (.inl h)))
  · exact .inr (.inr (.inr (.inr (.inl h))))
  · exact .inl h
  · exact .inr (.inr (.inr (.inr (.inr (.inl h)))))
  · exact .inr (.inr (.inr (.inr (.inr (.inr h)))))
theorem offNew {a ca D : Addr} {o1 o2 oc : Obj} {rest : List (Addr × Obj)} {x : Obj} {fp : List Addr} (h : ∀ q ∈ (a, o1) :: (ca, oc) :: rest, q.1 ∉ fp) (hD : ∀ b ∈ fp, b < D) : ∀ q ∈ (a, o2) :: (ca, oc) :: (D, x) :: rest, q.1 ∉ fp := by
  intro q hq
  rcases List.mem_cons.mp hq with rfl | hq
  · exact h (a, o1) (.head _)
  · rcases List.mem_cons.mp hq with rfl | hq
    · exact h (ca, oc) (.tail _ (.head _))
    · rcases List.mem_cons.mp hq with rfl | hq
      · exact fun hm => absurd (hD _ hm) (Nat.lt_irrefl _)
      · exact h q (.tail _ (.tail _ hq))
theorem take_succ_of {ps : List Nat} {n j : Nat} (h : ps[n]? = some j) : ps.take (n + 1) = ps.take n ++ [j] := by
  rw [List.take_add_one, h]; rfl
noncomputable def ReadJ (l : List Nat) (a : Addr) (pre : List Value) (c : Array Value × Nat × List (Addr × Obj) × Option Value × Option Value × Option Value) : Prop :=
  Tris c.2.2.1 c.1.toList (told1 l ++ told2 l ++ ((posN l).take pre.length).flatMap (readAt l)) ∧ (∀ p ∈ c.2.2.1, p.1 ≠ a)
theorem readJ_same {l : List Nat} {a : Addr} {pre : List Value} {v : Value} {j : Nat} {vals : Array Value} {ep ep' : Nat} {rest : List (Addr × Obj)} {x1 x2 x3 y1 y2 y3 : Option Value}
    (h : ReadJ l a pre (vals, ep, rest, x1, x2, x3)) (hj : (posN l)[pre.length]? = some j) (e : readAt l j = []) : ReadJ l a (pre ++ [v]) (vals, ep', rest, y1, y2, y3) := by
  refine ⟨?_, h.2⟩
  have := h.1
  dsimp only at this ⊢
  rw [List.length_append, List.length_singleton, take_succ_of hj, List.flatMap_append]
  simpa [e] using this
theorem readJ_add {l : List Nat} {a D : Addr} {pre : List Value} {v : Value} {j : Nat} {vals : Array Value} {ep ep' : Nat} {rest : List (Addr × Obj)} {x1 x2 x3 y1 y2 y3 : Option Value} {r : Tri} {t1 t2 t3 : Tok}
    (h : ReadJ l a pre (vals, ep, rest, x1, x2, x3)) (hj : (posN l)[pre.length]? = some j) (e : readAt l j = [r]) (hD : D ≠ a) : ReadJ l a (pre ++ [v]) (vals.push (.ref D), ep', (D, tupO r t1 t2 t3) :: rest, y1, y2, y3) := by
  refine ⟨?_, ?_⟩
  · have := h.1
    dsimp only at this ⊢
    rw [List.length_append, List.length_singleton, take_succ_of hj, List.flatMap_append, Array.toList_push, ← List.append_assoc]
    refine (this.mono fun p hp => .tail _ hp).append ?_
    simp only [List.flatMap_cons, List.flatMap_nil, e, List.append_nil]
    exact .cons t1 t2 t3 (.head _) .nil
  · intro p hp
    rcases List.mem_cons.mp hp with rfl | hp
    · exact hD
    · exact h.2 p hp
theorem read1 {l : List Nat} {j : Nat} (h : ¬ 0 < fnd 40 (l.drop ((j : Int) + 1).toNat)) : readAt l j = [] := by
  rw [show ((j : Int) + 1).toNat = j + 1 by omega] at h
  unfold readAt; rw [if_neg h]
theorem read2 {l : List Nat} {j : Nat} (h : 0 < fnd 40 (l.drop ((j : Int) + 1).toNat)) (hn : numOf ((l.drop ((j : Int) + 1).toNat).take (fnd 40 (l.drop ((j : Int) + 1).toNat)).toNat) = none) : readAt l j = [] := by
  rw [show ((j : Int) + 1).toNat = j + 1 by omega] at h hn
  unfold readAt; rw [if_pos h, hn]
theorem read3 {l : List Nat} {j : Nat} {n : Int} (h : 0 < fnd 40 (l.drop ((j : Int) + 1).toNat)) (hn : numOf ((l.drop ((j : Int) + 1).toNat).take (fnd 40 (l.drop ((j : Int) + 1).toNat)).toNat) = some n)
    (hz : ¬ ¬ (l.take (j : Int).toNat = [126] ∧ n = 0)) : readAt l j = [] := by
  rw [show ((j : Int) + 1).toNat = j + 1 by omega] at h hn
  rw [show (j : Int).toNat = j by omega] at hz
  unfold readAt; rw [if_pos h, hn]; dsimp only; rw [if_pos (Classical.not_not.mp hz)]
theorem read4 {l : List Nat} {j : Nat} {n : Int} (h : 0 < fnd 40 (l.drop ((j : Int) + 1).toNat)) (hn : numOf ((l.drop ((j : Int) + 1).toNat).take (fnd 40 (l.drop ((j : Int) + 1).toNat)).toNat) = some n)
    (hz : ¬ (l.take (j : Int).toNat = [126] ∧ n = 0)) : readAt l j = [(l.take (j : Int).toNat, n, ((l.drop ((j : Int) + 1).toNat).drop (fnd 40 (l.drop ((j : Int) + 1).toNat) + 1).toNat).dropLast)] := by
  have e1 : ((j : Int) + 1).toNat = j + 1 := by omega
  have e2 : (fnd 40 (l.drop (j + 1)) + 1).toNat = (fnd 40 (l.drop (j + 1))).toNat + 1 := by rw [e1] at h; omega
  rw [e1] at h hn ⊢
  rw [show (j : Int).toNat = j by omega] at hz ⊢
  rw [e2]
  unfold readAt; rw [if_pos h, hn]; dsimp only; rw [if_neg hz]

theorem off1_mem {D : Addr} : ∀ {l : List (Addr × Obj)}, LCg.Off1 D l → ∀ q ∈ l, q.1 ≠ D
  | [], _, _, h => nomatch h
  | _ :: _, x, q, h => by
    rcases List.mem_cons.mp h with rfl | h
    · exact x.1
    · exact off1_mem x.2 q h
theorem num_split {o : Option Int} {v : Value} (h : IsNum o v) : (o = none ∧ v = .none) ∨ ∃ n t, o = some n ∧ v = .int n t := by
  cases o with
  | none => exact .inl ⟨rfl, h⟩
  | some n => obtain ⟨t, e⟩ := (show ∃ t, v = .int n t from h); exact .inr ⟨n, t, rfl, e⟩

section
local macro_rules | `(tactic| k_all) => `(tactic| assumption)
local macro_rules | `(tactic| walk_at "exec If") => `(tactic| (k_here; refine hold ?_))
local macro_rules | `(tactic| walk_at "exec For") => `(tactic| (k_here; (rename Fr _ _ _ _ => lF'); (with_unfolding_all refine' For_invVF lF' ?k1 ?k2 ?_; (case k1 => exact rfl); (case k2 => exact rfl); k_whole)))
local macro_rules | `(tactic| walk_at "eval ListComp") => `(tactic| (k_here; k_dflt (refine LCt.ListComp_T (F₀ := by k_asm) (by with_unfolding_all rfl) (by decide) (by rfl) (by decide) (by rfl) ?_)))
local macro_rules | `(tactic| walk_at "CompSrcT") => `(tactic| (k_here; refine hold ?_))
local macro_rules | `(tactic| walk_at "CompEnd") => `(tactic| (k_here; refine hold ?_))
local macro_rules | `(tactic| walk_at "pyIter ref") => `(tactic| (k_here; refine hold ?_))
local macro_rules | `(tactic| walk_at "call ref") => `(tactic| (k_here; k_dflt (refine' use (num_does _ _ _ ?h1) ?F ?N ?X ?T trivial ?hh ?d ?u ?_; (case h1 => walk_at "mine size"); walk_at "mine args"); intro v' h' tk' F' N' st' p'; (rcases num_split p' with ⟨n0, e0⟩ | ⟨n, t, n0, e0⟩); all_goals subst e0))

theorem readings_does (w) (l : List Nat) (t : Tok) (h1 : l.length ≤ 1000) :
    Does w 4 129 [.str (S l) t] (fun _ => True) (fun v h h' => ∃ a vs n tl, v = .ref a ∧ h'.get? a = some (W.listOf vs n) ∧ h.get? a = none ∧ (∀ p ∈ tl, h'.get? p.1 = some p.2 ∧ h.get? p.1 = none) ∧ Tris tl vs.toList (readOf l)) := by
  intro mean mg mb dp un fr gd s Q E G hC hd hu hret
  walk_at "mine startC"
  rename_i X T L h₁ tk cells F N Y
  have F0 : Fr s.heap L h₁ (fun _ => none) := by with_unfolding_all exact F
  clear F
  obtain ⟨o, hE, d⟩ := CellsAre.one Y
  subst hE
  have d' : o.data = .cell (some (.str (S l) t)) := by with_unfolding_all exact d
  clear d Y
  walk_at "mine steps"
  unfold Hold
  rename_i a h2 q1 h3 F1 N1
  refine joinT (told1 l) F1 N1 ?_ ?_
  · refine wpAny_If ?_
    walk_at "mine steps"
    all_goals first
      | (refine' meetT_add (vs := #[]) (rest := []) (ts₀ := []) ([126], 0, l) ?F ?N .nil (fun _ h => nomatch h) ?d ?e; (case F => assumption); (case N => assumption); (case d => k_ne); (case e => unfold told1; rw [if_neg (by simp_all)]; rfl))
      | (refine' meetT_same (vs := #[]) (rest := []) (ts₀ := []) ?F ?N .nil (fun _ h => nomatch h) ?e; (case F => assumption); (case N => assumption); (case e => unfold told1; rw [if_pos (by simp_all)]))
  · intro vs ep rest h4 tk4 F4 N4 T4 off4
    have hz := T4.length
    have hz2 := told_len l
    rw [List.length_append] at hz2
    rw [Array.length_toList] at hz
    walk_at "mine steps"
    unfold Hold
    refine joinT (told1 l ++ told2 l) (by assumption) (by assumption) ?_ ?_
    · refine wpAny_If ?_
      walk_at "mine steps"
      all_goals first
        | (refine' meetT_add ([126], 0, 60 :: (l.tail.dropLast ++ [62])) ?F ?N T4 off4 ?d ?e; (case F => assumption); (case N => assumption); (case d => k_ne); (case e => refine congrArg (told1 l ++ ·) ?_; unfold told2; rw [if_pos (by simp_all)]))
        | (refine' meetT_same ?F ?N T4 off4 ?e; (case F => assumption); (case N => assumption); (case e => refine (congrArg (told1 l ++ ·) ?_).trans (List.append_nil _); unfold told2; rw [if_neg (by simp_all)]))
    · clear T4 off4 hz
      intro vs ep rest h4 tk4 F4 N4 T4 off4
      walk_at "mine steps"
      unfold Hold
      refine LCt.CompSrcT.range (n := l.length) (by rfl) (by k_asm) (by k_asm) (by assumption) ?_ ?_ ?_ ?_
      · exact small_one (by omega) (by omega) (by omega) (by omega)
      · rw [rangeSize_nat]; simp
      · rw [sizeLine_eq]; omega
      · intro g
        refine restT l.length (fun i ys news => news = (a, W.listOf vs ep) :: (L + 1, o) :: rest ∧ IntsAre ys (castL (posTo l i))) ?_ ?_ _ 0 _ _ (by omega) ⟨rfl, .nil⟩
        · rintro i ys news v I oI C oC D m₂ h tk E' hi ⟨rfl, hys⟩ ⟨tv, rfl⟩ hC hx F5 N5 off ne
          have hne : l ≠ [] := by intro e; rw [e] at hi; exact absurd hi (Nat.not_lt_zero _)
          walk_at "mine steps"
          all_goals unfold Hold
          all_goals first
            | (refine LCg.CompEnd.intro (by assumption) (by assumption) _ (fun p hp => hp) off trivial ⟨rfl, ?_⟩; rw [posTo_yes (pos_yes (by assumption) (by assumption))]; exact ints_snoc hys)
            | (refine LCg.CompEnd.intro (by assumption) (by assumption) _ (fun p hp => hp) off trivial ⟨rfl, ?_⟩; rw [posTo_no (pos_no2 (by assumption))]; exact hys)
            | (refine LCg.CompEnd.intro (by assumption) (by assumption) _ (fun p hp => hp) off trivial ⟨rfl, ?_⟩; rw [posTo_no (pos_no1 (by assumption))]; exact hys)
        · rintro ys news ⟨rfl, hys⟩
          unfold LCg.FinE
          intro D h5 tk5 F5 N5 o5
          walk_at "mine steps"
          unfold Hold
          have hpl := posN_len l
          have o6 : ∀ q ∈ (a, W.listOf vs ep) :: (L + 1, o) :: rest, q.1 ≠ D := off1_mem o5
          refine loopList (σ := Array Value × Nat × List (Addr × Obj) × Option Value × Option Value × Option Value) (fun c => (a, W.listOf c.1 c.2.1) :: (L + 1, o) :: c.2.2.1)
            (fun c y => if y = Str.ofString "line" then c.2.2.2.1 else if y = Str.ofString "k" then c.2.2.2.2.1 else if y = Str.ofString "behind" then c.2.2.2.2.2 else if y = Str.ofString "told" then some (.ref a) else none)
            (ReadJ l a)
            (vs, ep, rest, none, none, none) rfl (News.isList N5 (List.Mem.head _)) (N5 _ (List.Mem.head _)).2.1 o6 F5 (fun p hp => N5 p (List.Mem.tail _ hp)) rfl (fun z _ => mapNone z _) ⟨by simpa [ReadJ] using T4, off4⟩ ?_ ?_
          · rintro pre v post ⟨vals, ep, rest, ln, kk, bh⟩ h tk I own e hoff hown hall hI0 hJ F6 N6
            obtain ⟨j, tj, hj, rfl⟩ := ints_at hys e
            have hT := hJ.1
            have hoa := hJ.2
            have hD0 := (N5 _ (List.Mem.head _)).2.2
            have hro : ∀ p ∈ rest ++ own, p.1 ≠ a := by
              intro p hp
              rcases List.mem_append.mp hp with hp | hp
              · exact hoa p hp
              · exact fun e => hoff (a, _) (List.Mem.head _) (e ▸ hown p hp)
            have hz3 : vals.size ≤ 2000 := by
              have := hT.length
              have h2 := flat_len l ((posN l).take pre.length)
              have h3 := told_len l
              simp only [List.length_append, Array.length_toList, List.length_take] at this h2 h3
              omega
            dsimp only [List.cons_append, List.nil_append] at *
            walk_at "mine steps"
            all_goals (unfold Hold; refine wpAny_If ?_; walk_at "mine steps")
            all_goals first
              | (refine' turnNext (vals, ep, rest, _, _, _) rfl ?F ?N ?o ?m ?j; (case F => assumption); (case m => exact mapThree _ _ _ _ _ _ _ _); (case N => first | assumption | exact fun p hp => (by assumption : News _ _ _ (_ :: _ :: (a, _) :: _)) p (.tail _ (.tail _ hp))); (case o => exact hoff); (case j => first | exact readJ_same hJ hj (read1 (by assumption)) | exact readJ_same hJ hj (read2 (by assumption) (by assumption)) | exact readJ_same hJ hj (read3 (by assumption) (by assumption) (by assumption))))
              | (rename _ ∧ _ ∧ _ ∧ _ ∧ AllLt _ _ => hl1; refine' turnNext (vals.push (.ref _), ep + 1, (_, tupO (_, _, _) _ _ _) :: rest, _, _, _) rfl ?F ?N ?o ?m ?j; (case F => assumption); (case m => exact mapThree _ _ _ _ _ _ _ _); (case N => exact reorder (by assumption)); (case j => exact readJ_add hJ hj (read4 (by assumption) (by assumption) (by assumption)) (by k_ne)); (case o => exact offNew hoff (fun b hb => by obtain ⟨o, ho⟩ := hall b hb (by rcases List.mem_cons.mp hb with e | e; exact e ▸ hI0; exact List.mem_singleton.mp e ▸ hD0); exact ktn_ltOf hl1.2.2.2.2 _ (List.mem_append_right _ ho))))
          · rintro ⟨vals, ep, rest, ln, kk, bh⟩ m h tk ⟨hT, hoa⟩ hm F6 N6
            have F7 := frOut F6 hm
            have hlen : ys.length = (posN l).length := by have := hys.length; simpa [castL] using this
            dsimp only at *
            walk_at "mine steps"
            refine hret _ _ _ (by walk_at "mine keep") ⟨a, vals, ep, rest, rfl, (N6 _ (List.Mem.head _)).1, (N6 _ (List.Mem.head _)).2.2, fun p hp => ⟨(N6 _ (.tail _ (.tail _ hp))).1, (N6 _ (.tail _ (.tail _ hp))).2.2⟩, ?_⟩
            rw [hlen, List.take_length] at hT
            exact hT
end
end
section
local macro_rules | `(tactic| walk_at "call ref") => `(tactic| (k_here; k_dflt (first | (refine' useR (alt_int _ _ ?h0 ?hc _) ?F ?N ?X ?T trivial ?hh ?d ?u ?_; (case h0 => omega); (case hc => omega); walk_at "mine args") | (refine' useR (alt_str _ _ ?hc _) ?F ?N ?X ?T trivial ?hh ?d ?u ?_; (case hc => omega); walk_at "mine args") | (refine' useR (iscntrl_str _ _ _) ?F ?N ?X ?T trivial ?hh ?d ?u ?_; walk_at "mine args") | (refine' useR (isspace_str _ _ _) ?F ?N ?X ?T trivial ?hh ?d ?u ?_; walk_at "mine args") | (refine' useR (isdigit_str _ _ _) ?F ?N ?X ?T trivial ?hh ?d ?u ?_; walk_at "mine args") | (refine' useR (ctrl_str _ _ _) ?F ?N ?X ?T trivial ?hh ?d ?u ?_; walk_at "mine args") | (refine' useR (ctrl_int _ _ _) ?F ?N ?X ?T trivial ?hh ?d ?u ?_; walk_at "mine args") | (refine' useR (isprint_one _ _ ?h1 _) ?F ?N ?X ?T trivial ?hh ?d ?u ?_; (case h1 => omega); walk_at "mine args") | (refine' useR (isprint_str _ _ _) ?F ?N ?X ?T trivial ?hh ?d ?u ?_; walk_at "mine args")); intro t' h' tk' F' N' st'))

noncomputable def stripL (l : List Nat) : List Nat := l.dropWhile (· == 60)
noncomputable def stripR (l : List Nat) : List Nat := (l.reverse.dropWhile (· == 62)).reverse
noncomputable def innerOf (l : List Nat) : List Nat := stripR (stripL l)
noncomputable def isCtl (c : Nat) : Bool := decide (c ≤ 31 ∨ c = 127)
noncomputable def wordsOf (l : List Nat) : List (List Nat) := (cutOf false l).tail
noncomputable def keysOf (l : List Nat) : Option (List Int) :=
  if innerOf l = [] then some []
  else if isCtl ((innerOf l).getD 0 0) = false then none
  else if -1 ∈ (wordsOf (innerOf l)).dropLast.map keyOf ∨ (wordsOf (innerOf l)).getLast? ≠ some [] then none
  else some ((wordsOf (innerOf l)).dropLast.map keyOf)

theorem stripL_step {l : List Nat} (h : l.take 1 = [60]) : stripL l = stripL l.tail := by
  match l, h with
  | c :: r, h => simp at h; subst h; simp [stripL]
theorem stripL_stop {l : List Nat} (h : ¬ l.take 1 = [60]) : stripL l = l := by
  match l, h with
  | [], _ => rfl
  | c :: r, h => simp at h; simp [stripL, h]
theorem stripR_step {l : List Nat} (h : l.drop (l.length - 1) = [62]) : stripR l = stripR l.dropLast := by
  rcases List.eq_nil_or_concat l with rfl | ⟨m, a, rfl⟩
  · simp at h
  · simp at h; subst h; simp [stripR]
theorem stripR_stop {l : List Nat} (h : ¬ l.drop (l.length - 1) = [62]) : stripR l = l := by
  rcases List.eq_nil_or_concat l with rfl | ⟨m, a, rfl⟩
  · rfl
  · simp at h; simp [stripR, h]

theorem mapW (k : Str) (v w : Option Value) (r : Str → Option Value) : ∀ z, (if z = k then v else if z = k then w else r z) = if z = k then v else r z := by
  intro z
  by_cases h : z = k
  · rw [if_pos h, if_pos h]
  · rw [if_neg h, if_neg h, if_neg h]
theorem tail_lt {l : List Nat} (h : l.take 1 = [60]) : l.tail.length < l.length := by
  match l, h with
  | c :: r, _ => simp
theorem init_lt {l : List Nat} (h : l.drop (l.length - 1) = [62]) : l.dropLast.length < l.length := by
  rcases List.eq_nil_or_concat l with rfl | ⟨m, a, rfl⟩
  · simp at h
  · simp

theorem strs_mem {vs : List Value} {xs : List (List Nat)} {i : Nat} {v : Value} (h : StrsAre vs (xs.map S)) (e : vs[i]? = some v) : ∃ x t, xs[i]? = some x ∧ v = .str (S x) t := by
  obtain ⟨x, t, hx, ht⟩ := strs_get h e
  rw [List.getElem?_map] at hx
  cases hy : xs[i]? with
  | none => rw [hy] at hx; exact absurd hx (by simp)
  | some y => rw [hy] at hx; exact ⟨y, t, rfl, by rw [ht, ← Option.some.inj hx]⟩
theorem words_len (l : List Nat) : (wordsOf l).length ≤ l.length := by
  have := (cutWith_len false l []).1
  rw [← cutOf_with] at this
  unfold wordsOf; rw [List.length_tail]; omega
theorem words_mem (l : List Nat) {x : List Nat} (h : x ∈ wordsOf l) : x.length ≤ l.length := by
  have := (cutWith_len false l []).2 x
  rw [← cutOf_with] at this
  simpa using this (List.mem_of_mem_tail h)
theorem words_ne {l : List Nat} (h : isCtl (l.getD 0 0) = true) (hn : l ≠ []) : wordsOf l ≠ [] := by
  match l, hn, h with
  | c :: r, _, h =>
    unfold wordsOf
    rw [cutOf_with, cutWith_yes (by simpa [isCut, isCtl] using h)]
    exact cutWith_ne _ _ _
theorem ints_snoc' {ys : List Value} {xs : List Int} {x : Int} {t : Tok} (h : IntsAre ys xs) : IntsAre (ys ++ [.int x t]) (xs ++ [x]) := intsAre_append h (.cons _ _ .nil)
noncomputable def KeysAns (l : List Nat) (v : Value) (h h' : Heap) : Prop :=
  match keysOf l with
  | none => v = .none
  | some ks => ∃ a vs n, v = .ref a ∧ h'.get? a = some (W.listOf (List.toArray vs) n) ∧ IntsAre vs ks ∧ h.get? a = none

section
local macro_rules | `(tactic| walk_at "exec Assign cons ListComp") => `(tactic| (k_here; k_dflt (refine LCg.Assign_ListComp_U (F₀ := by k_asm) (by rfl) (by with_unfolding_all rfl) (by with_unfolding_all rfl) (by decide) (by rfl) (by decide) (by rfl) (by rfl) (by rfl) ?_)))
local macro_rules | `(tactic| walk_at "CompSrc") => `(tactic| (k_here; refine hold ?_))
local macro_rules | `(tactic| walk_at "CompEnd") => `(tactic| (k_here; refine hold ?_))
local macro_rules | `(tactic| walk_at "subscriptTail Name Slice ref ref") => `(tactic| (k_here; refine hold ?_))
local macro_rules | `(tactic| walk_at "call ref") => `(tactic| (k_here; k_dflt (refine' useL (cut_does _ _ _ _ ?h1) ?F ?N ?X ?T trivial ?hh ?d ?u ?_; (case h1 => walk_at "mine size"); walk_at "mine args"); intro a' us' n' h' tk' F' N' hs'))
local macro_rules | `(tactic| walk_at "call ref") => `(tactic| (k_here; k_dflt (refine' useR (key_does _ _ _ ?h1) ?F ?N ?X ?T trivial ?hh ?d ?u ?_; (case h1 => omega); walk_at "mine args"); intro t' h' tk' F' N' st'))
local macro_rules | `(tactic| walk_at "compareOp In int ref") => `(tactic| (k_here; refine hold ?_))
local macro_rules | `(tactic| walk_at "subscriptTail Name UnaryOp ref int") => `(tactic| (k_here; refine hold ?_))
local macro_rules | `(tactic| walk_at "exec While") => `(tactic| (k_here; refine hold ?_))
local macro_rules | `(tactic| walk_at "exec While Compare cons nil") => `(tactic| (k_here; refine hold ?_))
local macro_rules | `(tactic| walk_at "exec If") => `(tactic| (k_here; refine hold ?_))
theorem keys_does (w) (l : List Nat) (t : Tok) (h1 : l.length ≤ 1000) :
    Does w 5 141 [.str (S l) t] (fun _ => True) (KeysAns l) := by
  intro mean mg mb dp un fr gd s Q E G hC hd hu hret
  walk_at "mine start"
  walk_at "mine steps"
  unfold Hold
  rename_i h2 F2 N2
  refine whileS (σ := List Nat × Tok) (fun c y => if y = Str.ofString "inner" then some (.str (S c.1) c.2) else List.lookup y [(Str.ofString "name", Value.str (S l) t)])
    (fun c => stripL c.1 = stripL l ∧ c.1.length ≤ l.length) (fun c => c.1.length) (l, _) F2 N2 (fun z => rfl) ⟨rfl, Nat.le_refl _⟩ ?_
  rintro ⟨x, tx⟩ h tk ⟨hx, hxl⟩ F3 N3
  dsimp only at *
  walk_at "mine steps"
  · refine' wNext (x.tail, _) rfl ?F ?N ?m ?j; (case F => assumption); (case m => exact mapW _ _ _ _); (case N => assumption); (case j => exact ⟨⟨(stripL_step (by assumption)).symm.trans hx, by simp; omega⟩, tail_lt (by assumption)⟩)
  unfold Hold
  have hx2 : stripR x = innerOf l := by unfold innerOf; rw [← hx, stripL_stop (by assumption)]
  refine whileS (σ := List Nat × Tok) (fun c y => if y = Str.ofString "inner" then some (.str (S c.1) c.2) else List.lookup y [(Str.ofString "name", Value.str (S l) t)])
    (fun c => stripR c.1 = innerOf l ∧ c.1.length ≤ l.length) (fun c => c.1.length) (x, tx) (by assumption) (by assumption) (fun z => rfl) ⟨hx2, hxl⟩ ?_
  rintro ⟨y, ty⟩ h' tk' ⟨hy, hyl⟩ F4 N4
  dsimp only at *
  walk_at "mine steps"
  · refine' wNext (y.dropLast, _) rfl ?F ?N ?m ?j; (case F => assumption); (case m => exact mapW _ _ _ _); (case N => assumption); (case j => exact ⟨⟨(stripR_step (by assumption)).symm.trans hy, by simp; omega⟩, init_lt (by assumption)⟩)
  unfold Hold
  have hy2 : y = innerOf l := by rw [← hy, stripR_stop (by assumption)]
  clear hx hy hx2
  subst hy2
  refine wpAny_If ?_
  walk_at "mine steps"
  · rename News _ _ _ _ => N5
    rename decide (innerOf l = []) = true => c1
    refine hret _ _ _ (by walk_at "mine keep") ?_
    unfold KeysAns keysOf
    rw [if_pos (of_decide_eq_true c1)]
    exact ⟨_, [], 0, rfl, (N5 _ (List.Mem.head _)).1, .nil, (N5 _ (List.Mem.head _)).2.2⟩
  · unfold Hold
    rename_i a' us' n' h5 tk5 F5 N5 hs5
    rename decide (innerOf l = []) = false => c1
    rename (_ ∨ _) => c2
    have hlen := strs_len hs5
    have hcl := (cutWith_len false (innerOf l) []).1
    have hwl := words_len (innerOf l)
    rw [← cutOf_with] at hcl
    rw [List.length_map] at hlen
    refine slL_tail (by assumption) N5 (News.isList N5 (List.Mem.head _)) (by omega) ?_ (by with_unfolding_all rfl) (by intro _; with_unfolding_all rfl)
    intro D1 h6 F6 N6 l6
    walk_at "mine steps"
    unfold Hold
    rename News _ _ _ _ => N7
    refine slL_init (by assumption) N7 (News.isList N7 (List.Mem.head _)) (by simp; omega) ?_ (by with_unfolding_all rfl) (by intro _; with_unfolding_all rfl)
    intro D2 h8 F8 N8 l8
    walk_at "mine steps"
    unfold Hold
    have hw := strs_tail hs5
    rw [← List.map_tail] at hw
    change StrsAre _ (List.map S (wordsOf (innerOf l))) at hw
    have hw2 := strs_init hw
    rw [← List.map_dropLast] at hw2
    have hwz := strs_len hw2
    rw [List.length_map] at hwz
    have hdl : ((wordsOf (innerOf l)).dropLast).length = (wordsOf (innerOf l)).length - 1 := List.length_dropLast
    refine LCg.CompSrc.ledger (by rfl) (by k_asm) N8 (List.Mem.head _) (by rw [sizeLine_eq, List.size_toArray]; omega) ?_
    intro g
    refine restU _ (fun i ys news => news = _ ∧ IntsAre ys (((wordsOf (innerOf l)).dropLast.take i).map keyOf)) ?_ ?_ _ 0 _ _ (Nat.zero_add _) ⟨rfl, .nil⟩
    · rintro i ys news v I oI C oC D m₂ h tk E' hi ⟨rfl, hys⟩ hv hC hx F9 N9 off ne
      obtain ⟨x, tx, hx1, rfl⟩ := strs_mem hw2 (by simpa using hv)
      have hxm := words_mem _ (List.dropLast_subset _ (List.mem_of_getElem? hx1))
      walk_at "mine steps"
      unfold Hold
      refine LCg.CompEnd.intro (by assumption) (by assumption) _ (fun p hp => hp) off (.inr ⟨_, .head _, rfl, _, rfl⟩) ⟨rfl, ?_⟩
      rw [List.take_add_one, hx1, List.map_append]
      exact ints_snoc' hys
    · rintro ys news ⟨rfl, hys⟩
      unfold LCg.FinA
      intro D h9 tk9 F9 N9 o9
      rw [List.size_toArray, strs_len hw2, List.length_map, List.take_length] at hys
      walk_at "mine steps"
      unfold Hold
      refine inInts (us := ys) (News.isList N9 (List.Mem.head _)) hys ?_
      have hwn := words_ne (show isCtl ((innerOf l).getD 0 0) = true from decide_eq_true c2) (of_decide_eq_false c1)
      have hwz2 := strs_len hw
      rw [List.length_map] at hwz2
      have hne : us'.tail ≠ [] := fun e => hwn (List.eq_nil_of_length_eq_zero (by rw [e] at hwz2; exact hwz2.symm))
      obtain ⟨xl, tl, hxl1, hxl2⟩ := strs_last hw hne
      have hk0 : keysOf l = if -1 ∈ (wordsOf (innerOf l)).dropLast.map keyOf ∨ (wordsOf (innerOf l)).getLast? ≠ some [] then none else some ((wordsOf (innerOf l)).dropLast.map keyOf) := by
        unfold keysOf
        rw [if_neg (of_decide_eq_false c1), if_neg (by rw [show isCtl ((innerOf l).getD 0 0) = true from decide_eq_true c2]; exact Bool.noConfusion)]
      rw [List.getLast?_map] at hxl1
      obtain ⟨xw, hxw, rfl⟩ : ∃ xw, (wordsOf (innerOf l)).getLast? = some xw ∧ xl = S xw := by
        cases hg : (wordsOf (innerOf l)).getLast? with
        | none => rw [hg] at hxl1; exact absurd hxl1 (by simp)
        | some y => rw [hg] at hxl1; exact ⟨y, rfl, (Option.some.inj hxl1).symm⟩
      walk_at "mine steps"
      · rename -1 ∈ _ => c3
        refine hret _ _ _ (by walk_at "mine keep") ?_
        unfold KeysAns
        rw [hk0, if_pos (.inl c3)]
      · unfold Hold
        refine lastL (us := us'.tail) (News.isList N9 (.tail _ (.tail _ (List.Mem.head _)))) hne (by omega) ?_ (by with_unfolding_all rfl)
        rw [hxl2]
        rename ¬ (-1 ∈ _) => c3
        walk_at "mine steps"
        · rename ¬ (xw = []) => c4
          refine hret _ _ _ (by walk_at "mine keep") ?_
          unfold KeysAns
          rw [hk0, if_pos (.inr (by rw [hxw]; exact fun e => c4 (Option.some.inj e)))]
        · rename ¬ ¬ (xw = []) => c4
          refine hret _ _ _ (by walk_at "mine keep") ?_
          unfold KeysAns
          rw [hk0, if_neg (fun e => e.elim c3 fun e => e (by rw [hxw, Classical.not_not.mp c4]))]
          exact ⟨D, ys, _, rfl, (N9 _ (List.Mem.head _)).1, hys, (N9 _ (List.Mem.head _)).2.2⟩
  · rename decide (innerOf l = []) = false => c1
    rename ¬ (_ ∨ _) => c2
    refine hret _ _ _ (by walk_at "mine keep") ?_
    unfold KeysAns keysOf
    rw [if_neg (of_decide_eq_false c1), if_pos (show isCtl ((innerOf l).getD 0 0) = false from decide_eq_false c2)]
end
end
section
/-- a list of ints at an address -/
noncomputable def IL (h : Heap) (a : Addr) (ns : List Int) : Prop := ∃ vs : List Value, h.IsList a vs.toArray ∧ IntsAre vs ns
theorem IL.keeps {h h' : Heap} {a : Addr} {ns : List Int} (x : IL h a ns) (k : h.StaysIn h') : IL h' a ns :=
  let ⟨vs, hl, hi⟩ := x; ⟨vs, stays_list k hl, hi⟩
noncomputable def shows (ns : List Int) (i : Nat) : List Int := ((ns.drop (i + 1)) ++ ns.take (i + 1)).take (3 - ns.getD i 0 / 36 % 4).toNat
theorem fd (n : Int) {k : Int} (h : 0 ≤ k) : n.fdiv k = n / k := Int.fdiv_eq_ediv_of_nonneg _ h
theorem fm (n : Int) {k : Int} (h : 0 ≤ k) : n.fmod k = n % k := Int.fmod_eq_emod_of_nonneg _ h

section
local macro_rules | `(tactic| walk_at "subscriptTail Name Slice ref ref") => `(tactic| (k_here; refine hold ?_))
local macro_rules | `(tactic| walk_at "binaryOp Add ref ref") => `(tactic| (k_here; refine hold ?_))
local macro_rules | `(tactic| walk_at "subscriptTail Name Name ref int") => `(tactic| (k_here; refine hold ?_))
theorem shows_does (w) (a : Addr) (ns : List Int) (i : Nat) (t : Tok) (hi : i < ns.length) (hn : ns.length ≤ 3) :
    Does w 1 98 [.ref a, .int i t] (fun h => IL h a ns) (fun v h h' => ∃ l us n, v = .ref l ∧ h'.get? l = some (W.listOf (List.toArray us) n) ∧ IntsAre us (shows ns i) ∧ h.get? l = none) := by
  intro mean mg mb dp un fr gd s Q E G hC hd hu hret
  obtain ⟨vs, hl, hv⟩ := hC
  have hvl := hv.length
  walk_at "mine start"
  walk_at "mine steps"
  unfold Hold
  refine slL_from (us := vs) (by assumption) (by assumption) (stays_list (Fr.keep (by assumption)) hl) (by omega) (by omega) ?_ (by with_unfolding_all rfl) (by intro _; with_unfolding_all rfl)
  intro D1 h2 F2 N2 l2
  walk_at "mine steps"
  unfold Hold
  refine slL_to (us := vs) (by assumption) (by assumption) (stays_list (Fr.keep (by assumption)) hl) (by omega) (by omega) ?_ (by with_unfolding_all rfl) (by intro _; with_unfolding_all rfl)
  intro D2 h3 F3 N3 l3
  walk_at "mine steps"
  unfold Hold
  refine add_lists F3 N3 (News.isList N3 (.tail _ (.head _))) (News.isList N3 (.head _)) ?_ (by rw [sizeLine_eq]; simp; omega)
  intro h4 F4 N4
  walk_at "mine steps"
  unfold Hold
  obtain ⟨ti, hti⟩ := hv.get i (ns.getD i 0) (by simp [hi])
  refine itemL (us := vs) (stays_list (Fr.keep (by assumption)) hl) (by omega) (by omega) (by rw [Int.toNat_natCast]; exact hti) ?_ (by with_unfolding_all rfl)
  walk_at "mine steps"
  unfold Hold
  have hz : 0 ≤ 3 - ((ns.getD i 0).fdiv 36).fmod 4 := by rw [fm _ (by decide)]; have := Int.emod_lt_of_pos ((ns.getD i 0).fdiv 36) (show (0 : Int) < 4 by decide); omega
  refine slL_to (us := vs.drop (i + 1) ++ vs.take (i + 1)) (by assumption) (by assumption) (News.isList (by assumption) (.head _)) hz (by simp; omega) ?_ (by with_unfolding_all rfl) (by intro _; with_unfolding_all rfl)
  intro D5 h5 F5 N5 l5
  walk_at "mine steps"
  refine hret _ _ _ (by walk_at "mine keep") ⟨_, _, _, rfl, (N5 _ (List.Mem.head _)).1, ?_, (N5 _ (List.Mem.head _)).2.2⟩
  have := ints_take (intsAre_append (ints_drop hv (i + 1)) (ints_take hv (i + 1))) (3 - ((ns.getD i 0).fdiv 36).fmod 4).toNat
  rw [fd _ (by decide), fm _ (by decide)] at this ⊢
  exact this
end
end
section
local macro_rules | `(tactic| walk_at "mine piece") => `(tactic| skip)

section
local macro_rules | `(tactic| walk_at "call ref") => `(tactic| (k_here; k_dflt (first | (refine' useR (mark_does _ _ _) ?F ?N ?X ?T trivial ?hh ?d ?u ?_; walk_at "mine args") | (refine' useR (unctrl_does _ _ _) ?F ?N ?X ?T trivial ?hh ?d ?u ?_; walk_at "mine args")); intro t' h' tk' F' N' st'))
local macro_rules | `(tactic| walk_at "eval Constant str") => `(tactic| (k_here; k_dflt (refine' constS ?e ?_; (case e => walk_at "mine lit"); k_whole); (try dsimp only)))
local macro_rules | `(tactic| walk_at "subscriptTail") => `(tactic| (k_here; (with_reducible show wpAny _ _ (subscriptTail (Expr.List ..) _ (Value.ref _) (Value.int _ _)) _ _ _); refine hold ?_))
noncomputable def piece (n : Int) : List Nat :=
  match (n % 8).toNat with
  | 0 => [126] | 1 => [58] | 2 => [126, 58, 48, 40] | 3 => [58, 45, 55, 40] | 4 => [97, 58, 48, 55, 40] | 5 => [97, 58, 45, 48, 40]
  | 6 => [108, 105, 98, 47, 97, 46, 112, 121, 58, 55, 48, 40] ++ [mark (n / 8)]
  | _ => unc (n / 8)

theorem pieceAt (n : Int) (t0 t1 t2 t3 t4 t5 t6 t7 : Tok) : ∃ t, [Value.str (S [126]) t0, .str (S [58]) t1, .str (S [126, 58, 48, 40]) t2, .str (S [58, 45, 55, 40]) t3, .str (S [97, 58, 48, 55, 40]) t4, .str (S [97, 58, 45, 48, 40]) t5, .str (S ([108, 105, 98, 47, 97, 46, 112, 121, 58, 55, 48, 40] ++ [mark (n / 8)])) t6, .str (S (unc (n / 8))) t7][(n % 8).toNat]? = some (.str (S (piece n)) t) := by
  have h0 := Int.emod_nonneg n (show (8 : Int) ≠ 0 by decide)
  have h8 := Int.emod_lt_of_pos n (show (0 : Int) < 8 by decide)
  have : (n % 8).toNat < 8 := by omega
  unfold piece
  generalize (n % 8).toNat = k at this
  match k, this with
  | 0, _ => exact ⟨t0, rfl⟩
  | 1, _ => exact ⟨t1, rfl⟩
  | 2, _ => exact ⟨t2, rfl⟩
  | 3, _ => exact ⟨t3, rfl⟩
  | 4, _ => exact ⟨t4, rfl⟩
  | 5, _ => exact ⟨t5, rfl⟩
  | 6, _ => exact ⟨t6, rfl⟩
  | 7, _ => exact ⟨t7, rfl⟩
theorem piece_does (w) (n : Int) (t : Tok) : Plain w 4 105 [.int n t] (fun t => .str (S (piece n)) t) := by
  intro mean mg mb dp un fr gd s Q E G hC hd hu hret
  walk_at "mine start"
  walk_at "mine steps"
  unfold Hold
  rename News _ _ _ _ => N5
  have e8 : n.fmod 8 = n % 8 := Int.fmod_eq_emod_of_nonneg _ (by decide)
  have d8 : n.fdiv 8 = n / 8 := Int.fdiv_eq_ediv_of_nonneg _ (by decide)
  have h0 := Int.emod_nonneg n (show (8 : Int) ≠ 0 by decide)
  have h8 := Int.emod_lt_of_pos n (show (0 : Int) < 8 by decide)
  rw [d8] at N5
  obtain ⟨t9, h9⟩ := pieceAt n _ _ _ _ _ _ _ _
  refine itemL (News.isList N5 (List.Mem.head _)) (by omega) (by omega) (by rw [e8]; exact h9) ?_ (by with_unfolding_all rfl)
  walk_at "mine steps"
  exact hret _ _ _ (by walk_at "mine keep") ⟨_, rfl⟩
end
end
section
theorem glue_fold (ls : List (List Nat)) : ∀ a : List Nat, (ls.map S).foldl (fun acc p => acc ++ (S []).cps ++ p.cps) a.toArray = (a ++ ls.flatten).toArray := by
  induction ls with
  | nil => intro a; simp
  | cons b r ih =>
    intro a
    rw [List.map_cons, List.foldl_cons, show a.toArray ++ (S []).cps ++ (S b).cps = (a ++ b).toArray by simp [S], ih]
    simp
theorem joinText (ls : List (List Nat)) : Txt.join (S []) (ls.map S) = S ls.flatten := by
  unfold Txt.join PySem.Builtin.Str.glued
  cases ls with
  | nil => rfl
  | cons a r =>
    rw [List.map_cons]
    show (⟨(r.map S).foldl (fun acc p => acc ++ (S []).cps ++ p.cps) a.toArray⟩ : Str) = _
    rw [glue_fold]
    rfl
section
variable {prog : Program} {w : World} {A : Around} {E : Value → Shared → Prop} {s : Shared} {t : Tok} {Q : Value → Shared → Prop}
theorem strJoin {D : Addr} {us : List Value} {ls : List (List Nat)} (hl : s.heap.IsList D us.toArray) (hi : StrsAre us (ls.map S)) (hz : ls.flatten.length + ls.length ≤ 1048576)
    (h : ∀ t' k, Q (.str (S ls.flatten) t') { s with toks := k }) : wpAny (model prog w) A (call (.builtin "str.join") [.str (S []) t, .ref D]) Q E s := by
  refine join_listW hl hi (by rw [S_len]; decide) ?_ (by rw [joinText]; exact h)
  rw [List.length_map, List.map_map, show ((fun x : Str => x.length) ∘ S) = List.length from funext S_len, ← List.length_flatten]
  exact hz
end
end
section
noncomputable def bodyOf (ns : List Int) (i : Nat) : List Nat := ((shows ns i).map fun m => mark m :: unc (m / 8)).flatten
noncomputable def bodyM (ns : List Int) (i : Nat) : List Nat := if bodyOf ns i ≠ [] then bodyOf ns i ++ [mark (ns.getD i 0)] else []
noncomputable def nameOf (ns : List Int) (i : Nat) : List Nat := List.replicate (ns.getD i 0 % 3).toNat 60 ++ bodyM ns i ++ List.replicate (ns.getD i 0 / 3 % 3).toNat 62
noncomputable def lineOf (ns : List Int) (i : Nat) : Int := let b := ns.getD ((i + 1) % ns.length) 0; ((if b < 0 then -b else b) % 10 ^ 18) * (if b < 0 then -1 else 1)
noncomputable def placeOf (ns : List Int) (i : Nat) : Int := ns.getD i 0 / 9 % 4
noncomputable def whereOf (ns : List Int) (i : Nat) : List Nat := if placeOf ns i < 2 then [126] else ((ns.take i).map piece).flatten
noncomputable def tripleOf (ns : List Int) (i : Nat) : Tri := (whereOf ns i, lineOf ns i * (placeOf ns i % 2), nameOf ns i)
theorem unc_len (b : Int) : (unc b).length ≤ 3 := by unfold unc rep; (repeat' split) <;> simp
theorem piece_len (n : Int) : (piece n).length ≤ 13 := by
  have := unc_len (n / 8)
  unfold piece; split <;> first | omega | simp
theorem shows_len (ns : List Int) (i : Nat) : (shows ns i).length ≤ 3 := by
  unfold shows
  have := Int.emod_nonneg (ns.getD i 0 / 36) (show (4 : Int) ≠ 0 by decide)
  rw [List.length_take]; omega
theorem flat_le {α : Type} (f : α → List Nat) (k : Nat) (h : ∀ x, (f x).length ≤ k) (l : List α) : ((l.map f).flatten).length ≤ k * l.length := by
  induction l with
  | nil => simp
  | cons a r ih => have := h a; simp only [List.map_cons, List.flatten_cons, List.length_append, List.length_cons, Nat.mul_add]; omega
theorem body_len (ns : List Int) (i : Nat) : (bodyOf ns i).length ≤ 12 := by
  have := flat_le (fun m => mark m :: unc (m / 8)) 4 (fun m => by have := unc_len (m / 8); simp; omega) (shows ns i)
  have h2 := shows_len ns i
  unfold bodyOf; omega
theorem strs_snoc {vs : List Value} {ls : List (List Nat)} {p : List Nat} {t : Tok} (h : StrsAre vs (ls.map S)) : StrsAre (vs ++ [.str (S p) t]) ((ls ++ [p]).map S) := by
  rw [List.map_append]; exact h.append' (.cons _ _ .nil)

theorem tri_obj {ns : List Int} {i : Nat} (x : Int) (e : x = lineOf ns i * (placeOf ns i % 2)) (t1 t2 t3 : Tok) : ({ cls := .type "tuple", data := .seq #[.str (S (whereOf ns i)) t1, .int x t2, .str (S (List.replicate (ns.getD i 0 % 3).toNat 60 ++ bodyM ns i ++ List.replicate (ns.getD i 0 / 3 % 3).toNat 62)) t3] } : Obj) = tupO (tripleOf ns i) t1 t2 t3 := by
  subst e; rfl
theorem line_eq (ns : List Int) (i : Nat) : (if ns.getD ((i + 1) % ns.length) 0 < 0 then -ns.getD ((i + 1) % ns.length) 0 else ns.getD ((i + 1) % ns.length) 0).fmod (10 ^ Int.toNat 18) * (1 - 2 * if decide (ns.getD ((i + 1) % ns.length) 0 < 0) = true then 1 else 0) * (((ns.getD i 0).fdiv 9).fmod 4).fmod 2 = lineOf ns i * (placeOf ns i % 2) := by
  rw [fd _ (by decide), fm _ (by decide), fm _ (by decide), fm _ (by decide)]
  unfold lineOf placeOf
  congr 2
  generalize ns.getD ((i + 1) % ns.length) 0 = b
  by_cases h : b < 0
  · rw [if_pos h, if_pos (decide_eq_true h)]; rfl
  · rw [if_neg h, if_neg (by rw [decide_eq_false h]; exact Bool.noConfusion)]; rfl
theorem three (n : Int) : 0 ≤ n % 3 ∧ n % 3 < 3 := ⟨Int.emod_nonneg n (by decide), Int.emod_lt_of_pos n (by decide)⟩
theorem angle (n : Int) (c : Nat) (t0 t1 t2 : Tok) : ∃ t, [Value.str (S []) t0, .str (S [c]) t1, .str (S [c, c]) t2][(n % 3).toNat]? = some (.str (S (List.replicate (n % 3).toNat c)) t) := by
  have : (n % 3).toNat < 3 := by have := three n; omega
  generalize (n % 3).toNat = k at this
  match k, this with
  | 0, _ => exact ⟨t0, rfl⟩
  | 1, _ => exact ⟨t1, rfl⟩
  | 2, _ => exact ⟨t2, rfl⟩
theorem ints_get {vs : List Value} {ns : List Int} {i : Nat} {v : Value} (h : IntsAre vs ns) (e : vs[i]? = some v) : ∃ m t, ns[i]? = some m ∧ v = .int m t := by
  have hl := h.length
  have hlt : i < ns.length := by rw [← hl]; exact (List.getElem?_eq_some_iff.mp e).1
  obtain ⟨t, ht⟩ := h.get i ns[i] (by simp [hlt])
  exact ⟨ns[i], t, by simp [hlt], by rw [e] at ht; exact Option.some.inj ht⟩
section
local macro_rules | `(tactic| walk_at "eval ListComp") => `(tactic| (k_here; k_dflt (refine LCg.ListComp_U (F₀ := by k_asm) (by with_unfolding_all rfl) (by decide) (by rfl) (by decide) (by rfl) ?_)))
local macro_rules | `(tactic| walk_at "CompSrc") => `(tactic| (k_here; refine hold ?_))
local macro_rules | `(tactic| walk_at "CompEnd") => `(tactic| (k_here; refine hold ?_))
local macro_rules | `(tactic| walk_at "call builtin:str.join") => `(tactic| (k_here; refine hold ?_))
local macro_rules | `(tactic| walk_at "eval IfExp") => `(tactic| (k_here; refine hold ?_))
local macro_rules | `(tactic| walk_at "subscriptTail Name Slice ref ref") => `(tactic| (k_here; refine hold ?_))
local macro_rules | `(tactic| walk_at "subscriptTail Name Name ref int") => `(tactic| (k_here; refine hold ?_))
local macro_rules | `(tactic| walk_at "subscriptTail Name BinOp ref int") => `(tactic| (k_here; refine hold ?_))
local macro_rules | `(tactic| walk_at "subscriptTail") => `(tactic| (k_here; (with_reducible show wpAny _ _ (subscriptTail (Expr.List ..) _ (Value.ref _) (Value.int _ _)) _ _ _); refine hold ?_))
local macro_rules | `(tactic| walk_at "call ref") => `(tactic| (k_here; refine hold ?_))
local macro_rules | `(tactic| walk_at "call ref") => `(tactic| (k_here; k_dflt (first | (refine' useR (mark_does _ _ _) ?F ?N ?X ?T trivial ?hh ?d ?u ?_; walk_at "mine args") | (refine' useR (unctrl_does _ _ _) ?F ?N ?X ?T trivial ?hh ?d ?u ?_; walk_at "mine args") | (refine' useR (piece_does _ _ _) ?F ?N ?X ?T trivial ?hh ?d ?u ?_; walk_at "mine args")); intro t' h' tk' F' N' st'))
theorem triple_does (w) (a : Addr) (ns : List Int) (i : Nat) (t : Tok) (hi : i < ns.length) (hn : ns.length ≤ 3) :
    Does w 5 110 [.ref a, .int i t] (fun h => IL h a ns) (fun v h h' => ∃ d t1 t2 t3, v = .ref d ∧ h'.get? d = some (tupO (tripleOf ns i) t1 t2 t3) ∧ h.get? d = none) := by
  intro mean mg mb dp un fr gd s Q E G hC hd hu hret
  have hIL := hC
  obtain ⟨vs, hl, hv⟩ := hC
  have hvl := hv.length
  walk_at "mine start"
  walk_at "mine steps"
  unfold Hold
  obtain ⟨ti, hti⟩ := hv.get i (ns.getD i 0) (by simp [hi])
  refine itemN (us := vs) (stays_list (Fr.keep (by assumption)) hl) (Nat.lt_of_lt_of_le hi (Nat.le_trans hn (by decide))) hti ?_ (by with_unfolding_all rfl)
  walk_at "mine steps"
  unfold Hold
  refine use (shows_does w a ns i _ hi hn) (by assumption) (by assumption) (by assumption) (by assumption) (hIL.keeps (Fr.keep (by assumption))) rfl (by ktr_room) (by ktr_units) ?_
  rintro v2 h2 tk2 F2 N2 st2 ⟨l2, us2, n2, rfl, g2, i2, e2⟩
  have N3 := news_more (tl := [(l2, W.listOf us2.toArray n2)]) (by assumption) (by assumption) st2 (fun p hp => by rw [List.mem_singleton.mp hp]; exact ⟨g2, e2⟩)
  walk_at "mine steps"
  unfold Hold
  have hsl := shows_len ns i
  have hbl := body_len ns i
  have hil := i2.length
  dsimp only [List.cons_append, List.nil_append] at N3
  refine LCg.CompSrc.ledger (by rfl) (by k_asm) N3 (List.Mem.head _) (by rw [sizeLine_eq, List.size_toArray]; omega) ?_
  intro g
  refine restU _ (fun j ys news => news = _ ∧ StrsAre ys ((((shows ns i).take j).map fun m => mark m :: unc (m / 8)).map S)) ?_ ?_ _ 0 _ _ (Nat.zero_add _) ⟨rfl, .nil⟩
  · rintro j ys news v I oI C oC D m₂ h tk E' hj ⟨rfl, hys⟩ hv2 hC hx F9 N9 off ne
    obtain ⟨m, tm, hm1, rfl⟩ := ints_get i2 (by simpa using hv2)
    have hul := unc_len (m / 8)
    rw [← fd m (by decide)] at hul
    walk_at "mine steps"
    unfold Hold
    refine LCg.CompEnd.intro (by assumption) (by assumption) _ (fun p hp => hp) off (.inr ⟨_, .head _, rfl, _, rfl⟩) ⟨rfl, ?_⟩
    rw [List.take_add_one, hm1, List.map_append, fd m (by decide)]
    exact strs_snoc hys
  · rintro ys news ⟨rfl, hys⟩
    unfold LCg.FinE
    intro D h9 tk9 F9 N9 o9
    rw [List.size_toArray, hil, List.take_length] at hys
    walk_at "mine steps"
    unfold Hold
    refine strJoin (us := ys) (News.isList N9 (List.Mem.head _)) hys (by change (bodyOf ns i).length + _ ≤ _; simp; omega) ?_
    intro tb kb
    rw [show ((shows ns i).map fun m => mark m :: unc (m / 8)).flatten = bodyOf ns i from rfl]
    walk_at "mine steps"
    unfold Hold
    refine joinS (bodyM ns i) (by assumption) (by assumption) ?_ ?_
    · refine wpAny_IfExp ?_
      walk_at "mine steps"
      · refine meetS ?_ (by assumption) (by assumption)
        unfold bodyM; rw [if_pos (by assumption)]
      · refine meetS ?_ (by assumption) (by assumption)
        unfold bodyM; rw [if_neg (by assumption)]
    · intro t5 h5 tk5 F5 N5
      have hbm : (bodyM ns i).length ≤ 13 := by unfold bodyM; split <;> simp <;> omega
      have e3 : (ns.getD i 0).fmod 3 = ns.getD i 0 % 3 := fm _ (by decide)
      have e33 : ((ns.getD i 0).fdiv 3).fmod 3 = ns.getD i 0 / 3 % 3 := by rw [fd _ (by decide), fm _ (by decide)]
      have r3 := three (ns.getD i 0)
      have r33 := three (ns.getD i 0 / 3)
      walk_at "mine steps"
      unfold Hold
      rename News _ _ _ _ => N6
      obtain ⟨ta, ha⟩ := angle (ns.getD i 0) 60 _ _ _
      refine itemL (News.isList N6 (List.Mem.head _)) (by omega) (by omega) (by rw [e3]; exact ha) ?_ (by with_unfolding_all rfl)
      have hr3 : (List.replicate (ns.getD i 0 % 3).toNat 60).length ≤ 2 := by rw [List.length_replicate]; omega
      have hr33 : (List.replicate (ns.getD i 0 / 3 % 3).toNat 62).length ≤ 2 := by rw [List.length_replicate]; omega
      walk_at "mine steps"
      unfold Hold
      rename News _ _ _ _ => N7
      obtain ⟨tc, hc⟩ := angle (ns.getD i 0 / 3) 62 _ _ _
      refine itemL (News.isList N7 (List.Mem.head _)) (by omega) (by omega) (by rw [e33]; exact hc) ?_ (by with_unfolding_all rfl)
      walk_at "mine steps"
      unfold Hold
      have hlp : (0 : Int) < ns.length := by omega
      have ei : ((i : Int) + 1).fmod ns.length = (((i + 1) % ns.length : Nat) : Int) := by rw [fm _ (by omega), Int.natCast_emod, Int.natCast_add]; rfl
      have hb1 : (i + 1) % ns.length < ns.length := Nat.mod_lt _ (by omega)
      obtain ⟨t8, ht8⟩ := hv.get ((i + 1) % ns.length) (ns.getD ((i + 1) % ns.length) 0) (by simp [hb1])
      rw [ei]
      refine itemN (us := vs) (stays_list (Fr.keep (by assumption)) hl) (Nat.lt_of_lt_of_le hb1 (Nat.le_trans hn (by decide))) ht8 ?_ (by with_unfolding_all rfl)
      walk_at "mine steps"
      unfold Hold
      refine joinS (whereOf ns i) (by assumption) (by assumption) ?_ ?_
      · refine wpAny_IfExp ?_
        walk_at "mine steps"
        · refine meetS ?_ (by assumption) (by assumption)
          unfold whereOf placeOf; rw [if_pos (by rw [← fd _ (by decide), ← fm _ (by decide)]; assumption)]
        · unfold Hold
          have hw2 : ¬ placeOf ns i < 2 := by unfold placeOf; rw [← fd _ (by decide), ← fm _ (by decide)]; assumption
          rename News _ _ _ _ => NA
          refine slL_to (us := vs) (by assumption) NA (stays_list (Fr.keep (by assumption)) hl) (by omega) (by omega) ?_ (by with_unfolding_all rfl) (by intro _; with_unfolding_all rfl)
          intro DA hA FA NB lA
          rw [Int.toNat_natCast] at NB
          have hvt := ints_take hv i
          have hvtl := hvt.length
          rw [List.length_take, List.length_take] at hvtl
          walk_at "mine steps"
          unfold Hold
          refine LCg.CompSrc.ledger (by rfl) (by k_asm) NB (List.Mem.head _) (by rw [sizeLine_eq, List.size_toArray, List.length_take]; omega) ?_
          intro gA
          refine restU _ (fun j ys news => news = _ ∧ StrsAre ys ((((ns.take i).take j).map piece).map S)) ?_ ?_ _ 0 _ _ (Nat.zero_add _) ⟨rfl, .nil⟩
          · rintro j ys news v I oI C oC D m₂ h tk E' hj ⟨rfl, hys⟩ hv2 hC hx F9 N9 off ne
            obtain ⟨m, tm, hm1, rfl⟩ := ints_get hvt (by simpa using hv2)
            walk_at "mine steps"
            unfold Hold
            refine LCg.CompEnd.intro (by assumption) (by assumption) _ (fun p hp => hp) off (.inr ⟨_, .head _, rfl, _, rfl⟩) ⟨rfl, ?_⟩
            rw [List.take_add_one, hm1, List.map_append]
            exact strs_snoc hys
          · rintro ys news ⟨rfl, hys⟩
            unfold LCg.FinE
            intro D h9 tk9 F9 N9 o9
            rw [List.size_toArray, hvt.length, List.take_length] at hys
            have hpl := flat_le piece 13 piece_len (ns.take i)
            have htl : (ns.take i).length ≤ 3 := by rw [List.length_take]; omega
            walk_at "mine steps"
            unfold Hold
            refine strJoin (us := ys) (News.isList N9 (List.Mem.head _)) hys (by rw [List.length_map]; omega) ?_
            intro tb kb
            walk_at "mine steps"
            refine meetS ?_ (by assumption) (fun p hp => N9 p (.tail _ (.tail _ hp)))
            unfold whereOf; rw [if_neg hw2]
      · intro t6 h6 tk6 F6 N6
        walk_at "mine steps"
        rename News _ _ _ _ => N7
        refine hret _ _ _ (by walk_at "mine keep") ⟨_, _, _, _, rfl, (N7 _ (List.Mem.head _)).1.trans (congrArg some (tri_obj _ ?_ _ _ _)), (N7 _ (List.Mem.head _)).2.2⟩
        exact line_eq _ _
end
end
section
theorem signsN (m : Nat) : decN m = (Nat.toDigits 10 m).map Char.toNat := by
  unfold decN
  have h : ∀ x : String, (Str.ofString x).cps.toList = x.toList.map Char.toNat := by
    intro x; exact signs_ofString x
  rw [h]
  show (Nat.repr m).toList.map Char.toNat = _
  rw [Nat.toList_repr]
theorem digitN : ∀ d : Nat, d < 10 → (Nat.digitChar d).toNat = 48 + d := by decide
theorem decN_lt {n : Nat} (h : n < 10) : decN n = [48 + n] := by
  rw [signsN, Nat.toDigits_of_lt_base h]; simp [digitN n h]
theorem decN_step {n : Nat} (h : 10 ≤ n) : decN n = decN (n / 10) ++ [48 + n % 10] := by
  have hm : n % 10 < 10 := Nat.mod_lt n (by decide)
  have t : Nat.toDigits 10 (n / 10) ++ Nat.toDigits 10 (n % 10) = Nat.toDigits 10 (10 * (n / 10) + n % 10) := Nat.toDigits_append_toDigits (by decide) (by omega) hm
  rw [Nat.div_add_mod] at t
  rw [signsN, signsN, ← t, List.map_append, Nat.toDigits_of_lt_base hm]
  simp [digitN _ hm]
theorem val_snoc (l : List Nat) (c : Nat) : val (l ++ [c]) = 10 * val l + ((c % 32 : Nat) : Int) - 16 := by
  unfold val; rw [List.foldl_append]; rfl
theorem digs_snoc (l : List Nat) (c : Nat) : digs (l ++ [c]) = true ↔ digs l = true ∧ 48 ≤ c ∧ c ≤ 57 := by
  unfold digs; simp
theorem decN_all (n : Nat) : val (decN n) = n ∧ digs (decN n) = true ∧ decN n ≠ [] ∧ ((decN n).getD 0 0 = 48 → n = 0) := by
  induction n using Nat.strongRecOn with
  | _ n ih =>
    by_cases h : n < 10
    · rw [decN_lt h]
      refine ⟨?_, ?_, by simp, ?_⟩
      · rw [← List.nil_append [48 + n], val_snoc]; simp only [val, List.foldl_nil]; omega
      · rw [← List.nil_append [48 + n], digs_snoc]; exact ⟨rfl, by omega, by omega⟩
      · simp
    · obtain ⟨h1, h2, h3, h4⟩ := ih (n / 10) (by omega)
      rw [decN_step (by omega)]
      refine ⟨?_, ?_, by simp, ?_⟩
      · rw [val_snoc, h1]; omega
      · rw [digs_snoc]; exact ⟨h2, by omega, by omega⟩
      · intro e
        exfalso
        have : (decN (n / 10)).getD 0 0 = 48 := by
          cases hd : decN (n / 10) with
          | nil => exact absurd hd h3
          | cons a r => rw [hd] at e; simpa using e
        have := h4 this
        omega
theorem digit_step {v : Int} {c : Nat} (h : 0 < v) (h1 : 48 ≤ c) (h2 : c ≤ 57) : 0 < 10 * v + ((c % 32 : Nat) : Int) - 16 ∧ 10 ≤ (10 * v + ((c % 32 : Nat) : Int) - 16).toNat ∧ (10 * v + ((c % 32 : Nat) : Int) - 16).toNat / 10 = v.toNat ∧ 48 + (10 * v + ((c % 32 : Nat) : Int) - 16).toNat % 10 = c ∧ 10 * v + ((c % 32 : Nat) : Int) - 16 < (v + 1) * 10 := by
  have e : 10 * v + ((c % 32 : Nat) : Int) - 16 = 10 * v + (c - 48) := by omega
  rw [e]
  clear e
  refine ⟨?_, ?_, ?_, ?_, ?_⟩ <;> omega
theorem decN_val (r : List Nat) : digs r = true → r ≠ [] → (r.getD 0 0 = 48 → r = [48]) → 0 ≤ val r ∧ decN (val r).toNat = r ∧ (r.getD 0 0 ≠ 48 → 0 < val r) ∧ val r < 10 ^ r.length := by
  generalize hn : r.length = n
  induction n generalizing r with
  | zero => intro _ h; exact absurd (List.eq_nil_of_length_eq_zero hn) h
  | succ n ih =>
    intro hd hne h0
    rcases List.eq_nil_or_concat r with rfl | ⟨m, c, rfl⟩
    · exact absurd rfl hne
    · rw [List.concat_eq_append] at *
      rw [digs_snoc] at hd
      obtain ⟨hm, hc1, hc2⟩ := hd
      rw [val_snoc]
      by_cases he : m = []
      · subst he
        simp only [val, List.foldl_nil, List.nil_append] at *
        have hn0 : n = 0 := by simpa using hn.symm
        subst hn0
        refine ⟨by omega, ?_, ?_, ?_⟩
        · rw [decN_lt (by omega)]; congr 1; omega
        · intro h; simp at h; omega
        · simp; omega
      · have e0 : (m ++ [c]).getD 0 0 = m.getD 0 0 := by
          cases m with
          | nil => exact absurd rfl he
          | cons a b => rfl
        rw [e0] at h0 ⊢
        have hnz : m.getD 0 0 ≠ 48 := by
          intro h
          have := h0 h
          cases m with
          | nil => exact absurd rfl he
          | cons a b => simp at this
        obtain ⟨i1, i2, i3, i4⟩ := ih m (by simpa using hn) hm he (fun h => absurd h hnz)
        have i5 := i3 hnz
        obtain ⟨s1, s2, s3, s4, s5⟩ := digit_step i5 hc1 hc2
        refine ⟨Int.le_of_lt s1, ?_, fun _ => s1, ?_⟩
        · rw [decN_step s2, s3, i2, s4]
        · rw [Int.pow_succ]
          exact Int.lt_of_lt_of_le s5 (Int.mul_le_mul_of_nonneg_right i4 (by decide))
theorem figs_neg (l : List Nat) : figs (45 :: l) = l := by simp [figs]
theorem figs_not {l : List Nat} (h : l.take 1 ≠ [45]) : figs l = l := by unfold figs; rw [if_neg h]
theorem dec_take (n : Nat) : (decN n).take 1 ≠ [45] := by
  obtain ⟨_, h2, h3, _⟩ := decN_all n
  cases hd : decN n with
  | nil => exact absurd hd h3
  | cons a r =>
    rw [hd] at h2
    simp only [digs, List.all_cons, Bool.and_eq_true, decide_eq_true_eq] at h2
    simp; omega
theorem num_dec (n : Int) : numOf (decZ n) = some n := by
  obtain ⟨h1, h2, h3, h4⟩ := decN_all n.natAbs
  unfold decZ
  by_cases h : n < 0
  · rw [if_pos h]
    unfold numOf
    rw [figs_neg, if_neg (by rintro (e | ⟨e, _⟩); exact h3 e; have := h4 e; omega), if_pos h2, if_neg (fun e => by have := congrArg List.length e; simp at this), h1]
    congr 1; omega
  · rw [if_neg h]
    unfold numOf
    rw [figs_not (dec_take _), if_neg (by
      rintro (e | ⟨e, e'⟩)
      · exact h3 e
      · have := h4 e
        rw [this, decN_lt (by decide)] at e'
        exact e' rfl), if_pos h2, if_pos rfl, h1]
    congr 1; omega
theorem dec_num {r : List Nat} {n : Int} (h : numOf r = some n) : decZ n = r ∧ n.natAbs < 10 ^ r.length := by
  unfold numOf at h
  by_cases h1 : figs r = [] ∨ ((figs r).getD 0 0 = 48 ∧ ¬ r = [48])
  · rw [if_pos h1] at h; cases h
  · rw [if_neg h1] at h
    by_cases h2 : digs (figs r) = true
    · rw [if_pos h2] at h
      have h3 := Option.some.inj h
      have h4 : figs r ≠ [] := fun e => h1 (.inl e)
      have hc : (figs r).getD 0 0 = 48 → r = [48] := fun e => Classical.byContradiction fun x => h1 (.inr ⟨e, x⟩)
      by_cases h5 : r.take 1 = [45]
      · have h6 : r = 45 :: figs r := by
          cases r with
          | nil => simp at h5
          | cons a b => simp at h5; subst h5; rw [figs_neg]
        have h7 : figs r ≠ r := fun e => by have := congrArg List.length (e.trans h6); simp at this
        rw [if_neg h7] at h3
        have hnz : (figs r).getD 0 0 ≠ 48 := fun e => by have := hc e; rw [this] at h5; simp at h5
        obtain ⟨i1, i2, i3, i4⟩ := decN_val (figs r) h2 h4 (fun e => absurd e hnz)
        have i5 := i3 hnz
        refine ⟨?_, ?_⟩
        · unfold decZ
          rw [if_pos (by omega), show n.natAbs = (val (figs r)).toNat by omega, i2, ← h6]
        · have h8 : r.length = (figs r).length + 1 := by have := congrArg List.length h6; simpa using this
          rw [h8, Nat.pow_succ]
          have : ((10 : Nat) ^ (figs r).length : Int) = (10 : Int) ^ (figs r).length := by simp
          omega
      · have h6 := figs_not h5
        rw [h6] at h2 h3 h4 hc
        rw [if_pos rfl] at h3
        obtain ⟨i1, i2, i3, i4⟩ := decN_val r h2 h4 hc
        refine ⟨?_, ?_⟩
        · unfold decZ
          rw [if_neg (by omega), show n.natAbs = (val r).toNat by omega, i2]
        · have : ((10 : Nat) ^ r.length : Int) = (10 : Int) ^ r.length := by simp
          omega
    · rw [if_neg h2] at h; cases h
theorem decZ_ne (n : Int) : decZ n ≠ [] := by
  unfold decZ; split
  · simp
  · exact (decN_all _).2.2.1
theorem decZ_mem {n : Int} {c : Nat} (h : c ∈ decZ n) : c = 45 ∨ (48 ≤ c ∧ c ≤ 57) := by
  have h2 : ∀ m, ∀ c ∈ decN m, 48 ≤ c ∧ c ≤ 57 := fun m c hc => by
    have := (decN_all m).2.1
    unfold digs at this
    rw [List.all_eq_true] at this
    exact of_decide_eq_true (this c hc)
  unfold decZ at h
  split at h
  · rcases List.mem_cons.mp h with h | h
    · exact .inl h
    · exact .inr (h2 _ _ h)
  · exact .inr (h2 _ _ h)
end
section
theorem isCut_false (c : Nat) : isCut false c = isCtl c := by simp [isCut, isCtl]
theorem cutWith_append {b : Bool} {c : Nat} (hc : isCut b c = true) (A B : List Nat) : ∀ p, cutWith b p (A ++ c :: B) = cutWith b p A ++ cutWith b [] B := by
  induction A with
  | nil => intro p; rw [List.nil_append, cutWith_yes hc, cutWith_nil]; rfl
  | cons a r ih =>
    intro p
    rw [List.cons_append]
    cases h : isCut b a with
    | true => rw [cutWith_yes h, cutWith_yes h, ih]; rfl
    | false => rw [cutWith_no h, cutWith_no h, ih]
theorem cutWith_pre {b : Bool} (U V : List Nat) (hU : ∀ c ∈ U, isCut b c = false) : ∀ p, cutWith b p (U ++ V) = cutWith b (p ++ U) V := by
  induction U with
  | nil => intro p; simp
  | cons a r ih =>
    intro p
    rw [List.cons_append, cutWith_no (hU a (.head _)), ih (fun c hc => hU c (.tail _ hc))]
    simp
theorem cutWith_head (b : Bool) (V : List Nat) : ∀ p, ∃ V1 rest, cutWith b p V = (p ++ V1) :: rest := by
  induction V with
  | nil => intro p; exact ⟨[], [], by simp [cutWith_nil]⟩
  | cons a r ih =>
    intro p
    cases h : isCut b a with
    | true => exact ⟨[], cutWith b [] r, by rw [cutWith_yes h]; simp⟩
    | false =>
      obtain ⟨V1, rest, e⟩ := ih (p ++ [a])
      exact ⟨a :: V1, rest, by rw [cutWith_no h, e]; simp⟩
theorem keyOf_bad {l : List Nat} (h : 4 ≤ l.length ∨ (l.length = 3 ∧ l.getD 0 0 ≠ 33)) : keyOf l = -1 := by
  have hr : 3 ≤ (restOf l).length := by
    unfold restOf
    rcases h with h | ⟨h, h'⟩
    · split
      · rw [List.length_tail]; omega
      · omega
    · rw [if_neg (fun x => h' x.2)]; omega
  unfold keyOf
  rw [if_neg (fun e => by rw [e] at h; simp at h), if_neg (fun e => by rw [e] at hr; simp at hr), if_neg (fun x => by omega), if_neg (fun x => by omega)]
theorem lastCtl (Z : List Nat) : (∃ c ∈ Z, isCtl c = true) → ∃ A c Y, Z = A ++ c :: Y ∧ isCtl c = true ∧ ∀ y ∈ Y, isCtl y = false := by
  induction Z with
  | nil => rintro ⟨c, h, _⟩; exact nomatch h
  | cons a r ih =>
    intro h
    by_cases hr : ∃ c ∈ r, isCtl c = true
    · obtain ⟨A, c, Y, e, h1, h2⟩ := ih hr
      exact ⟨a :: A, c, Y, by rw [e]; rfl, h1, h2⟩
    · have ha : isCtl a = true := by
        obtain ⟨c, hc, h1⟩ := h
        rcases List.mem_cons.mp hc with rfl | hc
        · exact h1
        · exact absurd ⟨c, hc, h1⟩ hr
      refine ⟨[], a, r, rfl, ha, fun y hy => ?_⟩
      cases hb : isCtl y with
      | false => rfl
      | true => exact absurd ⟨y, hy, hb⟩ hr
theorem drop_app {c k : Nat} (h : (c == k) = false) (X Y : List Nat) : (X ++ c :: Y).dropWhile (· == k) = X.dropWhile (· == k) ++ c :: Y := by
  induction X with
  | nil => simp [h]
  | cons a r ih =>
    rw [List.cons_append, List.dropWhile_cons, List.dropWhile_cons]
    cases ha : a == k with
    | true => simpa using ih
    | false => simp
theorem stripL_app (W R : List Nat) : stripL (W ++ 58 :: R) = stripL W ++ 58 :: R := drop_app (by decide) _ _
theorem stripR_app (A M : List Nat) : stripR (A ++ 40 :: M) = A ++ 40 :: stripR M := by
  unfold stripR
  rw [List.reverse_append, List.reverse_cons, List.append_assoc, List.singleton_append, drop_app (by decide)]
  simp
theorem keys_none (W D M : List Nat) (hD : D ≠ []) (hc : ∀ c ∈ D, isCtl c = false) : keysOf (W ++ 58 :: (D ++ 40 :: M)) = none := by
  have hi : innerOf (W ++ 58 :: (D ++ 40 :: M)) = stripL W ++ 58 :: (D ++ 40 :: stripR M) := by
    unfold innerOf
    rw [stripL_app, show stripL W ++ 58 :: (D ++ 40 :: M) = (stripL W ++ 58 :: D) ++ 40 :: M by simp, stripR_app]
    simp
  unfold keysOf
  rw [hi]
  generalize stripL W = Z
  generalize stripR M = V
  rw [if_neg (by simp)]
  by_cases hh : isCtl ((Z ++ 58 :: (D ++ 40 :: V)).getD 0 0) = false
  · rw [if_pos hh]
  · rw [if_neg hh, if_pos]
    have hz : ∃ c ∈ Z, isCtl c = true := by
      cases Z with
      | nil => exact absurd (by simp; decide) hh
      | cons a r => exact ⟨a, .head _, by simpa using hh⟩
    obtain ⟨A, c, Y, e, h1, h2⟩ := lastCtl Z hz
    have hU : ∀ x ∈ Y ++ 58 :: (D ++ [40]), isCut false x = false := by
      intro x hx
      rw [isCut_false]
      simp only [List.mem_append, List.mem_cons, List.not_mem_nil, or_false] at hx
      rcases hx with hx | rfl | hx | rfl
      · exact h2 x hx
      · decide
      · exact hc x hx
      · decide
    obtain ⟨V1, rest, hV⟩ := cutWith_head false V ([] ++ (Y ++ 58 :: (D ++ [40])))
    have hw : cutOf false (Z ++ 58 :: (D ++ 40 :: V)) = cutWith false [] A ++ ((Y ++ 58 :: (D ++ [40])) ++ V1) :: rest := by
      rw [cutOf_with, e, show (A ++ c :: Y) ++ 58 :: (D ++ 40 :: V) = A ++ c :: ((Y ++ 58 :: (D ++ [40])) ++ V) by simp, cutWith_append (by rw [isCut_false]; exact h1), cutWith_pre _ _ hU, hV]
      rfl
    have hne := cutWith_ne false [] A
    have hwo : wordsOf (Z ++ 58 :: (D ++ 40 :: V)) = (cutWith false [] A).tail ++ ((Y ++ 58 :: (D ++ [40])) ++ V1) :: rest := by
      unfold wordsOf
      rw [hw]
      cases hA : cutWith false [] A with
      | nil => exact absurd hA hne
      | cons a r => rfl
    rw [hwo]
    have hD1 : 0 < D.length := List.length_pos_iff.mpr hD
    by_cases hr : rest = []
    · right
      rw [hr, List.getLast?_append]
      simp
    · left
      rw [List.dropLast_append_of_ne_nil (by simp), List.dropLast_cons_of_ne_nil hr, List.map_append, List.map_cons, List.mem_append]
      right
      rw [List.mem_cons]
      left
      refine (keyOf_bad ?_).symm
      cases Y with
      | nil =>
        by_cases h4 : 4 ≤ (([] ++ 58 :: (D ++ [40])) ++ V1).length
        · exact .inl h4
        · right
          refine ⟨?_, by simp⟩
          simp at h4 ⊢
          omega
      | cons y Y => left; simp; omega
noncomputable def dueOf (m : Int) : Int := if m / 8 = 127 then 256 else m / 8 % 256
theorem keyK : ∀ k : Fin 256, keyOf (if 128 ≤ ((k.val : Nat) : Int) then 33 :: (if 32 ≤ ((k.val % 128 : Nat) : Int) ∧ ((k.val % 128 : Nat) : Int) ≤ 126 then [((k.val % 128 : Nat) : Int).toNat] else if ((k.val % 128 : Nat) : Int) < 32 then [94, ((k.val % 128 : Nat) : Int).toNat + 64] else [94, 159]) else (if 32 ≤ ((k.val % 128 : Nat) : Int) ∧ ((k.val % 128 : Nat) : Int) ≤ 126 then [((k.val % 128 : Nat) : Int).toNat] else if ((k.val % 128 : Nat) : Int) < 32 then [94, ((k.val % 128 : Nat) : Int).toNat + 64] else [94, 159])) = ((k.val : Nat) : Int) := by decide +kernel
theorem key_unc (b : Int) : keyOf (unc b) = if b = 127 then 256 else b % 256 := by
  by_cases hb : b = 127
  · subst hb; decide +kernel
  · obtain ⟨k, hk⟩ : ∃ k : Nat, b % 256 = (k : Int) := ⟨(b % 256).toNat, by omega⟩
    have e : b % 128 = ((k % 128 : Nat) : Int) := by omega
    have hk2 : k < 256 := by omega
    rw [if_neg hb]
    unfold unc rep
    rw [if_neg hb, hk, e]
    exact keyK ⟨k, hk2⟩
theorem mark_ctl (n : Int) : isCtl (mark n) = true := by
  have h0 := Int.emod_nonneg n (show (28 : Int) ≠ 0 by decide)
  have h1 := Int.emod_lt_of_pos n (show (0 : Int) < 28 by decide)
  unfold mark isCtl
  split
  · simp; omega
  · split
    · simp
    · simp; omega
theorem mark_space (n : Int) : ¬ (9 ≤ mark n ∧ mark n ≤ 13) := by
  have h0 := Int.emod_nonneg n (show (28 : Int) ≠ 0 by decide)
  have h1 := Int.emod_lt_of_pos n (show (0 : Int) < 28 by decide)
  unfold mark
  split
  · omega
  · split <;> omega
theorem unc_mem {b : Int} {c : Nat} (h : c ∈ unc b) : isCtl c = false := by
  have h0 := Int.emod_nonneg b (show (128 : Int) ≠ 0 by decide)
  have hr : ∀ c ∈ rep b, isCtl c = false := by
    intro c hc
    unfold rep at hc
    unfold isCtl
    split at hc
    · simp at hc; rcases hc with rfl | rfl <;> decide
    · split at hc
      · simp at hc; simp; omega
      · split at hc
        · simp at hc; rcases hc with rfl | rfl
          · decide
          · simp; omega
        · simp at hc; rcases hc with rfl | rfl <;> decide
  unfold unc at h
  split at h
  · rcases List.mem_cons.mp h with rfl | h
    · decide
    · exact hr _ h
  · exact hr _ h
/-- the signs of a row of keys -/
noncomputable def rowOf (ms : List Int) : List Nat := (ms.map fun m => mark m :: unc (m / 8)).flatten
theorem rowOf_cons (m : Int) (ms : List Int) : rowOf (m :: ms) = mark m :: (unc (m / 8) ++ rowOf ms) := by simp [rowOf]
theorem cut_row (n : Int) (ms : List Int) : ∀ p, cutWith false p (rowOf ms ++ [mark n]) = p :: (ms.map (fun m => unc (m / 8)) ++ [[]]) := by
  induction ms with
  | nil => intro p; show cutWith false p [mark n] = _; rw [cutWith_yes (by rw [isCut_false]; exact mark_ctl n)]; rfl
  | cons m r ih =>
    intro p
    rw [rowOf_cons, List.cons_append, cutWith_yes (by rw [isCut_false]; exact mark_ctl m), List.append_assoc, cutWith_pre _ _ (fun c hc => by rw [isCut_false]; exact unc_mem hc), ih]
    rfl
theorem stripL_rep (k : Nat) (X : List Nat) : stripL (List.replicate k 60 ++ X) = stripL X := by
  induction k with
  | zero => rfl
  | succ k ih => rw [List.replicate_succ, List.cons_append, stripL_step (by simp)]; exact ih
theorem stripR_rep (k : Nat) (X : List Nat) : stripR (X ++ List.replicate k 62) = stripR X := by
  induction k with
  | zero => simp
  | succ k ih => rw [List.replicate_succ', ← List.append_assoc, stripR_step (by simp), List.dropLast_concat]; exact ih
theorem inner_name (a b : Nat) (X : List Nat) (h1 : X = [] ∨ (X.head? ≠ some 60 ∧ X.head? ≠ some 62)) (h2 : X.getLast? ≠ some 62) : innerOf (List.replicate a 60 ++ X ++ List.replicate b 62) = X := by
  unfold innerOf
  rw [List.append_assoc, stripL_rep]
  rcases h1 with rfl | h1
  · rw [List.nil_append, stripL_stop]
    · have := stripR_rep b []
      rw [List.nil_append] at this
      rw [this]; rfl
    · cases b with
      | zero => simp
      | succ b => simp [List.replicate_succ]
  · rw [stripL_stop, stripR_rep, stripR_stop]
    · rcases List.eq_nil_or_concat X with rfl | ⟨m, x, rfl⟩
      · simp
      · simp at h2 ⊢; exact h2
    · cases X with
      | nil => cases b with
        | zero => simp
        | succ b => simp [List.replicate_succ]
      | cons x r => simp at h1 ⊢; exact h1.1
theorem mark_ne (n : Int) {k : Nat} (h : isCtl k = false) : mark n ≠ k := fun e => by have := mark_ctl n; rw [e, h] at this; cases this
theorem keys_row (a b : Nat) (n : Int) (ms : List Int) : keysOf (List.replicate a 60 ++ (if rowOf ms ≠ [] then rowOf ms ++ [mark n] else []) ++ List.replicate b 62) = some (ms.map dueOf) := by
  cases ms with
  | nil =>
    rw [if_neg (by simp [rowOf])]
    unfold keysOf
    rw [inner_name a b [] (.inl rfl) (by simp), if_pos rfl]; rfl
  | cons m r =>
    have hne : rowOf (m :: r) ≠ [] := by rw [rowOf_cons]; simp
    have hc := cut_row n (m :: r) []
    rw [if_pos hne]
    unfold keysOf
    rw [inner_name a b _ (.inr ?_) ?_, if_neg (by simp), if_neg, wordsOf, cutOf_with, hc, List.tail_cons, if_neg, List.dropLast_concat, List.map_map]
    · congr 1
      refine List.map_congr_left fun m _ => ?_
      exact key_unc _
    · rintro (h | h)
      · rw [List.dropLast_concat, List.map_map, List.mem_map] at h
        obtain ⟨m, _, e⟩ := h
        have e' : keyOf (unc (m / 8)) = -1 := e
        rw [key_unc] at e'
        split at e'
        · omega
        · omega
      · exact h (by rw [List.getLast?_append]; rfl)
    · rw [rowOf_cons]; simp [mark_ctl]
    · rw [rowOf_cons]; simp; exact ⟨mark_ne m (by decide), mark_ne m (by decide)⟩
    · simp; exact mark_ne n (by decide)
end
section
structure Okay (l : List Nat) (ns : List Int) (i : Nat) (b : Tri) : Prop where
  len : l.length ≤ 100
  std : ∀ r ∈ readOf l, stdOf r.1 r.2.1 r.2.2 = l ∧ r.1.length ≤ 1000 ∧ r.2.2.length ≤ 1000 ∧ r.2.1.natAbs < 10 ^ 100
  one : (readOf l).filter (fun r => (keysOf r.2.2).isSome) = [b]
  due : keysOf b.2.2 = some ((shows ns i).map dueOf)

/-- a colon has a control behind it -/
noncomputable def FC (l : List Nat) : Prop := ∀ j : Nat, l[j]? = some 58 → ∃ c, l[j + 1]? = some c ∧ isCtl c = true
theorem FC.nil : FC [] := fun j h => by simp at h
theorem FC.cons {a : Nat} {l : List Nat} (h : a ≠ 58) (k : FC l) : FC (a :: l) := by
  intro j e
  cases j with
  | zero => simp at e; exact absurd e h
  | succ j => exact k j (by simpa using e)
theorem FC.two {a c : Nat} {l : List Nat} (h : isCtl c = true) (k : FC (c :: l)) : FC (a :: c :: l) := by
  intro j e
  cases j with
  | zero => exact ⟨c, rfl, h⟩
  | succ j => exact k j (by simpa using e)
theorem FC.rep {c : Nat} (h : c ≠ 58) (k : Nat) {l : List Nat} (x : FC l) : FC (List.replicate k c ++ l) := by
  induction k with
  | zero => exact x
  | succ k ih => rw [List.replicate_succ]; exact .cons h ih
theorem FC.unc {b : Int} {c : Nat} {l : List Nat} (h : isCtl c = true) (k : FC (c :: l)) : FC (unc b ++ c :: l) := by
  have hr : FC (Mine.rep b ++ c :: l) := by
    unfold Mine.rep
    split
    · exact .cons (by decide) (.two h k)
    · split
      · exact .two h k
      · split
        · exact .cons (by decide) (.two h k)
        · exact .cons (by decide) (.two h k)
  unfold Mine.unc
  split
  · exact .cons (by decide) hr
  · exact hr
theorem FC.row (n : Int) {l : List Nat} (k : FC l) (ms : List Int) : FC (rowOf ms ++ mark n :: l) := by
  induction ms with
  | nil => exact .cons (mark_ne n (by decide)) k
  | cons m r ih =>
    rw [rowOf_cons, List.cons_append, List.append_assoc]
    refine .cons (mark_ne m (by decide)) ?_
    cases r with
    | nil => exact .unc (mark_ctl n) ih
    | cons m' r' =>
      rw [rowOf_cons, List.cons_append] at ih ⊢
      exact .unc (mark_ctl m') ih

theorem split40 {A B X Y : List Nat} (e : A ++ 40 :: B = X ++ 40 :: Y) (hA : 40 ∉ A) (hX : 40 ∉ X) : A = X ∧ B = Y := by
  induction A generalizing X with
  | nil =>
    cases X with
    | nil => simp at e; exact ⟨rfl, e⟩
    | cons x r => simp at e; exact absurd (e.1 ▸ List.Mem.head _) hX
  | cons a r ih =>
    cases X with
    | nil => simp at e; exact absurd (e.1 ▸ List.Mem.head _) hA
    | cons x s =>
      simp at e
      obtain ⟨h1, h2⟩ := ih e.2 (fun h => hA (.tail _ h)) (fun h => hX (.tail _ h))
      exact ⟨by rw [e.1, h1], h2⟩
theorem has40 (l : List Nat) (h : 40 ∈ l) : ∃ A B, l = A ++ 40 :: B ∧ 40 ∉ A := by
  induction l with
  | nil => exact nomatch h
  | cons a r ih =>
    by_cases ha : a = 40
    · exact ⟨[], r, by rw [ha]; rfl, by simp⟩
    · rcases List.mem_cons.mp h with e | h
      · exact absurd e.symm ha
      · obtain ⟨A, B, e, hA⟩ := ih h
        refine ⟨a :: A, B, by rw [e]; rfl, fun h => ?_⟩
        rcases List.mem_cons.mp h with e | h
        · exact ha e.symm
        · exact hA h
theorem fnd_app (A B : List Nat) (h : 40 ∉ A) : fnd 40 (A ++ 40 :: B) = A.length := by
  have : (A ++ 40 :: B).findIdx? (· == 40) = some A.length := by
    induction A with
    | nil => rw [List.nil_append, List.findIdx?_cons]; rfl
    | cons a r ih =>
      rw [List.cons_append, List.findIdx?_cons, if_neg (by simp; exact fun e => h (e ▸ List.Mem.head _)), ih (fun x => h (.tail _ x))]
      simp
  unfold fnd; rw [this]
theorem fnd_none (l : List Nat) (h : 40 ∉ l) : fnd 40 l = -1 := by
  have : l.findIdx? (· == 40) = none := by
    rw [List.findIdx?_eq_none_iff]
    intro x hx
    simp
    exact fun e => h (e ▸ hx)
  unfold fnd; rw [this]
theorem readAt_app {l run rest : List Nat} {j : Nat} (e : l.drop (j + 1) = run ++ 40 :: rest) (h : 40 ∉ run) :
    readAt l j = if 0 < run.length then (match numOf run with | some n => if l.take j = [126] ∧ n = 0 then [] else [(l.take j, n, rest.dropLast)] | none => []) else [] := by
  unfold readAt
  rw [e, fnd_app _ _ h]
  have e1 : (run ++ 40 :: rest).take ((run.length : Int)).toNat = run := by simp
  have e2 : (run ++ 40 :: rest).drop (((run.length : Int)).toNat + 1) = rest := by
    rw [Int.toNat_natCast, show run ++ 40 :: rest = (run ++ [40]) ++ rest by simp, List.drop_left' (by simp)]
  rw [e1, e2]
  by_cases hp : 0 < run.length
  · rw [if_pos hp, if_pos (by omega)]
    all_goals (cases numOf run <;> rfl)
  · rw [if_neg hp, if_neg (by omega)]
theorem readAt_some {l : List Nat} {j : Nat} {r : Tri} (h : r ∈ readAt l j) : ∃ run rest n, l.drop (j + 1) = run ++ 40 :: rest ∧ 40 ∉ run ∧ run ≠ [] ∧ numOf run = some n ∧ ¬ (l.take j = [126] ∧ n = 0) ∧ r = (l.take j, n, rest.dropLast) := by
  by_cases h4 : 40 ∈ l.drop (j + 1)
  · obtain ⟨run, rest, e, h5⟩ := has40 _ h4
    rw [readAt_app e h5] at h
    by_cases hp : 0 < run.length
    · rw [if_pos hp] at h
      cases hn : numOf run with
      | none => rw [hn] at h; exact nomatch h
      | some n =>
        rw [hn] at h
        dsimp only at h
        by_cases hz : l.take j = [126] ∧ n = 0
        · rw [if_pos hz] at h; exact nomatch h
        · rw [if_neg hz] at h
          exact ⟨run, rest, n, e, h5, List.length_pos_iff.mp hp, hn, hz, List.mem_singleton.mp h⟩
    · rw [if_neg hp] at h; exact nomatch h
  · unfold readAt at h
    rw [fnd_none _ h4, if_neg (by decide)] at h
    exact nomatch h
theorem split_at {l : List Nat} {j : Nat} (h : l[j]? = some 58) : l = l.take j ++ 58 :: l.drop (j + 1) := by
  obtain ⟨hj, e⟩ := List.getElem?_eq_some_iff.mp h
  rw [← e, List.getElem_cons_drop, List.take_append_drop]
theorem getD_get {l : List Nat} {j : Nat} (h : l.getD j 0 = 58) : l[j]? = some 58 := by
  rw [List.getD_eq_getElem?_getD] at h
  cases hx : l[j]? with
  | none => rw [hx] at h; simp at h
  | some x => rw [hx] at h; simpa using h
theorem std_read {l : List Nat} {j : Nat} {r : Tri} (hj : l.getD j 0 = 58) (hl : l.getLast? = some 41) (hz : l.length ≤ 100) (h : r ∈ readAt l j) :
    stdOf r.1 r.2.1 r.2.2 = l ∧ r.1.length ≤ 1000 ∧ r.2.2.length ≤ 1000 ∧ r.2.1.natAbs < 10 ^ 100 := by
  obtain ⟨run, rest, n, e, _, hr, hn, hne, rfl⟩ := readAt_some h
  obtain ⟨hd, hb⟩ := dec_num hn
  have hs := split_at (getD_get hj)
  rw [e] at hs
  have hlen := congrArg List.length hs
  simp only [List.length_append, List.length_cons] at hlen
  have hrest : rest.dropLast ++ [41] = rest := by
    rcases List.eq_nil_or_concat rest with rfl | ⟨m, x, rfl⟩
    · rw [hs, show l.take j ++ 58 :: (run ++ 40 :: []) = (l.take j ++ 58 :: run) ++ [40] by simp, List.getLast?_concat] at hl
      exact absurd hl (by decide)
    · rw [hs, show l.take j ++ 58 :: (run ++ 40 :: m.concat x) = (l.take j ++ 58 :: (run ++ 40 :: m)) ++ [x] by simp, List.getLast?_concat] at hl
      rw [List.concat_eq_append, List.dropLast_concat, Option.some.inj hl]
  dsimp only
  refine ⟨?_, by rw [List.length_take]; omega, by rw [List.length_dropLast]; omega, Nat.lt_of_lt_of_le hb (Nat.pow_le_pow_right (by decide) (by omega))⟩
  unfold stdOf
  rw [if_neg hne, hd, hrest]
  exact hs.symm
theorem num_colon {r : List Nat} (h : 58 ∈ r) : numOf r = none := by
  have h2 : 58 ∈ figs r := by
    unfold figs
    split
    · cases r with
      | nil => exact nomatch h
      | cons a b =>
        rcases List.mem_cons.mp h with e | h
        · subst e; simp at *
        · exact h
    · exact h
  unfold numOf
  split
  · rfl
  · rw [if_neg]
    intro hd
    unfold digs at hd
    rw [List.all_eq_true] at hd
    exact absurd (of_decide_eq_true (hd 58 h2)) (by decide)
theorem num_ctl {c : Nat} {r : List Nat} (h : isCtl c = true) : numOf (c :: r) = none := by
  have hc : c ≤ 31 ∨ c = 127 := of_decide_eq_true h
  unfold numOf
  rw [figs_not (by simp; omega)]
  split
  · rfl
  · rw [if_neg]
    intro hd
    simp only [digs, List.all_cons, Bool.and_eq_true, decide_eq_true_eq] at hd
    omega
theorem decZ_ctl (n : Int) : ∀ c ∈ decZ n, isCtl c = false := fun c h => by
  unfold isCtl
  have := decZ_mem h
  simp; omega
/-- the readings of a line with a colon: one has keys -/
theorem read_one (W M : List Nat) (N : Int) (hWN : ¬ (W = [126] ∧ N = 0)) (hM : FC M) (hk : (keysOf M).isSome = true) (j : Nat) (l : List Nat) (hl : l = W ++ 58 :: (decZ N ++ 40 :: (M ++ [41]))) (hj : l.getD j 0 = 58) :
    (readAt l j).filter (fun r => (keysOf r.2.2).isSome) = if j = W.length then [(W, N, M)] else [] := by
  by_cases hjw : j = W.length
  · rw [if_pos hjw]
    have e : l.drop (j + 1) = decZ N ++ 40 :: (M ++ [41]) := by
      rw [hl, hjw, show W ++ 58 :: (decZ N ++ 40 :: (M ++ [41])) = (W ++ [58]) ++ (decZ N ++ 40 :: (M ++ [41])) by simp, List.drop_left' (by simp)]
    have et : l.take j = W := by rw [hl, hjw, List.take_left' rfl]
    have h40 : 40 ∉ decZ N := fun h => by have := decZ_mem h; omega
    rw [readAt_app e h40, if_pos (List.length_pos_iff.mpr (decZ_ne N)), num_dec, et]
    dsimp only
    rw [if_neg hWN, List.dropLast_concat, List.filter_cons_of_pos (by exact hk)]
    rfl
  · rw [if_neg hjw, List.filter_eq_nil_iff]
    intro r hr
    obtain ⟨run, rest, n, e, h40, hne, hn, _, rfl⟩ := readAt_some hr
    have hg := getD_get hj
    dsimp only
    by_cases hlt : j < W.length
    · have ed : l.drop (j + 1) = W.drop (j + 1) ++ 58 :: (decZ N ++ 40 :: (M ++ [41])) := by rw [hl, List.drop_append_of_le_length (by omega)]
      rw [ed] at e
      by_cases hw : 40 ∈ W.drop (j + 1)
      · obtain ⟨X, Y, ex, hX⟩ := has40 _ hw
        rw [ex, List.append_assoc, List.cons_append] at e
        obtain ⟨h1, h2⟩ := split40 e hX h40
        rw [← h2, show Y ++ 58 :: (decZ N ++ 40 :: (M ++ [41])) = (Y ++ 58 :: (decZ N ++ 40 :: M)) ++ [41] by simp, List.dropLast_concat, keys_none _ _ _ (decZ_ne N) (decZ_ctl N)]
        simp
      · have e' : (W.drop (j + 1) ++ 58 :: decZ N) ++ 40 :: (M ++ [41]) = run ++ 40 :: rest := by rw [← e]; simp
        obtain ⟨h1, _⟩ := split40 e' (by
          intro h
          simp only [List.mem_append, List.mem_cons] at h
          rcases h with h | h | h
          · exact hw h
          · omega
          · have := decZ_mem h; omega) h40
        rw [← h1, num_colon (by simp)] at hn
        cases hn
    · exfalso
      obtain ⟨k, rfl⟩ : ∃ k, j = W.length + (1 + k) := ⟨j - W.length - 1, by omega⟩
      rw [hl, List.getElem?_append_right (by omega), show W.length + (1 + k) - W.length = k + 1 by omega, List.getElem?_cons_succ] at hg
      by_cases hk1 : k < (decZ N).length
      · rw [List.getElem?_append_left hk1] at hg
        have := decZ_mem (List.mem_of_getElem? hg)
        omega
      · rw [List.getElem?_append_right (by omega)] at hg
        obtain ⟨q, hq⟩ : ∃ q, k = (decZ N).length + q := ⟨k - (decZ N).length, by omega⟩
        rw [hq, Nat.add_sub_cancel_left] at hg
        cases q with
        | zero => simp at hg
        | succ q =>
          rw [List.getElem?_cons_succ] at hg
          have hqM : q < M.length := by
            rcases Nat.lt_or_ge q M.length with h | h
            · exact h
            · rw [List.getElem?_append_right h] at hg
              cases hx : q - M.length with
              | zero => rw [hx] at hg; simp at hg
              | succ y => rw [hx] at hg; simp at hg
          rw [List.getElem?_append_left hqM] at hg
          obtain ⟨c, hc, hct⟩ := hM q hg
          have ed : l.drop (W.length + (1 + k) + 1) = M.drop (q + 1) ++ [41] := by
            have hq1 : q + 1 < M.length := (List.getElem?_eq_some_iff.mp hc).1
            have hlen : (W ++ 58 :: (decZ N ++ [40]) : List Nat).length = W.length + (decZ N).length + 2 := by simp; omega
            have hlen2 : W.length + (1 + ((decZ N).length + (q + 1))) + 1 - (W.length + (decZ N).length + 2) = q + 1 := by omega
            rw [hl, hq, show W ++ 58 :: (decZ N ++ 40 :: (M ++ [41])) = (W ++ 58 :: (decZ N ++ [40])) ++ (M ++ [41]) by simp, List.drop_append, List.drop_of_length_le (by rw [hlen]; omega), List.nil_append, hlen, hlen2, List.drop_append_of_le_length (by omega)]
          have ec : M.drop (q + 1) = c :: M.drop (q + 2) := by
            obtain ⟨hlt, e⟩ := List.getElem?_eq_some_iff.mp hc
            rw [← e, List.getElem_cons_drop]
          rw [ed, ec, List.cons_append] at e
          cases run with
          | nil => exact hne rfl
          | cons a run' =>
            rw [List.cons_append] at e
            have := (List.cons.inj e).1
            rw [← this, num_ctl hct] at hn
            cases hn
theorem flat_one {f : Nat → List Tri} {k : Nat} {x : List Tri} : ∀ (ps : List Nat), ps.Nodup → k ∈ ps → (∀ j ∈ ps, f j = if j = k then x else []) → ps.flatMap f = x
  | [], _, h, _ => nomatch h
  | p :: r, hn, hk, hf => by
    rw [List.flatMap_cons, hf p (.head _)]
    obtain ⟨hp, hr⟩ := List.nodup_cons.mp hn
    by_cases e : p = k
    · rw [if_pos e]
      have : r.flatMap f = [] := by
        rw [List.flatMap_eq_nil_iff]
        intro j hj
        rw [hf j (.tail _ hj), if_neg]
        intro e'
        exact hp (by rw [e, ← e']; exact hj)
      rw [this, List.append_nil]
    · rw [if_neg e, List.nil_append]
      refine flat_one r hr ?_ fun j hj => hf j (.tail _ hj)
      rcases List.mem_cons.mp hk with h | h
      · exact absurd h.symm e
      · exact h
theorem mem_pos {l : List Nat} {j : Nat} : j ∈ posN l ↔ j < l.length ∧ l.getD j 0 = 58 ∧ l.getLast? = some 41 := by
  unfold posN posTo; rw [List.mem_filter, List.mem_range, decide_eq_true_eq]
theorem pos_nodup (l : List Nat) : (posN l).Nodup := List.Pairwise.filter _ List.nodup_range
theorem pos_nil {l : List Nat} (h : l.getLast? ≠ some 41) : posN l = [] := by
  rw [List.eq_nil_iff_forall_not_mem]
  intro j hj
  exact h (mem_pos.mp hj).2.2
theorem filter_flat (ps : List Nat) (f : Nat → List Tri) (p : Tri → Bool) : (ps.flatMap f).filter p = ps.flatMap fun j => (f j).filter p := by
  induction ps with
  | nil => rfl
  | cons a r ih => rw [List.flatMap_cons, List.filter_append, ih, List.flatMap_cons]
theorem last_of {l : List Nat} {c : Nat} (h : l.drop (l.length - 1) = [c]) : l.getLast? = some c := by
  rcases List.eq_nil_or_concat l with rfl | ⟨m, x, rfl⟩
  · simp at h
  · simp at h ⊢; exact h
/-- the plain law of one line -/
theorem okay_of (ns : List Int) (i : Nat) (W M : List Nat) (N : Int) (hM : FC M) (hk : keysOf M = some ((shows ns i).map dueOf)) (hh : M.head? ≠ some 123) (hg : M.getLast? ≠ some 41) (hz : (stdOf W N M).length ≤ 100) (hN : N.natAbs < 10 ^ 100) :
    Okay (stdOf W N M) ns i (W, N, M) := by
  have hks : (keysOf M).isSome = true := by rw [hk]; rfl
  by_cases hc : W = [126] ∧ N = 0
  · obtain ⟨rfl, rfl⟩ := hc
    by_cases ha : M.head? = some 60 ∧ M.getLast? = some 62
    · have hs : stdOf [126] 0 M = 123 :: (M.tail.dropLast ++ [125]) := by unfold stdOf; rw [if_pos ⟨rfl, rfl⟩, if_pos ha]
      have hMe : 60 :: (M.tail.dropLast ++ [62]) = M := by
        cases M with
        | nil => simp at ha
        | cons a r =>
          simp at ha
          obtain ⟨rfl, hl⟩ := ha
          rcases List.eq_nil_or_concat r with rfl | ⟨m, x, rfl⟩
          · simp at hl
          · rw [List.concat_eq_append, ← List.cons_append, List.getLast?_concat] at hl
            simp [Option.some.inj hl]
      rw [hs] at hz ⊢
      have hp : posN (123 :: (M.tail.dropLast ++ [125])) = [] := pos_nil (by simp [List.getLast?_cons, List.getLast?_append])
      have h1 : told1 (123 :: (M.tail.dropLast ++ [125])) = [([126], 0, 123 :: (M.tail.dropLast ++ [125]))] := by unfold told1; rw [if_neg (by simp)]
      have h2 : told2 (123 :: (M.tail.dropLast ++ [125])) = [([126], 0, M)] := by
        unfold told2
        rw [if_pos ⟨by simp, by simp⟩, List.tail_cons, List.dropLast_concat, hMe]
      have hr : readOf (123 :: (M.tail.dropLast ++ [125])) = [([126], 0, 123 :: (M.tail.dropLast ++ [125])), ([126], 0, M)] := by unfold readOf; rw [hp, h1, h2]; rfl
      have hlen : M.length = (123 :: (M.tail.dropLast ++ [125])).length := by
        have := congrArg List.length hMe
        simp only [List.length_cons, List.length_append, List.length_nil] at this ⊢
        omega
      have hkn : keysOf (123 :: (M.tail.dropLast ++ [125])) = none := by
        have hi : innerOf (123 :: (M.tail.dropLast ++ [125])) = 123 :: (M.tail.dropLast ++ [125]) := by
          unfold innerOf
          rw [stripL_stop (by simp), stripR_stop (by simp)]
        unfold keysOf
        rw [hi, if_neg (by simp), if_pos (by simp; decide)]
      refine ⟨hz, ?_, ?_, hk⟩
      · rw [hr]
        intro r hr'
        simp only [List.mem_cons, List.not_mem_nil, or_false] at hr'
        rcases hr' with rfl | rfl
        · refine ⟨?_, by simp, by dsimp only; omega, by simp⟩
          unfold stdOf
          rw [if_pos ⟨rfl, rfl⟩, if_neg (by simp)]
        · refine ⟨hs, by simp, by dsimp only; omega, by simp⟩
      · rw [hr, List.filter_cons_of_neg (by simp [hkn]), List.filter_cons_of_pos (by simpa using hks)]
        rfl
    · have hs : stdOf [126] 0 M = M := by unfold stdOf; rw [if_pos ⟨rfl, rfl⟩, if_neg ha]
      rw [hs] at hz ⊢
      have h1 : told1 M = [([126], 0, M)] := by
        unfold told1
        rw [if_neg]
        rintro ⟨e1, e2⟩
        refine ha ⟨?_, last_of e2⟩
        cases M with
        | nil => simp at e1
        | cons a r => simp at e1; simp [e1]
      have h2 : told2 M = [] := by
        unfold told2
        rw [if_neg]
        rintro ⟨e1, _⟩
        cases M with
        | nil => simp at e1
        | cons a r => simp at e1; subst e1; simp at hh
      have hr : readOf M = [([126], 0, M)] := by unfold readOf; rw [pos_nil hg, h1, h2]; rfl
      refine ⟨hz, ?_, ?_, hk⟩
      · rw [hr]
        intro r hr'
        rw [List.mem_singleton.mp hr']
        exact ⟨hs, by simp, by dsimp only; omega, by simp⟩
      · rw [hr, List.filter_cons_of_pos (by simpa using hks)]; rfl
  · have hs : stdOf W N M = W ++ 58 :: (decZ N ++ 40 :: (M ++ [41])) := by unfold stdOf; rw [if_neg hc]
    rw [hs] at hz ⊢
    generalize hl : W ++ 58 :: (decZ N ++ 40 :: (M ++ [41])) = l at hz ⊢
    have hlast : l.getLast? = some 41 := by rw [← hl]; simp [List.getLast?_append, List.getLast?_cons]
    have hdl : l.drop (l.length - 1) = [41] := by
      rcases List.eq_nil_or_concat l with rfl | ⟨m, x, rfl⟩
      · simp at hlast
      · simp at hlast ⊢; exact hlast
    have h1 : told1 l = [([126], 0, l)] := by unfold told1; rw [if_neg (by rw [hdl]; simp)]
    have h2 : told2 l = [] := by unfold told2; rw [if_neg (by rw [hdl]; simp)]
    have hr : readOf l = ([126], 0, l) :: (posN l).flatMap (readAt l) := by unfold readOf; rw [h1, h2]; rfl
    have hkn : keysOf l = none := by rw [← hl]; exact keys_none W (decZ N) (M ++ [41]) (decZ_ne N) (decZ_ctl N)
    refine ⟨hz, ?_, ?_, hk⟩
    · rw [hr]
      intro r hr'
      rcases List.mem_cons.mp hr' with rfl | hr'
      · refine ⟨?_, by simp, by dsimp only; omega, by simp⟩
        unfold stdOf
        rw [if_pos ⟨rfl, rfl⟩, if_neg (by rw [hlast]; simp)]
      · obtain ⟨j, hj, hm⟩ := List.mem_flatMap.mp hr'
        obtain ⟨_, p1, p2⟩ := mem_pos.mp hj
        exact std_read p1 p2 hz hm
    · rw [hr, List.filter_cons_of_neg (by simp [hkn]), filter_flat]
      refine flat_one (k := W.length) _ (pos_nodup l) (mem_pos.mpr ⟨by rw [← hl]; simp, by rw [← hl]; simp [List.getD_eq_getElem?_getD], hlast⟩) fun j hj => ?_
      exact read_one W M N hc hM hks j l hl.symm (mem_pos.mp hj).2.1
end
section
theorem decZ_len18 {n : Int} (h : n.natAbs < 10 ^ 18) : (decZ n).length ≤ 19 := by
  have := toString_length_le (v := (n.natAbs : Int)) (by omega) (k := 18) (by decide) (by omega)
  have h2 : (decN n.natAbs).length ≤ 18 := by unfold decN; rw [Array.length_toList]; exact this
  unfold decZ; split <;> simp <;> omega
theorem line_small (ns : List Int) (i : Nat) : (lineOf ns i * (placeOf ns i % 2)).natAbs < 10 ^ 18 := by
  have h1 : (lineOf ns i).natAbs < 10 ^ 18 := by
    unfold lineOf
    dsimp only
    generalize ns.getD ((i + 1) % ns.length) 0 = b
    split <;> omega
  have h2 : placeOf ns i % 2 = 0 ∨ placeOf ns i % 2 = 1 := by omega
  rcases h2 with h | h <;> rw [h] <;> omega
theorem name_len (ns : List Int) (i : Nat) : (nameOf ns i).length ≤ 17 := by
  have hb := body_len ns i
  have h1 := three (ns.getD i 0)
  have h2 := three (ns.getD i 0 / 3)
  have hm : (bodyM ns i).length ≤ 13 := by unfold bodyM; split <;> simp <;> omega
  unfold nameOf
  simp only [List.length_append, List.length_replicate]
  omega
theorem where_len (ns : List Int) (i : Nat) (hi : i < 3) : (whereOf ns i).length ≤ 26 := by
  unfold whereOf
  split
  · simp
  · have := flat_le piece 13 piece_len (ns.take i)
    have h2 : (ns.take i).length ≤ 2 := by rw [List.length_take]; omega
    omega
theorem std_len (W M : List Nat) (N : Int) (h1 : W.length ≤ 26) (h2 : M.length ≤ 17) (h3 : N.natAbs < 10 ^ 18) : (stdOf W N M).length ≤ 100 := by
  have := decZ_len18 h3
  unfold stdOf
  split
  · split
    · simp; omega
    · omega
  · simp; omega
theorem name_eq (ns : List Int) (i : Nat) : nameOf ns i = List.replicate (ns.getD i 0 % 3).toNat 60 ++ (if rowOf (shows ns i) ≠ [] then rowOf (shows ns i) ++ [mark (ns.getD i 0)] else []) ++ List.replicate (ns.getD i 0 / 3 % 3).toNat 62 := rfl
theorem row_ne {ms : List Int} (h : rowOf ms ≠ []) : ∃ m r, ms = m :: r := by
  cases ms with
  | nil => exact absurd rfl h
  | cons m r => exact ⟨m, r, rfl⟩
theorem name_fc (ns : List Int) (i : Nat) : FC (nameOf ns i) := by
  rw [name_eq, List.append_assoc]
  refine .rep (by decide) _ ?_
  have hr : ∀ k, FC (List.replicate k 62) := fun k => by have := FC.rep (c := 62) (by decide) k FC.nil; rwa [List.append_nil] at this
  split
  · rw [List.append_assoc]; exact .row _ (hr _) _
  · exact hr _
theorem name_head (ns : List Int) (i : Nat) : (nameOf ns i).head? ≠ some 123 := by
  rw [name_eq, List.append_assoc]
  generalize (ns.getD i 0 % 3).toNat = a
  generalize (ns.getD i 0 / 3 % 3).toNat = b
  cases a with
  | succ a => simp [List.replicate_succ]
  | zero =>
    rw [List.replicate_zero, List.nil_append]
    split
    · obtain ⟨m, r, e⟩ := row_ne (by assumption)
      rw [e, rowOf_cons]
      simp
      exact mark_ne m (by decide)
    · cases b with
      | zero => simp
      | succ b => simp [List.replicate_succ]
theorem name_last (ns : List Int) (i : Nat) : (nameOf ns i).getLast? ≠ some 41 := by
  rw [name_eq]
  generalize (ns.getD i 0 % 3).toNat = a
  generalize (ns.getD i 0 / 3 % 3).toNat = b
  cases b with
  | succ b => rw [List.replicate_succ', ← List.append_assoc, List.getLast?_concat]; simp
  | zero =>
    rw [List.replicate_zero, List.append_nil]
    split
    · rw [← List.append_assoc, List.getLast?_concat]
      intro e
      exact mark_ne _ (by decide) (Option.some.inj e)
    · rw [List.append_nil]
      cases a with
      | zero => simp
      | succ a => rw [List.replicate_succ', List.getLast?_concat]; simp
noncomputable def wOf (ns : List Int) (i : Nat) : List Nat := stdOf (tripleOf ns i).1 (tripleOf ns i).2.1 (tripleOf ns i).2.2
theorem okay_tri (ns : List Int) (i : Nat) (hi : i < 3) : Okay (wOf ns i) ns i (tripleOf ns i) := by
  have h1 := line_small ns i
  exact okay_of ns i (whereOf ns i) (nameOf ns i) (lineOf ns i * (placeOf ns i % 2)) (name_fc ns i) (keys_row _ _ _ _) (name_head ns i) (name_last ns i) (std_len _ _ _ (where_len ns i hi) (name_len ns i) h1) (Nat.lt_trans h1 (by decide))

/-- no control that is a space -/
noncomputable def NS (l : List Nat) : Prop := ∀ c ∈ l, ¬ (9 ≤ c ∧ c ≤ 13)
theorem NS.nil : NS [] := fun _ h => nomatch h
theorem NS.cons {a : Nat} {l : List Nat} (h : ¬ (9 ≤ a ∧ a ≤ 13)) (k : NS l) : NS (a :: l) := fun c hc => by
  rcases List.mem_cons.mp hc with rfl | hc
  · exact h
  · exact k c hc
theorem NS.app {l l' : List Nat} (h : NS l) (k : NS l') : NS (l ++ l') := fun c hc => (List.mem_append.mp hc).elim (h c) (k c)
theorem NS.rep {c : Nat} (h : ¬ (9 ≤ c ∧ c ≤ 13)) (k : Nat) : NS (List.replicate k c) := fun x hx => by rw [List.eq_of_mem_replicate hx]; exact h
theorem NS.ctl {l : List Nat} (h : ∀ c ∈ l, isCtl c = false) : NS l := fun c hc x => by
  have := h c hc
  unfold isCtl at this
  simp at this
  omega
theorem NS.flat {α : Type} (f : α → List Nat) (h : ∀ x, NS (f x)) (l : List α) : NS (l.map f).flatten := fun c hc => by
  obtain ⟨y, hy, hc⟩ := List.mem_flatten.mp hc
  obtain ⟨x, _, rfl⟩ := List.mem_map.mp hy
  exact h x c hc
theorem ns_unc (b : Int) : NS (unc b) := .ctl fun _ h => unc_mem h
theorem NS.all {l : List Nat} (h : (l.all fun c => decide (¬ (9 ≤ c ∧ c ≤ 13))) = true) : NS l := fun c hc => of_decide_eq_true (List.all_eq_true.mp h c hc)
theorem ns_piece (n : Int) : NS (piece n) := by
  unfold piece
  split
  all_goals first
    | exact ns_unc _
    | exact .app (.all (by decide)) (.cons (mark_space _) .nil)
    | exact .all (by decide)
theorem ns_where (ns : List Int) (i : Nat) : NS (whereOf ns i) := by
  unfold whereOf
  split
  · exact .cons (by decide) .nil
  · exact .flat _ ns_piece _
theorem ns_row (ms : List Int) : NS (rowOf ms) := .flat _ (fun m => .cons (mark_space m) (ns_unc _)) _
theorem ns_name (ns : List Int) (i : Nat) : NS (nameOf ns i) := by
  rw [name_eq]
  refine .app (.app (.rep (by decide) _) ?_) (.rep (by decide) _)
  split
  · exact .app (ns_row _) (.cons (mark_space _) .nil)
  · exact .nil
theorem ns_std {W M : List Nat} (N : Int) (h1 : NS W) (h2 : NS M) : NS (stdOf W N M) := by
  unfold stdOf
  split
  · split
    · exact .cons (by decide) (.app (fun c hc => h2 c (List.mem_of_mem_tail ((List.dropLast_sublist _).subset hc))) (.cons (by decide) .nil))
    · exact h2
  · exact .app h1 (.cons (by decide) (.app (.ctl (decZ_ctl N)) (.cons (by decide) (.app h2 (.cons (by decide) .nil)))))
theorem ns_w (ns : List Int) (i : Nat) : NS (wOf ns i) := ns_std _ (ns_where ns i) (ns_name ns i)
theorem cut_sheet (ps : List (List Nat × Nat)) (h : ∀ p ∈ ps, NS p.1 ∧ 9 ≤ p.2 ∧ p.2 ≤ 13) : cutOf true ((ps.map fun p => p.1 ++ [p.2]).flatten) = ps.map (·.1) ++ [[]] := by
  rw [cutOf_with]
  induction ps with
  | nil => rfl
  | cons p r ih =>
    obtain ⟨h1, h2, h3⟩ := h p (.head _)
    rw [List.map_cons, List.flatten_cons, List.append_assoc, cutWith_pre _ _ (fun c hc => by
      have := h1 c hc
      simp only [isCut, Bool.not_true, Bool.false_or, Bool.and_eq_false_iff, decide_eq_false_iff_not]
      omega), List.nil_append, List.singleton_append, cutWith_yes (by simp [isCut]; omega), ih fun q hq => h q (.tail _ hq)]
    rfl
end
section
section
variable {A : Around} {s : Shared}
theorem eqAt_true {l b : Addr} (h : SeqAt.RcAt A s (.ref l) (.ref b) true) : SeqAt.EqAt A s (.ref l) (.ref b) true := by
  by_cases e : l = b
  · subst e; exact SeqAt.EqAt.same _
  · exact SeqAt.EqAt.of_refs e h
theorem eqS_same (x : List Nat) (t u : Tok) : SeqAt.EqAt A s (.str (S x) t) (.str (S x) u) true := by
  have := eqS_at A s x x t u
  rwa [decide_eq_true rfl] at this
theorem eqI_same (x : Int) (t u : Tok) : SeqAt.EqAt A s (.int x t) (.int x u) true := by
  have := eqI_at A s x x t u
  rwa [decide_eq_true rfl] at this
theorem rcTup3 {l b : Addr} {x y : List Nat} {i : Int} {t1 t2 t3 u1 u2 u3 : Tok} (hl : IsTup s.heap l #[.str (S x) t1, .int i t2, .str (S y) t3]) (hb : IsTup s.heap b #[.str (S x) u1, .int i u2, .str (S y) u3]) (hu : A.units < cLine) :
    SeqAt.RcAt A s (.ref l) (.ref b) true :=
  SeqAt.RcAt.tuples (e := fun _ => true) hl hb hu (fun j h1 h2 => by
    match j, h1 with
    | 0, _ => exact eqS_same _ _ _
    | 1, _ => exact eqI_same _ _ _
    | 2, _ => exact eqS_same _ _ _)
theorem rcTup2 {l b : Addr} {x y x' y' : Value} (hl : IsTup s.heap l #[x, y]) (hb : IsTup s.heap b #[x', y']) (hu : A.units < cLine) (h1 : SeqAt.EqAt A.in1 s x x' true) (h2 : SeqAt.EqAt A.in1 s y y' true) :
    SeqAt.RcAt A s (.ref l) (.ref b) true :=
  SeqAt.RcAt.tuples (e := fun _ => true) hl hb hu (fun j k1 k2 => by
    match j, k1 with
    | 0, _ => exact h1
    | 1, _ => exact h2)
theorem all_true (n : Nat) : (List.range n).all (fun _ => true) = true := by simp
theorem rcInts {l b : Addr} {vs us : List Value} {ns : List Int} (hl : s.heap.IsList l vs.toArray) (hb : s.heap.IsList b us.toArray) (hv : IntsAre vs ns) (hw : IntsAre us ns) (hu : A.units < cLine) :
    SeqAt.RcAt A s (.ref l) (.ref b) true := by
  have h1 := hv.length
  have h2 := hw.length
  have := SeqAt.RcAt.lists (A := A) (e := fun _ => true) hl hb (by rw [List.size_toArray, List.size_toArray]; omega) hu (fun j k1 k2 => by
    rw [List.size_toArray] at k1 k2
    have e : ns[j]? = some (ns[j]'(by omega)) := List.getElem?_eq_getElem _
    obtain ⟨t, ht⟩ := hv.get j _ e
    obtain ⟨u, hu'⟩ := hw.get j _ e
    have e1 : vs.toArray[j] = .int (ns[j]'(by omega)) t := by
      rw [List.getElem_toArray]; exact Option.some.inj ((List.getElem?_eq_getElem k1).symm.trans ht)
    have e2 : us.toArray[j] = .int (ns[j]'(by omega)) u := by
      rw [List.getElem_toArray]; exact Option.some.inj ((List.getElem?_eq_getElem k2).symm.trans hu')
    rw [e1, e2]
    exact eqI_same _ _ _)
  rwa [all_true] at this
/-- a pair of a triple and its keys -/
theorem eqPair {p q dr d ka du : Addr} {r : Tri} {vs us : List Value} {ks : List Int} {t1 t2 t3 u1 u2 u3 : Tok} (hp : IsTup s.heap p #[.ref dr, .ref ka]) (hq : IsTup s.heap q #[.ref d, .ref du])
    (h1 : IsTup s.heap dr #[.str (S r.1) t1, .int r.2.1 t2, .str (S r.2.2) t3]) (h2 : IsTup s.heap d #[.str (S r.1) u1, .int r.2.1 u2, .str (S r.2.2) u3])
    (h3 : s.heap.IsList ka vs.toArray) (h4 : s.heap.IsList du us.toArray) (h5 : IntsAre vs ks) (h6 : IntsAre us ks) (hu : A.units + 2 < cLine) : SeqAt.EqAt A s (.ref p) (.ref q) true :=
  eqAt_true (rcTup2 hp hq (by omega) (eqAt_true (rcTup3 h1 h2 (show A.units + 1 < cLine by omega))) (eqAt_true (rcInts h3 h4 h5 h6 (show A.units + 1 < cLine by omega))))
section
variable {prog : Program} {w : World} {E : Value → Shared → Prop} {Q : Value → Shared → Prop}
theorem eqOne {l b p q : Addr} (hl : s.heap.IsList l #[.ref p]) (hb : s.heap.IsList b #[.ref q]) (hu : A.units < cLine) (h : SeqAt.EqAt A.in1 s (.ref p) (.ref q) true) (hq : Q (.bool true) s) :
    wpAny (model prog w) A (compareOp .Eq (.ref l) (.ref b)) Q E s :=
  SeqAt.eq_listAt (e := fun _ => true) hl hb rfl hu (fun j k1 k2 => by
    match j, k1 with
    | 0, _ => exact h) hq
theorem neNil {l b : Addr} (hl : s.heap.IsList l #[]) (hb : s.heap.IsList b #[]) (hu : A.units < cLine) (hq : Q (.bool false) s) :
    wpAny (model prog w) A (compareOp .NotEq (.ref l) (.ref b)) Q E s :=
  SeqAt.RcNeAt.lists (e := fun _ => true) hl hb rfl hu (fun j k1 k2 => absurd k1 (Nat.not_lt_zero _)) prog w E Q hq
theorem eqNil {l b : Addr} (hl : s.heap.IsList l #[]) (hb : s.heap.IsList b #[]) (hu : A.units < cLine) (hq : Q (.bool true) s) :
    wpAny (model prog w) A (compareOp .Eq (.ref l) (.ref b)) Q E s :=
  SeqAt.eq_listAt (e := fun _ => true) hl hb rfl hu (fun j k1 k2 => absurd k1 (Nat.not_lt_zero _)) hq
theorem neStrs {l b : Addr} {vs us : List Value} {ls : List (List Nat)} (hl : s.heap.IsList l vs.toArray) (hb : s.heap.IsList b us.toArray) (hv : StrsAre vs (ls.map S)) (hw : StrsAre us (ls.map S)) (hu : A.units < cLine) (hq : Q (.bool false) s) :
    wpAny (model prog w) A (compareOp .NotEq (.ref l) (.ref b)) Q E s := by
  have h1 := strs_len hv
  have h2 := strs_len hw
  refine SeqAt.RcNeAt.lists (A := A) (e := fun _ => true) hl hb (by rw [List.size_toArray, List.size_toArray]; omega) hu (fun j k1 k2 => ?_) prog w E Q (by rw [all_true]; exact hq)
  rw [List.size_toArray] at k1 k2
  obtain ⟨x, t, hx, ht⟩ := strs_get hv (List.getElem?_eq_getElem k1)
  obtain ⟨y, u, hy, hu'⟩ := strs_get hw (List.getElem?_eq_getElem k2)
  rw [hx] at hy
  cases hy
  rw [List.getElem?_map] at hx
  obtain ⟨z, _, hz⟩ := Option.map_eq_some_iff.mp hx
  rw [List.getElem_toArray, List.getElem_toArray, ht, hu', ← hz]
  exact eqS_same _ _ _
end
end

/-- the keys of a name as a value of the ledger -/
noncomputable def KeyV (news : List (Addr × Obj)) (o : Option (List Int)) (v : Value) : Prop :=
  match o with
  | none => v = .none
  | some ks => ∃ a vs n, v = .ref a ∧ (a, W.listOf (List.toArray vs) n) ∈ news ∧ IntsAre vs ks
theorem KeyV.mono {news news' : List (Addr × Obj)} {o : Option (List Int)} {v : Value} (h : KeyV news o v) (k : ∀ p ∈ news, p ∈ news') : KeyV news' o v := by
  unfold KeyV at h ⊢
  split
  · exact h
  · obtain ⟨a, vs, n, e, hm, hi⟩ := h
    exact ⟨a, vs, n, e, k _ hm, hi⟩
noncomputable def PairV (news : List (Addr × Obj)) (f : Tri → Option (List Int)) (v : Value) (r : Tri) : Prop :=
  ∃ p dr kv t1 t2 t3, v = .ref p ∧ (p, ({ cls := .type "tuple", data := .seq #[.ref dr, kv] } : Obj)) ∈ news ∧ (dr, tupO r t1 t2 t3) ∈ news ∧ KeyV news (f r) kv
theorem PairV.mono {news news' : List (Addr × Obj)} {f : Tri → Option (List Int)} {v : Value} {r : Tri} (h : PairV news f v r) (k : ∀ p ∈ news, p ∈ news') : PairV news' f v r := by
  obtain ⟨p, dr, kv, t1, t2, t3, e, h1, h2, h3⟩ := h
  exact ⟨p, dr, kv, t1, t2, t3, e, k _ h1, k _ h2, h3.mono k⟩
inductive Prs (news : List (Addr × Obj)) (f : Tri → Option (List Int)) : List Value → List Tri → Prop
  | nil : Prs news f [] []
  | cons {v : Value} {r : Tri} {vs : List Value} {rs : List Tri} : PairV news f v r → Prs news f vs rs → Prs news f (v :: vs) (r :: rs)
theorem Prs.mono {news news' : List (Addr × Obj)} {f : Tri → Option (List Int)} {vs : List Value} {rs : List Tri} (h : Prs news f vs rs) (k : ∀ p ∈ news, p ∈ news') : Prs news' f vs rs := by
  induction h with
  | nil => exact .nil
  | cons h _ ih => exact .cons (h.mono k) ih
theorem Prs.snoc {news : List (Addr × Obj)} {f : Tri → Option (List Int)} {vs : List Value} {rs : List Tri} {v : Value} {r : Tri} (h : Prs news f vs rs) (k : PairV news f v r) : Prs news f (vs ++ [v]) (rs ++ [r]) := by
  induction h with
  | nil => exact .cons k .nil
  | cons h _ ih => exact .cons h ih
theorem Prs.length {news : List (Addr × Obj)} {f : Tri → Option (List Int)} {vs : List Value} {rs : List Tri} (h : Prs news f vs rs) : vs.length = rs.length := by
  induction h with
  | nil => rfl
  | cons _ _ ih => simp [ih]
theorem Prs.get {news : List (Addr × Obj)} {f : Tri → Option (List Int)} {vs : List Value} {rs : List Tri} (h : Prs news f vs rs) : ∀ {i : Nat} {v : Value}, vs[i]? = some v → ∃ r, rs[i]? = some r ∧ PairV news f v r := by
  induction h with
  | nil => intro i v e; simp at e
  | cons h _ ih =>
    intro i v e
    cases i with
    | zero => simp at e; exact ⟨_, rfl, e ▸ h⟩
    | succ i => exact ih (by simpa using e)
theorem take_snoc {α : Type} {l : List α} {n : Nat} {x : α} (h : l[n]? = some x) : l.take (n + 1) = l.take n ++ [x] := by
  rw [List.take_add_one, h]; rfl
end
section
theorem read_len (l : List Nat) : (readOf l).length ≤ l.length + 2 := by
  have h1 := told_len l
  have h2 := flat_len l (posN l)
  have h3 := posN_len l
  unfold readOf
  rw [List.length_append]; omega
theorem tris_get {tl : List (Addr × Obj)} {vs : List Value} {ts : List Tri} (h : Tris tl vs ts) : ∀ {i : Nat} {v : Value}, vs[i]? = some v → ∃ r d t1 t2 t3, ts[i]? = some r ∧ (d, tupO r t1 t2 t3) ∈ tl ∧ v = .ref d := by
  induction h with
  | nil => intro i v e; simp at e
  | cons t1 t2 t3 hm _ ih =>
    intro i v e
    cases i with
    | zero => simp at e; exact ⟨_, _, t1, t2, t3, rfl, hm, e.symm⟩
    | succ i => exact ih (by simpa using e)
theorem due_in {l : List Int} {ys : List Value} {j : Nat} {m x : Int} {t : Tok} (h : IntsAre ys ((l.take j).map dueOf)) (hm : l[j]? = some m) (e : x = dueOf m) : IntsAre (ys ++ [.int x t]) ((l.take (j + 1)).map dueOf) := by
  rw [take_snoc hm, List.map_append, e]; exact ints_snoc' h
theorem due_yes {m : Int} (h : m.fdiv 8 = 127) : (256 : Int) = dueOf m := by
  rw [fd _ (by decide)] at h; unfold dueOf; rw [if_pos h]
theorem due_no {m : Int} (h : m.fdiv 8 ≠ 127) : (m.fdiv 8).fmod 256 = dueOf m := by
  rw [fd _ (by decide)] at h; unfold dueOf; rw [if_neg h, fd _ (by decide), fm _ (by decide)]
theorem ins1 {α : Type} {a b c d e f g x : α} {r : List α} : ∀ p ∈ a :: b :: c :: d :: e :: f :: g :: x :: r, p ∈ x :: a :: b :: c :: d :: e :: f :: g :: r :=
  fun _ hp => (List.perm_middle (l₁ := [a, b, c, d, e, f, g]) (a := x) (l₂ := r)).mem_iff.mp hp
theorem ins2 {α : Type} {a b c d e f g x y : α} {r : List α} : ∀ p ∈ a :: b :: c :: d :: e :: f :: g :: x :: y :: r, p ∈ x :: y :: a :: b :: c :: d :: e :: f :: g :: r :=
  fun _ hp => ((List.perm_middle (l₁ := [a, b, c, d, e, f, g]) (a := x) (l₂ := y :: r)).trans (List.Perm.cons x (List.perm_middle (l₁ := [a, b, c, d, e, f, g]) (a := y) (l₂ := r)))).mem_iff.mp hp
theorem off_in {I C D : Addr} {a b c d x : Addr × Obj} {r : List (Addr × Obj)} (h : LCg.Off3 I C D (a :: b :: c :: d :: r)) (k : LCg.Off3 I C D r → LCg.Off3 I C D (x :: r)) : LCg.Off3 I C D (a :: b :: c :: d :: x :: r) :=
  ⟨h.1, h.2.1, h.2.2.1, h.2.2.2.1, k h.2.2.2.2⟩
theorem tail8 {α : Type} {a b c d e f g h x : α} {r : List α} (hx : x ∈ r) : x ∈ a :: b :: c :: d :: e :: f :: g :: h :: r := .tail _ (.tail _ (.tail _ (.tail _ (.tail _ (.tail _ (.tail _ (.tail _ hx)))))))
theorem ne_new {h₀ h : Heap} {L I ka : Addr} {oI : Obj} {l : List (Addr × Obj)} (N : News h₀ L h l) (hm : (I, oI) ∈ l) (e : h.get? ka = none) : @Ne Nat ka I := fun x => by
  subst x
  rw [(N _ hm).1] at e
  cases e
section
local macro_rules | `(tactic| walk_at "exec If") => `(tactic| (k_here; refine hold ?_))
local macro_rules | `(tactic| walk_at "call ref") => `(tactic| (k_here; refine hold ?_))
local macro_rules | `(tactic| walk_at "eval ListComp") => `(tactic| (k_here; k_dflt (refine LCt.ListComp_T (F₀ := by k_asm) (by with_unfolding_all rfl) (by decide) (by rfl) (by decide) (by rfl) ?_)))
local macro_rules | `(tactic| walk_at "exec Assign cons ListComp") => `(tactic| (k_here; k_dflt (refine LCg.Assign_ListComp_U (F₀ := by k_asm) (by rfl) (by with_unfolding_all rfl) (by with_unfolding_all rfl) (by decide) (by rfl) (by decide) (by rfl) (by rfl) (by rfl) ?_)))
local macro_rules | `(tactic| walk_at "CompSrcT") => `(tactic| (k_here; refine hold ?_))
local macro_rules | `(tactic| walk_at "CompSrc") => `(tactic| (k_here; refine hold ?_))
local macro_rules | `(tactic| walk_at "CompEnd") => `(tactic| (k_here; refine hold ?_))
theorem holds_does (w) (a d : Addr) (ns : List Int) (i : Nat) (b : Tri) (l : List Nat) (t tt t1 t2 t3 : Tok) (hi : i < ns.length) (hn : ns.length ≤ 3) (ok : Okay l ns i b) :
    Does w 6 146 [.ref a, .int i t, .ref d, .str (S l) tt] (fun h => IL h a ns ∧ h.get? d = some (tupO b t1 t2 t3)) (fun v _ _ => v = .bool true) := by
  intro mean mg mb dp un fr gd s Q E G hC hd hu hret
  walk_at "mine startC"
  rename_i X T L h₁ tk cells F N Y
  have F0 : Fr s.heap L h₁ (fun y => if y = Str.ofString "built" then some (.ref d) else if y = Str.ofString "i" then some (.int i t) else if y = Str.ofString "numbers" then some (.ref a) else none) := by with_unfolding_all exact F
  clear F
  obtain ⟨o, hE, dd⟩ := CellsAre.one Y
  subst hE
  have d' : o.data = .cell (some (.str (S l) tt)) := by with_unfolding_all exact dd
  clear dd Y
  obtain ⟨hIL, hbu⟩ := hC
  walk_at "mine steps"
  unfold Hold
  refine use (readings_does w l _ (Nat.le_trans ok.len (by decide))) (by assumption) (by assumption) (by assumption) (by assumption) trivial rfl (by ktr_room) (by ktr_units) ?_
  rintro v2 h2 tk2 F2 N2 st2 ⟨a2, vs2, n2, tl, rfl, g2, e2, htl, hT⟩
  have N3 := news_more (tl := (a2, W.listOf vs2 n2) :: tl) (by assumption) (by assumption) st2 (fun p hp => by rcases List.mem_cons.mp hp with rfl | hp; exact ⟨g2, e2⟩; exact htl p hp)
  replace N3 : News s.heap L h2 ((a2, W.listOf vs2 n2) :: (L + 1, o) :: tl) := fun p hp => N3 p (by simp only [List.mem_cons, List.mem_append, List.not_mem_nil, or_false] at hp ⊢; rcases hp with h | h | h; exact .inl (.inl h); exact .inr h; exact .inl (.inr h))
  walk_at "mine steps"
  unfold Hold
  refine wpAny_If ?_
  walk_at "mine steps"
  unfold Hold
  have hz2 := hT.length
  have hz3 := read_len l
  have hz4 := ok.len
  rw [Array.length_toList] at hz2
  rename News _ _ _ _ => N4
  refine LCt.CompSrcT.ledger (by rfl) (by k_asm) N4 (List.Mem.head _) (by rw [sizeLine_eq]; omega) ?_
  intro g
  refine restT _ (fun j ys news => news = _ ∧ ys = []) ?_ ?_ _ 0 _ _ (Nat.zero_add _) ⟨rfl, rfl⟩
  · rintro j ys news v I oI C oC D m₂ h tk E' hj ⟨rfl, rfl⟩ hv2 hC hx F9 N9 off ne
    obtain ⟨r, dr, u1, u2, u3, hr, hmem, rfl⟩ := tris_get hT (by simpa using hv2)
    obtain ⟨q1, q2, q3, q4⟩ := ok.std r (List.mem_of_getElem? hr)
    have hm : (dr, tupO r u1 u2 u3) ∈ (I, oI) :: (C, oC) :: (D, LCg.lst []) :: (a2, W.listOf vs2 n2) :: (L + 1, o) :: tl := .tail _ (.tail _ (.tail _ (.tail _ (.tail _ hmem))))
    have hI : ∀ h', News s.heap L h' ((I, oI) :: (C, oC) :: (D, LCg.lst []) :: (a2, W.listOf vs2 n2) :: (L + 1, o) :: tl) → IsTup h' dr #[.str (S r.1) u1, .int r.2.1 u2, .str (S r.2.2) u3] := fun h' N' => News.isTup N' hm
    walk_at "mine steps"
    unfold Hold
    refine useR (std_does w dr r.1 r.2.2 r.2.1 u1 u2 u3 (Nat.le_trans q2 (by decide)) (Nat.le_trans q3 (by decide)) q4) (by assumption) (by assumption) (by assumption) (by assumption) (hI _ (by assumption)) rfl (by ktr_room) (by ktr_units) ?_
    intro ts hs tks Fs Ns sts
    rw [q1]
    walk_at "mine steps"
    · exact absurd rfl (by assumption)
    unfold Hold
    refine useR (R := fun _ => .str (S r.2.2) u3) (getname_does w dr _ _ _) (by assumption) (by assumption) (by assumption) (by assumption) (hI _ (by assumption)) rfl (by ktr_room) (by ktr_units) ?_
    intro ts4 hs4 tks4 Fs4 Ns4 sts4
    walk_at "mine steps"
    all_goals unfold Hold
    · exact absurd rfl (by assumption)
    · exact LCg.CompEnd.intro (by assumption) (by assumption) _ (fun p hp => hp) off (.inr ⟨_, .head _, rfl, _, rfl⟩) ⟨rfl, rfl⟩
  · rintro ys news ⟨rfl, rfl⟩
    unfold LCg.FinE
    intro D h9 tk9 F9 N9 o9
    walk_at "mine steps"
    rename News _ _ _ _ => N10
    refine neNil (News.isList N10 (.tail _ (.head _))) (News.isList N10 (.head _)) (by ktr_units) ?_
    replace N10 : News _ _ _ ((a2, W.listOf vs2 n2) :: (L + 1, o) :: tl) := fun p hp => N10 p (.tail _ (.tail _ hp))
    walk_at "mine steps"
    unfold Hold
    rename Fr _ _ _ _ => F10
    refine use (shows_does w a ns i t hi hn) F10 N10 X T (hIL.keeps F10.keep) rfl (by ktr_room) (by ktr_units) ?_
    rintro v3 h3 tk3 F3 N3 st3 ⟨sl, us, n3, rfl, g3, hus, e3⟩
    dsimp only at F3 N3 st3 e3 ⊢
    have N11 : News _ _ _ ((sl, W.listOf us.toArray n3) :: (a2, W.listOf vs2 n2) :: (L + 1, o) :: tl) := news_more (tl := [(sl, W.listOf us.toArray n3)]) F10 N10 st3 (fun p hp => by rw [List.mem_singleton.mp hp]; exact ⟨g3, e3⟩)
    have hus1 := hus.length
    have hus2 := shows_len ns i
    clear N3 N10 F10
    refine LCg.CompSrc.ledger (by rfl) F3 N11 (.head _) (by rw [sizeLine_eq, List.size_toArray]; omega) ?_
    intro g4
    refine restU _ (fun j ys news => news = _ ∧ IntsAre ys (((shows ns i).take j).map dueOf)) ?_ ?_ _ 0 _ _ (Nat.zero_add _) ⟨rfl, .nil⟩
    · rintro j ys news v I oI C oC D2 m₂ h tk5 E' hj ⟨rfl, hys⟩ hv hC hx F5 N5 off ne
      obtain ⟨m, tm, hm, rfl⟩ := ints_get hus (by simpa using hv)
      walk_at "mine steps"
      all_goals unfold Hold
      · exact LCg.CompEnd.intro F5 N5 _ (fun p hp => hp) off (.inr ⟨_, .head _, rfl, _, rfl⟩) ⟨rfl, due_in hys hm (due_yes (by assumption))⟩
      · exact LCg.CompEnd.intro F5 N5 _ (fun p hp => hp) off (.inr ⟨_, .head _, rfl, _, rfl⟩) ⟨rfl, due_in hys hm (due_no (by assumption))⟩
    · rintro zs news ⟨rfl, hzs⟩
      unfold LCg.FinA
      intro du h5 tk5 F5 N5 o5
      dsimp only at F5 N5 o5 ⊢
      walk_at "mine steps"
      unfold Hold
      refine LCg.CompSrc.ledger (by rfl) F5 N5 (.tail _ (.tail _ (.head _))) (by rw [sizeLine_eq]; omega) ?_
      intro g5
      dsimp only
      refine restU _ (fun j ys news => ∃ rest, news = (du, LCg.lst zs) :: (sl, W.listOf us.toArray n3) :: (a2, W.listOf vs2 n2) :: (L + 1, o) :: rest ∧ (∀ p ∈ tl, p ∈ rest) ∧ Prs rest (fun r => keysOf r.2.2) ys ((readOf l).take j)) ?_ ?_ _ 0 _ _ (Nat.zero_add _) ⟨tl, rfl, fun p hp => hp, .nil⟩
      · rintro j ws news v I oI C oC D3 m₂ h6 tk6 E' hj ⟨rest, rfl, hsub, hP⟩ hv hC hx F6 N6 off ne
        obtain ⟨r, dr, u1, u2, u3, hr, hmem, rfl⟩ := tris_get hT (by simpa using hv)
        obtain ⟨q1, q2, q3, q4⟩ := ok.std r (List.mem_of_getElem? hr)
        have hI : IsTup h6 dr #[.str (S r.1) u1, .int r.2.1 u2, .str (S r.2.2) u3] := News.isTup N6 (.tail _ (.tail _ (.tail _ (.tail _ (.tail _ (.tail _ (.tail _ (hsub _ hmem))))))))
        walk_at "mine steps"
        unfold Hold
        refine use (keys_does w r.2.2 u3 q3) F6 N6 X T trivial rfl (by ktr_room) (by ktr_units) ?_
        rintro v7 h7 tk7 F7 N7 st7 hK
        unfold KeysAns at hK
        cases hko : keysOf r.2.2 with
        | none =>
          rw [hko] at hK
          dsimp only at hK
          subst hK
          walk_at "mine steps"
          unfold Hold
          rename_i D9 h9' F9 N9 l9
          refine LCg.CompEnd.intro F9 N9 ((du, LCg.lst zs) :: (sl, W.listOf us.toArray n3) :: (a2, W.listOf vs2 n2) :: (L + 1, o) :: (D9, { cls := .type "tuple", data := .seq #[.ref dr, .none] }) :: rest) ins1 (off_in off fun x => ⟨⟨Nat.ne_of_gt l9.1, Nat.ne_of_gt l9.2.1, Nat.ne_of_gt l9.2.2.1⟩, x⟩) (.inr ⟨_, .tail _ (.tail _ (.head _)), rfl, _, rfl⟩) ⟨_, rfl, fun p hp => .tail _ (hsub p hp), ?_⟩
          rw [take_snoc hr]
          refine (hP.mono fun p hp => .tail _ hp).snoc ⟨D9, dr, .none, u1, u2, u3, rfl, .head _, .tail _ (hsub _ hmem), ?_⟩
          dsimp only
          rw [hko]
          exact rfl
        | some ks =>
          rw [hko] at hK
          dsimp only at hK
          obtain ⟨ka, kvs, n7, rfl, g7, hi7, e7⟩ := hK
          have N8 : News _ _ _ ((ka, W.listOf kvs.toArray n7) :: (I, oI) :: (C, oC) :: (D3, LCg.lst ws) :: (du, LCg.lst zs) :: (sl, W.listOf us.toArray n3) :: (a2, W.listOf vs2 n2) :: (L + 1, o) :: rest) := news_more (tl := [(ka, W.listOf kvs.toArray n7)]) F6 N6 st7 (fun p hp => by rw [List.mem_singleton.mp hp]; exact ⟨g7, e7⟩)
          clear N7
          have k1 := ne_new N6 (.head _) e7
          have k2 := ne_new N6 (.tail _ (.head _)) e7
          have k3 := ne_new N6 (.tail _ (.tail _ (.head _))) e7
          walk_at "mine steps"
          unfold Hold
          rename_i D9 h9' F9 N9 l9
          refine LCg.CompEnd.intro F9 N9 ((du, LCg.lst zs) :: (sl, W.listOf us.toArray n3) :: (a2, W.listOf vs2 n2) :: (L + 1, o) :: (D9, { cls := .type "tuple", data := .seq #[.ref dr, .ref ka] }) :: (ka, W.listOf kvs.toArray n7) :: rest) ins2 (off_in (r := (ka, W.listOf kvs.toArray n7) :: rest) (off_in off fun x => ⟨⟨k1, k2, k3⟩, x⟩) fun x => ⟨⟨Nat.ne_of_gt l9.2.1, Nat.ne_of_gt l9.2.2.1, Nat.ne_of_gt l9.2.2.2.1⟩, x⟩) (.inr ⟨_, .tail _ (.tail _ (.head _)), rfl, _, rfl⟩) ⟨_, rfl, fun p hp => .tail _ (.tail _ (hsub p hp)), ?_⟩
          rw [take_snoc hr]
          refine (hP.mono fun p hp => .tail _ (.tail _ hp)).snoc ⟨D9, dr, .ref ka, u1, u2, u3, rfl, .head _, .tail _ (.tail _ (hsub _ hmem)), ?_⟩
          dsimp only
          rw [hko]
          exact ⟨ka, kvs, n7, rfl, .tail _ (.head _), hi7⟩
      · rintro ws news ⟨rest, rfl, hsub, hP⟩
        unfold LCg.FinA
        intro rd h8 tk8 F8 N8 o8
        dsimp only at F8 N8 o8 ⊢
        have hz5 : (readOf l).take vs2.size = readOf l := List.take_of_length_le (by omega)
        rw [hz5] at hP
        have hPl := hP.length
        walk_at "mine steps"
        unfold Hold
        refine LCt.CompSrcT.ledger (by rfl) F8 N8 (.head _) (by rw [sizeLine_eq, List.size_toArray]; omega) ?_
        intro g8
        dsimp only
        refine restT _ (fun j ys news => news = (rd, LCg.lst ws) :: (du, LCg.lst zs) :: (sl, W.listOf us.toArray n3) :: (a2, W.listOf vs2 n2) :: (L + 1, o) :: rest ∧ Prs rest (fun r => keysOf r.2.2) ys (((readOf l).take j).filter (fun r => (keysOf r.2.2).isSome))) ?_ ?_ _ 0 _ _ (Nat.zero_add _) ⟨rfl, .nil⟩
        · rintro j ys news v I oI C oC D4 m₂ hA tkA E' hj ⟨rfl, hys⟩ hv hC hx FA NA off ne
          obtain ⟨r, hr, hPv⟩ := hP.get (by simpa using hv)
          have hPv' := hPv
          obtain ⟨pa, dr, kv, u1, u2, u3, rfl, hm1, hm2, hk⟩ := hPv
          unfold KeyV at hk
          dsimp only at hk
          cases hko : keysOf r.2.2 with
          | none =>
            rw [hko] at hk
            dsimp only at hk
            subst hk
            have hI : IsTup hA pa #[.ref dr, .none] := News.isTup NA (.tail _ (.tail _ (.tail _ (.tail _ (.tail _ (.tail _ (.tail _ (.tail _ hm1))))))))
            walk_at "mine steps"
            unfold Hold
            refine LCg.CompEnd.intro FA NA _ (fun p hp => hp) off (.inr ⟨_, .head _, rfl, _, rfl⟩) ⟨rfl, ?_⟩
            rw [take_snoc hr, List.filter_append, List.filter_cons_of_neg (by rw [hko]; exact Bool.false_ne_true), List.filter_nil, List.append_nil]
            exact hys
          | some ks =>
            rw [hko] at hk
            dsimp only at hk
            obtain ⟨ka, kvs, n, rfl, hmk, hik⟩ := hk
            have hI : IsTup hA pa #[.ref dr, .ref ka] := News.isTup NA (.tail _ (.tail _ (.tail _ (.tail _ (.tail _ (.tail _ (.tail _ (.tail _ hm1))))))))
            walk_at "mine steps"
            unfold Hold
            refine LCg.CompEnd.intro FA NA _ (fun p hp => hp) off (.inr ⟨_, .head _, rfl, _, rfl⟩) ⟨rfl, ?_⟩
            rw [take_snoc hr, List.filter_append, List.filter_cons_of_pos (by rw [hko]; rfl), List.filter_nil]
            exact hys.snoc hPv'
        · rintro ys news ⟨rfl, hys⟩
          rw [List.size_toArray, List.take_of_length_le (by omega), ok.one] at hys
          unfold LCg.FinE
          intro D5 hB tkB FB NB oB
          dsimp only at FB NB oB ⊢
          cases hys with
          | cons hv hnil =>
            cases hnil
            obtain ⟨pa, dr, kv, u1, u2, u3, rfl, hm1, hm2, hk⟩ := hv
            dsimp only at hk
            rw [ok.due] at hk
            obtain ⟨ka, kvs, n, rfl, hmk, hik⟩ := hk
            walk_at "mine steps"
            rename News _ _ _ _ => NC
            rename Fr _ _ _ _ => FC'
            rw [List.size_toArray, List.take_of_length_le (by omega)] at hzs
            refine eqOne (News.isList NC (.tail _ (.tail _ (.head _)))) (News.isList NC (.head _)) (by ktr_units) (eqPair (r := b) (News.isTup NC (tail8 hm1)) (News.isTup NC (.tail _ (.head _))) (News.isTup NC (tail8 hm2)) ⟨_, FC'.keep _ _ hbu, rfl, _, rfl⟩ (News.isList NC (tail8 hmk)) (News.isList NC (.tail _ (.tail _ (.tail _ (.tail _ (.head _)))))) hik hzs (by ktr_units)) ?_
            walk_at "mine steps"
            exact hret _ _ _ FC'.keep rfl
end
end
section
noncomputable def LawDoes : Prop := ∀ (w : World) (a : Addr) (ns : List Int), ns.length ≤ 63 → Does w 10 151 [.ref a] (fun h => IL h a ns) (fun v _ _ => v = .bool true)
theorem top (law_does : LawDoes) : PySem.Challenge.rw_ny0024_01.Holds := hd (by
  k_fill
  intro w s₀ s₁ mg mb G Y fa o pm cd doc dV kV ho hdd hcd hD hmg hg args vals as hpre hlay hrd hwl hlo
  have KX := kIn_of Y
  refine Ground.open G ?_
  intro T B D TE TW
  have hfa : fa = 151 := by
    have e := mg_of (n := Str.ofString "law") (v := .ref 151) KX T.g (by kernel_rfl)
    rw [show mg (Str.ofString "law") = some (.ref fa) from hmg] at e
    cases e; rfl
  clear hdd hcd hD hmg B D TE TW
  wrow_args hpre hlay hrd hwl hlo
  subst hfa
  rename_i ns _ _ _ _ _ _ _ la us _ hL _ _ _ hI _ hc _
  have hlen : ns.length ≤ 63 := by omega
  refine law_does w la ns hlen (ExcName.means s₀.heap) mg mb _ _ _ _ s₁ _ _ ⟨KX, T⟩ ⟨us, hL, hI⟩ (by decide) (by decide) ?_
  rintro v h' tk' st rfl
  refine GoodW.toG ⟨.inl ⟨_, .bool true, [], rfl, raisesW_false (by wrow_none_raised), ReadsW.bool _, ?_, fun _ => ⟨List.nodup_nil, fun _ h => nomatch h⟩⟩, st, rfl, hg⟩
  wrow_post)
end
section
noncomputable def sepOf (ds : List Int) (k : Nat) : Nat := (9 + ds.getD k 0 % 5).toNat
theorem off_cons {C1 C2 : Addr} {rest : List (Addr × Obj)} {d : Addr} {o : Obj} (h : ∀ p ∈ rest, p.1 ≠ C1 ∧ p.1 ≠ C2) (k : d ≠ C1 ∧ d ≠ C2) : ∀ p ∈ (d, o) :: rest, p.1 ≠ C1 ∧ p.1 ≠ C2 := fun p hp => by
  rcases List.mem_cons.mp hp with rfl | hp
  · exact k
  · exact h p hp
theorem ins7 {α : Type} {a b c d e f g x : α} {r : List α} : ∀ p ∈ a :: b :: c :: d :: e :: f :: g :: x :: r, p ∈ x :: a :: b :: c :: d :: e :: f :: g :: r := ins1
theorem range_snoc {α : Type} (f : Nat → α) (j : Nat) : (List.range (j + 1)).map f = (List.range j).map f ++ [f j] := by rw [List.range_succ, List.map_append]; rfl
theorem strs_at {vs : List Value} {ls : List (List Nat)} (h : StrsAre vs (ls.map S)) {j : Nat} {x : List Nat} (e : ls[j]? = some x) : ∃ t, vs[j]? = some (.str (S x) t) := by
  have hl := strs_len h
  rw [List.length_map] at hl
  have hj : j < vs.length := by rw [hl]; exact (List.getElem?_eq_some_iff.mp e).1
  obtain ⟨y, t, hy, ht⟩ := strs_mem h (List.getElem?_eq_getElem hj)
  rw [e] at hy
  cases hy
  exact ⟨t, by rw [List.getElem?_eq_getElem hj, ht]⟩
theorem tris_at {tl : List (Addr × Obj)} {vs : List Value} {ts : List Tri} (h : Tris tl vs ts) {j : Nat} {r : Tri} (e : ts[j]? = some r) : ∃ d t1 t2 t3, vs[j]? = some (.ref d) ∧ (d, tupO r t1 t2 t3) ∈ tl := by
  have hl := h.length
  have hj : j < vs.length := by rw [hl]; exact (List.getElem?_eq_some_iff.mp e).1
  obtain ⟨r', d, t1, t2, t3, hr, hm, hv⟩ := tris_get h (List.getElem?_eq_getElem hj)
  rw [e] at hr
  cases hr
  exact ⟨d, t1, t2, t3, by rw [List.getElem?_eq_getElem hj, hv], hm⟩
theorem tail9 {α : Type} {a b c d e f g h i x : α} {r : List α} (hx : x ∈ r) : x ∈ a :: b :: c :: d :: e :: f :: g :: h :: i :: r := .tail _ (tail8 hx)
theorem flat_le2 {α : Type} (f : α → List Nat) (k : Nat) (l : List α) (h : ∀ x ∈ l, (f x).length ≤ k) : ((l.map f).flatten).length ≤ k * l.length := by
  induction l with
  | nil => simp
  | cons a r ih =>
    have h1 := h a (.head _)
    have h2 := ih fun x hx => h x (.tail _ hx)
    rw [List.map_cons, List.flatten_cons, List.length_append, List.length_cons, Nat.mul_add]
    omega
noncomputable def sheetOf (ds : List Int) : List Nat := ((List.range ds.length).map fun k => wOf ds k ++ [sepOf ds k]).flatten
theorem sheet_len (ds : List Int) (h : ds.length ≤ 3) : (sheetOf ds).length ≤ 303 := by
  have := flat_le2 (fun k => wOf ds k ++ [sepOf ds k]) 101 (List.range ds.length) (fun k hk => by
    have := (okay_tri ds k (by have := List.mem_range.mp hk; omega)).len
    simp; omega)
  unfold sheetOf
  rw [List.length_range] at this
  omega
theorem sheet_cut (ds : List Int) : cutOf true (sheetOf ds) = (List.range ds.length).map (wOf ds) ++ [[]] := by
  have := cut_sheet ((List.range ds.length).map fun k => (wOf ds k, sepOf ds k)) (fun p hp => by
    obtain ⟨k, _, rfl⟩ := List.mem_map.mp hp
    refine ⟨ns_w ds k, ?_, ?_⟩ <;> (unfold sepOf; dsimp only; omega))
  rw [List.map_map, List.map_map] at this
  exact this
section
local macro_rules | `(tactic| k_all) => `(tactic| assumption)
local macro_rules | `(tactic| walk_at "compareOp NotEq ref ref") => `(tactic| (k_here; refine hold ?_))
local macro_rules | `(tactic| walk_at "compareOp Eq ref ref") => `(tactic| (k_here; refine hold ?_))
local macro_rules | `(tactic| walk_at "eval Compare") => `(tactic| (k_here; refine wpAny_Compare1 ?_))
local macro_rules | `(tactic| walk_at "call builtin:str.join") => `(tactic| (k_here; refine hold ?_))
local macro_rules | `(tactic| walk_at "subscriptTail Name Name ref int") => `(tactic| (k_here; refine hold ?_))
local macro_rules | `(tactic| walk_at "exec If") => `(tactic| (k_here; refine hold ?_))
local macro_rules | `(tactic| walk_at "call ref") => `(tactic| (k_here; refine hold ?_))
local macro_rules | `(tactic| walk_at "eval ListComp") => `(tactic| (k_here; (with_reducible show wpAny _ _ (eval (Expr.ListComp _ [⟨_, _, [], _⟩] _ _) _) _ _ _); k_dflt (refine LCg.ListComp_U (F₀ := by k_asm) (by with_unfolding_all rfl) (by decide) (by rfl) (by decide) (by rfl) ?_)))
local macro_rules | `(tactic| walk_at "eval ListComp") => `(tactic| (k_here; (with_reducible show wpAny _ _ (eval (Expr.ListComp _ [⟨_, _, [_], _⟩] _ _) _) _ _ _); k_dflt (refine LCt.ListComp_T (F₀ := by k_asm) (by with_unfolding_all rfl) (by decide) (by rfl) (by decide) (by rfl) ?_)))
local macro_rules | `(tactic| walk_at "CompSrcT") => `(tactic| (k_here; refine hold ?_))
local macro_rules | `(tactic| walk_at "CompSrc") => `(tactic| (k_here; refine hold ?_))
local macro_rules | `(tactic| walk_at "CompEnd") => `(tactic| (k_here; refine hold ?_))
local macro_rules | `(tactic| walk_at "subscriptTail Name Slice ref ref") => `(tactic| (k_here; refine hold ?_))
local macro_rules | `(tactic| walk_at "binaryOp Add ref ref") => `(tactic| (k_here; refine hold ?_))
theorem law_does : LawDoes := by
  intro w a ns hn mean mg mb dp un fr gd s Q E G hC hd hu hret
  obtain ⟨vs, hl, hv⟩ := hC
  have hvl := hv.length
  walk_at "mine startC"
  rename_i X T L h₁ tk cells F N Y
  have F0 : Fr s.heap L h₁ (fun y => if y = Str.ofString "script" then some (.ref a) else none) := by with_unfolding_all exact F
  clear F
  obtain ⟨c1, c2, c3, hE, dd1, dd2, dd3⟩ := CellsAre.three Y
  subst hE
  have d1 : c1.data = .cell none := by with_unfolding_all exact dd1
  have d2 : c2.data = .cell none := by with_unfolding_all exact dd2
  have d3 : c3.data = .cell none := by with_unfolding_all exact dd3
  clear dd1 dd2 dd3 Y
  walk_at "mine steps"
  unfold Hold
  refine slL_to (us := vs) (by assumption) (by assumption) (stays_list (Fr.keep (by assumption)) hl) (by omega) (by omega) ?_ (by with_unfolding_all rfl) (by intro _; with_unfolding_all rfl)
  intro D1 h2 F2 N2 l2
  have hl2 : h2.IsList a vs.toArray := stays_list F2.keep hl
  walk_at "mine steps"
  unfold Hold
  rename_i t3 lc hlc F3 N3 l3
  have q1 := Heap.lt_size (N3 _ (.tail _ (.tail _ (.head _)))).1
  have q2 := Heap.lt_size (N3 _ (.tail _ (.tail _ (.tail _ (.head _))))).1
  have q3 := Heap.lt_size (N3 _ (.tail _ (.tail _ (.tail _ (.tail _ (.head _)))))).1
  refine add_lists F3 N3 (News.isList N3 (.tail _ (.head _))) (News.isList N3 (.head _)) ?_ (by rw [sizeLine_eq]; simp; omega)
  dsimp only at q1 q2 q3 ⊢
  generalize Array.size _ = dr at q1 q2 q3 ⊢
  intro h4 F4 N4
  have hd3 : (ns.take 2 ++ [ns.sum]).length ≤ 3 := by simp; omega
  have hus : IntsAre (vs.take 2 ++ [Value.int ns.sum t3]) (ns.take 2 ++ [ns.sum]) := intsAre_append (ints_take hv 2) (.cons _ _ .nil)
  replace N4 : News s.heap L h4 [(dr, W.listOf (vs.take 2 ++ [Value.int ns.sum t3]).toArray 0), (L + 1 + 1 + 1, c1), (L + 1 + 1, c2), (L + 1, c3)] := fun p hp => N4 p (by
    rcases List.mem_cons.mp hp with rfl | h
    · exact List.Mem.head _
    · exact List.Mem.tail _ (List.Mem.tail _ (List.Mem.tail _ h)))
  have l4 : L + 1 + 1 + 1 < dr ∧ L + 1 + 1 < dr ∧ L + 1 < dr := ⟨q1, q2, q3⟩
  generalize vs.take 2 ++ [Value.int ns.sum t3] = us at hus N4
  generalize ns.take 2 ++ [ns.sum] = ds at hus hd3
  clear N3 F3 q1 q2 q3 l2
  have hul := hus.length
  walk_at "mine steps"
  unfold Hold
  rename IsRange _ _ _ _ _ _ _ _ => hR
  rename News _ _ _ _ => N5
  rename Fr _ _ _ _ => F5
  rename _ = Data.cell (some (Value.ref dr)) => d4
  rename_i o4 _ _ _ _ _ _ _ _
  dsimp only [List.cons_append, List.nil_append] at N5
  refine LCg.CompSrc.range (n := ds.length) (by rfl) F5 N5 hR ?_ ?_ ?_ ?_
  · exact small_nat (Nat.le_trans hd3 (by decide))
  · rw [rangeSize_nat]; simp
  · exact size_ok (Nat.le_trans hd3 (by decide))
  intro g5
  dsimp only
  refine restU _ (fun j ys news => ∃ rest : List (Addr × Obj), news = (dr, W.listOf us.toArray 0) :: (L + 1 + 1 + 1, c1) :: (L + 1 + 1, c2) :: (L + 1, o4) :: rest ∧ (∀ p ∈ rest, p.1 ≠ L + 1 + 1 + 1 ∧ p.1 ≠ L + 1 + 1) ∧ Tris rest ys ((List.range j).map (tripleOf ds))) ?_ ?_ _ 0 _ _ (Nat.zero_add _) ⟨[], rfl, fun _ h => (nomatch h), .nil⟩
  · rintro j ys news v I oI C oC D m₂ h6 tk6 E' hj ⟨rest, rfl, hoff, hT⟩ ⟨tv, rfl⟩ hC hx F6 N6 off ne
    rw [Int.zero_add] at hx
    walk_at "mine steps"
    unfold Hold
    refine use (triple_does w dr ds j tv hj hd3) F6 N6 X T ⟨us, News.isList N6 (.tail _ (.tail _ (.tail _ (.head _)))), hus⟩ rfl (by ktr_room) (by ktr_units) ?_
    rintro v7 h7 tk7 F7 N7 st7 ⟨d7, t71, t72, t73, rfl, g7, e7⟩
    have N8 : News _ _ _ ((d7, tupO (tripleOf ds j) t71 t72 t73) :: (I, oI) :: (C, oC) :: (D, LCg.lst ys) :: (dr, W.listOf us.toArray 0) :: (L + 1 + 1 + 1, c1) :: (L + 1 + 1, c2) :: (L + 1, o4) :: rest) := news_more (tl := [(d7, tupO (tripleOf ds j) t71 t72 t73)]) F6 N6 st7 (fun p hp => by rw [List.mem_singleton.mp hp]; exact ⟨g7, e7⟩)
    refine LCg.CompEnd.intro F7 N8 ((dr, W.listOf us.toArray 0) :: (L + 1 + 1 + 1, c1) :: (L + 1 + 1, c2) :: (L + 1, o4) :: (d7, tupO (tripleOf ds j) t71 t72 t73) :: rest) ins7 (off_in off fun x => ⟨⟨ne_new N6 (.head _) e7, ne_new N6 (.tail _ (.head _)) e7, ne_new N6 (.tail _ (.tail _ (.head _))) e7⟩, x⟩) trivial
      ⟨_, rfl, off_cons hoff ⟨ne_new N6 (.tail _ (.tail _ (.tail _ (.tail _ (.head _))))) e7, ne_new N6 (.tail _ (.tail _ (.tail _ (.tail _ (.tail _ (.head _)))))) e7⟩, ?_⟩
    rw [range_snoc]
    exact (hT.mono fun p hp => .tail _ hp).append (.cons _ _ _ (.head _) .nil)
  · rintro ys news ⟨rest, rfl, hoff, hT⟩
    unfold LCg.FinE
    intro D2 h6 tk6 F6 N6 o6
    dsimp only at F6 N6 o6 ⊢
    have r1 : ∀ p ∈ rest, p.1 ≠ L + 1 + 1 + 1 := fun p hp => (hoff p hp).1
    have r2 : ∀ p ∈ rest, p.1 ≠ L + 1 + 1 := fun p hp => (hoff p hp).2
    have r3 : D2 ≠ L + 1 + 1 + 1 := fun e => o6.2.1 e.symm
    have r4 : D2 ≠ L + 1 + 1 := fun e => o6.2.2.1 e.symm
    clear F5 N5 hR
    have hTl := hT.length
    have r5 : dr ≠ L + 1 + 1 := Nat.ne_of_gt l4.2.1
    have r6 : dr ≠ L + 1 + 1 + 1 := Nat.ne_of_gt l4.1
    walk_at "mine steps"
    unfold Hold
    rename News _ _ _ _ => N7
    rename Fr _ _ _ _ => F7
    rename _ = Data.cell (some (Value.ref D2)) => d7
    rename Obj => o7
    try dsimp only [List.cons_append, List.nil_append] at N7
    replace N7 : News s.heap L _ ((D2, LCg.lst ys) :: (dr, W.listOf us.toArray 0) :: (L + 1 + 1 + 1, c1) :: (L + 1 + 1, o7) :: (L + 1, o4) :: rest) := N7
    have hrl : ys.length = ds.length := by simpa using hTl
    refine LCg.CompSrc.ledger (by rfl) F7 N7 (.head _) (by rw [sizeLine_eq, List.size_toArray]; omega) ?_
    intro g7
    dsimp only
    refine restU _ (fun j ys' news => news = (D2, LCg.lst ys) :: (dr, W.listOf us.toArray 0) :: (L + 1 + 1 + 1, c1) :: (L + 1 + 1, o7) :: (L + 1, o4) :: rest ∧ StrsAre ys' (((List.range j).map (wOf ds)).map S)) ?_ ?_ _ 0 _ _ (Nat.zero_add _) ⟨rfl, .nil⟩
    · rintro j ws news v I oI C oC D m₂ h8 tk8 E' hj ⟨rfl, hws⟩ hv8 hC hx F8 N8 off ne
      obtain ⟨r, d8, t81, t82, t83, hr, hm8, rfl⟩ := tris_get hT (by simpa using hv8)
      rw [List.size_toArray] at hj
      have hjl : j < ds.length := by omega
      have hr' : r = tripleOf ds j := by
        rw [List.getElem?_map, List.getElem?_range hjl] at hr
        exact (Option.some.inj hr).symm
      subst hr'
      have hI : IsTup h8 d8 #[.str (S (tripleOf ds j).1) t81, .int (tripleOf ds j).2.1 t82, .str (S (tripleOf ds j).2.2) t83] := News.isTup N8 (tail8 hm8)
      walk_at "mine steps"
      unfold Hold
      have b1 : (tripleOf ds j).1.length ≤ 26 := where_len ds j (by omega)
      have b2 : (tripleOf ds j).2.2.length ≤ 17 := name_len ds j
      have b3 : (tripleOf ds j).2.1.natAbs < 10 ^ 18 := line_small ds j
      refine useR (std_does w d8 _ _ _ t81 t82 t83 (Nat.le_trans b1 (by decide)) (Nat.le_trans b2 (by decide)) (Nat.lt_trans b3 (by decide))) F8 N8 X T hI rfl (by ktr_room) (by ktr_units) ?_
      intro ts hs tks Fs Ns sts
      refine LCg.CompEnd.intro Fs Ns _ (fun p hp => hp) off (.inr ⟨_, .head _, rfl, _, rfl⟩) ⟨rfl, ?_⟩
      rw [range_snoc]
      exact strs_snoc hws
    · rintro ws news ⟨rfl, hws⟩
      unfold LCg.FinE
      intro D3 h8 tk8 F8 N8 o8
      dsimp only at F8 N8 o8 ⊢
      have r7 : D3 ≠ L + 1 + 1 + 1 := fun e => o8.2.2.1 e.symm
      rw [List.size_toArray, hrl] at hws
      have hwl := strs_len hws
      clear F7 N7
      walk_at "mine steps"
      unfold Hold
      rename IsRange _ _ _ _ _ _ _ _ => hR
      rename News _ _ _ _ => N9
      rename Fr _ _ _ _ => F9
      rename _ = Data.cell (some (Value.ref D3)) => d9
      rename Obj => o9
      replace N9 : News s.heap L _ ((D3, LCg.lst ws) :: (D2, LCg.lst ys) :: (dr, W.listOf us.toArray 0) :: (L + 1 + 1 + 1, o9) :: (L + 1 + 1, o7) :: (L + 1, o4) :: rest) := N9
      have hw1 : ws.length = ds.length := by simpa using hwl
      refine LCg.CompSrc.range (n := ds.length) (by rfl) F9 N9 hR ?_ ?_ ?_ ?_
      · exact small_nat (Nat.le_trans hd3 (by decide))
      · rw [rangeSize_nat]; simp
      · exact size_ok (Nat.le_trans hd3 (by decide))
      intro g9
      dsimp only
      refine restU _ (fun j ys' news => news = (D3, LCg.lst ws) :: (D2, LCg.lst ys) :: (dr, W.listOf us.toArray 0) :: (L + 1 + 1 + 1, o9) :: (L + 1 + 1, o7) :: (L + 1, o4) :: rest ∧ StrsAre ys' (((List.range j).map fun k => wOf ds k ++ [sepOf ds k]).map S)) ?_ ?_ _ 0 _ _ (Nat.zero_add _) ⟨rfl, .nil⟩
      · rintro j zs news v I oI C oC D m₂ hA tkA E' hj ⟨rfl, hzs⟩ ⟨tv, rfl⟩ hC hx FA NA off ne
        rw [Int.zero_add] at hx
        have hjk : j < 1000 := Nat.lt_of_lt_of_le hj (Nat.le_trans hd3 (by decide))
        obtain ⟨tw, htw⟩ := strs_at hws (j := j) (x := wOf ds j) (by rw [List.getElem?_map, List.getElem?_range hj]; rfl)
        obtain ⟨ti, hti⟩ := hus.get j (ds.getD j 0) (by simp [hj])
        have hlen := (okay_tri ds j (by omega)).len
        have e5 : (ds.getD j 0).fmod 5 = ds.getD j 0 % 5 := fm _ (by decide)
        have r50 := Int.emod_nonneg (ds.getD j 0) (show (5 : Int) ≠ 0 by decide)
        have r51 := Int.emod_lt_of_pos (ds.getD j 0) (show (0 : Int) < 5 by decide)
        walk_at "mine steps"
        unfold Hold
        refine itemN (us := ws) (News.isList NA (.tail _ (.tail _ (.tail _ (.head _))))) hjk htw ?_ (by with_unfolding_all rfl)
        walk_at "mine steps"
        unfold Hold
        refine itemN (us := us) (News.isList NA (.tail _ (.tail _ (.tail _ (.tail _ (.tail _ (.head _))))))) hjk hti ?_ (by with_unfolding_all rfl)
        walk_at "mine steps"
        unfold Hold
        refine LCg.CompEnd.intro FA NA _ (fun p hp => hp) off trivial ⟨rfl, ?_⟩
        rw [range_snoc, e5]
        exact strs_snoc hzs
      · rintro zs news ⟨rfl, hzs⟩
        unfold LCg.FinE
        intro D4 hA tkA FA NA oA
        dsimp only at FA NA oA ⊢
        clear F9 N9 hR
        have hsl := sheet_len ds hd3
        walk_at "mine steps"
        unfold Hold
        refine strJoin (us := zs) (News.isList NA (.head _)) hzs (by change (sheetOf ds).length + _ ≤ _; simp; omega) ?_
        intro tb kb
        rw [show ((List.range ds.length).map fun k => wOf ds k ++ [sepOf ds k]).flatten = sheetOf ds from rfl]
        replace NA : News s.heap L hA ((D3, LCg.lst ws) :: (D2, LCg.lst ys) :: (dr, W.listOf us.toArray 0) :: (L + 1 + 1 + 1, o9) :: (L + 1 + 1, o7) :: (L + 1, o4) :: rest) := fun p hp => NA p (.tail _ hp)
        walk_at "mine steps"
        unfold Hold
        refine wpAny_If ?_
        walk_at "mine steps"
        unfold Hold
        rename News _ _ _ _ => NB
        rename Fr _ _ _ _ => FB
        refine useL (cut_does w (sheetOf ds) true tb (by omega)) FB NB X T trivial rfl (by ktr_room) (by ktr_units) ?_
        intro ca cs cn hB tkB FC' NC hcs
        dsimp only at FC' NC ⊢
        rw [sheet_cut] at hcs
        clear NB FB
        walk_at "mine steps"
        unfold Hold
        rename News _ _ _ _ => ND
        rename Fr _ _ _ _ => FD
        refine add_lists (vs := ws) FD ND (News.isList ND (.tail _ (.tail _ (.head _)))) (News.isList ND (.head _)) ?_ (by rw [sizeLine_eq]; simp; omega)
        intro hE FE NE
        walk_at "mine steps"
        unfold Hold
        refine neStrs (ls := (List.range ds.length).map (wOf ds) ++ [[]]) (vs := cs) (us := ws ++ [.str (S []) _]) (News.isList NE (.tail _ (.tail _ (.head _)))) (News.isList NE (.head _)) hcs (strs_snoc hws) (by ktr_units) ?_
        clear ND FD
        replace NE : News s.heap L hE ((D3, LCg.lst ws) :: (D2, LCg.lst ys) :: (dr, W.listOf us.toArray 0) :: (L + 1 + 1 + 1, o9) :: (L + 1 + 1, o7) :: (L + 1, o4) :: rest) := fun p hp => NE p (.tail _ (.tail _ (.tail _ hp)))
        walk_at "mine steps"
        unfold Hold
        rename IsRange _ _ _ _ _ _ _ _ => hR2
        rename News _ _ _ _ => NF
        rename Fr _ _ _ _ => FF
        refine LCt.CompSrcT.range (n := ds.length) (by rfl) FF NF hR2 ?_ ?_ ?_ ?_
        · exact small_nat (Nat.le_trans hd3 (by decide))
        · rw [rangeSize_nat]; simp
        · exact size_ok (Nat.le_trans hd3 (by decide))
        intro gF
        dsimp only
        refine restT _ (fun j ys' news => news = (D3, LCg.lst ws) :: (D2, LCg.lst ys) :: (dr, W.listOf us.toArray 0) :: (L + 1 + 1 + 1, o9) :: (L + 1 + 1, o7) :: (L + 1, o4) :: rest ∧ ys' = []) ?_ ?_ _ 0 _ _ (Nat.zero_add _) ⟨rfl, rfl⟩
        · rintro j zs' news v I oI C oC D m₂ hG tkG E' hj ⟨rfl, rfl⟩ ⟨tv, rfl⟩ hC hx FG NG off ne
          rw [Int.zero_add] at hx
          have hjk : j < 1000 := Nat.lt_of_lt_of_le hj (Nat.le_trans hd3 (by decide))
          obtain ⟨tw, htw⟩ := strs_at hws (j := j) (x := wOf ds j) (by rw [List.getElem?_map, List.getElem?_range hj]; rfl)
          obtain ⟨dj, tj1, tj2, tj3, htj, hmj⟩ := tris_at hT (j := j) (r := tripleOf ds j) (by rw [List.getElem?_map, List.getElem?_range hj]; rfl)
          walk_at "mine steps"
          unfold Hold
          refine itemN (us := ys) (News.isList NG (.tail _ (.tail _ (.tail _ (.tail _ (.head _)))))) hjk htj ?_ (by with_unfolding_all rfl)
          walk_at "mine steps"
          unfold Hold
          refine itemN (us := ws) (News.isList NG (.tail _ (.tail _ (.tail _ (.head _))))) hjk htw ?_ (by with_unfolding_all rfl)
          walk_at "mine steps"
          unfold Hold
          refine use (holds_does w dr dj ds j (tripleOf ds j) (wOf ds j) tv tw tj1 tj2 tj3 hj hd3 (okay_tri ds j (by omega))) FG NG X T ⟨⟨us, News.isList NG (.tail _ (.tail _ (.tail _ (.tail _ (.tail _ (.head _)))))), hus⟩, (NG _ (tail9 hmj)).1⟩ rfl (by ktr_room) (by ktr_units) ?_
          rintro vH hH tkH FH NH stH rfl
          dsimp only at FH NH ⊢
          walk_at "mine steps"
          unfold Hold
          exact LCg.CompEnd.intro FH NH _ (fun p hp => hp) off trivial ⟨rfl, rfl⟩
        · rintro zs' news ⟨rfl, rfl⟩
          unfold LCg.FinE
          intro D5 hG tkG FG NG oG
          dsimp only at FG NG oG ⊢
          clear FF NF hR2
          walk_at "mine steps"
          unfold Hold
          rename News _ _ _ _ => NI
          rename Fr _ _ _ _ => FI
          refine eqNil (News.isList NI (.tail _ (.head _))) (News.isList NI (.head _)) (by ktr_units) ?_
          walk_at "mine steps"
          exact hret _ _ _ FI.keep rfl
end
end
end Mine
end
set_option maxRecDepth 100000 in
set_option maxHeartbeats 8000000 in
theorem PySem.Challenge.cw_ny0024_01_holds : PySem.Challenge.rw_ny0024_01.Holds :=
  Mine.top Mine.law_does
