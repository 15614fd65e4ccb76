import PyProof.Rows.All
import Wide.All
import OpenK.AllK
import Wide.FinOn
import Lean
import PySem.Challenge.RW_ko0130_01
set_option Elab.async false
set_option maxRecDepth 100000
set_option maxHeartbeats 8000000
open PySem PySem.W PyProof.Rows
set_option maxHeartbeats 4000000
namespace Mine
open PySem.AutoSeq1 (wpAny_loadPart')
open PySem.MeetsSeq PySem.MeetsSeq2 PySem.MeetsSeq3 PySem.SeqRoads2 PySem.SeqAt

/-- Python's order of int sequences -/
def lexLt : List Int → List Int → Bool
  | [], [] => false
  | [], _ :: _ => true
  | _ :: _, [] => false
  | x :: xs, y :: ys => if x = y then lexLt xs ys else decide (x < y)

def RowObj (cls : String) (o : Obj) (xs : List Int) : Prop := ∃ vs n, o = seqObj cls vs.toArray n ∧ IntsAre vs xs
def RowAt (cls : String) (h : Heap) (a : Addr) (xs : List Int) : Prop := ∃ o, h.get? a = some o ∧ RowObj cls o xs

theorem rc_int_lt {prog : Program} {w : World} {A : Around} {s : Shared} {E Q : Value → Shared → Prop} {a b : Int} {t u : Tok} (h : Q (.bool (decide (a < b))) s) :
    wpAny (model prog w) A (richCompare .Lt (.int a t) (.int b u)) Q E s :=
  richCompare_gives (op := .Lt) (typeIs_int s _ t) (typeIs_int s _ u) F.slot_int_lt F.entry_int_lt (F.args_int_lt_2 _ _) (gives_int_lt _ _ t u) (fun x => nomatch x) h
theorem rc_int_gt {prog : Program} {w : World} {A : Around} {s : Shared} {E Q : Value → Shared → Prop} {a b : Int} {t u : Tok} (h : Q (.bool (decide (a > b))) s) :
    wpAny (model prog w) A (richCompare .Gt (.int a t) (.int b u)) Q E s :=
  richCompare_gives (op := .Gt) (typeIs_int s _ t) (typeIs_int s _ u) F.slot_int_gt F.entry_int_gt (F.args_int_gt_2 _ _) (gives_int_gt _ _ t u) (fun x => nomatch x) h

theorem ints_at {vs : List Value} {xs : List Int} (h : IntsAre vs xs) {i : Nat} (hi : i < xs.length) : ∃ t, vs[i]? = some (.int xs[i] t) := h.get i _ (by simp [hi])

theorem lexLt_step {xs ys : List Int} {i : Nat} (h1 : i < xs.length) (h2 : i < ys.length) :
    lexLt (xs.drop i) (ys.drop i) = if xs[i] = ys[i] then lexLt (xs.drop (i + 1)) (ys.drop (i + 1)) else decide (xs[i] < ys[i]) := by
  rw [List.drop_eq_getElem_cons h1, List.drop_eq_getElem_cons h2]; rfl

theorem lexLt_end {xs ys : List Int} {i : Nat} (hx : i ≤ xs.length) (hy : i ≤ ys.length) (h : ¬ (i < xs.length ∧ i < ys.length)) :
    lexLt (xs.drop i) (ys.drop i) = decide (xs.length < ys.length) := by
  by_cases h1 : i < xs.length
  · have h2 : ys.length = i := by omega
    have e : ys.drop i = [] := by simp; omega
    rw [e, List.drop_eq_getElem_cons h1]
    simp [lexLt]; omega
  · have h1 : xs.length = i := by omega
    have e : xs.drop i = [] := by simp; omega
    rw [e]
    by_cases h2 : i < ys.length
    · rw [List.drop_eq_getElem_cons h2]; simp [lexLt]; omega
    · have e2 : ys.drop i = [] := by simp; omega
      rw [e2]; simp [lexLt]; omega

/-- the value of `op` on two int sequences -/
def lexOp : CmpOp → List Int → List Int → Bool
  | .Lt, xs, ys => lexLt xs ys
  | .Gt, xs, ys => lexLt ys xs
  | _, _, _ => false

theorem lt_loopL (l b : Addr) (vs ws : List Value) (xs ys : List Int) (hx : IntsAre vs xs) (hy : IntsAre ws ys) (n n2 : Nat) (op : CmpOp) (code : Int) (hop : (op = .Lt ∧ code = 0) ∨ (op = .Gt ∧ code = 4)) (k : Nat) :
    ∀ i : Nat, xs.length - i = k → i ≤ xs.length → i ≤ ys.length → Meets (Builtin.«list.__eq__.loop» ⟨[.ref l, .ref b, rawInt i, rawInt code], []⟩)
      (fun _ R s => s.heap.get? l = some (seqObj "list" vs.toArray n) ∧ s.heap.get? b = some (seqObj "list" ws.toArray n2) ∧
        R (.ok (.ret (.bool (lexOp op (xs.drop i) (ys.drop i))))) s) := by
  have lx := hx.length
  have ly := hy.length
  induction k with
  | zero =>
    intro i hk hi1 hi2 prog w A R s h
    obtain ⟨hp, g, d, tk, os⟩ := s; obtain ⟨hl, hb, h⟩ := h
    have en : vs.toArray[((i : Nat) : Int).toNat]? = none := by simp; omega
    rcases hop with ⟨rfl, rfl⟩ | ⟨rfl, rfl⟩
    · wp_walk using wpAny_loadPart' hl, wpAny_loadPart' hb
      rw [en]
      wp_walk using wpAny_loadPart' hl, wpAny_loadPart' hb
      simp only [lexOp] at h
      rw [lexLt_end hi1 hi2 (by omega)] at h
      show R (.ok (.ret (.bool (decide (vs.toArray.size < ws.toArray.size))))) _
      simpa [lx, ly] using h
    · wp_walk using wpAny_loadPart' hl, wpAny_loadPart' hb
      rw [en]
      wp_walk using wpAny_loadPart' hl, wpAny_loadPart' hb
      simp only [lexOp] at h
      rw [lexLt_end hi2 hi1 (by omega)] at h
      show R (.ok (.ret (.bool (decide (vs.toArray.size > ws.toArray.size))))) _
      simpa [lx, ly] using h
  | succ k ih =>
    intro i hk hi1 hi2 prog w A R s h
    obtain ⟨hp, g, d, tk, os⟩ := s; obtain ⟨hl, hb, h⟩ := h
    have hlt : i < xs.length := by omega
    obtain ⟨t, ht⟩ := ints_at hx hlt
    have e1 : vs.toArray[((i : Nat) : Int).toNat]? = some (.int xs[i] t) := by simpa using ht
    have hc : ((i : Int) + 1) = ((i + 1 : Nat) : Int) := by push_cast; rfl
    by_cases hlt2 : i < ys.length
    · obtain ⟨u, hu⟩ := ints_at hy hlt2
      have e2 : ws.toArray[((i : Nat) : Int).toNat]? = some (.int ys[i] u) := by simpa using hu
      by_cases he : xs[i] = ys[i]
      · have hh : (xs[i] == ys[i]) = true := by simpa using he
        rcases hop with ⟨rfl, rfl⟩ | ⟨rfl, rfl⟩
        · wp_walk using wpAny_loadPart' hl, wpAny_loadPart' hb
          rw [e1, e2]
          refine wpAny_bind (EqGives.int _ _ _ _ prog w _ _ _ _ ?_)
          rw [hh]
          wp_walk
          rw [hc]
          exact ⟨plainId_quiet plain_eq_loop _, codeAny_builtin entry_eq_loop (by
            rw [Around.under_plainId plain_eq_loop _]
            refine ih (i + 1) (by omega) (by omega) (by omega) prog w A R _ ⟨hl, hb, ?_⟩
            simp only [lexOp] at h ⊢
            rw [lexLt_step hlt hlt2, if_pos he] at h
            exact h)⟩
        · wp_walk using wpAny_loadPart' hl, wpAny_loadPart' hb
          rw [e1, e2]
          refine wpAny_bind (EqGives.int _ _ _ _ prog w _ _ _ _ ?_)
          rw [hh]
          wp_walk
          rw [hc]
          exact ⟨plainId_quiet plain_eq_loop _, codeAny_builtin entry_eq_loop (by
            rw [Around.under_plainId plain_eq_loop _]
            refine ih (i + 1) (by omega) (by omega) (by omega) prog w A R _ ⟨hl, hb, ?_⟩
            simp only [lexOp] at h ⊢
            rw [lexLt_step hlt2 hlt, if_pos he.symm] at h
            exact h)⟩
      · have hh : (xs[i] == ys[i]) = false := by simpa using he
        rcases hop with ⟨rfl, rfl⟩ | ⟨rfl, rfl⟩
        · wp_walk using wpAny_loadPart' hl, wpAny_loadPart' hb
          rw [e1, e2]
          refine wpAny_bind (EqGives.int _ _ _ _ prog w _ _ _ _ ?_)
          rw [hh]
          wp_walk using wpAny_loadPart' hl, wpAny_loadPart' hb
          rw [e1, e2]
          refine wpAny_bind (rc_int_lt ?_)
          wp_walk
          simp only [lexOp] at h
          rw [lexLt_step hlt hlt2, if_neg he] at h
          exact h
        · wp_walk using wpAny_loadPart' hl, wpAny_loadPart' hb
          rw [e1, e2]
          refine wpAny_bind (EqGives.int _ _ _ _ prog w _ _ _ _ ?_)
          rw [hh]
          wp_walk using wpAny_loadPart' hl, wpAny_loadPart' hb
          rw [e1, e2]
          refine wpAny_bind (rc_int_gt ?_)
          wp_walk
          simp only [lexOp] at h
          rw [lexLt_step hlt2 hlt, if_neg (fun q => he q.symm)] at h
          exact h
    · have e2 : ws.toArray[((i : Nat) : Int).toNat]? = none := by simp; omega
      rcases hop with ⟨rfl, rfl⟩ | ⟨rfl, rfl⟩
      · wp_walk using wpAny_loadPart' hl, wpAny_loadPart' hb
        rw [e1, e2]
        wp_walk using wpAny_loadPart' hl, wpAny_loadPart' hb
        simp only [lexOp] at h
        rw [lexLt_end hi1 hi2 (by omega)] at h
        show R (.ok (.ret (.bool (decide (vs.toArray.size < ws.toArray.size))))) _
        simpa [lx, ly] using h
      · wp_walk using wpAny_loadPart' hl, wpAny_loadPart' hb
        rw [e1, e2]
        wp_walk using wpAny_loadPart' hl, wpAny_loadPart' hb
        simp only [lexOp] at h
        rw [lexLt_end hi2 hi1 (by omega)] at h
        show R (.ok (.ret (.bool (decide (vs.toArray.size > ws.toArray.size))))) _
        simpa [lx, ly] using h
end Mine

set_option maxHeartbeats 4000000
namespace Mine
open PySem.AutoSeq1 (wpAny_loadPart')
open PySem.MeetsSeq PySem.MeetsSeq2 PySem.MeetsSeq3 PySem.SeqRoads2 PySem.SeqAt

theorem list_ltL (l b : Addr) (vs ws : List Value) (xs ys : List Int) (hx : IntsAre vs xs) (hy : IntsAre ws ys) (n n2 : Nat) :
    Meets (Builtin.«list.__lt__» ⟨[.ref l, .ref b], []⟩)
      (fun _ R s => s.heap.get? l = some (seqObj "list" vs.toArray n) ∧ s.heap.get? b = some (seqObj "list" ws.toArray n2) ∧
        R (.ok (.ret (.bool (lexLt xs ys)))) s) := by
  intro prog w A R s h
  obtain ⟨hp, g, d, tk, os⟩ := s; obtain ⟨hl, hb, h⟩ := h
  have f3 := AutoSeq1.sub_list_list
  wp_walk using wpAny_loadPart' hl, wpAny_loadPart' hb
  exact ⟨plainId_quiet plain_eq_loop _, codeAny_builtin entry_eq_loop (by
    rw [Around.under_plainId plain_eq_loop _]
    exact lt_loopL l b vs ws xs ys hx hy n n2 .Lt 0 (.inl ⟨rfl, rfl⟩) _ 0 rfl (Nat.zero_le _) (Nat.zero_le _) prog w A R _ ⟨hl, hb, by simpa [lexOp] using h⟩)⟩
theorem list_gtL (l b : Addr) (vs ws : List Value) (xs ys : List Int) (hx : IntsAre vs xs) (hy : IntsAre ws ys) (n n2 : Nat) :
    Meets (Builtin.«list.__gt__» ⟨[.ref l, .ref b], []⟩)
      (fun _ R s => s.heap.get? l = some (seqObj "list" vs.toArray n) ∧ s.heap.get? b = some (seqObj "list" ws.toArray n2) ∧
        R (.ok (.ret (.bool (lexLt ys xs)))) s) := by
  intro prog w A R s h
  obtain ⟨hp, g, d, tk, os⟩ := s; obtain ⟨hl, hb, h⟩ := h
  have f3 := AutoSeq1.sub_list_list
  wp_walk using wpAny_loadPart' hl, wpAny_loadPart' hb
  exact ⟨plainId_quiet plain_eq_loop _, codeAny_builtin entry_eq_loop (by
    rw [Around.under_plainId plain_eq_loop _]
    exact lt_loopL l b vs ws xs ys hx hy n n2 .Gt 4 (.inr ⟨rfl, rfl⟩) _ 0 rfl (Nat.zero_le _) (Nat.zero_le _) prog w A R _ ⟨hl, hb, by simpa [lexOp] using h⟩)⟩

theorem tuple_ltL (l b : Addr) (vs ws : List Value) (xs ys : List Int) (hx : IntsAre vs xs) (hy : IntsAre ws ys) (n n2 : Nat) :
    Meets (Builtin.«tuple.__lt__» ⟨[.ref l, .ref b], []⟩)
      (fun _ R s => s.heap.get? l = some (seqObj "tuple" vs.toArray n) ∧ s.heap.get? b = some (seqObj "tuple" ws.toArray n2) ∧
        R (.ok (.ret (.bool (lexLt xs ys)))) s) :=
  .of_wp fun prog w A R s h => by
    obtain ⟨hp, g, d, tk, os⟩ := s; obtain ⟨hl, hb, h⟩ := h
    have lx := hx.length
    have ly := hy.length
    have f2 := AutoSeq1.sub_tuple_tuple
    wp_walk using wpAny_loadPart' hl, wpAny_loadPart' hb, wpAny_forIn_list _ (fun rest b s' => b.1 = none ∧ s' = ⟨hp, g, d, tk, os⟩ ∧ ∃ i, i ≤ xs.length ∧ i ≤ ys.length ∧ rest = (vs.zip ws).drop i ∧
      R (.ok (.ret (.bool (lexLt (xs.drop i) (ys.drop i))))) ⟨hp, g, d, tk, os⟩) _
    case turn =>
      rintro ⟨y, x⟩ rest b s' ⟨hb', rfl, i, hi1, hi2, hz, hR⟩
      have hlt : i < (vs.zip ws).length := by
        rcases Nat.lt_or_ge i (vs.zip ws).length with h' | h'
        · exact h'
        · rw [List.drop_of_length_le h'] at hz; cases hz
      rw [List.drop_eq_getElem_cons hlt] at hz
      injection hz with hyx hrest
      have hm : i < min vs.length ws.length := by simpa using hlt
      have h1 : i < xs.length := by omega
      have h2 : i < ys.length := by omega
      obtain ⟨t, ht⟩ := ints_at hx h1
      obtain ⟨u, hu⟩ := ints_at hy h2
      have hy' : y = .int xs[i] t := by
        have e := congrArg Prod.fst hyx
        have q : vs[i]? = some y := by simp at e; rw [e]; simp
        rw [ht] at q; exact (Option.some.inj q).symm
      have hx' : x = .int ys[i] u := by
        have e := congrArg Prod.snd hyx
        have q : ws[i]? = some x := by simp at e; rw [e]; simp
        rw [hu] at q; exact (Option.some.inj q).symm
      subst hy' hx'
      rw [lexLt_step h1 h2] at hR
      by_cases he : xs[i] = ys[i]
      · refine wpAny_bind (EqGives.int _ _ _ _ prog w _ _ _ _ ?_)
        rw [show (xs[i] == ys[i]) = true by simpa using he]
        rw [if_pos he] at hR
        wp_walk
        exact ⟨rfl, rfl, i + 1, h1, h2, hrest, hR⟩
      · refine wpAny_bind (EqGives.int _ _ _ _ prog w _ _ _ _ ?_)
        rw [show (xs[i] == ys[i]) = false by simpa using he]
        rw [if_neg he] at hR
        wp_walk using rc_int_lt
        exact ⟨_, rfl, hR⟩
    case fin =>
      rintro ⟨b1, b2⟩ s' ⟨hb', rfl, i, hi1, hi2, hz, hR⟩
      simp only at hb'
      subst hb'
      have hge : min vs.length ws.length ≤ i := by
        rcases Nat.lt_or_ge i (vs.zip ws).length with h' | h'
        · rw [List.drop_eq_getElem_cons h'] at hz; cases hz
        · simpa using h'
      rw [lexLt_end hi1 hi2 (by omega)] at hR
      wp_walk
      refine ⟨_, rfl, ?_⟩
      show R (.ok (.ret (.bool (decide (vs.toArray.size < ws.toArray.size))))) _
      simpa [lx, ly] using hR
    case h =>
      exact ⟨rfl, rfl, 0, Nat.zero_le _, Nat.zero_le _, by simp, by simpa using h⟩

theorem tuple_gtL (l b : Addr) (vs ws : List Value) (xs ys : List Int) (hx : IntsAre vs xs) (hy : IntsAre ws ys) (n n2 : Nat) :
    Meets (Builtin.«tuple.__gt__» ⟨[.ref l, .ref b], []⟩)
      (fun _ R s => s.heap.get? l = some (seqObj "tuple" vs.toArray n) ∧ s.heap.get? b = some (seqObj "tuple" ws.toArray n2) ∧
        R (.ok (.ret (.bool (lexLt ys xs)))) s) :=
  .of_wp fun prog w A R s h => by
    obtain ⟨hp, g, d, tk, os⟩ := s; obtain ⟨hl, hb, h⟩ := h
    have lx := hx.length
    have ly := hy.length
    have f2 := AutoSeq1.sub_tuple_tuple
    wp_walk using wpAny_loadPart' hl, wpAny_loadPart' hb, wpAny_forIn_list _ (fun rest b s' => b.1 = none ∧ s' = ⟨hp, g, d, tk, os⟩ ∧ ∃ i, i ≤ xs.length ∧ i ≤ ys.length ∧ rest = (vs.zip ws).drop i ∧
      R (.ok (.ret (.bool (lexLt (ys.drop i) (xs.drop i))))) ⟨hp, g, d, tk, os⟩) _
    case turn =>
      rintro ⟨y, x⟩ rest b s' ⟨hb', rfl, i, hi1, hi2, hz, hR⟩
      have hlt : i < (vs.zip ws).length := by
        rcases Nat.lt_or_ge i (vs.zip ws).length with h' | h'
        · exact h'
        · rw [List.drop_of_length_le h'] at hz; cases hz
      rw [List.drop_eq_getElem_cons hlt] at hz
      injection hz with hyx hrest
      have hm : i < min vs.length ws.length := by simpa using hlt
      have h1 : i < xs.length := by omega
      have h2 : i < ys.length := by omega
      obtain ⟨t, ht⟩ := ints_at hx h1
      obtain ⟨u, hu⟩ := ints_at hy h2
      have hy' : y = .int xs[i] t := by
        have e := congrArg Prod.fst hyx
        have q : vs[i]? = some y := by simp at e; rw [e]; simp
        rw [ht] at q; exact (Option.some.inj q).symm
      have hx' : x = .int ys[i] u := by
        have e := congrArg Prod.snd hyx
        have q : ws[i]? = some x := by simp at e; rw [e]; simp
        rw [hu] at q; exact (Option.some.inj q).symm
      subst hy' hx'
      rw [lexLt_step h2 h1] at hR
      by_cases he : xs[i] = ys[i]
      · refine wpAny_bind (EqGives.int _ _ _ _ prog w _ _ _ _ ?_)
        rw [show (xs[i] == ys[i]) = true by simpa using he]
        rw [if_pos he.symm] at hR
        wp_walk
        exact ⟨rfl, rfl, i + 1, h1, h2, hrest, hR⟩
      · refine wpAny_bind (EqGives.int _ _ _ _ prog w _ _ _ _ ?_)
        rw [show (xs[i] == ys[i]) = false by simpa using he]
        rw [if_neg (fun q => he q.symm)] at hR
        wp_walk using rc_int_gt
        exact ⟨_, rfl, hR⟩
    case fin =>
      rintro ⟨b1, b2⟩ s' ⟨hb', rfl, i, hi1, hi2, hz, hR⟩
      simp only at hb'
      subst hb'
      have hge : min vs.length ws.length ≤ i := by
        rcases Nat.lt_or_ge i (vs.zip ws).length with h' | h'
        · rw [List.drop_eq_getElem_cons h'] at hz; cases hz
        · simpa using h'
      rw [lexLt_end hi2 hi1 (by omega)] at hR
      wp_walk
      refine ⟨_, rfl, ?_⟩
      show R (.ok (.ret (.bool (decide (vs.toArray.size > ws.toArray.size))))) _
      simpa [lx, ly] using hR
    case h =>
      exact ⟨rfl, rfl, 0, Nat.zero_le _, Nat.zero_le _, by simp, by simpa using h⟩

section
variable {prog : Program} {w : World} {A : Around} {E Q : Value → Shared → Prop} {s : Shared} {a b : Addr} {xs ys : List Int} {cls : String}

theorem rc_rows_lt (hc : cls = "list" ∨ cls = "tuple") (ha : RowAt cls s.heap a xs) (hb : RowAt cls s.heap b ys) (hu : A.units < cLine) (h : Q (.bool (lexLt xs ys)) s) :
    wpAny (model prog w) A (richCompare .Lt (.ref a) (.ref b)) Q E s := by
  obtain ⟨_, ho, vs, n, rfl, hx⟩ := ha
  obtain ⟨_, ho2, ws, n2, rfl, hy⟩ := hb
  rcases hc with rfl | rfl
  · exact richCompare_meets_room (op := .Lt) ⟨_, ho, rfl⟩ ⟨_, ho2, rfl⟩ F.slot_list_lt F.entry_list_lt (F.args_list_lt_2 _ _) (list_ltL a b vs ws xs ys hx hy n n2)
      ⟨ho, ho2, show Value.bool (lexLt xs ys) ≠ Value.notImplemented ∧ Q (.bool (lexLt xs ys)) s from ⟨(fun x => nomatch x), h⟩⟩ hu
  · exact richCompare_meets_room (op := .Lt) ⟨_, ho, rfl⟩ ⟨_, ho2, rfl⟩ F.slot_tuple_lt F.entry_tuple_lt (F.args_tuple_lt_2 _ _) (tuple_ltL a b vs ws xs ys hx hy n n2)
      ⟨ho, ho2, show Value.bool (lexLt xs ys) ≠ Value.notImplemented ∧ Q (.bool (lexLt xs ys)) s from ⟨(fun x => nomatch x), h⟩⟩ hu
theorem rc_rows_gt (hc : cls = "list" ∨ cls = "tuple") (ha : RowAt cls s.heap a xs) (hb : RowAt cls s.heap b ys) (hu : A.units < cLine) (h : Q (.bool (lexLt ys xs)) s) :
    wpAny (model prog w) A (richCompare .Gt (.ref a) (.ref b)) Q E s := by
  obtain ⟨_, ho, vs, n, rfl, hx⟩ := ha
  obtain ⟨_, ho2, ws, n2, rfl, hy⟩ := hb
  rcases hc with rfl | rfl
  · exact richCompare_meets_room (op := .Gt) ⟨_, ho, rfl⟩ ⟨_, ho2, rfl⟩ F.slot_list_gt F.entry_list_gt (F.args_list_gt_2 _ _) (list_gtL a b vs ws xs ys hx hy n n2)
      ⟨ho, ho2, show Value.bool (lexLt ys xs) ≠ Value.notImplemented ∧ Q (.bool (lexLt ys xs)) s from ⟨(fun x => nomatch x), h⟩⟩ hu
  · exact richCompare_meets_room (op := .Gt) ⟨_, ho, rfl⟩ ⟨_, ho2, rfl⟩ F.slot_tuple_gt F.entry_tuple_gt (F.args_tuple_gt_2 _ _) (tuple_gtL a b vs ws xs ys hx hy n n2)
      ⟨ho, ho2, show Value.bool (lexLt ys xs) ≠ Value.notImplemented ∧ Q (.bool (lexLt ys xs)) s from ⟨(fun x => nomatch x), h⟩⟩ hu

/-- item by item, two int sequences -/
theorem eqs_at {vs ws : List Value} (hx : IntsAre vs xs) (hy : IntsAre ws ys) : ∀ j (h1 : j < vs.toArray.size) (h2 : j < ws.toArray.size), EqAt A s vs.toArray[j] ws.toArray[j] (xs.getD j 0 == ys.getD j 0) := by
  intro j h1 h2
  have lx := hx.length
  have ly := hy.length
  have h1' : j < xs.length := by simp at h1; omega
  have h2' : j < ys.length := by simp at h2; omega
  obtain ⟨t, ht⟩ := ints_at hx h1'
  obtain ⟨u, hu⟩ := ints_at hy h2'
  have e1 : vs.toArray[j] = .int xs[j] t := by
    have : vs[j]? = some vs.toArray[j] := by simp
    rw [ht] at this; exact (Option.some.inj this).symm
  have e2 : ws.toArray[j] = .int ys[j] u := by
    have : ws[j]? = some ws.toArray[j] := by simp
    rw [hu] at this; exact (Option.some.inj this).symm
  rw [e1, e2]
  have e3 : xs.getD j 0 = xs[j] := by simp [h1']
  have e4 : ys.getD j 0 = ys[j] := by simp [h2']
  rw [e3, e4]
  exact (EqGives.int xs[j] ys[j] t u).at A s
theorem all_eq (xs ys : List Int) (h : xs.length = ys.length) : ((List.range xs.length).all fun j => xs.getD j 0 == ys.getD j 0) = decide (xs = ys) := by
  rw [Bool.eq_iff_iff]
  simp only [List.all_eq_true, List.mem_range, decide_eq_true_eq, beq_iff_eq]
  constructor
  · intro hj
    refine List.ext_getElem h fun i h1 h2 => ?_
    have := hj i h1
    simpa [h1, h2] using this
  · rintro rfl j _
    rfl

theorem rcAt_rows (hc : cls = "list" ∨ cls = "tuple") (ha : RowAt cls s.heap a xs) (hb : RowAt cls s.heap b ys) (hu : A.units < cLine) : RcAt A s (.ref a) (.ref b) (decide (xs = ys)) := by
  obtain ⟨_, ho, vs, n, rfl, hx⟩ := ha
  obtain ⟨_, ho2, ws, n2, rfl, hy⟩ := hb
  have lx := hx.length
  have ly := hy.length
  rcases hc with rfl | rfl
  · by_cases hz : xs.length = ys.length
    · have r := RcAt.lists (A := A) (s := s) (l := a) (b := b) (items := vs.toArray) (items2 := ws.toArray) ⟨_, ho, rfl, n, rfl⟩ ⟨_, ho2, rfl, n2, rfl⟩ (by simp [lx, ly, hz]) hu (eqs_at hx hy)
      rw [show vs.toArray.size = xs.length by simp [lx], all_eq xs ys hz] at r
      exact r
    · have r := RcAt.lists_lengths (A := A) (s := s) (l := a) (b := b) (items := vs.toArray) (items2 := ws.toArray) ⟨_, ho, rfl, n, rfl⟩ ⟨_, ho2, rfl, n2, rfl⟩ (by simp [lx, ly, hz]) hu
      rw [show decide (xs = ys) = false from decide_eq_false fun q => hz (by rw [q])]
      exact r
  · have r := RcAt.tuples (A := A) (s := s) (l := a) (b := b) (items := vs.toArray) (items2 := ws.toArray) ⟨_, ho, rfl, n, rfl⟩ ⟨_, ho2, rfl, n2, rfl⟩ hu (eqs_at hx hy)
    have e : ((List.range (min vs.toArray.size ws.toArray.size)).all (fun j => xs.getD j 0 == ys.getD j 0) && vs.toArray.size == ws.toArray.size) = decide (xs = ys) := by
      by_cases hz : xs.length = ys.length
      · have e1 : vs.toArray.size = xs.length := by simp [lx]
        have e2 : ws.toArray.size = xs.length := by simp [ly, hz]
        rw [e1, e2, Nat.min_self, all_eq xs ys hz]; simp
      · rw [show decide (xs = ys) = false from decide_eq_false fun q => hz (by rw [q])]
        simp [lx, ly, hz]
    rw [e] at r
    exact r
theorem rcNeAt_rows (hc : cls = "list" ∨ cls = "tuple") (ha : RowAt cls s.heap a xs) (hb : RowAt cls s.heap b ys) (hu : A.units < cLine) : RcNeAt A s (.ref a) (.ref b) (!decide (xs = ys)) := by
  obtain ⟨_, ho, vs, n, rfl, hx⟩ := ha
  obtain ⟨_, ho2, ws, n2, rfl, hy⟩ := hb
  have lx := hx.length
  have ly := hy.length
  rcases hc with rfl | rfl
  · by_cases hz : xs.length = ys.length
    · have r := RcNeAt.lists (A := A) (s := s) (l := a) (b := b) (items := vs.toArray) (items2 := ws.toArray) ⟨_, ho, rfl, n, rfl⟩ ⟨_, ho2, rfl, n2, rfl⟩ (by simp [lx, ly, hz]) hu (eqs_at hx hy)
      rw [show vs.toArray.size = xs.length by simp [lx], all_eq xs ys hz] at r
      exact r
    · have r := RcNeAt.lists_lengths (A := A) (s := s) (l := a) (b := b) (items := vs.toArray) (items2 := ws.toArray) ⟨_, ho, rfl, n, rfl⟩ ⟨_, ho2, rfl, n2, rfl⟩ (by simp [lx, ly, hz]) hu
      rw [show decide (xs = ys) = false from decide_eq_false fun q => hz (by rw [q])]
      exact r
  · have r := RcNeAt.tuples (A := A) (s := s) (l := a) (b := b) (items := vs.toArray) (items2 := ws.toArray) ⟨_, ho, rfl, n, rfl⟩ ⟨_, ho2, rfl, n2, rfl⟩ hu (eqs_at hx hy)
    have e : ((List.range (min vs.toArray.size ws.toArray.size)).all (fun j => xs.getD j 0 == ys.getD j 0) && vs.toArray.size == ws.toArray.size) = decide (xs = ys) := by
      by_cases hz : xs.length = ys.length
      · have e1 : vs.toArray.size = xs.length := by simp [lx]
        have e2 : ws.toArray.size = xs.length := by simp [ly, hz]
        rw [e1, e2, Nat.min_self, all_eq xs ys hz]; simp
      · rw [show decide (xs = ys) = false from decide_eq_false fun q => hz (by rw [q])]
        simp [lx, ly, hz]
    rw [e] at r
    exact r
theorem ne_rows (hc : cls = "list" ∨ cls = "tuple") (ha : RowAt cls s.heap a xs) (hb : RowAt cls s.heap b ys) (hu : A.units < cLine) (h : Q (.bool (!decide (xs = ys))) s) :
    wpAny (model prog w) A (compareOp .NotEq (.ref a) (.ref b)) Q E s := rcNeAt_rows hc ha hb hu prog w E Q h
theorem eqAt_rows (hc : cls = "list" ∨ cls = "tuple") (ha : RowAt cls s.heap a xs) (hb : RowAt cls s.heap b ys) (hu : A.units < cLine) : EqAt A s (.ref a) (.ref b) (decide (xs = ys)) := by
  by_cases q : a = b
  · subst q
    obtain ⟨_, ho, vs, n, rfl, hx⟩ := ha
    obtain ⟨_, ho2, ws, n2, e, hy⟩ := hb
    rw [ho] at ho2
    cases ho2
    have e' : vs = ws := by
      injection e with _ _ e3 _
      injection e3 with e4 _
      simpa using e4
    subst e'
    have e2 : xs = ys := by rw [← hx.nums, ← hy.nums]
    subst e2
    simpa using EqAt.same (A := A) (s := s) (.ref a)
  · exact EqAt.of_refs q (rcAt_rows hc ha hb hu)
end
end Mine

set_option maxHeartbeats 4000000
namespace Mine

theorem lexLt_irr : ∀ xs : List Int, lexLt xs xs = false
  | [] => rfl
  | x :: xs => by simp [lexLt, lexLt_irr xs]
theorem lexLt_trans : ∀ {xs ys zs : List Int}, lexLt xs ys = true → lexLt ys zs = true → lexLt xs zs = true
  | [], [], _, h, _ => by simp [lexLt] at h
  | [], _ :: _, [], _, h => by simp [lexLt] at h
  | [], _ :: _, _ :: _, _, _ => rfl
  | _ :: _, [], _, h, _ => by simp [lexLt] at h
  | _ :: _, _ :: _, [], _, h => by simp [lexLt] at h
  | x :: xs, y :: ys, z :: zs, h1, h2 => by
    unfold lexLt at h1 h2 ⊢
    by_cases a : x = y
    · rw [if_pos a] at h1
      by_cases b : y = z
      · rw [if_pos b] at h2
        rw [if_pos (a.trans b)]
        exact lexLt_trans h1 h2
      · rw [if_neg b] at h2
        rw [if_neg (by rw [a]; exact b), a]
        exact h2
    · rw [if_neg a] at h1
      have h1' := of_decide_eq_true h1
      by_cases b : y = z
      · rw [if_neg (by rw [← b]; exact a), ← b]
        exact h1
      · rw [if_neg b] at h2
        have h2' := of_decide_eq_true h2
        rw [if_neg (by omega)]
        exact decide_eq_true (by omega)
theorem lexLt_tri : ∀ {xs ys : List Int}, lexLt xs ys = false → lexLt ys xs = false → xs = ys
  | [], [], _, _ => rfl
  | [], _ :: _, h, _ => by simp [lexLt] at h
  | _ :: _, [], _, h => by simp [lexLt] at h
  | x :: xs, y :: ys, h1, h2 => by
    unfold lexLt at h1 h2
    by_cases a : x = y
    · rw [if_pos a] at h1
      rw [if_pos a.symm] at h2
      rw [a, lexLt_tri h1 h2]
    · rw [if_neg a] at h1
      rw [if_neg (fun q => a q.symm)] at h2
      have h1' := of_decide_eq_false h1
      have h2' := of_decide_eq_false h2
      omega
theorem lexLt_asymm {xs ys : List Int} (h : lexLt xs ys = true) : lexLt ys xs = false := by
  cases q : lexLt ys xs with
  | false => rfl
  | true => have := lexLt_trans h q; rw [lexLt_irr] at this; cases this
/-- not below, and below that: not below -/
theorem lexLt_min {a b c : List Int} (h1 : lexLt a b = false) (h2 : lexLt c b = true) : lexLt a c = false := by
  cases q : lexLt a c with
  | false => rfl
  | true => have := lexLt_trans q h2; rw [h1] at this; cases this
/-- `x` is above `y` -/
def lexGt (x y : List Int) : Bool := lexLt y x
theorem lexGt_irr (xs : List Int) : lexGt xs xs = false := lexLt_irr xs
theorem lexGt_max {a b c : List Int} (h1 : lexGt a b = false) (h2 : lexGt c b = true) : lexGt a c = false := by
  cases q : lexGt a c with
  | false => rfl
  | true => have := lexLt_trans (show lexLt b c = true from h2) (show lexLt c a = true from q); unfold lexGt at h1; rw [h1] at this; cases this

section
variable {prog : Program} {w : World} {A : Around} {E Q : Value → Shared → Prop} {R : Result → Shared → Prop} {s : Shared} {h0 : Heap} {l I S : Addr} {as : List Addr} {rss : List (List Int)} {cls : String}

theorem min_loop_rows (hh : A.handled = none) (hc : cls = "list" ∨ cls = "tuple") (hl : h0.IsList l (as.map Value.ref).toArray) (hz : as.length = rss.length)
    (rows : ∀ i, i < rss.length → RowAt cls h0 (as.getD i 0) (rss.getD i [])) (hI : h0.get? I = none) (hS0 : h0.get? S = none) (hIS : I ≠ S) (hu : A.in1.units < cLine)
    (hR : ∀ i h', i < rss.length → (∀ j, j < rss.length → lexLt (rss.getD j []) (rss.getD i []) = false) → (∀ b o, h0.get? b = some o → h'.get? b = some o) → R (.ok (.ret (.ref (as.getD i 0)))) { s with heap := h' }) :
    ∀ (k j i : Nat) (h : Heap) (c : Nat), rss.length - (j + 1) = k → j + 1 ≤ rss.length → (∀ b o, h0.get? b = some o → h.get? b = some o) → h.IsListIter I l (j + 1) →
      h.get? S = some (seqObj "list" #[.ref (as.getD i 0), .ref (as.getD i 0)] c) → i ≤ j → (∀ j', j' ≤ j → lexLt (rss.getD j' []) (rss.getD i []) = false) →
      codeAny (model prog w) A (.builtin "min.loop" ⟨[.ref I, .none, .ref S], []⟩) R { s with heap := h } := by
  have hname : (toString "min" ++ toString ".loop" : String) = "min.loop" := by decide
  have hlI : l ≠ I := by rintro rfl; obtain ⟨o, ho, _⟩ := hl; rw [hI] at ho; cases ho
  have hlS : l ≠ S := by rintro rfl; obtain ⟨o, ho, _⟩ := hl; rw [hS0] at ho; cases ho
  intro k
  induction k with
  | zero =>
    intro j i h c hk hj hkeep hit hS hij hbest
    refine codeAny_builtin PySem.F.entry_min_loop ?_
    rw [Around.under_plainId PySem.F.plain_min_loop _]
    show wpAny _ A.in1 (seqItems? (.ref S) >>= _) _ _ _
    refine wpAny_bind (wpAny_seqItems hS rfl ?_)
    show wpAny _ A.in1 (tryCatch (pyNext (.ref I)) _ >>= _) _ _ _
    refine wpAny_bind (wpAny_tryCatch (wpAny_pyNext_list_end hh hit (hl.at fun o e => hkeep l o e) (by simp; omega) fun h' he' => ?_))
    have hS' : h'.get? S = some (seqObj "list" #[.ref (as.getD i 0), .ref (as.getD i 0)] c) := he' S _ (fun q => hIS q.symm) hS
    show wpAny _ A.in1 (updateSeq S (fun _ => #[]) >>= _) _ _ _
    refine wpAny_bind ?_
    refine wpAny_updateSeq hS' rfl (wpAny_bind (wpAny_letGo (wpAny_pure ?_)))
    refine hR i _ (by omega) (fun j' hj' => hbest j' (by omega)) fun b o e => ?_
    have hbS : S ≠ b := by rintro rfl; rw [hS0] at e; cases e
    have hbI : b ≠ I := by rintro rfl; rw [hI] at e; cases e
    exact (Heap.get?_update_other _ _ hbS).trans (he' b o hbI (hkeep b o e))
  | succ k ih =>
    intro j i h c hk hj hkeep hit hS hij hbest
    have hlt : j + 1 < rss.length := by omega
    refine codeAny_builtin PySem.F.entry_min_loop ?_
    rw [Around.under_plainId PySem.F.plain_min_loop _]
    show wpAny _ A.in1 (seqItems? (.ref S) >>= _) _ _ _
    refine wpAny_bind (wpAny_seqItems hS rfl ?_)
    show wpAny _ A.in1 (tryCatch (pyNext (.ref I)) _ >>= _) _ _ _
    refine wpAny_bind (wpAny_tryCatch (wpAny_pyNext_list_item hit (hl.at fun o e => hkeep l o e) (x := .ref (as.getD (j + 1) 0)) (by simp [hz, hlt]) fun h' hit' hs' => ?_))
    have keep' : ∀ b o, h0.get? b = some o → h'.get? b = some o := fun b o e => by
      have hbI : b ≠ I := by rintro rfl; rw [hI] at e; cases e
      exact (hs'.2 b hbI).trans (hkeep b o e)
    have hS' : h'.get? S = some (seqObj "list" #[.ref (as.getD i 0), .ref (as.getD i 0)] c) := (hs'.2 S (fun q => hIS q.symm)).trans hS
    have up : ∀ q, q < rss.length → RowAt cls h' (as.getD q 0) (rss.getD q []) := fun q hq => by
      obtain ⟨o, ho, r⟩ := rows q hq
      exact ⟨o, keep' _ _ ho, r⟩
    show wpAny _ A.in1 (tryCatch (holding [Value.ref (as.getD (j + 1) 0), Value.ref (as.getD (j + 1) 0)] (richCompare .Lt (.ref (as.getD (j + 1) 0)) (.ref (as.getD i 0)) >>= _)) _ >>= _) _ _ _
    refine wpAny_bind (wpAny_tryCatch (wpAny_holding (wpAny_bind (rc_rows_lt hc (up _ hlt) (up i (by omega)) hu ?_))))
    refine wpAny_bind (wpAny_holding (wpAny_truthy_bool ?_))
    refine wpAny_bind (wpAny_letGo (wpAny_pure ?_))
    cases hb : lexLt (rss.getD (j + 1) []) (rss.getD i []) with
    | true =>
      simp only [hb, if_true]
      refine wpAny_bind ?_
      refine wpAny_updateSeq hS' rfl (wpAny_bind (wpAny_letGo ?_))
      rw [hname]
      refine wpAny_pure ⟨plainId_quiet PySem.F.plain_min_loop _, ih (j + 1) (j + 1) _ _ (by omega) hlt (fun b o e => ?_) ?_ (Heap.get?_update_self _ hS' rfl) (Nat.le_refl _) fun j' hj' => ?_⟩
      · have hbS : S ≠ b := by rintro rfl; rw [hS0] at e; cases e
        exact (Heap.get?_update_other _ _ hbS).trans (keep' b o e)
      · exact hit'.at fun o e => (Heap.get?_update_other _ _ (fun q : S = I => hIS q.symm)).trans e
      · rcases Nat.lt_or_ge j' (j + 1) with q | q
        · exact lexLt_min (hbest j' (by omega)) hb
        · have : j' = j + 1 := by omega
          subst this
          exact lexLt_irr _
    | false =>
      simp only [hb, Bool.false_eq_true, if_false]
      refine wpAny_bind (wpAny_letGo ?_)
      rw [hname]
      refine wpAny_pure ⟨plainId_quiet PySem.F.plain_min_loop _, ih (j + 1) i _ c (by omega) hlt keep' hit' hS' (by omega) fun j' hj' => ?_⟩
      rcases Nat.lt_or_ge j' (j + 1) with q | q
      · exact hbest j' (by omega)
      · have : j' = j + 1 := by omega
        subst this
        exact hb

theorem min_rows (hh : A.handled = none) (hc : cls = "list" ∨ cls = "tuple") (hl : s.heap.IsList l (as.map Value.ref).toArray) (hz : as.length = rss.length) (hn : 0 < rss.length)
    (rows : ∀ i, i < rss.length → RowAt cls s.heap (as.getD i 0) (rss.getD i [])) (hu : A.in1.units < cLine)
    (hQ : ∀ i h', i < rss.length → (∀ j, j < rss.length → lexLt (rss.getD j []) (rss.getD i []) = false) → (∀ b o, s.heap.get? b = some o → h'.get? b = some o) → Q (.ref (as.getD i 0)) { s with heap := h' }) :
    wpAny (model prog w) A (call (.builtin "min") [.ref l]) Q E s := by
  have hname : (toString "min" ++ toString ".loop" : String) = "min.loop" := by decide
  refine call_function_tree PySem.F.kind_min PySem.F.plain_min PySem.F.entry_min (PySem.F.args_min1 _) ?_
  show wpAny _ A.in1 (Builtin.Builtins.bindParams "min" ["key", "default"] 0 ⟨[], []⟩ >>= _) _ _ s
  refine wpAny_bind (wpAny_of_eq (show Builtin.Builtins.bindParams "min" ["key", "default"] 0 ⟨[], []⟩ = pure [none, none] from rfl) ?_)
  refine wpAny_bind (wpAny_pure ?_)
  refine wpAny_bind (wpAny_pyIter_list hl ?_)
  refine wpAny_bind (wpAny_newObj_type ?_)
  rw [hname]
  have hsz : (s.heap.push { cls := .type "list_iterator", data := .fields #[.ref l, .int 0 0] }).objs.size = s.heap.objs.size + 1 := size_push' _ _
  refine wpAny_pure ⟨plainId_quiet PySem.F.plain_min_loop _, ?_⟩
  show codeAny _ _ _ _ { s with heap := (s.heap.push { cls := .type "list_iterator", data := .fields #[.ref l, .int 0 0] }).push { cls := .type "list", data := .seq #[] } }
  have hlt0 : ∀ {b o}, s.heap.get? b = some o → b < s.heap.objs.size := fun e => Heap.lt_size e
  have hS : ((s.heap.push { cls := .type "list_iterator", data := .fields #[.ref l, .int 0 0] }).push { cls := .type "list", data := .seq #[] }).get? (s.heap.objs.size + 1) = some (seqObj "list" #[] 0) := by
    rw [← hsz]; exact Heap.get?_push_size _ rfl
  have hIt : ((s.heap.push { cls := .type "list_iterator", data := .fields #[.ref l, .int 0 0] }).push { cls := .type "list", data := .seq #[] }).IsListIter s.heap.objs.size l 0 :=
    ⟨_, Heap.get?_push_of_some _ (Heap.get?_push_size _ rfl), rfl, rfl⟩
  have hkeep : ∀ b o, s.heap.get? b = some o → ((s.heap.push { cls := .type "list_iterator", data := .fields #[.ref l, .int 0 0] }).push { cls := .type "list", data := .seq #[] }).get? b = some o :=
    fun b o e => Heap.get?_push_of_some _ (Heap.get?_push_of_some _ e)
  have hI0 : s.heap.get? s.heap.objs.size = none := Heap.get?_none_of_le (Nat.le_refl _)
  have hS0 : s.heap.get? (s.heap.objs.size + 1) = none := Heap.get?_none_of_le (Nat.le_succ _)
  have hIS : s.heap.objs.size ≠ s.heap.objs.size + 1 := by omega
  refine codeAny_builtin PySem.F.entry_min_loop ?_
  rw [Around.under_plainId PySem.F.plain_min_loop _, hsz]
  show wpAny _ A.in1 (seqItems? (.ref (s.heap.objs.size + 1)) >>= _) _ _ _
  refine wpAny_bind (wpAny_seqItems hS rfl ?_)
  show wpAny _ A.in1 (tryCatch (pyNext (.ref s.heap.objs.size)) _ >>= _) _ _ _
  refine wpAny_bind (wpAny_tryCatch (wpAny_pyNext_list_item hIt (hl.at fun o e => hkeep l o e) (x := .ref (as.getD 0 0)) (by simp [hz, hn]) fun h' hit' hs' => ?_))
  have keep' : ∀ b o, s.heap.get? b = some o → h'.get? b = some o := fun b o e => (hs'.2 b (Nat.ne_of_lt (hlt0 e))).trans (hkeep b o e)
  have hS' : h'.get? (s.heap.objs.size + 1) = some (seqObj "list" #[] 0) := (hs'.2 _ (fun q => hIS q.symm)).trans hS
  show wpAny _ A.in1 (updateSeq (s.heap.objs.size + 1) (fun _ => #[Value.ref (as.getD 0 0), Value.ref (as.getD 0 0)]) >>= _) _ _ _
  refine wpAny_bind ?_
  refine wpAny_updateSeq hS' rfl ?_
  rw [hname]
  refine wpAny_pure ⟨plainId_quiet PySem.F.plain_min_loop _, min_loop_rows hh hc hl hz rows hI0 hS0 hIS hu (fun i h'' hi hb hk => hQ i h'' hi hb hk) _ 0 0 _ _ rfl hn (fun b o e => ?_) ?_ (Heap.get?_update_self _ hS' rfl) (Nat.le_refl _) fun j' hj' => ?_⟩
  · have hbS : s.heap.objs.size + 1 ≠ b := by rintro rfl; rw [hS0] at e; cases e
    exact (Heap.get?_update_other _ _ hbS).trans (keep' b o e)
  · exact hit'.at fun o e => (Heap.get?_update_other _ _ (fun q : s.heap.objs.size + 1 = s.heap.objs.size => hIS q.symm)).trans e
  · have : j' = 0 := by omega
    subst this
    exact lexLt_irr _

theorem max_loop_rows (hh : A.handled = none) (hc : cls = "list" ∨ cls = "tuple") (hl : h0.IsList l (as.map Value.ref).toArray) (hz : as.length = rss.length)
    (rows : ∀ i, i < rss.length → RowAt cls h0 (as.getD i 0) (rss.getD i [])) (hI : h0.get? I = none) (hS0 : h0.get? S = none) (hIS : I ≠ S) (hu : A.in1.units < cLine)
    (hR : ∀ i h', i < rss.length → (∀ j, j < rss.length → lexGt (rss.getD j []) (rss.getD i []) = false) → (∀ b o, h0.get? b = some o → h'.get? b = some o) → R (.ok (.ret (.ref (as.getD i 0)))) { s with heap := h' }) :
    ∀ (k j i : Nat) (h : Heap) (c : Nat), rss.length - (j + 1) = k → j + 1 ≤ rss.length → (∀ b o, h0.get? b = some o → h.get? b = some o) → h.IsListIter I l (j + 1) →
      h.get? S = some (seqObj "list" #[.ref (as.getD i 0), .ref (as.getD i 0)] c) → i ≤ j → (∀ j', j' ≤ j → lexGt (rss.getD j' []) (rss.getD i []) = false) →
      codeAny (model prog w) A (.builtin "max.loop" ⟨[.ref I, .none, .ref S], []⟩) R { s with heap := h } := by
  have hname : (toString "max" ++ toString ".loop" : String) = "max.loop" := by decide
  have hlI : l ≠ I := by rintro rfl; obtain ⟨o, ho, _⟩ := hl; rw [hI] at ho; cases ho
  have hlS : l ≠ S := by rintro rfl; obtain ⟨o, ho, _⟩ := hl; rw [hS0] at ho; cases ho
  intro k
  induction k with
  | zero =>
    intro j i h c hk hj hkeep hit hS hij hbest
    refine codeAny_builtin PySem.F.entry_max_loop ?_
    rw [Around.under_plainId PySem.F.plain_max_loop _]
    show wpAny _ A.in1 (seqItems? (.ref S) >>= _) _ _ _
    refine wpAny_bind (wpAny_seqItems hS rfl ?_)
    show wpAny _ A.in1 (tryCatch (pyNext (.ref I)) _ >>= _) _ _ _
    refine wpAny_bind (wpAny_tryCatch (wpAny_pyNext_list_end hh hit (hl.at fun o e => hkeep l o e) (by simp; omega) fun h' he' => ?_))
    have hS' : h'.get? S = some (seqObj "list" #[.ref (as.getD i 0), .ref (as.getD i 0)] c) := he' S _ (fun q => hIS q.symm) hS
    show wpAny _ A.in1 (updateSeq S (fun _ => #[]) >>= _) _ _ _
    refine wpAny_bind ?_
    refine wpAny_updateSeq hS' rfl (wpAny_bind (wpAny_letGo (wpAny_pure ?_)))
    refine hR i _ (by omega) (fun j' hj' => hbest j' (by omega)) fun b o e => ?_
    have hbS : S ≠ b := by rintro rfl; rw [hS0] at e; cases e
    have hbI : b ≠ I := by rintro rfl; rw [hI] at e; cases e
    exact (Heap.get?_update_other _ _ hbS).trans (he' b o hbI (hkeep b o e))
  | succ k ih =>
    intro j i h c hk hj hkeep hit hS hij hbest
    have hlt : j + 1 < rss.length := by omega
    refine codeAny_builtin PySem.F.entry_max_loop ?_
    rw [Around.under_plainId PySem.F.plain_max_loop _]
    show wpAny _ A.in1 (seqItems? (.ref S) >>= _) _ _ _
    refine wpAny_bind (wpAny_seqItems hS rfl ?_)
    show wpAny _ A.in1 (tryCatch (pyNext (.ref I)) _ >>= _) _ _ _
    refine wpAny_bind (wpAny_tryCatch (wpAny_pyNext_list_item hit (hl.at fun o e => hkeep l o e) (x := .ref (as.getD (j + 1) 0)) (by simp [hz, hlt]) fun h' hit' hs' => ?_))
    have keep' : ∀ b o, h0.get? b = some o → h'.get? b = some o := fun b o e => by
      have hbI : b ≠ I := by rintro rfl; rw [hI] at e; cases e
      exact (hs'.2 b hbI).trans (hkeep b o e)
    have hS' : h'.get? S = some (seqObj "list" #[.ref (as.getD i 0), .ref (as.getD i 0)] c) := (hs'.2 S (fun q => hIS q.symm)).trans hS
    have up : ∀ q, q < rss.length → RowAt cls h' (as.getD q 0) (rss.getD q []) := fun q hq => by
      obtain ⟨o, ho, r⟩ := rows q hq
      exact ⟨o, keep' _ _ ho, r⟩
    show wpAny _ A.in1 (tryCatch (holding [Value.ref (as.getD (j + 1) 0), Value.ref (as.getD (j + 1) 0)] (richCompare .Gt (.ref (as.getD (j + 1) 0)) (.ref (as.getD i 0)) >>= _)) _ >>= _) _ _ _
    refine wpAny_bind (wpAny_tryCatch (wpAny_holding (wpAny_bind (rc_rows_gt hc (up _ hlt) (up i (by omega)) hu ?_))))
    refine wpAny_bind (wpAny_holding (wpAny_truthy_bool ?_))
    refine wpAny_bind (wpAny_letGo (wpAny_pure ?_))
    cases hb : lexGt (rss.getD (j + 1) []) (rss.getD i []) with
    | true =>
      simp only [hb, show lexLt (rss.getD i []) (rss.getD (j + 1) []) = lexGt (rss.getD (j + 1) []) (rss.getD i []) from rfl, if_true]
      refine wpAny_bind ?_
      refine wpAny_updateSeq hS' rfl (wpAny_bind (wpAny_letGo ?_))
      rw [hname]
      refine wpAny_pure ⟨plainId_quiet PySem.F.plain_max_loop _, ih (j + 1) (j + 1) _ _ (by omega) hlt (fun b o e => ?_) ?_ (Heap.get?_update_self _ hS' rfl) (Nat.le_refl _) fun j' hj' => ?_⟩
      · have hbS : S ≠ b := by rintro rfl; rw [hS0] at e; cases e
        exact (Heap.get?_update_other _ _ hbS).trans (keep' b o e)
      · exact hit'.at fun o e => (Heap.get?_update_other _ _ (fun q : S = I => hIS q.symm)).trans e
      · rcases Nat.lt_or_ge j' (j + 1) with q | q
        · exact lexGt_max (hbest j' (by omega)) hb
        · have : j' = j + 1 := by omega
          subst this
          exact lexGt_irr _
    | false =>
      simp only [hb, show lexLt (rss.getD i []) (rss.getD (j + 1) []) = lexGt (rss.getD (j + 1) []) (rss.getD i []) from rfl, Bool.false_eq_true, if_false]
      refine wpAny_bind (wpAny_letGo ?_)
      rw [hname]
      refine wpAny_pure ⟨plainId_quiet PySem.F.plain_max_loop _, ih (j + 1) i _ c (by omega) hlt keep' hit' hS' (by omega) fun j' hj' => ?_⟩
      rcases Nat.lt_or_ge j' (j + 1) with q | q
      · exact hbest j' (by omega)
      · have : j' = j + 1 := by omega
        subst this
        exact hb

theorem max_rows (hh : A.handled = none) (hc : cls = "list" ∨ cls = "tuple") (hl : s.heap.IsList l (as.map Value.ref).toArray) (hz : as.length = rss.length) (hn : 0 < rss.length)
    (rows : ∀ i, i < rss.length → RowAt cls s.heap (as.getD i 0) (rss.getD i [])) (hu : A.in1.units < cLine)
    (hQ : ∀ i h', i < rss.length → (∀ j, j < rss.length → lexGt (rss.getD j []) (rss.getD i []) = false) → (∀ b o, s.heap.get? b = some o → h'.get? b = some o) → Q (.ref (as.getD i 0)) { s with heap := h' }) :
    wpAny (model prog w) A (call (.builtin "max") [.ref l]) Q E s := by
  have hname : (toString "max" ++ toString ".loop" : String) = "max.loop" := by decide
  refine call_function_tree PySem.F.kind_max PySem.F.plain_max PySem.F.entry_max (PySem.F.args_max1 _) ?_
  show wpAny _ A.in1 (Builtin.Builtins.bindParams "max" ["key", "default"] 0 ⟨[], []⟩ >>= _) _ _ s
  refine wpAny_bind (wpAny_of_eq (show Builtin.Builtins.bindParams "max" ["key", "default"] 0 ⟨[], []⟩ = pure [none, none] from rfl) ?_)
  refine wpAny_bind (wpAny_pure ?_)
  refine wpAny_bind (wpAny_pyIter_list hl ?_)
  refine wpAny_bind (wpAny_newObj_type ?_)
  rw [hname]
  have hsz : (s.heap.push { cls := .type "list_iterator", data := .fields #[.ref l, .int 0 0] }).objs.size = s.heap.objs.size + 1 := size_push' _ _
  refine wpAny_pure ⟨plainId_quiet PySem.F.plain_max_loop _, ?_⟩
  show codeAny _ _ _ _ { s with heap := (s.heap.push { cls := .type "list_iterator", data := .fields #[.ref l, .int 0 0] }).push { cls := .type "list", data := .seq #[] } }
  have hlt0 : ∀ {b o}, s.heap.get? b = some o → b < s.heap.objs.size := fun e => Heap.lt_size e
  have hS : ((s.heap.push { cls := .type "list_iterator", data := .fields #[.ref l, .int 0 0] }).push { cls := .type "list", data := .seq #[] }).get? (s.heap.objs.size + 1) = some (seqObj "list" #[] 0) := by
    rw [← hsz]; exact Heap.get?_push_size _ rfl
  have hIt : ((s.heap.push { cls := .type "list_iterator", data := .fields #[.ref l, .int 0 0] }).push { cls := .type "list", data := .seq #[] }).IsListIter s.heap.objs.size l 0 :=
    ⟨_, Heap.get?_push_of_some _ (Heap.get?_push_size _ rfl), rfl, rfl⟩
  have hkeep : ∀ b o, s.heap.get? b = some o → ((s.heap.push { cls := .type "list_iterator", data := .fields #[.ref l, .int 0 0] }).push { cls := .type "list", data := .seq #[] }).get? b = some o :=
    fun b o e => Heap.get?_push_of_some _ (Heap.get?_push_of_some _ e)
  have hI0 : s.heap.get? s.heap.objs.size = none := Heap.get?_none_of_le (Nat.le_refl _)
  have hS0 : s.heap.get? (s.heap.objs.size + 1) = none := Heap.get?_none_of_le (Nat.le_succ _)
  have hIS : s.heap.objs.size ≠ s.heap.objs.size + 1 := by omega
  refine codeAny_builtin PySem.F.entry_max_loop ?_
  rw [Around.under_plainId PySem.F.plain_max_loop _, hsz]
  show wpAny _ A.in1 (seqItems? (.ref (s.heap.objs.size + 1)) >>= _) _ _ _
  refine wpAny_bind (wpAny_seqItems hS rfl ?_)
  show wpAny _ A.in1 (tryCatch (pyNext (.ref s.heap.objs.size)) _ >>= _) _ _ _
  refine wpAny_bind (wpAny_tryCatch (wpAny_pyNext_list_item hIt (hl.at fun o e => hkeep l o e) (x := .ref (as.getD 0 0)) (by simp [hz, hn]) fun h' hit' hs' => ?_))
  have keep' : ∀ b o, s.heap.get? b = some o → h'.get? b = some o := fun b o e => (hs'.2 b (Nat.ne_of_lt (hlt0 e))).trans (hkeep b o e)
  have hS' : h'.get? (s.heap.objs.size + 1) = some (seqObj "list" #[] 0) := (hs'.2 _ (fun q => hIS q.symm)).trans hS
  show wpAny _ A.in1 (updateSeq (s.heap.objs.size + 1) (fun _ => #[Value.ref (as.getD 0 0), Value.ref (as.getD 0 0)]) >>= _) _ _ _
  refine wpAny_bind ?_
  refine wpAny_updateSeq hS' rfl ?_
  rw [hname]
  refine wpAny_pure ⟨plainId_quiet PySem.F.plain_max_loop _, max_loop_rows hh hc hl hz rows hI0 hS0 hIS hu (fun i h'' hi hb hk => hQ i h'' hi hb hk) _ 0 0 _ _ rfl hn (fun b o e => ?_) ?_ (Heap.get?_update_self _ hS' rfl) (Nat.le_refl _) fun j' hj' => ?_⟩
  · have hbS : s.heap.objs.size + 1 ≠ b := by rintro rfl; rw [hS0] at e; cases e
    exact (Heap.get?_update_other _ _ hbS).trans (keep' b o e)
  · exact hit'.at fun o e => (Heap.get?_update_other _ _ (fun q : s.heap.objs.size + 1 = s.heap.objs.size => hIS q.symm)).trans e
  · have : j' = 0 := by omega
    subst this
    exact lexGt_irr _
end
end Mine

set_option maxHeartbeats 4000000
namespace Mine

/-- what a tree of questions gives when `lt` answers, each question below `n` -/
def kw {α : Type} (lt : Nat → Nat → Bool) (n : Nat) : KasT α → (α → Prop) → Prop
  | .ret a, Q => Q a
  | .ask i j k, Q => i < n ∧ j < n ∧ kw lt n (k (lt i j)) Q
theorem kw_bind {α β : Type} {lt : Nat → Nat → Bool} {n : Nat} {f : α → KasT β} {Q : β → Prop} : ∀ (t : KasT α), kw lt n t (fun a => kw lt n (f a) Q) → kw lt n (t.bind f) Q
  | .ret _, h => h
  | .ask _ _ k, ⟨h1, h2, h3⟩ => ⟨h1, h2, kw_bind (k _) h3⟩
theorem kw_mono {α : Type} {lt : Nat → Nat → Bool} {n : Nat} {Q Q' : α → Prop} (hq : ∀ a, Q a → Q' a) : ∀ (t : KasT α), kw lt n t Q → kw lt n t Q'
  | .ret _, h => hq _ h
  | .ask _ _ k, ⟨h1, h2, h3⟩ => ⟨h1, h2, kw_mono hq (k _) h3⟩
theorem kw_wp {α : Type} {lt : Nat → Nat → Bool} {n : Nat} {cmp : Nat → Nat → (Bool → Shared → Prop) → Shared → Prop} {s : Shared} {G : α → Shared → Prop} (hc : ∀ i j C, i < n → j < n → C (lt i j) s → cmp i j C s) :
    ∀ (t : KasT α), kw lt n t (fun a => G a s) → t.kasWp cmp G s
  | .ret _, h => h
  | .ask i j k, ⟨h1, h2, h3⟩ => hc i j _ h1 h2 (kw_wp hc (k (lt i j)) h3)

section
variable {key : Nat → List Int} {n : Nat}
def kle (a b : List Int) : Prop := lexLt b a = false
theorem kle_refl (a : List Int) : kle a a := lexLt_irr a
theorem kle_trans {a b c : List Int} (h1 : kle a b) (h2 : kle b c) : kle a c := by
  unfold kle at *
  cases q : lexLt c a with
  | false => rfl
  | true =>
    cases r : lexLt b a with
    | true => rw [h1] at r; cases r
    | false =>
      cases r2 : lexLt a b with
      | true => have := lexLt_trans q r2; rw [h2] at this; cases this
      | false => have e := lexLt_tri r r2; subst e; rw [h2] at q; cases q
theorem kle_of_lt {a b : List Int} (h : lexLt a b = true) : kle a b := lexLt_asymm h
theorem kle_total {a b : List Int} : kle a b ∨ kle b a := by
  unfold kle
  cases q : lexLt b a with
  | false => exact .inl rfl
  | true => exact .inr (lexLt_asymm q)
theorem kle_anti {a b : List Int} (h1 : kle a b) (h2 : kle b a) : a = b := lexLt_tri h2 h1

def KP (key : Nat → List Int) (p : Array Nat) (i : Nat) : List Int := key (p.getD i 0)
def Srt (key : Nat → List Int) (p : Array Nat) (k : Nat) : Prop := ∀ i j, i ≤ j → j < k → kle (KP key p i) (KP key p j)
def NInc (key : Nat → List Int) (p : Array Nat) (k : Nat) : Prop := ∀ i j, i ≤ j → j < k → kle (KP key p j) (KP key p i)
def Pm (n : Nat) (p : Array Nat) : Prop := p.Perm (List.range n).toArray
theorem Pm.size {p : Array Nat} (h : Pm n p) : p.size = n := by have := Array.Perm.size_eq h; simpa using this
theorem Pm.lt {p : Array Nat} (h : Pm n p) {i : Nat} (hi : i < n) : p.getD i 0 < n := by
  have hs := h.size
  have e : p.getD i 0 = p[i] := by simp [Array.getD, hs, hi]
  rw [e]
  have hm : p[i] ∈ p.toList := by simp
  have := (Array.perm_iff_toList_perm.mp h).mem_iff.mp hm
  simpa using this
theorem Pm.rev {p : Array Nat} (h : Pm n p) (i j : Nat) : Pm n (kas_rev p i j) := (mirror_perm _ _ _ _).trans h
theorem Pm.bubble {p : Array Nat} (h : Pm n p) (i j : Nat) : Pm n (bubble p i j) := (bubble_perm _ _ _).trans h

theorem KP_congr {p q : Array Nat} {i j : Nat} (h : p[i]? = q[j]?) : KP key p i = KP key q j := by
  unfold KP
  simp only [Array.getD_eq_getD_getElem?, h]
theorem KP_rev {p : Array Nat} {i j : Nat} (hj : j ≤ p.size) (k : Nat) : KP key (kas_rev p i j) k = if i ≤ k ∧ k < j then KP key p (i + j - 1 - k) else KP key p k := by
  have e := getElem?_mirror_all (i := i) hj k
  by_cases h1 : i ≤ k ∧ k < j
  · rw [if_pos h1] at e ⊢; exact KP_congr e
  · rw [if_neg h1] at e ⊢; exact KP_congr e
theorem KP_rev_eq {p : Array Nat} {i j : Nat} (hj : j ≤ p.size) (heq : ∀ k, i ≤ k → k < j → KP key p k = KP key p (j - 1)) (k : Nat) : KP key (kas_rev p i j) k = KP key p k := by
  rw [KP_rev hj]
  split
  · rw [heq _ (by omega) (by omega), heq k (by omega) (by omega)]
  · rfl
theorem KP_bubble {p : Array Nat} {src d : Nat} (hs : src < p.size) (hd : d ≤ src) (k : Nat) :
    KP key (bubble p src d) k = if k = src - d then KP key p src else if src - d < k ∧ k ≤ src then KP key p (k - 1) else KP key p k := by
  have e := getElem?_bubble hs d hd k
  by_cases h1 : k = src - d
  · rw [if_pos h1] at e ⊢; exact KP_congr e
  · rw [if_neg h1] at e ⊢
    by_cases h2 : src - d < k ∧ k ≤ src
    · rw [if_pos h2] at e ⊢; exact KP_congr e
    · rw [if_neg h2] at e ⊢; exact KP_congr e

theorem srt_succ {p : Array Nat} {m : Nat} (h : Srt key p m) (h1 : 1 ≤ m) (hk : kle (KP key p (m - 1)) (KP key p m)) : Srt key p (m + 1) := by
  intro i j hij hj
  rcases Nat.lt_or_ge j m with q | q
  · exact h i j hij q
  · have : j = m := by omega
    subst this
    rcases Nat.lt_or_ge i j with q2 | q2
    · exact kle_trans (h i (j - 1) (by omega) (by omega)) hk
    · have : i = j := by omega
      subst this; exact kle_refl _
theorem ninc_succ {p : Array Nat} {m : Nat} (h : NInc key p m) (h1 : 1 ≤ m) (hk : kle (KP key p m) (KP key p (m - 1))) : NInc key p (m + 1) := by
  intro i j hij hj
  rcases Nat.lt_or_ge j m with q | q
  · exact h i j hij q
  · have : j = m := by omega
    subst this
    rcases Nat.lt_or_ge i j with q2 | q2
    · exact kle_trans hk (h i (j - 1) (by omega) (by omega))
    · have : i = j := by omega
      subst this; exact kle_refl _

abbrev lk (key : Nat → List Int) (i j : Nat) : Bool := lexLt (key i) (key j)

theorem asc_ok {p : Array Nat} (hp : Pm n p) {Q : Nat → Prop} : ∀ (f m : Nat), 1 ≤ m → m + f ≤ n → Srt key p m →
    (∀ m', m ≤ m' → m' ≤ m + f → Srt key p m' → (m' < m + f → lexLt (KP key p m') (KP key p (m' - 1)) = true) → Q m') → kw (lk key) n (kas_asc p f m) Q := by
  intro f
  induction f with
  | zero => intro m h1 h2 hs hQ; exact hQ m (Nat.le_refl _) (Nat.le_refl _) hs (fun q => by omega)
  | succ f ih =>
    intro m h1 h2 hs hQ
    refine ⟨hp.lt (by omega), hp.lt (by omega), ?_⟩
    dsimp only
    by_cases hb : lk key (p.getD m 0) (p.getD (m - 1) 0) = true
    · rw [if_pos hb]
      exact hQ m (Nat.le_refl _) (by omega) hs (fun _ => hb)
    · rw [if_neg hb]
      refine ih (m + 1) (by omega) (by omega) (srt_succ hs h1 ?_) fun m' a b c d => hQ m' (by omega) (by omega) c (fun q => d (by omega))
      exact Bool.eq_false_iff.mpr hb

theorem desc_ok {Q : Array Nat × Nat × Nat → Prop} : ∀ (f : Nat) (p : Array Nat) (m q : Nat), Pm n p → q + 1 ≤ m → m + f ≤ n → NInc key p m → (∀ i, m - (q + 1) ≤ i → i < m → KP key p i = KP key p (m - 1)) →
    (∀ p' m' q', Pm n p' → q' + 1 ≤ m' → m ≤ m' → m' ≤ m + f → NInc key p' m' → (∀ i, m' - (q' + 1) ≤ i → i < m' → KP key p' i = KP key p' (m' - 1)) → Q (p', m', q')) → kw (lk key) n (kas_desc f p m q) Q := by
  intro f
  induction f with
  | zero => intro p m q hp h1 h2 hs he hQ; exact hQ p m q hp h1 (Nat.le_refl _) (Nat.le_refl _) hs he
  | succ f ih =>
    intro p m q hp h1 h2 hs he hQ
    have hsz := hp.size
    refine ⟨hp.lt (by omega), hp.lt (by omega), ?_⟩
    dsimp only
    by_cases hb : lk key (p.getD m 0) (p.getD (m - 1) 0) = true
    · rw [if_pos hb]
      have hstep : NInc key p (m + 1) := ninc_succ hs (by omega) (kle_of_lt hb)
      by_cases hq : q > 0
      · rw [if_pos hq]
        have hK : ∀ k, KP key (kas_rev p (m - (q + 1)) m) k = KP key p k := fun k => KP_rev_eq (by omega) he k
        refine ih _ (m + 1) 0 (hp.rev _ _) (by omega) (by omega) (fun i j hij hj => by rw [hK, hK]; exact hstep i j hij hj) (fun i a b => ?_) fun p' m' q' a b c d e g => hQ p' m' q' a b (by omega) (by omega) e g
        have : i = m + 1 - 1 := by omega
        rw [this]
      · rw [if_neg hq]
        refine ih _ (m + 1) 0 hp (by omega) (by omega) hstep (fun i a b => ?_) fun p' m' q' a b c d e g => hQ p' m' q' a b (by omega) (by omega) e g
        have : i = m + 1 - 1 := by omega
        rw [this]
    · rw [if_neg hb]
      refine ⟨hp.lt (by omega), hp.lt (by omega), ?_⟩
      dsimp only
      by_cases hd : lk key (p.getD (m - 1) 0) (p.getD m 0) = true
      · rw [if_pos hd]
        exact hQ p m q hp h1 (Nat.le_refl _) (by omega) hs he
      · rw [if_neg hd]
        have heq : KP key p m = KP key p (m - 1) := lexLt_tri (Bool.eq_false_iff.mpr hb) (Bool.eq_false_iff.mpr hd)
        refine ih p (m + 1) (q + 1) hp (by omega) (by omega) (ninc_succ hs (by omega) (by rw [heq]; exact kle_refl _)) (fun i a b => ?_) fun p' m' q' a b c d e g => hQ p' m' q' a b (by omega) (by omega) e g
        show KP key p i = KP key p m
        rcases Nat.lt_or_ge i m with r | r
        · rw [he i (by omega) r, heq]
        · have : i = m := by omega
          rw [this]

theorem srt_rev {p : Array Nat} {m : Nat} (hm : m ≤ p.size) (h : NInc key p m) : Srt key (kas_rev p 0 m) m := by
  intro i j hij hj
  rw [KP_rev hm, KP_rev hm, if_pos (by omega), if_pos (by omega)]
  exact h _ _ (by omega) (by omega)

theorem tail3_ok {Q : Nat × Array Nat → Prop} {p : Array Nat} {m : Nat} (hp : Pm n p) (h1 : 1 ≤ m) (h2 : m ≤ n) (hs : NInc key p m) (hQ : ∀ m' p', Pm n p' → 1 ≤ m' → m' ≤ n → Srt key p' m' → Q (m', p')) :
    kw (lk key) n (kas_tail3 m n p) Q := by
  have hsz := hp.size
  exact kw_bind _ (asc_ok (hp.rev 0 m) (n - m) m h1 (by omega) (srt_rev (by omega) hs) fun m' a b c _ => hQ m' _ (hp.rev 0 m) (by omega) (by omega) c)

theorem descPart_ok {Q : Nat × Array Nat → Prop} {p : Array Nat} {m : Nat} (hp : Pm n p) (h1 : 1 ≤ m) (h2 : m + 1 ≤ n) (hs : NInc key p (m + 1)) (hQ : ∀ m' p', Pm n p' → 1 ≤ m' → m' ≤ n → Srt key p' m' → Q (m', p')) :
    kw (lk key) n (kas_descPart m n p) Q := by
  refine kw_bind _ (desc_ok (n - (m + 1)) p (m + 1) 0 hp (by omega) (by omega) hs (fun i a b => ?_) fun p' m' q' a b c d e g => ?_)
  · have : i = m + 1 - 1 := by omega
    rw [this]
  · have hsz := a.size
    dsimp only
    by_cases hq : q' > 0
    · rw [if_pos hq]
      have hK : ∀ k, KP key (kas_rev p' (m' - (q' + 1)) m') k = KP key p' k := fun k => KP_rev_eq (by omega) g k
      exact tail3_ok (a.rev _ _) (by omega) (by omega) (fun i j hij hj => by rw [hK, hK]; exact e i j hij hj) hQ
    · rw [if_neg hq]
      exact tail3_ok a (by omega) (by omega) e hQ

theorem count_ok {Q : Nat × Array Nat → Prop} {p : Array Nat} (hp : Pm n p) (h1 : 1 ≤ n) (hQ : ∀ m' p', Pm n p' → 1 ≤ m' → m' ≤ n → Srt key p' m' → Q (m', p')) : kw (lk key) n (kas_count n p) Q := by
  have hsz := hp.size
  refine kw_bind _ (asc_ok hp (n - 1) 1 (Nat.le_refl _) (by omega) (fun i j a b => by have : i = j := by omega
                                                                                      subst this; exact kle_refl _) fun m a b c d => ?_)
  by_cases e1 : (m == n) = true
  · rw [if_pos e1]
    exact hQ m p hp a (by omega) c
  · rw [if_neg e1]
    have hmn : m ≠ n := fun q => e1 (by rw [q]; exact beq_self_eq_true _)
    have hlt := d (by omega)
    by_cases e2 : m > 1
    · rw [if_pos e2]
      refine ⟨hp.lt (by omega), hp.lt (by omega), ?_⟩
      dsimp only
      by_cases hb : lk key (p.getD 0 0) (p.getD (m - 1) 0) = true
      · rw [if_pos hb]
        exact hQ m p hp a (by omega) c
      · rw [if_neg hb]
        have h0 : ∀ i, i < m → KP key p i = KP key p (m - 1) := fun i hi => by
          have hle : kle (KP key p (m - 1)) (KP key p 0) := Bool.eq_false_iff.mpr hb
          exact kle_anti (c i (m - 1) (by omega) (by omega)) (kle_trans hle (c 0 i (by omega) hi))
        have hK : ∀ k, KP key (kas_rev p 0 m) k = KP key p k := fun k => KP_rev_eq (by omega) (fun k _ b => h0 k b) k
        refine descPart_ok (hp.rev 0 m) a (by omega) (fun i j hij hj => ?_) hQ
        rw [hK, hK]
        rcases Nat.lt_or_ge j m with r | r
        · rw [h0 i (by omega), h0 j r]; exact kle_refl _
        · have : j = m := by omega
          subst this
          rcases Nat.lt_or_ge i j with r2 | r2
          · rw [h0 i r2]; exact kle_of_lt hlt
          · have : i = j := by omega
            subst this; exact kle_refl _
    · rw [if_neg e2]
      have hm1 : m = 1 := by omega
      subst hm1
      refine descPart_ok hp (Nat.le_refl _) (by omega) (fun i j hij hj => ?_) hQ
      have hcase : i = j ∨ (i = 0 ∧ j = 1) := by omega
      rcases hcase with rfl | ⟨rfl, rfl⟩
      · exact kle_refl _
      · exact kle_of_lt hlt

theorem place_ok {Q : Nat → Prop} {p : Array Nat} {k : Nat} (hp : Pm n p) (hk : k < n) (hs : Srt key p k) : ∀ (f l r : Nat), l ≤ r → r ≤ k → r - l ≤ f → (∀ i, i < l → kle (KP key p i) (KP key p k)) → (∀ i, r ≤ i → i < k → lexLt (KP key p k) (KP key p i) = true) →
    (∀ l', l' ≤ k → (∀ i, i < l' → kle (KP key p i) (KP key p k)) → (∀ i, l' ≤ i → i < k → lexLt (KP key p k) (KP key p i) = true) → Q l') → kw (lk key) n (kas_place p k f l r) Q := by
  intro f
  induction f with
  | zero =>
    intro l r h1 h2 h3 ha hb hQ
    have : l = r := by omega
    subst this
    exact hQ l h2 ha hb
  | succ f ih =>
    intro l r h1 h2 h3 ha hb hQ
    show kw (lk key) n (if l ≥ r then .ret l else .ask (p.getD k 0) (p.getD ((l + r) / 2) 0) fun c => if c = true then kas_place p k f l ((l + r) / 2) else kas_place p k f ((l + r) / 2 + 1) r) Q
    by_cases hge : l ≥ r
    · rw [if_pos hge]
      have : l = r := by omega
      subst this
      exact hQ l h2 ha hb
    · rw [if_neg hge]
      refine ⟨hp.lt hk, hp.lt (by omega), ?_⟩
      dsimp only
      by_cases hc : lk key (p.getD k 0) (p.getD ((l + r) / 2) 0) = true
      · rw [if_pos hc]
        refine ih _ _ (by omega) (by omega) (by omega) ha (fun i h4 h5 => ?_) hQ
        have hle := hs ((l + r) / 2) i h4 h5
        cases q : lexLt (KP key p k) (KP key p i) with
        | true => rfl
        | false => exact absurd (show lexLt (KP key p k) (KP key p ((l + r) / 2)) = true from hc) (by have := kle_trans hle (show kle (KP key p i) (KP key p k) from q); unfold kle at this; rw [this]; simp)
      · rw [if_neg hc]
        refine ih _ _ (by omega) h2 (by omega) (fun i h4 => ?_) hb hQ
        have : kle (KP key p ((l + r) / 2)) (KP key p k) := Bool.eq_false_iff.mpr hc
        exact kle_trans (hs i ((l + r) / 2) (by omega) (by omega)) this

theorem insert_srt {p : Array Nat} {k l : Nat} (hk : k < p.size) (hs : Srt key p k) (hl : l ≤ k) (ha : ∀ i, i < l → kle (KP key p i) (KP key p k)) (hb : ∀ i, l ≤ i → i < k → lexLt (KP key p k) (KP key p i) = true) : Srt key (bubble p k (k - l)) (k + 1) := by
  intro i j hij hj
  have e : k - (k - l) = l := by omega
  rw [KP_bubble hk (by omega), KP_bubble hk (by omega), e]
  by_cases hi : i = l
  · rw [if_pos hi]
    by_cases hj' : j = l
    · rw [if_pos hj']; exact kle_refl _
    · rw [if_neg hj', if_pos (by omega)]
      exact kle_of_lt (hb _ (by omega) (by omega))
  · rw [if_neg hi]
    by_cases hi2 : l < i ∧ i ≤ k
    · rw [if_pos hi2, if_neg (by omega), if_pos (by omega)]
      exact hs _ _ (by omega) (by omega)
    · rw [if_neg hi2]
      by_cases hj' : j = l
      · rw [if_pos hj']; exact ha _ (by omega)
      · rw [if_neg hj']
        by_cases hj2 : l < j ∧ j ≤ k
        · rw [if_pos hj2]; exact hs _ _ (by omega) (by omega)
        · rw [if_neg hj2]; exact hs _ _ hij (by omega)

theorem bin_ok {Q : Array Nat → Prop} (hQ : ∀ p', Pm n p' → Srt key p' n → Q p') : ∀ (f : Nat) (p : Array Nat) (k : Nat), Pm n p → k + f = n → Srt key p k → kw (lk key) n (kas_bin f p k) Q := by
  intro f
  induction f with
  | zero => intro p k hp hk hs; have : k = n := by omega
            subst this; exact hQ p hp hs
  | succ f ih =>
    intro p k hp hk hs
    have hsz := hp.size
    refine kw_bind _ (place_ok hp (by omega) hs k 0 k (Nat.zero_le _) (Nat.le_refl _) (by omega) (fun i h => by omega) (fun i h h' => by omega) fun l a b c => ?_)
    exact ih _ (k + 1) (hp.bubble _ _) (by omega) (insert_srt (by omega) hs a b c)

/-- the sort of fewer than 64 gives an ordered permutation -/
theorem sort_ok {Q : Array Nat → Prop} (h1 : 1 ≤ n) (hQ : ∀ p', Pm n p' → Srt key p' n → Q p') : kw (lk key) n (kas_sort n) Q := by
  have hp : Pm n (List.toArray (List.range n)) := Array.Perm.refl _
  refine kw_bind _ (count_ok hp h1 fun m p a b c d => ?_)
  dsimp only
  by_cases hlt : m < n
  · rw [if_pos hlt]
    have : max m 1 = m := by omega
    rw [this]
    exact bin_ok hQ (n - m) p m a (by omega) d
  · rw [if_neg hlt]
    have : m = n := by omega
    subst this
    exact hQ p a d
end
end Mine

set_option maxHeartbeats 4000000
namespace Mine

section
variable {prog : Program} {w : World} {A : Around} {E : Value → Shared → Prop} {s : Shared} {a b : Addr} {xs ys : List Int}
theorem oneLt_rows {Q : Bool → Shared → Prop} (ha : RowAt "list" s.heap a xs) (hb : RowAt "list" s.heap b ys) (hu : A.units < cLine) (h : Q (lexLt xs ys) s) : wpAny (model prog w) A (oneLt' true (.ref a) (.ref b)) Q E s := by
  obtain ⟨_, ho, vs, n, rfl, hx⟩ := ha
  obtain ⟨_, ho2, ws, n2, rfl, hy⟩ := hb
  rw [oneLt'_eq]
  simp only [if_true]
  refine wpAny_bind (wpAny_cRoomFor hu ?_)
  refine wpAny_bind (wpAny_callSpecialIfBound?_slot (T := "list") ⟨_, ho, rfl⟩ F.slot_list_lt (call_meets F.slot_list_lt ⟨_, ho, rfl⟩ F.entry_list_lt (F.args_list_lt_2 _ _) (list_ltL a b vs ws xs ys hx hy n n2) ⟨ho, ho2, ?_⟩))
  exact wpAny_truthy_bool h
end

/-- 64 rows that are never below one another: one run -/
theorem asc_same {n : Nat} {p : Array Nat} (hp : Pm n p) : ∀ (f m : Nat), 1 ≤ m → m + f ≤ n → ∀ {Q : Nat → Prop}, Q (m + f) → kw (fun _ _ => false) n (kas_asc p f m) Q
  | 0, _, _, _, _, h => h
  | f + 1, m, h1, h2, _, h => by
    refine ⟨hp.lt (by omega), hp.lt (by omega), ?_⟩
    dsimp only
    rw [if_neg (by simp)]
    exact asc_same hp f (m + 1) (by omega) (by omega) (by rw [show m + 1 + f = m + (f + 1) by omega]; exact h)
theorem count_same {n : Nat} (h1 : 1 ≤ n) {Q : Nat × Array Nat → Prop} (h : Q (n, List.toArray (List.range n))) : kw (fun _ _ => false) n (kas_count n (List.toArray (List.range n))) Q := by
  refine kw_bind _ (asc_same (Array.Perm.refl _) (n - 1) 1 (Nat.le_refl _) (by omega) ?_)
  rw [show 1 + (n - 1) = n by omega, if_pos (by simp)]
  exact h

section
variable {prog : Program} {w : World} {A : Around} {E : Value → Shared → Prop} {κ : SortKind} {it : Array Keyed}
theorem runs64 {Q : Unit → SortSt → Shared → Prop} {s : Shared}
    (hQ : ∀ st', arrOf st' = (List.toArray (List.range 64)).map (kas_item it) → failedOf st' = none → Q () st' s)
    (hc : ∀ i j C, i < 64 → j < 64 → C false s → kas_cmp prog w A κ it i j C s) :
    kasC (model prog w) A E sortRuns' Q (kas_st κ it (List.toArray (List.range 64))) s := by
  have hrs : (List.toArray (List.range 64)).size = 64 := by simp
  have h := kw_wp (lt := fun _ _ => false) (n := 64) (cmp := kas_cmp prog w A κ it) (s := s) (G := fun r s' => r = (64, List.toArray (List.range 64)) ∧ s' = s) hc _ (count_same (by omega) ⟨rfl, rfl⟩)
  rw [sortRuns'_eq]
  refine kasC_bind (kasC_get ?_)
  dsimp only
  have hsz : (arrOf (kas_st κ it (List.toArray (List.range 64)))).size = 64 := by
    show ((List.toArray (List.range 64)).map (kas_item it)).size = _
    rw [Array.size_map, hrs]
  have hmr : minRun' 64 64 0 = 32 := by
    rw [minRun'_succ 63 64 0, if_neg (by omega), minRun'_succ 62, if_pos (by omega)]; rfl
  simp only [hsz, hmr]
  refine kasC_bind (kasC_range ?_)
  show kasC _ _ _ (forIn (0 :: 1 :: List.range' 2 62) _ _) _ _ _
  refine kasC_cons ?_
  dsimp only
  rw [if_neg (by omega)]
  simp only [Nat.sub_zero, Nat.zero_add]
  refine kasC_bind (kas_count_ (by omega) (by rw [hrs]; exact Nat.le_refl _) (fun m p' s' hm1 hm2 hp hg => ?_) h)
  obtain ⟨hg1, rfl⟩ := hg
  obtain ⟨rfl, rfl⟩ := Prod.mk.inj hg1
  dsimp only
  rw [if_neg (by omega)]
  refine kasC_bind (kasC_get ?_)
  rw [show (pendingOf (kas_st κ it (List.toArray (List.range 64)))).back? = none from rfl]
  dsimp only
  refine kasC_bind (kasC_modify (kasC_pure ?_))
  show kasC _ _ _ (forIn (1 :: List.range' 2 62) _ _) _ _ _
  refine kasC_cons ?_
  dsimp only
  rw [if_pos (Nat.le_refl _)]
  refine kasC_pure ?_
  dsimp only
  refine kasC_bind (kasC_range ?_)
  show kasC _ _ _ (forIn (0 :: 1 :: List.range' 2 62) _ _) _ _ _
  refine kasC_cons ?_
  refine kasC_bind (kasC_get ?_)
  rw [if_pos (show (pendingOf (setPending (kas_st κ it (List.toArray (List.range 64))) ((pendingOf (kas_st κ it (List.toArray (List.range 64)))).push (0, 64, 0)))).size ≤ 1 from Nat.le_refl 1)]
  refine kasC_pure ?_
  dsimp only
  exact kasC_pure (hQ _ rfl rfl)
end

section
variable {prog : Program} {w : World} {A : Around} {E : Value → Shared → Prop} {s : Shared} {as : List Addr} {rss : List (List Int)} {l a : Addr}

def SortOut (rss : List (List Int)) (p : List Nat) : Prop := p.Perm (List.range rss.length) ∧ p.Pairwise fun i j => kle (rss.getD i []) (rss.getD j [])

theorem sortOut_of {p : Array Nat} (hp : Pm rss.length p) (hs : Srt (fun i => rss.getD i []) p rss.length) : SortOut rss p.toList := by
  have hz := hp.size
  refine ⟨?_, ?_⟩
  · have := Array.perm_iff_toList_perm.mp hp
    simpa using this
  · rw [List.pairwise_iff_getElem]
    intro i j hi hj hij
    have hi' : i < p.size := by simpa using hi
    have hj' : j < p.size := by simpa using hj
    have := hs i j (by omega) (by omega)
    unfold KP at this
    have e1 : p.getD i 0 = p.toList[i] := by simp [Array.getD, hi']
    have e2 : p.getD j 0 = p.toList[j] := by simp [Array.getD, hj']
    rw [e1, e2] at this
    exact this

theorem vs_getD (hz : as.length = rss.length) {i : Nat} (hi : i < rss.length) : (as.map Value.ref).getD i Value.none = .ref (as.getD i 0) := by
  have h : i < as.length := by omega
  simp [h]

theorem list_sort_rows {n : Nat} {P : PySem.Fin → Shared → Prop} (ho : s.heap.get? a = some (seqObj "list" (as.map Value.ref).toArray n)) (hz : as.length = rss.length) (h1 : 1 ≤ rss.length)
    (h64 : rss.length < 64 ∨ (rss.length = 64 ∧ ∀ i, i < 64 → rss.getD i [] = [])) (rows : ∀ i, i < rss.length → RowAt "list" s.heap (as.getD i 0) (rss.getD i [])) (hna : ∀ i, i < rss.length → as.getD i 0 ≠ a) (hu : A.units < cLine)
    (h : ∀ p, SortOut rss p → P (.done (.ret .none)) { s with heap := sortedHeap s.heap a (as.map Value.ref) (List.toArray (p.map fun i => Value.ref (as.getD i 0))) }) :
    wpAny (model prog w) A (Builtin.«list.sort» ⟨[.ref a], []⟩) P E s := by
  have ha : a < s.heap.objs.size := Heap.lt_size ho
  have hvl : (as.map Value.ref).length = rss.length := by simp [hz]
  rw [list_sort_plain]
  refine wpAny_bind (listItems_at ho rfl ?_)
  refine wpAny_bind (listUpdate_at ho rfl ?_ (by rw [List.size_toArray, sizeLine_eq]; omega) (Nat.zero_le _))
  obtain ⟨e1, ho1⟩ : ∃ e1, (s.heap.update a (Obj.mapSeq fun _ => (#[] : Array Value))).get? a = some (seqObj "list" #[] e1) := ⟨_, get?_update_seq ho (fun _ => #[])⟩
  refine wpAny_bind (seqEpoch_at ho1 rfl ?_)
  refine wpAny_bind (wpAny_newTuple ?_ (by show (as.map Value.ref).length ≤ _; rw [sizeLine_eq]; omega))
  refine wpAny_bind (wpAny_newList ?_ (Nat.zero_le _))
  refine wpAny_holding ?_
  have hold : ∀ b o, b ≠ a → s.heap.get? b = some o → (((s.heap.update a (Obj.mapSeq fun _ => (#[] : Array Value))).push (seqObj "tuple" (as.map Value.ref).toArray 0)).push (seqObj "list" #[] 0)).get? b = some o := fun b o hb e =>
    Heap.get?_push_of_some _ (Heap.get?_push_of_some _ ((Heap.get?_update_other _ _ (fun q => hb q.symm)).trans e))
  have ho6 : (((s.heap.update a (Obj.mapSeq fun _ => (#[] : Array Value))).push (seqObj "tuple" (as.map Value.ref).toArray 0)).push (seqObj "list" #[] 0)).get? a = some (seqObj "list" #[] e1) :=
    Heap.get?_push_of_some _ (Heap.get?_push_of_some _ ho1)
  have rows' : ∀ i, i < rss.length → RowAt "list" (((s.heap.update a (Obj.mapSeq fun _ => (#[] : Array Value))).push (seqObj "tuple" (as.map Value.ref).toArray 0)).push (seqObj "list" #[] 0)) (as.getD i 0) (rss.getD i []) := fun i hi => by
    obtain ⟨o, q, r⟩ := rows i hi
    exact ⟨o, hold _ _ (hna i hi) q, r⟩
  show wpAny (model prog w) A _ P E { s with heap := ((s.heap.update a (Obj.mapSeq fun _ => (#[] : Array Value))).push (seqObj "tuple" (as.map Value.ref).toArray 0)).push (seqObj "list" #[] 0) }
  dsimp only
  have hsz : (as.map Value.ref).toArray.size = rss.length := by rw [List.size_toArray, hvl]
  by_cases h2 : (as.map Value.ref).toArray.size < 2
  · rw [if_pos h2, if_pos h2]
    refine wpAny_bind (wpAny_pure ?_)
    rw [StateT.run_pure]
    refine wpAny_bind (wpAny_pure ?_)
    dsimp only
    have hone : rss.length = 1 := by omega
    obtain ⟨x, rfl⟩ : ∃ x, as = [x] := by
      match as, hz with
      | [x], _ => exact ⟨x, rfl⟩
      | [], q => simp at q; omega
      | _ :: _ :: _, q => simp at q; omega
    have hout : (arrOf (SortSt.mk' general' ((List.map Value.ref [x]).toArray.zip (List.map Value.ref [x]).toArray) #[] 7 none)).map (·.2) = List.toArray ([0].map fun i => Value.ref ([x].getD i 0)) := by
      show ((List.map Value.ref [x]).toArray.zip (List.map Value.ref [x]).toArray).map (·.2) = _
      simp
    rw [hout]
    refine wpAny_bind (seqEpoch_at ho6 rfl ?_)
    refine wpAny_bind (listUpdate_at ho6 rfl ?_ (Nat.zero_le _) (hsz2 := by rw [List.size_toArray, List.length_map, sizeLine_eq]; simp))
    simp only [bne_self_eq_false, Bool.false_eq_true, if_false]
    refine wpAny_pure (h [0] ⟨by rw [hone]; exact List.Perm.refl _, by simp⟩)
  · rw [if_neg h2, if_neg h2]
    have hT : ∀ v ∈ as.map Value.ref, Looks (model prog w) (((s.heap.update a (Obj.mapSeq fun _ => (#[] : Array Value))).push (seqObj "tuple" (as.map Value.ref).toArray 0)).push (seqObj "list" #[] 0)) (typeOf v) (.type "list") := fun v hv => by
      obtain ⟨x, hx, rfl⟩ := List.mem_map.mp hv
      obtain ⟨i, hi, rfl⟩ := List.mem_iff_getElem.mp hx
      obtain ⟨o, q, vs, k, rfl, _⟩ := rows' i (by omega)
      have e : as.getD i 0 = as[i] := by simp [hi]
      rw [e] at q
      exact (Looks.ld q).andThen .now
    refine wpAny_bind (kas_kind (T := .type "list") (by omega) hT (by decide) (by decide) ?_)
    have hcmp : ∀ i j C, i < rss.length → j < rss.length → C (lexLt (rss.getD i []) (rss.getD j [])) { s with heap := ((s.heap.update a (Obj.mapSeq fun _ => (#[] : Array Value))).push (seqObj "tuple" (as.map Value.ref).toArray 0)).push (seqObj "list" #[] 0) } →
        kas_cmp prog w A oneType' (pairsOf (as.map Value.ref)) i j C { s with heap := ((s.heap.update a (Obj.mapSeq fun _ => (#[] : Array Value))).push (seqObj "tuple" (as.map Value.ref).toArray 0)).push (seqObj "list" #[] 0) } := fun i j C hi hj hC => by
      rw [← kas_ask_eq]
      unfold kas_ask
      rw [vs_getD hz hi, vs_getD hz hj, keyLt'_oneType]
      exact oneLt_rows (rows' i hi) (rows' j hj) hu hC
    have est : SortSt.mk' oneType' ((as.map Value.ref).toArray.zip (as.map Value.ref).toArray) #[] 7 none = kas_st oneType' (pairsOf (as.map Value.ref)) (List.toArray (List.range rss.length)) := by
      have e := kas_range (pairsOf (as.map Value.ref))
      rw [pairsOf_size, hvl] at e
      show SortSt.mk' oneType' (pairsOf (as.map Value.ref)) #[] 7 none = SortSt.mk' oneType' ((List.toArray (List.range rss.length)).map (kas_item (pairsOf (as.map Value.ref)))) #[] 7 none
      rw [e]
    have run : kasC (model prog w) A E sortRuns' (fun _ st' s' => ∃ p : Array Nat, Pm rss.length p ∧ arrOf st' = p.map (kas_item (pairsOf (as.map Value.ref))) ∧ failedOf st' = none ∧ SortOut rss p.toList ∧
        s' = { s with heap := ((s.heap.update a (Obj.mapSeq fun _ => (#[] : Array Value))).push (seqObj "tuple" (as.map Value.ref).toArray 0)).push (seqObj "list" #[] 0) })
        (kas_st oneType' (pairsOf (as.map Value.ref)) (List.toArray (List.range rss.length))) { s with heap := ((s.heap.update a (Obj.mapSeq fun _ => (#[] : Array Value))).push (seqObj "tuple" (as.map Value.ref).toArray 0)).push (seqObj "list" #[] 0) } := by
      rcases h64 with h64 | ⟨h64, hall⟩
      · refine kas_runs (G := fun p s' => (Pm rss.length p ∧ Srt (fun i => rss.getD i []) p rss.length) ∧ s' = { s with heap := ((s.heap.update a (Obj.mapSeq fun _ => (#[] : Array Value))).push (seqObj "tuple" (as.map Value.ref).toArray 0)).push (seqObj "list" #[] 0) }) (by omega) h64 (fun p' st' s' a1 a2 a3 a4 => ?_) ?_
        · obtain ⟨⟨b1, b2⟩, rfl⟩ := a4
          exact ⟨p', b1, a2, a3, sortOut_of b1 b2, rfl⟩
        · exact kw_wp (lt := lk fun i => rss.getD i []) (n := rss.length) hcmp _ (sort_ok h1 fun p' b1 b2 => ⟨⟨b1, b2⟩, rfl⟩)
      · rw [h64]
        refine runs64 (fun st' a2 a3 => ?_) fun i j C hi hj hC => hcmp i j C (by omega) (by omega) ?_
        · have hp : Pm rss.length (List.toArray (List.range 64)) := by rw [h64]; exact Array.Perm.refl _
          refine ⟨List.toArray (List.range 64), Array.Perm.refl _, a2, a3, sortOut_of hp fun i j hij hj => ?_, rfl⟩
          show kle (rss.getD ((List.toArray (List.range 64)).getD i 0) []) (rss.getD ((List.toArray (List.range 64)).getD j 0) [])
          rw [hall _ (by have := hp.lt (i := i) (by omega); omega), hall _ (by have := hp.lt (i := j) (by omega); omega)]
          exact kle_refl _
        · rw [hall i hi, hall j hj]; exact hC
    rw [← est] at run
    refine wpAny_bind (wpAny_mono run ?_ fun _ _ e => e)
    rintro ⟨⟨⟩, st'⟩ s' ⟨p, hp, har, hf, hso, rfl⟩
    dsimp only
    have hout : (arrOf st').map (·.2) = List.toArray (p.toList.map fun i => Value.ref (as.getD i 0)) := by
      apply Array.toList_inj.mp
      rw [har, Array.map_map, Array.toList_map]
      refine List.map_congr_left fun i hi => ?_
      have hi' : i < rss.length := by
        have := (Array.perm_iff_toList_perm.mp hp).mem_iff.mp hi
        simpa using this
      show (kas_item (pairsOf (as.map Value.ref)) i).2 = _
      rw [kas_item_eq]
      exact vs_getD hz hi'
    rw [hout]
    have hps := hp.size
    refine wpAny_bind (seqEpoch_at ho6 rfl ?_)
    refine wpAny_bind (listUpdate_at ho6 rfl ?_ (Nat.zero_le _) (hsz2 := by rw [List.size_toArray, List.length_map, Array.length_toList, sizeLine_eq]; omega))
    rw [hf]
    simp only [bne_self_eq_false, Bool.false_eq_true, if_false]
    exact wpAny_pure (h p.toList hso)

theorem sorted_rows {Q : Value → Shared → Prop} (hl : s.heap.IsList l (as.map Value.ref).toArray) (hz : as.length = rss.length) (h1 : 1 ≤ rss.length)
    (h64 : rss.length < 64 ∨ (rss.length = 64 ∧ ∀ i, i < 64 → rss.getD i [] = [])) (rows : ∀ i, i < rss.length → RowAt "list" s.heap (as.getD i 0) (rss.getD i [])) (hu : A.in1.in1.units < cLine)
    (hQ : ∀ p e h', SortOut rss p → h'.get? (s.heap.objs.size + 1) = some (seqObj "list" (p.map fun i => Value.ref (as.getD i 0)).toArray e) → (∀ b o, s.heap.get? b = some o → h'.get? b = some o) → Q (.ref (s.heap.objs.size + 1)) { s with heap := h' }) :
    wpAny (model prog w) A (call (.builtin "sorted") [.ref l]) Q E s := by
  have hvl : (as.map Value.ref).length = rss.length := by simp [hz]
  refine Calls.call_function_entry kind_sorted plain_sorted entry_sorted (args_sorted1 _) ?_
  unfold Builtin.«sorted»
  refine wpAny_bind (m := checkCount "sorted" 1 1 _) (wpAny_pure ?_)
  refine wpAny_bind (collect_list hl ?_ (by rw [sizeLine_eq]; omega))
  refine wpAny_bind (wpAny_newList ?_ (by rw [sizeLine_eq]; omega))
  have hsz : ((s.heap.push (seqObj "list" #[] 0)).update s.heap.objs.size (Obj.mapSeq (· ++ (as.map Value.ref).toArray))).objs.size = s.heap.objs.size + 1 := by
    rw [Heap.size_update, size_push']
  have hoL : (((s.heap.push (seqObj "list" #[] 0)).update s.heap.objs.size (Obj.mapSeq (· ++ (as.map Value.ref).toArray))).push (seqObj "list" (as.map Value.ref).toArray 0)).get? (s.heap.objs.size + 1) = some (seqObj "list" (as.map Value.ref).toArray 0) := by
    rw [← hsz]; exact Heap.get?_push_size _ rfl
  have keep : ∀ b o, s.heap.get? b = some o → (((s.heap.push (seqObj "list" #[] 0)).update s.heap.objs.size (Obj.mapSeq (· ++ (as.map Value.ref).toArray))).push (seqObj "list" (as.map Value.ref).toArray 0)).get? b = some o := fun b o q =>
    Heap.get?_push_of_some _ ((Heap.get?_update_other _ _ (Nat.ne_of_gt (Heap.lt_size q))).trans (Heap.get?_push_of_some _ q))
  show wpAny _ _ _ _ _ { s with heap := ((s.heap.push (seqObj "list" #[] 0)).update s.heap.objs.size (Obj.mapSeq (· ++ (as.map Value.ref).toArray))).push (seqObj "list" (as.map Value.ref).toArray 0) }
  rw [hsz]
  refine wpAny_bind (wpAny_holding (wpAny_call_entry slot_list_sort ⟨_, hoL, rfl⟩ entry_list_sort (list_sort_rows (rss := rss) hoL hz h1 h64 (fun i hi => ?_) (fun i hi => ?_) hu fun p hp => ⟨_, rfl, ?_⟩) (args_list_sort _)))
  · obtain ⟨o, q, r⟩ := rows i hi
    exact ⟨o, keep _ _ q, r⟩
  · obtain ⟨o, q, _⟩ := rows i hi
    exact Nat.ne_of_lt (Nat.lt_succ_of_lt (Heap.lt_size q))
  · refine wpAny_pure ⟨_, rfl, ?_⟩
    obtain ⟨e, he⟩ := sortedAll_at s.heap (as.map Value.ref) (List.toArray (p.map fun i => Value.ref (as.getD i 0)))
    exact hQ p e _ hp he fun _ _ => sortedAll_old
end
end Mine

set_option maxHeartbeats 4000000
namespace Mine
section
variable {prog : Program} {w : World} {A : Around} {E Q : Value → Shared → Prop} {s : Shared} {l a b : Addr} {xs ys : List Int} {cls : String}
theorem item_list {value slice : PySem.Expr} {vs : List Value} {k : Int} {u : Tok} {v : Value}
    (hl : s.heap.IsList l vs.toArray) (h0 : 0 ≤ k) (hhi : k < 2 ^ 63) (hx : vs[k.toNat]? = some v) (h : Q v s)
    (hs : subscripted slice false (.ref l) (.int k u) = operate [.ref l, .int k u] (getItem (.ref l) (.int k u)) := by with_unfolding_all rfl) :
    wpAny (model prog w) A (subscriptTail value slice (.ref l) (.int k u)) Q E s :=
  tail_any hl.typeIs slot_list_getitem.lookup (wpAny_getItem_list hl h0 hhi (by simpa using hx) h) hs
theorem refs_at {as : List Addr} {n i : Nat} (hz : as.length = n) (hi : i < n) : (as.map Value.ref)[i]? = some (.ref (as.getD i 0)) := by
  have h : i < as.length := by omega
  simp [h]
theorem isEmpty_of {α : Type} {xs : List α} (h : 0 < xs.length) : (!xs.toArray.isEmpty) = true := by
  cases xs with
  | nil => simp at h
  | cons _ _ => simp
theorem isi_seq {D : Addr} (hc : cls = "list" ∨ cls = "tuple") {o : Obj} (ho : s.heap.get? a = some o) (hr : o.cls = .type cls)
    (hD : s.heap.get? D = some { cls := .type "tuple", data := .seq #[.type "list", .type "tuple"] }) (h : ∀ tk, Q (.bool true) { s with toks := tk }) :
    wpAny (model prog w) A (call (.builtin "isinstance") [.ref a, .ref D]) Q E s := by
  rcases hc with rfl | rfl
  · exact IsiPair.tupleOfB (Tx := "list") (cs := [.type "list", .type "tuple"]) (vs := [true, false])
      (AnswersAll.cons (Answers.of_true rfl AutoSeq1.sub_list_list) (AnswersAll.cons (Answers.of_false_list (by decide) rfl AutoSeq1.sub_list_tuple) AnswersAll.nil)) ⟨o, ho, hr⟩ hD rfl h
  · exact IsiPair.tupleOfB (Tx := "tuple") (cs := [.type "list", .type "tuple"]) (vs := [false, true])
      (AnswersAll.cons (Answers.of_false_tuple (by decide) rfl AutoSeq1.sub_tuple_list) (AnswersAll.cons (Answers.of_true rfl AutoSeq1.sub_tuple_tuple) AnswersAll.nil)) ⟨o, ho, hr⟩ hD rfl h
end
def RowsIn (cls : String) (news : List (Addr × Obj)) (as : List Addr) (rss : List (List Int)) : Prop :=
  as.length = rss.length ∧ ∀ i, i < rss.length → ∃ o, (as.getD i 0, o) ∈ news ∧ RowObj cls o (rss.getD i [])
theorem RowsIn.at {cls : String} {news : List (Addr × Obj)} {as : List Addr} {rss : List (List Int)} {h₀ h : Heap} {L : Addr} (r : RowsIn cls news as rss) (N : News h₀ L h news) :
    ∀ i, i < rss.length → RowAt cls h (as.getD i 0) (rss.getD i []) := fun i hi => by
  obtain ⟨o, hm, hr⟩ := r.2 i hi
  exact ⟨o, (N _ hm).1, hr⟩
theorem RowsIn.more {cls : String} {news news' : List (Addr × Obj)} {as : List Addr} {rss : List (List Int)} (r : RowsIn cls news as rss) (h : ∀ p ∈ news, p ∈ news') : RowsIn cls news' as rss :=
  ⟨r.1, fun i hi => let ⟨o, hm, hr⟩ := r.2 i hi; ⟨o, h _ hm, hr⟩⟩
theorem News.sub {h₀ h : Heap} {L : Addr} {news news' : List (Addr × Obj)} (N : News h₀ L h news) (hs : ∀ p ∈ news', p ∈ news) : News h₀ L h news' := fun p hp => N p (hs p hp)
theorem News.tail1 {h₀ h : Heap} {L : Addr} {q : Addr × Obj} {news : List (Addr × Obj)} (N : News h₀ L h (q :: news)) : News h₀ L h news := fun p hp => N p (.tail _ hp)
end Mine

set_option maxHeartbeats 4000000
namespace Mine
open PySem.AutoSeq1 (wpAny_loadPart')

theorem meets_enum_tuple (l : Addr) (items : Array Value) (n : Nat) (dct : Option Addr) (sl : Array (Option Value)) :
    Meets (Builtin.«enumerate.__new__» ⟨[.type "enumerate", .ref l], []⟩) (fun _ R s => s.heap.get? l = some { cls := .type "tuple", dict := dct, data := .seq items n, slots := sl } ∧
      R (.ok (.ret (.ref (s.heap.push { cls := .type "tuple_iterator", data := .fields #[.ref l, .int 0 0] }).objs.size)))
        { s with heap := (s.heap.push { cls := .type "tuple_iterator", data := .fields #[.ref l, .int 0 0] }).push { cls := .type "enumerate", data := .fields #[.none, .bool false, .ref s.heap.objs.size, rawInt 0, .none, .none] } }) :=
  .of_wp fun prog w A R s h => by
    obtain ⟨hp, g, d, tk, os⟩ := s; obtain ⟨hl, h⟩ := h
    have hsub := sub_enumerate
    have hL : Heap.IsTuple (Shared.heap ⟨hp, g, d, tk, os⟩) l items := ⟨_, hl, rfl, n, rfl⟩
    wp_walk using wpAny_loadPart' hl
    refine wpAny_stack_any fun st => wpAny_pure ?_
    split
    · rename_i c _ _ _ _ _
      cases (c == Value.type "enumerate")
      · wp_walk using wpAny_loadPart' hl, wpAny_pyIter_tuple hL
        exact ⟨_, rfl, h⟩
      · wp_walk using wpAny_loadPart' hl, wpAny_pyIter_tuple hL
        exact ⟨_, rfl, h⟩
    · wp_walk using wpAny_loadPart' hl, wpAny_pyIter_tuple hL
      exact ⟨_, rfl, h⟩

section
variable {prog : Program} {w : World} {A : Around} {E : Value → Shared → Prop} {s : Shared}

theorem enum_tuple {l : Addr} {items : Array Value} {Q : Value → Shared → Prop} (hL : s.heap.IsTuple l items)
    (h : ∀ h', IsEnum h' (s.heap.objs.size + 1) s.heap.objs.size 0 .none → h'.IsTupleIter s.heap.objs.size l 0 → h'.objs.size = s.heap.objs.size + 2 →
      (∀ b o, s.heap.get? b = some o → h'.get? b = some o) → Q (.ref (s.heap.objs.size + 1)) { s with heap := h' }) :
    wpAny (model prog w) A (call (.type "enumerate") [.ref l]) Q E s := by
  obtain ⟨⟨c, dct, dt, sl⟩, hl, hc, n, hd⟩ := hL
  replace hc : c = .type "tuple" := hc
  replace hd : dt = .seq items n := hd
  subst hc hd
  refine callType_new F.called_enumerate (by decide) (F.typeCall_enumerate_1 _) (F.newCall_enumerate_1 _) (fun obj => F.args_object_init_2 obj _) F.entry_enumerate_new
    (meets_enum_tuple l items n dct sl) ⟨hl, ?_⟩
  have hz : (s.heap.push { cls := .type "tuple_iterator", data := .fields #[.ref l, .int 0 0] }).objs.size = s.heap.objs.size + 1 := Heap.size_push ..
  show _ ∧ _
  rw [hz]
  have he : IsEnum ((s.heap.push { cls := .type "tuple_iterator", data := .fields #[.ref l, .int 0 0] }).push
      { cls := .type "enumerate", data := .fields #[.none, .bool false, .ref s.heap.objs.size, rawInt 0, .none, .none] }) (s.heap.objs.size + 1) s.heap.objs.size 0 .none := by
    have := Heap.get?_push_size (s.heap.push { cls := .type "tuple_iterator", data := .fields #[.ref l, .int 0 0] })
      (o := { cls := .type "enumerate", data := .fields #[.none, .bool false, .ref s.heap.objs.size, rawInt 0, .none, .none] }) rfl
    rw [hz] at this; exact this
  refine ⟨⟨_, he, rfl⟩, h _ he ⟨_, Heap.get?_push_of_some _ (Heap.get?_push_size _ rfl), rfl, rfl⟩ (by rw [Heap.size_push, hz]) fun b o x => Heap.get?_push_of_some _ (Heap.get?_push_of_some _ x)⟩

theorem nextOf_tuple_item {it l : Addr} {i : Nat} {items} {x : Value} {Q : Value → Shared → Prop} (hit : s.heap.IsTupleIter it l i)
    (hl : s.heap.IsTuple l items) (hx : items[i]? = some x)
    (hQ : ∀ h', h'.IsTupleIter it l (i + 1) → Heap.SameBut it s.heap h' → Q x { s with heap := h' }) :
    wpAny (model prog w) A (Builtin.SmallTypes.nextOf (.ref it)) Q E s := by
  obtain ⟨o, ho, hc, hd⟩ := id hit
  obtain ⟨ol, hol, _, nl, hdl⟩ := hl
  unfold Builtin.SmallTypes.nextOf
  refine wpAny_bind (wpAny_callSpecial?_slot (name := Str.ofString "__next__") hit.typeIs F.slot_tuple_iterator_next
    (wpAny_call_entry F.slot_tuple_iterator_next hit.typeIs F.entry_tuple_iterator_next ?_ (F.args_tuple_iterator_next_1 _)))
  show wpAny _ _ (field (.ref it) 0 >>= _) _ _ s
  refine wpAny_bind (wpAny_field ho hd (x := .ref l) rfl ?_)
  show wpAny _ _ (if (Value.ref l == Value.none) = true then _ else _) _ _ s
  rw [if_neg (show ¬ ((Value.ref l == Value.none) = true) from Bool.false_ne_true)]
  show wpAny _ _ (field (.ref it) 1 >>= _) _ _ s
  refine wpAny_bind (wpAny_field ho hd (x := .int i 0) rfl ?_)
  show wpAny _ _ (seqItems? (.ref l) >>= _) _ _ s
  refine wpAny_bind (wpAny_seqItems hol hdl ?_)
  simp only [Int.toNat_natCast, hx]
  refine wpAny_bind (wpAny_setField ho hd (by simp) (wpAny_pure ⟨x, rfl, wpAny_pure (hQ _ ?_ (Heap.SameBut.update ..))⟩))
  exact ⟨_, Heap.get?_update_self _ ho (Obj.isFreed_of_fields (Obj.data_mapFields hd _)), (Obj.cls_mapFields ..).trans hc, by
    rw [Obj.data_mapFields hd]; simp [rawInt]⟩

theorem nextOf_tuple_end {it l : Addr} {i : Nat} {items} {Q : Value → Shared → Prop} (hh : A.handled = none)
    (hit : s.heap.IsTupleIter it l i) (hl : s.heap.IsTuple l items) (hx : items[i]? = none)
    (hE : ∀ h' e, Heap.ExtBut it s.heap h' → (∃ o, h'.get? e = some o ∧ o.cls = .type "StopIteration") → E (.ref e) { s with heap := h' }) :
    wpAny (model prog w) A (Builtin.SmallTypes.nextOf (.ref it)) Q E s := by
  obtain ⟨o, ho, hc, hd⟩ := id hit
  obtain ⟨ol, hol, _, nl, hdl⟩ := hl
  unfold Builtin.SmallTypes.nextOf
  refine wpAny_bind (wpAny_callSpecial?_slot (name := Str.ofString "__next__") hit.typeIs F.slot_tuple_iterator_next
    (wpAny_call_entry F.slot_tuple_iterator_next hit.typeIs F.entry_tuple_iterator_next ?_ (F.args_tuple_iterator_next_1 _)))
  show wpAny _ _ (field (.ref it) 0 >>= _) _ _ s
  refine wpAny_bind (wpAny_field ho hd (x := .ref l) rfl ?_)
  show wpAny _ _ (if (Value.ref l == Value.none) = true then _ else _) _ _ s
  rw [if_neg (show ¬ ((Value.ref l == Value.none) = true) from Bool.false_ne_true)]
  show wpAny _ _ (field (.ref it) 1 >>= _) _ _ s
  refine wpAny_bind (wpAny_field ho hd (x := .int i 0) rfl ?_)
  show wpAny _ _ (seqItems? (.ref l) >>= _) _ _ s
  refine wpAny_bind (wpAny_seqItems hol hdl ?_)
  simp only [Int.toNat_natCast, hx]
  refine wpAny_bind (wpAny_rule (wpAny_bind (wpAny_setField ho hd (by simp) ?_)))
  show wpAny _ _ (newExc (.type "StopIteration") [] >>= _) _ _ _
  refine wpAny_bind ?_
  simp only [newExc, newTuple]
  refine wpAny_bind (wpAny_newObj_type ?_ (by size_fits))
  refine wpAny_bind (m := firstArgMember _ _) (wpAny_of_eq (a := Value.none) (by first | rfl | (simp only [firstArgMember]; rfl)) ?_)
  refine wpAny_newObj_type ?_ (by size_fits)
  simp only [raiseNew]
  refine wpAny_bind (wpAny_handled ?_)
  first | rw [show A.in1.handled = none from hh] | rw [hh]
  refine wpAny_bind (wpAny_pure (wpAny_throw ?_))
  exact hE _ _ (((Heap.SameBut.update ..).extBut.push _).push _) ⟨_, Heap.get?_push_size _ rfl, rfl⟩
end
theorem IsTuple.at {h h' : Heap} {a items} (x : h.IsTuple a items) (e : ∀ o, h.get? a = some o → h'.get? a = some o) : h'.IsTuple a items := let ⟨o, ho, r⟩ := x; ⟨o, e _ ho, r⟩
theorem IsTupleIter.at {h h' : Heap} {a l i} (x : h.IsTupleIter a l i) (e : ∀ o, h.get? a = some o → h'.get? a = some o) : h'.IsTupleIter a l i := let ⟨o, ho, r⟩ := x; ⟨o, e _ ho, r⟩

theorem drawsTuple {prog : Program} {w : World} {A : Around} (hh : A.handled = none) (it l : Addr) (hne : l ≠ it) (items : Array Value) :
    Draws prog w A it [it, l] items.size (fun i v => items[i]? = some v) (fun i h => h.IsTupleIter it l i ∧ h.IsTuple l items) where
  live := fun _ _ st => let ⟨o, ho, _⟩ := st.1; ⟨o, ho⟩
  frame := fun _ _ _ st hk => ⟨IsTupleIter.at st.1 fun o e => hk it (by simp) o e, IsTuple.at st.2 fun o e => hk l (by simp) o e⟩
  item := fun i s Q E hi st hQ => by
    refine nextOf_tuple_item st.1 st.2 (x := items[i]) (by simp [hi]) fun h' hit' hs' => ?_
    exact hQ _ h' s.toks (by simp [hi]) ⟨hit', st.2.extBut hs'.extBut hne⟩ hs'
  done := fun s Q E st hE => nextOf_tuple_end hh st.1 st.2 (by simp) hE

/-- enumerate over a row that the ledger bears -/
theorem enum_row {prog : Program} {w : World} {A : Around} {E : Value → Shared → Prop} {s : Shared} {env : Env} {h₀ : Heap} {m : Str → Option Value} {news : List (Addr × Obj)} {cls : String} {a : Addr} {o : Obj} {xs : List Int} {xi xc : Str} {body : List Stmt} {Q : Flow → Shared → Prop}
    (hh : A.handled = none) (hc : cls = "list" ∨ cls = "tuple") (F : Fr h₀ env.locals s.heap m) (N : News h₀ env.locals s.heap news) (hm : (a, o) ∈ news) (hr : RowObj cls o xs)
    (J : Nat → (Str → Option Value) → List (Addr × Obj) → Prop) (h0 : J 0 m news)
    (turn : ∀ (i : Nat) x t u m₁ news₁ h tk own, xs[i]? = some x → J i m₁ news₁ → news₁.map (·.1) = news.map (·.1) →
      Fr h₀ env.locals h (fun y => if y = xc then some (.int x u) else if y = xi then some (.int i t) else m₁ y) → News h₀ env.locals h (own ++ news₁) →
      wpAny (model prog w) A (execs body env) (LoopStep3 h₀ env.locals own news₁ (J (i + 1)) { s with heap := h, toks := tk } (fun v s' => Q (.ret v) s') fun s' => Q .next s') E { s with heap := h, toks := tk })
    (done : ∀ h' tk m' news', Fr h₀ env.locals h' m' → News h₀ env.locals h' news' → news'.map (·.1) = news.map (·.1) → J xs.length m' news' → Q .next { s with heap := h', toks := tk }) :
    wpAny (model prog w) A (call (.type "enumerate") [.ref a]) (fun xv s₁ => wpAny (model prog w) A (pyIter xv) (fun it s₂ => PairAt3 prog w A h₀ env xi xc body Q E it s₂) E s₁) E s := by
  obtain ⟨vs, n, rfl, hI⟩ := hr
  have ha := (N _ hm).1
  have haL := (N _ hm).2.1
  have ha0 := (N _ hm).2.2
  have halt : a < s.heap.objs.size := Heap.lt_size ha
  have hLs : env.locals < s.heap.objs.size := F.ns.lt
  have hab : h₀.objs.size ≤ env.locals := F.above
  have hlen := hI.length
  have core : ∀ (h' : Heap) (P : Nat → Value → Prop) (St : Nat → Heap → Prop), Draws prog w A.in1 s.heap.objs.size [s.heap.objs.size, a] vs.toArray.size P St → (∀ i x, P i x → vs.toArray[i]? = some x) → IsEnum h' (s.heap.objs.size + 1) s.heap.objs.size 0 .none → St 0 h' →
      (∀ b o, s.heap.get? b = some o → h'.get? b = some o) → wpAny (model prog w) A (pyIter (.ref (s.heap.objs.size + 1))) (fun it s₂ => PairAt3 prog w A h₀ env xi xc body Q E it s₂) E { s with heap := h' } := by
    intro h' P St D hP he hst hk
    refine wpAny_pyIter_enum he ?_
    have hef : s.heap.objs.size + 1 ∉ [s.heap.objs.size, a] := fun q => by
      rcases List.mem_cons.mp q with q | q
      · exact Nat.succ_ne_self _ q
      · exact Nat.ne_of_gt (Nat.lt_succ_of_lt halt) (List.mem_singleton.mp q)
    refine ⟨s.heap.objs.size + 1, _, _, vs.toArray.size, _, _, _, (fun i v0 v1 => ∃ t, v0 = .int i t ∧ P i v1), m, news, J, rfl, WalksT.enumerateD D (s.heap.objs.size + 1) (Nat.succ_ne_self _) hef (by simp), ?_, ?_, ?_, ?_, ⟨⟨_, by simpa using he⟩, hst⟩, F.kept hk, N.grown hk, h0, ?_, ?_⟩
    · rintro i vals ⟨t, x, hPx, rfl⟩
      exact ⟨_, _, rfl, t, rfl, hPx⟩
    · intro q
      rcases List.mem_cons.mp q with q | q
      · exact Nat.ne_of_lt (Nat.lt_succ_of_lt hLs) q
      · rcases List.mem_cons.mp q with q | q
        · exact Nat.ne_of_lt hLs q
        · exact haL (List.mem_singleton.mp q).symm
    · intro b hb
      rcases List.mem_cons.mp hb with rfl | hb
      · exact Heap.get?_none_of_le (Nat.le_trans hab (Nat.le_of_lt (Nat.lt_succ_of_lt hLs)))
      · rw [List.mem_singleton.mp hb]; exact Heap.get?_none_of_le (Nat.le_trans hab (Nat.le_of_lt hLs))
    · intro p hp hb
      have hq1 : p.1 < s.heap.objs.size := Heap.lt_size (N p hp).1
      rcases List.mem_cons.mp hb with e1 | hb
      · exact Nat.ne_of_lt (Nat.lt_succ_of_lt hq1) e1
      · exact Nat.ne_of_lt hq1 (List.mem_singleton.mp hb)
    · rintro i v0 v1 m₁ news₁ s₁ own ⟨hh₁, tk₁, rfl⟩ _ ⟨t, rfl, hPx⟩ hJ hadr hsub F₁ N₁
      obtain ⟨x, u, rfl, hx⟩ := hI.at i v1 (by simpa using hP i v1 hPx)
      exact turn i x t u m₁ news₁ hh₁ tk₁ own hx hJ hadr F₁ N₁
    · intro h'' tk m' news' F' N' hadr hJ
      exact done h'' tk m' news' F' N' hadr (by rw [← hlen]; simpa using hJ)
  rcases hc with rfl | rfl
  · refine call_enumerate_list (items := vs.toArray) ⟨_, ha, rfl, n, rfl⟩ fun h' he hit hsz hk => ?_
    exact core h' _ _ (Draws.list (A := A.in1) hh s.heap.objs.size a (Nat.ne_of_lt halt) vs.toArray) (fun i x h => h) he ⟨hit, ⟨_, hk _ _ ha, rfl, n, rfl⟩⟩ hk
  · refine enum_tuple (items := vs.toArray) ⟨_, ha, rfl, n, rfl⟩ fun h' he hit hsz hk => ?_
    exact core h' _ _ (drawsTuple (A := A.in1) hh s.heap.objs.size a (Nat.ne_of_lt halt) vs.toArray) (fun i x h => h) he ⟨hit, ⟨_, hk _ _ ha, rfl, n, rfl⟩⟩ hk

def EnumJ (P : Nat → Prop) (m : Str → Option Value) (xi xc : Str) (news : List (Addr × Obj)) (i : Nat) (m' : Str → Option Value) (nx : List (Addr × Obj)) : Prop :=
  nx = news ∧ P i ∧ ∃ vi vc, m' = fun y => if y = xc then vc else if y = xi then vi else m y

theorem enum_row2 {prog : Program} {w : World} {A : Around} {E : Value → Shared → Prop} {s : Shared} {env : Env} {h₀ : Heap} {m : Str → Option Value} {news : List (Addr × Obj)} {cls : String} {a : Addr} {o : Obj} {xs : List Int} {xi xc : Str} {body : List Stmt} {Q : Flow → Shared → Prop}
    (hh : A.handled = none) (hc : cls = "list" ∨ cls = "tuple") (F : Fr h₀ env.locals s.heap m) (N : News h₀ env.locals s.heap news) (hm : (a, o) ∈ news) (hr : RowObj cls o xs)
    (P : Nat → Prop) (h0 : P 0)
    (turn : ∀ (i : Nat) x t u h tk own, xs[i]? = some x → P i → 
      Fr h₀ env.locals h (fun y => if y = xc then some (.int x u) else if y = xi then some (.int i t) else m y) → News h₀ env.locals h (own ++ news) →
      wpAny (model prog w) A (execs body env) (LoopStep3 h₀ env.locals own news (EnumJ P m xi xc news (i + 1)) { s with heap := h, toks := tk } (fun v s' => Q (.ret v) s') fun s' => Q .next s') E { s with heap := h, toks := tk })
    (done : ∀ h' tk vi vc, Fr h₀ env.locals h' (fun y => if y = xc then vc else if y = xi then vi else m y) → News h₀ env.locals h' news → P xs.length → Q .next { s with heap := h', toks := tk }) :
    wpAny (model prog w) A (call (.type "enumerate") [.ref a]) (fun xv s₁ => wpAny (model prog w) A (pyIter xv) (fun it s₂ => PairAt3 prog w A h₀ env xi xc body Q E it s₂) E s₁) E s := by
  refine enum_row hh hc F N hm hr (EnumJ P m xi xc news) ⟨rfl, h0, m xi, m xc, ?_⟩ ?_ ?_
  · funext y
    by_cases h1 : y = xc
    · rw [if_pos h1, h1]
    · rw [if_neg h1]
      by_cases h2 : y = xi
      · rw [if_pos h2, h2]
      · rw [if_neg h2]
  · rintro i x t u m₁ news₁ h tk own hx ⟨rfl, hP, vi, vc, rfl⟩ hadr F₁ N₁
    have e : (fun y => if y = xc then some (Value.int x u) else if y = xi then some (Value.int i t) else if y = xc then vc else if y = xi then vi else m y) = fun y => if y = xc then some (Value.int x u) else if y = xi then some (Value.int i t) else m y := by
      funext y
      by_cases h1 : y = xc
      · simp [h1]
      · by_cases h2 : y = xi
        · simp [h1, h2]
        · simp [h1, h2]
    rw [e] at F₁
    exact turn i x t u h tk own hx hP F₁ N₁
  · rintro h' tk m' news' F' N' hadr ⟨rfl, hP, vi, vc, rfl⟩
    exact done h' tk vi vc F' N' hP

theorem enumEnd {h₀ h' : Heap} {L : Addr} {own news : List (Addr × Obj)} {P : Nat → Prop} {m : Str → Option Value} {xi xc : Str} {i : Nat} {s₁ : Shared} {tk : Nat} {Qr : Value → Shared → Prop} {Qb : Shared → Prop} {vi vc : Option Value}
    (F : Fr h₀ L h' (fun y => if y = xc then vc else if y = xi then vi else m y)) (N : News h₀ L h' (own ++ news)) (hP : P (i + 1)) :
    LoopStep3 h₀ L own news (EnumJ P m xi xc news (i + 1)) s₁ Qr Qb .next { s₁ with heap := h', toks := tk } :=
  ⟨rfl, h', tk, _, news, rfl, F, N, rfl, rfl, hP, vi, vc, rfl⟩

section
variable {prog : Program} {w : World} {A : Around} {E Q : Value → Shared → Prop} {s : Shared} {a : Addr} {xs : List Int} {cls : String}
theorem item_row {value slice : PySem.Expr} {k : Int} {u : Tok} (hc : cls = "list" ∨ cls = "tuple") (hr : RowAt cls s.heap a xs)
    (h0 : 0 ≤ k) (hk : k < xs.length) (hhi : k < 2 ^ 63) (h : ∀ t, Q (.int (xs.getD k.toNat 0) t) s)
    (hs : subscripted slice false (.ref a) (.int k u) = operate [.ref a, .int k u] (getItem (.ref a) (.int k u)) := by with_unfolding_all rfl) :
    wpAny (model prog w) A (subscriptTail value slice (.ref a) (.int k u)) Q E s := by
  obtain ⟨_, ho, vs, n, rfl, hI⟩ := hr
  have hk' : k.toNat < xs.length := by omega
  obtain ⟨t, ht⟩ := ints_at hI hk'
  have e : xs.getD k.toNat 0 = xs[k.toNat] := by simp [hk']
  rw [e] at h
  rcases hc with rfl | rfl
  · exact item_list (vs := vs) ⟨_, ho, rfl, n, rfl⟩ h0 hhi ht (h t) hs
  · refine item_tupleT (l := vs) ⟨_, ho, rfl, n, rfl⟩ (by omega) hhi (j := k.toNat) ?_ ht (h t) hs
    have hl := hI.length
    unfold seqIndex?
    simp only [show ¬ k < 0 by omega, if_false]
    rw [if_pos (by simp; omega)]
end

/-- the least and the greatest agree so far: the greatest has the place -/
theorem cp_bound : ∀ {X Y : List Int} {i : Nat}, lexLt Y X = false → i < X.length → (∀ j, j < i → X[j]? = Y[j]?) → i < Y.length
  | [], _, _, _, h, _ => by simp at h
  | x :: X, [], i, hle, _, _ => by simp [lexLt] at hle
  | x :: X, y :: Y, 0, _, _, _ => by simp
  | x :: X, y :: Y, i + 1, hle, hi, hag => by
    have e : x = y := by have := hag 0 (by omega); simpa using this
    subst e
    have hle' : lexLt Y X = false := by simpa [lexLt] using hle
    have := cp_bound (i := i) hle' (by simpa using hi) fun j hj => by have := hag (j + 1) (by omega); simpa using this
    simpa using this
end Mine

set_option maxHeartbeats 4000000
namespace Mine

theorem get_getD {Y : List Int} {i : Nat} (h : i < Y.length) : Y[i]? = some (Y.getD i 0) := by simp [h]
theorem getD_mem {rss : List (List Int)} {i : Nat} (h : i < rss.length) : rss.getD i [] ∈ rss := by
  have e : rss.getD i [] = rss[i] := by simp [h]
  rw [e]; exact List.getElem_mem h
theorem mem_getD {rss : List (List Int)} {r : List Int} (h : r ∈ rss) : ∃ j, j < rss.length ∧ r = rss.getD j [] := by
  obtain ⟨j, hj, rfl⟩ := List.mem_iff_getElem.mp h
  exact ⟨j, hj, by simp [hj]⟩
theorem min_all {rss : List (List Int)} {X : List Int} (h : ∀ j, j < rss.length → lexLt (rss.getD j []) X = false) : ∀ r ∈ rss, kle X r := fun r hr => by
  obtain ⟨j, hj, rfl⟩ := mem_getD hr
  exact h j hj
theorem max_all {rss : List (List Int)} {Y : List Int} (h : ∀ j, j < rss.length → lexGt (rss.getD j []) Y = false) : ∀ r ∈ rss, kle r Y := fun r hr => by
  obtain ⟨j, hj, rfl⟩ := mem_getD hr
  exact h j hj

theorem adjust_to (b n : Nat) (hb : b ≤ n) : Builtin.Slice.sliceAdjust none (some (b : Int)) 1 (n : Int) = (0, (b : Int)) := by
  unfold Builtin.Slice.sliceAdjust
  have h1 : ¬ ((1 : Int) < 0) := by omega
  have h2 : ¬ ((b : Int) < 0) := by omega
  simp only [h1, h2, if_false]
  congr 1
  omega
theorem places_to (b : Nat) : Builtin.Slice.slicePlaces 0 (b : Int) 1 = b := by
  unfold Builtin.Slice.slicePlaces
  have h1 : (1 : Int) > 0 := by omega
  simp only [h1, if_true, Int.ediv_one]
  split <;> omega

section
variable {prog : Program} {w : World} {A : Around} {E Q : Value → Shared → Prop} {s : Shared} {h₀ : Heap} {L a : Addr} {m : Str → Option Value} {news : List (Addr × Obj)} {xs : List Int} {cls : String}

theorem sliceApplied_to {sl : Addr} {b n : Nat} {u : Tok} {Q : Int × Int × Nat → Shared → Prop} (hs : s.heap.IsSliceOf sl .none (.int b u) .none) (hb : b ≤ n) (h : Q (0, 1, b) s) :
    wpAny (model prog w) A (Builtin.Slice.sliceApplied (.ref sl) (pure (n : Int))) Q E s := by
  obtain ⟨os, hos, hcs, hds⟩ := id hs
  unfold Builtin.Slice.sliceApplied Builtin.Slice.sliceFields
  refine wpAny_bind (wpAny_bind (wpAny_field hos hds (x := .none) rfl (wpAny_bind (wpAny_field hos hds (x := .int b u) rfl (wpAny_bind (wpAny_field hos hds (x := .none) rfl (wpAny_pure ?_)))))))
  refine wpAny_bind (slicePart_none ?_)
  show wpAny _ _ (if ((1 : Int) == 0) = true then _ else _) _ _ s
  rw [if_neg (by decide)]
  refine wpAny_bind (slicePart_none (wpAny_bind (slicePart_int (wpAny_bind (wpAny_pure ?_)))))
  show wpAny _ _ (match Builtin.Slice.sliceAdjust none (some (b : Int)) 1 (n : Int) with | (lo, hi) => pure (lo, (1 : Int), Builtin.Slice.slicePlaces lo hi 1)) _ _ s
  rw [adjust_to b n hb]
  show wpAny _ _ (pure ((0 : Int), (1 : Int), Builtin.Slice.slicePlaces 0 (b : Int) 1)) _ _ s
  rw [places_to b]
  exact wpAny_pure h

theorem pick_to (xs : Array Value) (b : Nat) : ((List.range b).filterMap fun (k : Nat) => xs[((0 : Int) + (k : Int) * 1).toNat]?).toArray = (xs.toList.take b).toArray := by
  have e : (fun (k : Nat) => xs[((0 : Int) + (k : Int) * 1).toNat]?) = fun k => xs[0 + k]? := by
    funext k
    have : ((0 : Int) + (k : Int) * 1).toNat = 0 + k := by omega
    rw [this]
  rw [e]
  have := pick_run xs 0 b
  rw [List.filterMap_map] at this
  have e2 : ((fun x => xs[x]?) ∘ fun x => 0 + x) = fun k => xs[0 + k]? := rfl
  rw [e2] at this
  rw [this, List.drop_zero]

theorem getItem_tuple_to {t sl : Addr} {items : Array Value} {b : Nat} {u : Tok} (ht : IsTup s.heap t items) (hs : s.heap.IsSliceOf sl .none (.int b u) .none) (hb : b < items.size)
    (h : Q (.ref s.heap.objs.size) { s with heap := s.heap.push { cls := .type "tuple", data := .seq (items.toList.take b).toArray } })
    (hsz : items.size ≤ sizeLine) : wpAny (model prog w) A (getItem (.ref t) (.ref sl)) Q E s := by
  have hdrop : sizeOk (.seq (items.toList.take b).toArray) := by
    show (items.toList.take b).toArray.size ≤ sizeLine
    rw [List.size_toArray, List.length_take, Array.length_toList]
    omega
  obtain ⟨os, hos, hcs, hds⟩ := id hs
  have hTs : s.TypeIs (.ref sl) "slice" := ⟨os, hos, hcs⟩
  unfold getItem
  try with_reducible refine wpAny_holding ?_
  first | refine wpAny_bind (wpAny_pure ?_) | skip
  refine wpAny_bind (wpAny_sequenceKey ht.typeIs (by decide) ?_)
  refine wpAny_bind (wpAny_callSpecial?_slot (name := Str.ofString "__getitem__") ht.typeIs PyProof.Rows.slot_tuple_getitem
    (wpAny_call_entry PyProof.Rows.slot_tuple_getitem ht.typeIs entry_tuple_getitem ?_ (args_tuple_getitem _ _)))
  show wpAny _ _ (Builtin.Tuple.tupleItemsOf (.ref t) >>= _) _ _ s
  refine wpAny_bind (tupleItemsOf_ ht ?_)
  refine wpAny_bind (wpAny_typeOf hTs ?_)
  rw [if_pos (by decide)]
  refine wpAny_bind (sliceApplied_to hs (Nat.le_of_lt hb) ?_)
  have hno : ¬ (((0 : Int) == 0 && (1 : Int) == 1 && b == items.size) = true) := by
    have : (b == items.size) = false := by rw [beq_eq_false_iff_ne]; omega
    rw [this]; simp
  show wpAny _ _ (if ((0 : Int) == 0 && (1 : Int) == 1 && b == items.size) = true then _ else _) _ _ s
  rw [if_neg hno, pick_to items b]
  first
    | exact wpAny_bind (m := Builtin.Tuple.tupleExact _) (wpAny_newObj_type (wpAny_pure ⟨_, rfl, wpAny_pure h⟩) hdrop)
    | exact wpAny_bind (m := Builtin.Tuple.tupleExact _) (wpAny_newObj_type (wpAny_bind (wpAny_pure (wpAny_pure ⟨_, rfl, wpAny_pure h⟩))) hdrop)
    | exact wpAny_bind (wpAny_bind (m := Builtin.Tuple.tupleExact _) (wpAny_newObj_type (wpAny_pure (wpAny_pure ⟨_, rfl, wpAny_pure h⟩)) hdrop))
    | exact wpAny_bind (wpAny_bind (m := Builtin.Tuple.tupleExact _) (wpAny_newObj_type (wpAny_pure ⟨_, rfl, wpAny_pure h⟩) hdrop))

/-- a row's beginning, short of the whole -/
theorem slice_row {value slice : PySem.Expr} {k : Nat} {u : Tok} (hc : cls = "list" ∨ cls = "tuple") (F : Fr h₀ L s.heap m) (N : News h₀ L s.heap news) (hr : RowAt cls s.heap a xs) (hk : k < xs.length) (hlen : xs.length ≤ 1000)
    (h : ∀ h' o, Fr h₀ L h' m → News h₀ L h' ((s.heap.objs.size + 1, o) :: news) → RowObj cls o (xs.take k) → Q (.ref (s.heap.objs.size + 1)) { s with heap := h' })
    (hs : subscripted slice false (.ref a) (.ref s.heap.objs.size) = operate [.ref s.heap.objs.size, .ref a] (getItem (.ref a) (.ref s.heap.objs.size)) := by with_unfolding_all rfl)
    (ht : ∀ r, letTemporaryGo value (.ref a) r = pure () := by intro _; with_unfolding_all rfl) :
    wpAny (model prog w) A (subscriptTail value slice (.ref a) (.ref s.heap.objs.size)) Q E { s with heap := s.heap.push { cls := .type "slice", data := .fields #[.none, .int k u, .none] } } := by
  obtain ⟨_, ho, vs, n, rfl, hI⟩ := hr
  have hl := hI.length
  have hsz : vs.toArray.size ≤ sizeLine := by rw [List.size_toArray, sizeLine_eq]; omega
  rcases hc with rfl | rfl
  · refine slice_list F N (items := vs.toArray) ⟨_, ho, rfl, n, rfl⟩ .none (.int _ u) (fun h' F' N' => ?_) hs ht hsz
    rw [slicePick_upto _ k (by rw [List.size_toArray]; omega)] at N'
    exact h h' _ F' N' ⟨vs.take k, 0, by simp, hI.take k⟩
  · have htt : IsTup (s.heap.push { cls := .type "slice", data := .fields #[.none, .int k u, .none] }) a vs.toArray := ⟨_, Heap.get?_push_of_some _ ho, rfl, n, rfl⟩
    refine subscriptTail_ops (s := { s with heap := s.heap.push { cls := .type "slice", data := .fields #[.none, .int k u, .none] } }) htt.typeIs PyProof.Rows.slot_tuple_getitem.lookup
      (getItem_tuple_to htt (Heap.IsSliceOf.new ..) (by rw [List.size_toArray]; omega) ?_ hsz) hs ht
    have N1 := News.push (F.push { cls := .type "slice", data := .fields #[.none, .int k u, .none] }) (N.grown fun _ _ e => Heap.get?_push_of_some _ e) { cls := .type "tuple", data := .seq (vs.toArray.toList.take k).toArray }
    rw [Heap.size_push] at N1
    show Q (.ref (s.heap.push _).objs.size) _
    rw [Heap.size_push]
    exact h _ _ ((F.push _).push _) N1 ⟨vs.take k, 0, by simp, hI.take k⟩
end
end Mine

namespace Mine

def lcp2 : List Int → List Int → List Int
  | x :: xs, y :: ys => if x = y then x :: lcp2 xs ys else []
  | _, _ => []
def gcp : List (List Int) → List Int
  | [] => []
  | r :: rs => rs.foldl lcp2 r

theorem lcp2_left : ∀ xs ys : List Int, lcp2 xs ys <+: xs
  | [], ys => by cases ys <;> exact List.nil_prefix
  | x :: xs, [] => List.nil_prefix
  | x :: xs, y :: ys => by
    unfold lcp2
    split
    · exact List.cons_prefix_cons.mpr ⟨rfl, lcp2_left xs ys⟩
    · exact List.nil_prefix
theorem lcp2_comm : ∀ xs ys : List Int, lcp2 xs ys = lcp2 ys xs
  | [], [] => rfl
  | [], _ :: _ => rfl
  | _ :: _, [] => rfl
  | x :: xs, y :: ys => by
    unfold lcp2
    by_cases h : x = y
    · rw [if_pos h, if_pos h.symm, lcp2_comm xs ys, h]
    · rw [if_neg h, if_neg (fun q => h q.symm)]
theorem lcp2_right (xs ys : List Int) : lcp2 xs ys <+: ys := by rw [lcp2_comm]; exact lcp2_left ys xs
theorem lcp2_max : ∀ {p xs ys : List Int}, p <+: xs → p <+: ys → p <+: lcp2 xs ys
  | [], _, _, _, _ => List.nil_prefix
  | a :: p, [], _, h, _ => by simp at h
  | a :: p, _ :: _, [], _, h => by simp at h
  | a :: p, x :: xs, y :: ys, h1, h2 => by
    obtain ⟨e1, g1⟩ := List.cons_prefix_cons.mp h1
    obtain ⟨e2, g2⟩ := List.cons_prefix_cons.mp h2
    unfold lcp2
    rw [if_pos (e1.symm.trans e2)]
    exact List.cons_prefix_cons.mpr ⟨e1, lcp2_max g1 g2⟩
theorem prefix_anti {a b : List Int} (h1 : a <+: b) (h2 : b <+: a) : a = b := h1.eq_of_length (Nat.le_antisymm h1.length_le h2.length_le)

def IsGcp (rss : List (List Int)) (xs : List Int) : Prop := (∀ r ∈ rss, xs <+: r) ∧ ∀ p, (∀ r ∈ rss, p <+: r) → p <+: xs
theorem IsGcp.unique {rss : List (List Int)} {xs ys : List Int} (h1 : IsGcp rss xs) (h2 : IsGcp rss ys) : xs = ys := prefix_anti (h2.2 _ h1.1) (h1.2 _ h2.1)
theorem IsGcp.congr {rss rss' : List (List Int)} {xs : List Int} (h : IsGcp rss xs) (e : ∀ r, r ∈ rss ↔ r ∈ rss') : IsGcp rss' xs :=
  ⟨fun r hr => h.1 r ((e r).mpr hr), fun p hp => h.2 p fun r hr => hp r ((e r).mp hr)⟩
theorem gcp_go : ∀ (rs : List (List Int)) (r : List Int), (rs.foldl lcp2 r <+: r) ∧ (∀ q ∈ rs, rs.foldl lcp2 r <+: q) ∧ ∀ p, p <+: r → (∀ q ∈ rs, p <+: q) → p <+: rs.foldl lcp2 r
  | [], r => ⟨List.prefix_refl _, fun _ h => (nomatch h), fun _ h _ => h⟩
  | q :: rs, r => by
    obtain ⟨a, b, c⟩ := gcp_go rs (lcp2 r q)
    refine ⟨a.trans (lcp2_left _ _), fun q' hq => ?_, fun p h1 h2 => c p (lcp2_max h1 (h2 q (.head _))) fun q' hq => h2 q' (.tail _ hq)⟩
    rcases List.mem_cons.mp hq with rfl | hq
    · exact a.trans (lcp2_right _ _)
    · exact b q' hq
theorem gcp_is {rss : List (List Int)} (h : 0 < rss.length) : IsGcp rss (gcp rss) := by
  cases rss with
  | nil => simp at h
  | cons r rs =>
    obtain ⟨a, b, c⟩ := gcp_go rs r
    refine ⟨fun q hq => ?_, fun p hp => c p (hp r (.head _)) fun q hq => hp q (.tail _ hq)⟩
    rcases List.mem_cons.mp hq with rfl | hq
    · exact a
    · exact b q hq
theorem gcp_of {rss : List (List Int)} {xs : List Int} (h : 0 < rss.length) (hx : IsGcp rss xs) : gcp rss = xs := (gcp_is h).unique hx
theorem gcp_congr {rss rss' : List (List Int)} (h : 0 < rss.length) (h' : 0 < rss'.length) (e : ∀ r, r ∈ rss ↔ r ∈ rss') : gcp rss' = gcp rss := gcp_of h' ((gcp_is h).congr e)

/-- what begins the least and the greatest begins all between -/
theorem squeeze : ∀ {p X r Y : List Int}, kle X r → kle r Y → p <+: X → p <+: Y → p <+: r
  | [], _, _, _, _, _, _, _ => List.nil_prefix
  | a :: p, X, r, Y, h1, h2, h3, h4 => by
    obtain ⟨X', rfl⟩ : ∃ X', X = a :: X' := by
      cases X with
      | nil => simp at h3
      | cons x X => exact ⟨X, by rw [(List.cons_prefix_cons.mp h3).1]⟩
    obtain ⟨Y', rfl⟩ : ∃ Y', Y = a :: Y' := by
      cases Y with
      | nil => simp at h4
      | cons x X => exact ⟨X, by rw [(List.cons_prefix_cons.mp h4).1]⟩
    cases r with
    | nil => simp [kle, lexLt] at h1
    | cons b r =>
      have e : b = a := by
        unfold kle lexLt at h1 h2
        by_cases q : b = a
        · exact q
        · rw [if_neg q] at h1
          rw [if_neg (fun z => q z.symm)] at h2
          have := of_decide_eq_false h1
          have := of_decide_eq_false h2
          omega
      subst e
      unfold kle lexLt at h1 h2
      rw [if_pos rfl] at h1 h2
      exact List.cons_prefix_cons.mpr ⟨rfl, squeeze h1 h2 (List.cons_prefix_cons.mp h3).2 (List.cons_prefix_cons.mp h4).2⟩

theorem gcp_minmax {rss : List (List Int)} {X Y : List Int} (hX : X ∈ rss) (hY : Y ∈ rss) (h1 : ∀ r ∈ rss, kle X r) (h2 : ∀ r ∈ rss, kle r Y) : gcp rss = lcp2 X Y :=
  gcp_of (List.length_pos_of_mem hX) ⟨fun r hr => squeeze (h1 r hr) (h2 r hr) (lcp2_left X Y) (lcp2_right X Y), fun _ hp => lcp2_max (hp X hX) (hp Y hY)⟩

theorem lcp2_whole : ∀ {X Y : List Int}, (∀ j, j < X.length → X[j]? = Y[j]?) → lcp2 X Y = X
  | [], Y, _ => by cases Y <;> rfl
  | x :: X, [], h => by have := h 0 (by simp); simp at this
  | x :: X, y :: Y, h => by
    have e : x = y := by have := h 0 (by simp); simpa using this
    unfold lcp2
    rw [if_pos e, lcp2_whole fun j hj => by have := h (j + 1) (by simpa using hj); simpa using this]
theorem lcp2_part : ∀ {X Y : List Int} {i : Nat}, (∀ j, j < i → X[j]? = Y[j]?) → i < X.length → i < Y.length → X[i]? ≠ Y[i]? → lcp2 X Y = X.take i
  | [], _, _, _, h, _, _ => by simp at h
  | x :: X, [], _, _, _, h, _ => by simp at h
  | x :: X, y :: Y, 0, _, _, _, h => by
    unfold lcp2
    rw [if_neg (by simpa using h)]; rfl
  | x :: X, y :: Y, i + 1, h, h1, h2, h3 => by
    have e : x = y := by have := h 0 (by omega); simpa using this
    unfold lcp2
    rw [if_pos e, lcp2_part (i := i) (fun j hj => by have := h (j + 1) (by omega); simpa using this) (by simpa using h1) (by simpa using h2) (by simpa using h3)]
    rfl
theorem gcp_cut {rss : List (List Int)} {X r : List Int} {z : Nat} (hX : X ∈ rss) (hr : r ∈ rss) (hP : ∀ r ∈ rss, X.take z <+: r) (hne : r.length ≤ z ∨ r[z]? ≠ X[z]?) : gcp rss = X.take z := by
  refine gcp_of (List.length_pos_of_mem hX) ⟨hP, fun p hp => ?_⟩
  have h1 := hp X hX
  have h2 := hp r hr
  have hlen : p.length ≤ z := by
    rcases Nat.lt_or_ge z p.length with q | q
    · exfalso
      rcases hne with h | h
      · have := h2.length_le; omega
      · obtain ⟨u, rfl⟩ := h1
        obtain ⟨v, rfl⟩ := h2
        apply h
        rw [List.getElem?_append_left q, List.getElem?_append_left q]
    · exact q
  obtain ⟨u, rfl⟩ := h1
  rw [List.take_append]
  have : List.take z p = p := List.take_of_length_le hlen
  rw [this]
  exact List.prefix_append _ _
theorem take_succ_prefix {X r : List Int} {z : Nat} (h : X.take z <+: r) (hz : z < r.length) (he : r[z]? = X[z]?) : X.take (z + 1) <+: r := by
  have hX : z < X.length := by
    rcases Nat.lt_or_ge z X.length with q | q
    · exact q
    · rw [List.getElem?_eq_none q] at he
      have := List.getElem?_eq_none_iff.mp he
      omega
  have e : X.take z = r.take z := by
    have := List.prefix_iff_eq_take.mp h
    rw [this, List.length_take, Nat.min_eq_left (Nat.le_of_lt hX)]
  have e2 : X.take (z + 1) = r.take (z + 1) := by
    rw [List.take_add_one, List.take_add_one, e, he]
  rw [e2]
  exact List.take_prefix _ _
theorem gcp_length_le {rss : List (List Int)} {r : List Int} (h : r ∈ rss) : (gcp rss).length ≤ r.length := ((gcp_is (List.length_pos_of_mem h)).1 r h).length_le
end Mine

set_option maxHeartbeats 4000000
namespace Mine

def ForJ (P : Nat → Prop) (m : Str → Option Value) (x : Str) (news : List (Addr × Obj)) (i : Nat) (m' : Str → Option Value) (nx : List (Addr × Obj)) : Prop :=
  nx = news ∧ P i ∧ ∃ v, m' = fun y => if y = x then v else m y
theorem map_self (m : Str → Option Value) (x : Str) : m = fun y => if y = x then m x else m y := by
  funext y
  by_cases h : y = x
  · rw [if_pos h, h]
  · rw [if_neg h]
theorem map_twice (m : Str → Option Value) (x : Str) (v v' : Option Value) : (fun y => if y = x then v else if y = x then v' else m y) = fun y => if y = x then v else m y := by
  funext y
  by_cases h : y = x
  · simp [h]
  · simp [h]

section
variable {prog : Program} {w : World} {A : Around} {E : Value → Shared → Prop} {s : Shared} {env : Env} {h₀ : Heap} {m : Str → Option Value} {news : List (Addr × Obj)} {l : Addr} {vs : List Value} {n : Nat} {x : Str} {body : List Stmt} {Q : Flow → Shared → Prop}

/-- a for over a list that the ledger bears; the ledger stays -/
theorem for_fix (hh : A.handled = none) (F : Fr h₀ env.locals s.heap m) (N : News h₀ env.locals s.heap news) (hm : (l, seqObj "list" vs.toArray n) ∈ news) (P : Nat → Prop) (h0 : P 0)
    (turn : ∀ i v h tk own, vs[i]? = some v → P i → Fr h₀ env.locals h (fun y => if y = x then some v else m y) → News h₀ env.locals h (own ++ news) →
      wpAny (model prog w) A (execs body env) (LoopStep3 h₀ env.locals own news (ForJ P m x news (i + 1)) { s with heap := h, toks := tk } (fun v s' => Q (.ret v) s') fun s' => Q .next s') E { s with heap := h, toks := tk })
    (done : ∀ h' tk v, Fr h₀ env.locals h' (fun y => if y = x then v else m y) → News h₀ env.locals h' news → P vs.length → Q .next { s with heap := h', toks := tk }) :
    wpAny (model prog w) A (pyIter (.ref l)) (fun it s₂ => LoopAt3 prog w A h₀ env x body Q E it s₂) E s := by
  have hl := (N _ hm).1
  have hlL := (N _ hm).2.1
  have hlt : l < s.heap.objs.size := Heap.lt_size hl
  have hLs : env.locals < s.heap.objs.size := F.ns.lt
  have hab : h₀.objs.size ≤ env.locals := F.above
  refine wpAny_pyIter_list (items := vs.toArray) ⟨_, hl, rfl, n, rfl⟩ ?_
  refine ⟨s.heap.objs.size, _, _, vs.toArray.size, _, _, m, news, ForJ P m x news, rfl, Walks.list hh s.heap.objs.size l (Nat.ne_of_lt hlt) vs.toArray, ?_, ?_, ?_, ⟨⟨_, Heap.get?_push_size _ rfl, rfl, rfl⟩, ⟨_, Heap.get?_push_of_some _ hl, rfl, n, rfl⟩⟩, F.push _, (fun p hp => ⟨Heap.get?_push_of_some _ (N p hp).1, (N p hp).2⟩), ⟨rfl, h0, m x, map_self m x⟩, ?_, ?_⟩
  · intro q
    rcases List.mem_cons.mp q with q | q
    · exact Nat.ne_of_lt hLs q
    · exact hlL (List.mem_singleton.mp q).symm
  · intro b hb
    rw [List.mem_singleton.mp hb]
    exact next_is_new F
  · intro p hp hI
    exact absurd (Heap.lt_size (N p hp).1) ((List.mem_singleton.mp hI) ▸ Nat.lt_irrefl _)
  · rintro i v m₁ news₁ s₁ own ⟨hh', tk', rfl⟩ hin hP ⟨rfl, hPi, v', rfl⟩ _ _ _ F₁ N₁
    rw [map_twice] at F₁
    exact turn i v hh' tk' own (by simpa using hP) hPi F₁ N₁
  · rintro h' tk m' news' F' N' _ ⟨rfl, hPi, v', rfl⟩
    exact done h' tk v' F' N' (by simpa using hPi)

theorem forEnd {h' : Heap} {L : Addr} {own : List (Addr × Obj)} {P : Nat → Prop} {i : Nat} {s₁ : Shared} {tk : Nat} {Qr : Value → Shared → Prop} {Qb : Shared → Prop} {v : Option Value}
    (F : Fr h₀ L h' (fun y => if y = x then v else m y)) (N : News h₀ L h' (own ++ news)) (hP : P (i + 1)) :
    LoopStep3 h₀ L own news (ForJ P m x news (i + 1)) s₁ Qr Qb .next { s₁ with heap := h', toks := tk } :=
  ⟨rfl, h', tk, _, news, rfl, F, N, rfl, rfl, hP, v, rfl⟩

theorem fr_two {h : Heap} {L : Addr} {M : Str → Option Value} {xi xr : Str} {a : Option Value} (F : Fr h₀ L h (fun y => if y = xi then a else M y)) : Fr h₀ L h (fun y => if y = xi then a else if y = xr then M xr else M y) := by
  have e : (fun y => if y = xi then a else if y = xr then M xr else M y) = fun y => if y = xi then a else M y := by
    funext y
    by_cases h1 : y = xi
    · rw [if_pos h1, if_pos h1]
    · rw [if_neg h1, if_neg h1]
      by_cases h2 : y = xr
      · rw [if_pos h2, h2]
      · rw [if_neg h2]
  rw [e]; exact F

theorem len_row {Q : Value → Shared → Prop} {a : Addr} {xs : List Int} (hr : RowAt "list" s.heap a xs) (hlen : xs.length ≤ 1000) (h : ∀ t tk, Q (.int xs.length t) { s with toks := tk }) :
    wpAny (model prog w) A (call (.builtin "len") [.ref a]) Q E s := by
  obtain ⟨_, ho, vs, n, rfl, hI⟩ := hr
  have hl := hI.length
  refine Calls.call_len_list (items := vs.toArray) ⟨_, ho, rfl, n, rfl⟩ (by rw [List.size_toArray]; omega) ?_
  rw [List.size_toArray, hl]
  exact h _ _

theorem slice_lrow {Q : Value → Shared → Prop} {L a : Addr} {xs : List Int} {value slice : PySem.Expr} {k : Nat} {u : Tok} (F : Fr h₀ L s.heap m) (N : News h₀ L s.heap news) (hr : RowAt "list" s.heap a xs) (hk : k ≤ xs.length) (hlen : xs.length ≤ 1000)
    (h : ∀ h' o, Fr h₀ L h' m → News h₀ L h' ((s.heap.objs.size + 1, o) :: news) → RowObj "list" o (xs.take k) → Q (.ref (s.heap.objs.size + 1)) { s with heap := h' })
    (hs : subscripted slice false (.ref a) (.ref s.heap.objs.size) = operate [.ref s.heap.objs.size, .ref a] (getItem (.ref a) (.ref s.heap.objs.size)) := by with_unfolding_all rfl)
    (ht : ∀ r, letTemporaryGo value (.ref a) r = pure () := by intro _; with_unfolding_all rfl) :
    wpAny (model prog w) A (subscriptTail value slice (.ref a) (.ref s.heap.objs.size)) Q E { s with heap := s.heap.push { cls := .type "slice", data := .fields #[.none, .int k u, .none] } } := by
  obtain ⟨_, ho, vs, n, rfl, hI⟩ := hr
  have hl := hI.length
  have hsz : vs.toArray.size ≤ sizeLine := by rw [List.size_toArray, sizeLine_eq]; omega
  refine slice_list F N (items := vs.toArray) ⟨_, ho, rfl, n, rfl⟩ .none (.int _ u) (fun h' F' N' => ?_) hs ht hsz
  rw [slicePick_upto _ k (by rw [List.size_toArray]; omega)] at N'
  exact h h' _ F' N' ⟨vs.take k, 0, by simp, hI.take k⟩

/-- a while whose frame has one counter (and one more name that it may set) -/
def WhileEnd (h₀ : Heap) (L : Addr) (m : Str → Option Value) (news : List (Addr × Obj)) (xi xr : Str) (P : Nat → Prop) (z : Nat) (s : Shared) (Q : Flow → Shared → Prop) (f : Flow) (s₂ : Shared) : Prop :=
  match f with
  | .ret v => Q (.ret v) s₂
  | .brk => Q .next s₂
  | _ => ∃ h' tk' vr t, s₂ = { s with heap := h', toks := tk' } ∧ Fr h₀ L h' (fun y => if y = xi then some (.int ((z + 1 : Nat) : Int) t) else if y = xr then vr else m y) ∧ News h₀ L h' news ∧ P (z + 1)

theorem whileEnd {xi xr : Str} {P : Nat → Prop} {z tk' : Nat} {h' : Heap} {L : Addr} {t : Tok} {v a b : Option Value}
    (F : Fr h₀ L h' (fun y => if y = xi then some (.int ((z : Int) + 1) t) else if y = xr then v else if y = xi then a else if y = xr then b else m y)) (N : News h₀ L h' news) (hP : P (z + 1)) :
    WhileEnd h₀ L m news xi xr P z s Q .next { s with heap := h', toks := tk' } := by
  refine ⟨h', tk', v, t, rfl, ?_, N, hP⟩
  have e : (fun y => if y = xi then some (Value.int ((z : Int) + 1) t) else if y = xr then v else if y = xi then a else if y = xr then b else m y) = fun y => if y = xi then some (Value.int ((z + 1 : Nat) : Int) t) else if y = xr then v else m y := by
    funext y
    by_cases h1 : y = xi
    · simp [h1]
    · by_cases h2 : y = xr
      · simp [h2]
      · simp [h1, h2]
  rw [← e]
  exact F

theorem while_count {test : PySem.Expr} {pos : Pos} {xi xr : Str} {t₀ : Tok} {vr₀ : Option Value} (N₀ : Nat) (P : Nat → Prop) (hE : PassesOwn (model prog w) A env E)
    (F : Fr h₀ env.locals s.heap (fun y => if y = xi then some (.int 0 t₀) else if y = xr then vr₀ else m y)) (N : News h₀ env.locals s.heap news) (h0 : P 0) (hb : ∀ z, P z → z ≤ N₀)
    (htest : ∀ h tk (Q' : Bool → Shared → Prop), Q' true { s with heap := h, toks := tk } → wpAny (model prog w) A (isTrue test env (eval test env)) Q' E { s with heap := h, toks := tk })
    (turn : ∀ (z : Nat) t vr h tk, P z → Fr h₀ env.locals h (fun y => if y = xi then some (.int (z : Int) t) else if y = xr then vr else m y) → News h₀ env.locals h news →
      wpAny (model prog w) A (execs body env) (WhileEnd h₀ env.locals m news xi xr P z { s with heap := h, toks := tk } Q) E { s with heap := h, toks := tk }) :
    wpAny (model prog w) A (exec (.While test body [] pos) env) Q E s := by
  refine wpAny_While ?_
  refine codeAny_whileLoop (R := fun r s' => match r with | .ok f => Q f s' | .error e => cameBackBy (model prog w) A env E e s')
    (fun k s' => ∃ z h tk t vr, s' = { s with heap := h, toks := tk } ∧ P z ∧ k = N₀ + 1 - z ∧ Fr h₀ env.locals h (fun y => if y = xi then some (.int (z : Int) t) else if y = xr then vr else m y) ∧ News h₀ env.locals h news) ?_ (N₀ + 1)
    ⟨0, s.heap, s.toks, t₀, vr₀, rfl, h0, rfl, F, N⟩
  rintro k s' ⟨z, h, tk, t, vr, rfl, hP, rfl, F', N'⟩
  refine wpAny_passesOwn hE (htest h tk _ ?_)
  simp only [if_true]
  refine wpAny_passesOwn hE (wpAny_mono (turn z t vr h tk hP F' N') (fun f s₃ h₃ => ?_) fun _ _ e => e)
  have fin : (∃ h' tk' vr t, s₃ = { s with heap := h', toks := tk' } ∧ Fr h₀ env.locals h' (fun y => if y = xi then some (.int ((z + 1 : Nat) : Int) t) else if y = xr then vr else m y) ∧ News h₀ env.locals h' news ∧ P (z + 1)) →
      ∃ k', k' < N₀ + 1 - z ∧ ∃ z h tk t vr, s₃ = { s with heap := h, toks := tk } ∧ P z ∧ k' = N₀ + 1 - z ∧ Fr h₀ env.locals h (fun y => if y = xi then some (.int (z : Int) t) else if y = xr then vr else m y) ∧ News h₀ env.locals h news := by
    rintro ⟨h', tk', vr', t', rfl, F'', N'', hP'⟩
    have := hb _ hP
    exact ⟨N₀ + 1 - (z + 1), by omega, z + 1, h', tk', t', vr', rfl, hP', rfl, F'', N''⟩
  cases f with
  | ret v => exact h₃
  | brk => exact h₃
  | next => exact fin h₃
  | cont => exact fin h₃
end
end Mine

set_option maxHeartbeats 4000000
namespace Mine

section
variable {prog : Program} {w : World} {A : Around} {E : Value → Shared → Prop} {s : Shared} {env : Env} {h₀ : Heap} {m : Str → Option Value} {news : List (Addr × Obj)} {l : Addr} {vs : List Value} {n : Nat} {x : Str} {body : List Stmt} {Q : Flow → Shared → Prop}

/-- a turn's end: what the loop bears, its iterator apart -/
def GrowEnd (h₀ : Heap) (L I : Addr) (oI : Obj) (Jn : (Str → Option Value) → List (Addr × Obj) → Prop) (s : Shared) (Q : Flow → Shared → Prop) (f : Flow) (s₂ : Shared) : Prop :=
  match f with
  | .ret v => Q (.ret v) s₂
  | .brk => Q .next s₂
  | _ => ∃ h' tk m₂ news₂, s₂ = { s with heap := h', toks := tk } ∧ Fr h₀ L h' m₂ ∧ News h₀ L h' ((I, oI) :: news₂) ∧ (∀ p ∈ news₂, p.1 ≠ I) ∧ Jn m₂ news₂
theorem GrowEnd.intro {L I : Addr} {oI : Obj} {Jn : (Str → Option Value) → List (Addr × Obj) → Prop} {h' : Heap} {tk : Nat} {m₂ : Str → Option Value} {news₂ : List (Addr × Obj)} (F : Fr h₀ L h' m₂) (N : News h₀ L h' ((I, oI) :: news₂)) (hI : ∀ p ∈ news₂, p.1 ≠ I) (hJ : Jn m₂ news₂) :
    GrowEnd h₀ L I oI Jn s Q .next { s with heap := h', toks := tk } := ⟨h', tk, m₂, news₂, rfl, F, N, hI, hJ⟩

theorem grow_core {I : Addr} {fp : List Addr} {k : Nat} {P : Nat → Value → Prop} {St : Nat → Heap → Prop} (W : Walks prog w A I fp [I] k P St) (hLf : env.locals ∉ fp) (hI0 : h₀.get? I = none) (hIf : I ∈ fp) (hst : St 0 s.heap) (hlive : ∀ i h, St i h → ∃ o, h.get? I = some o)
    (F : Fr h₀ env.locals s.heap m) (N : News h₀ env.locals s.heap news) (hnI : ∀ p ∈ news, p.1 ≠ I)
    (J : Nat → (Str → Option Value) → List (Addr × Obj) → Prop) (h0 : J 0 m news) (hfp : ∀ b ∈ fp, b ≠ I → (∃ o, h₀.get? b = some o) ∨ ∃ o, ∀ i m nx, J i m nx → (b, o) ∈ nx)
    (turn : ∀ i v m₁ news₁ h tk oI, i < k → P i v → J i m₁ news₁ → (∀ p ∈ news₁, p.1 ≠ I) → Fr h₀ env.locals h (fun y => if y = x then some v else m₁ y) → News h₀ env.locals h ((I, oI) :: news₁) →
      wpAny (model prog w) A (execs body env) (GrowEnd h₀ env.locals I oI (J (i + 1)) { s with heap := h, toks := tk } Q) E { s with heap := h, toks := tk })
    (done : ∀ h' tk m' news', Fr h₀ env.locals h' m' → News h₀ env.locals h' news' → J k m' news' → Q .next { s with heap := h', toks := tk }) :
    LoopAtV prog w A h₀ env x body Q E (.ref I) s := by
  refine ⟨I, fp, [I], k, P, St, m, news, J, rfl, W, hLf, ?_, ?_, hst, F, N, h0, ?_, ?_⟩
  · intro b hb
    rw [List.mem_singleton.mp hb]; exact hI0
  · intro p hp hq
    exact hnI p hp (List.mem_singleton.mp hq)
  · rintro i v m₁ news₁ s₁ own ⟨h, tk, rfl⟩ hi hP hJ hoff hown hget hall hst₁ F₁ N₁
    obtain ⟨oI, hoI⟩ := hlive _ _ hst₁
    have hmI : (I, oI) ∈ own := hall I hIf hI0 oI hoI
    have hoff' : ∀ p ∈ news₁, p.1 ≠ I := fun p hp e => hoff p hp (List.mem_singleton.mpr e)
    have N₂ : News h₀ env.locals h ((I, oI) :: news₁) := fun p hp => by
      rcases List.mem_cons.mp hp with rfl | hp
      · exact N₁ _ (List.mem_append_left _ hmI)
      · exact N₁ _ (List.mem_append_right _ hp)
    refine wpAny_mono (turn i v m₁ news₁ h tk oI hi hP hJ hoff' F₁ N₂) (fun f s₂ q => ?_) fun _ _ e => e
    have fin : (∃ h' tk' m₂ news₂, s₂ = { s with heap := h', toks := tk' } ∧ Fr h₀ env.locals h' m₂ ∧ News h₀ env.locals h' ((I, oI) :: news₂) ∧ (∀ p ∈ news₂, p.1 ≠ I) ∧ J (i + 1) m₂ news₂) →
        LoopStepU h₀ env.locals [I] own (J (i + 1)) { s with heap := h, toks := tk } .next s₂ := by
      rintro ⟨h', tk', m₂, news₂, rfl, F', N', hI', hJ'⟩
      refine ⟨rfl, h', tk', m₂, news₂, rfl, F', fun p hp => ?_, fun p hp e => hI' p hp (List.mem_singleton.mp e), hJ'⟩
      rcases List.mem_append.mp hp with hp | hp
      · have hb := hown p hp
        have hg := hget p hp
        have hp0 := (N₁ p (List.mem_append_left _ hp)).2
        by_cases hpI : p.1 = I
        · have : p = (I, oI) := by
            rw [hpI] at hg
            rw [hoI] at hg
            exact Prod.ext hpI (Option.some.inj hg).symm
          rw [this]
          exact N' _ (List.mem_cons_self ..)
        · rcases hfp _ hb hpI with ⟨o, ho⟩ | ⟨o, ho⟩
          · rw [hp0.2] at ho; cases ho
          · have h1 := (N₂ _ (List.mem_cons_of_mem _ (ho i m₁ news₁ hJ))).1
            have h2 : p = (p.1, o) := by
              rw [hg] at h1
              exact Prod.ext rfl (Option.some.inj h1)
            rw [h2]
            exact N' _ (List.mem_cons_of_mem _ (ho (i + 1) m₂ news₂ hJ'))
      · exact N' _ (List.mem_cons_of_mem _ hp)
    cases f with
    | ret v => exact .ret q
    | brk => exact .brk q
    | next => exact .next (fin q)
    | cont => exact .cont (fin q)
  · intro h' tk m' news' F' N' _ hJ
    exact done h' tk m' news' F' N' hJ

/-- a for over a list of the base; the ledger may grow -/
theorem for_base (hh : A.handled = none) (hl : h₀.IsList l vs.toArray) (F : Fr h₀ env.locals s.heap m) (N : News h₀ env.locals s.heap news)
    (J : Nat → (Str → Option Value) → List (Addr × Obj) → Prop) (h0 : J 0 m news)
    (turn : ∀ i v m₁ news₁ h tk I oI, vs[i]? = some v → J i m₁ news₁ → (∀ p ∈ news₁, p.1 ≠ I) → Fr h₀ env.locals h (fun y => if y = x then some v else m₁ y) → News h₀ env.locals h ((I, oI) :: news₁) →
      wpAny (model prog w) A (execs body env) (GrowEnd h₀ env.locals I oI (J (i + 1)) { s with heap := h, toks := tk } Q) E { s with heap := h, toks := tk })
    (done : ∀ h' tk m' news', Fr h₀ env.locals h' m' → News h₀ env.locals h' news' → J vs.length m' news' → Q .next { s with heap := h', toks := tk }) :
    wpAny (model prog w) A (pyIter (.ref l)) (fun it s₂ => LoopAtV prog w A h₀ env x body Q E it s₂) E s := by
  have hls : s.heap.IsList l vs.toArray := hl.at fun o e => F.keep l o e
  obtain ⟨ol, hol, _⟩ := id hl
  have hlt : l < h₀.objs.size := Heap.lt_size hol
  have hLs : env.locals < s.heap.objs.size := F.ns.lt
  have hab : h₀.objs.size ≤ env.locals := F.above
  have hll : l < s.heap.objs.size := Nat.lt_trans (Nat.lt_of_lt_of_le hlt hab) hLs
  refine wpAny_pyIter_list hls ?_
  refine grow_core (s := { s with heap := s.heap.push { cls := .type "list_iterator", data := .fields #[.ref l, .int 0 0] } }) (Walks.list hh s.heap.objs.size l (Nat.ne_of_lt hll) vs.toArray) ?_ (next_is_new F) (by simp) ⟨⟨_, Heap.get?_push_size _ rfl, rfl, rfl⟩, hls.at fun o e => Heap.get?_push_of_some _ e⟩ (fun i h st => let ⟨o, ho, _⟩ := st.1; ⟨o, ho⟩) (F.push _)
    (fun p hp => ⟨Heap.get?_push_of_some _ (N p hp).1, (N p hp).2⟩) (fun p hp => Nat.ne_of_lt (Heap.lt_size (N p hp).1)) J h0 ?_ ?_ ?_
  · intro q
    rcases List.mem_cons.mp q with q | q
    · exact Nat.ne_of_lt hLs q
    · exact Nat.ne_of_gt (Nat.lt_of_lt_of_le hlt hab) (List.mem_singleton.mp q)
  · intro b hb hbI
    rcases List.mem_cons.mp hb with e | hb
    · exact absurd e hbI
    · rw [List.mem_singleton.mp hb]; exact .inl ⟨ol, hol⟩
  · intro i v m₁ news₁ h tk oI _ hP hJ hI F₁ N₁
    exact turn i v m₁ news₁ h tk _ oI (by simpa using hP) hJ hI F₁ N₁
  · intro h' tk m' news' F' N' hJ
    exact done h' tk m' news' F' N' (by simpa using hJ)

/-- a for over a list that the ledger bears; the ledger may grow -/
theorem for_led (hh : A.handled = none) (F : Fr h₀ env.locals s.heap m) (N : News h₀ env.locals s.heap news)
    (J : Nat → (Str → Option Value) → List (Addr × Obj) → Prop) (h0 : J 0 m news) (hm : ∀ i m nx, J i m nx → (l, seqObj "list" vs.toArray n) ∈ nx)
    (turn : ∀ i v m₁ news₁ h tk I oI, vs[i]? = some v → J i m₁ news₁ → (∀ p ∈ news₁, p.1 ≠ I) → Fr h₀ env.locals h (fun y => if y = x then some v else m₁ y) → News h₀ env.locals h ((I, oI) :: news₁) →
      wpAny (model prog w) A (execs body env) (GrowEnd h₀ env.locals I oI (J (i + 1)) { s with heap := h, toks := tk } Q) E { s with heap := h, toks := tk })
    (done : ∀ h' tk m' news', Fr h₀ env.locals h' m' → News h₀ env.locals h' news' → J vs.length m' news' → Q .next { s with heap := h', toks := tk }) :
    wpAny (model prog w) A (pyIter (.ref l)) (fun it s₂ => LoopAtV prog w A h₀ env x body Q E it s₂) E s := by
  have hl := (N _ (hm 0 m news h0)).1
  have hlL := (N _ (hm 0 m news h0)).2.1
  have hlt : l < s.heap.objs.size := Heap.lt_size hl
  have hLs : env.locals < s.heap.objs.size := F.ns.lt
  refine wpAny_pyIter_list (items := vs.toArray) ⟨_, hl, rfl, n, rfl⟩ ?_
  refine grow_core (s := { s with heap := s.heap.push { cls := .type "list_iterator", data := .fields #[.ref l, .int 0 0] } }) (Walks.list hh s.heap.objs.size l (Nat.ne_of_lt hlt) vs.toArray) ?_ (next_is_new F) (by simp) ⟨⟨_, Heap.get?_push_size _ rfl, rfl, rfl⟩, ⟨_, Heap.get?_push_of_some _ hl, rfl, n, rfl⟩⟩ (fun i h st => let ⟨o, ho, _⟩ := st.1; ⟨o, ho⟩) (F.push _)
    (fun p hp => ⟨Heap.get?_push_of_some _ (N p hp).1, (N p hp).2⟩) (fun p hp => Nat.ne_of_lt (Heap.lt_size (N p hp).1)) J h0 ?_ ?_ ?_
  · intro q
    rcases List.mem_cons.mp q with q | q
    · exact Nat.ne_of_lt hLs q
    · exact hlL (List.mem_singleton.mp q).symm
  · intro b hb hbI
    rcases List.mem_cons.mp hb with e | hb
    · exact absurd e hbI
    · rw [List.mem_singleton.mp hb]; exact .inr ⟨_, hm⟩
  · intro i v m₁ news₁ h tk oI _ hP hJ hI F₁ N₁
    exact turn i v m₁ news₁ h tk _ oI (by simpa using hP) hJ hI F₁ N₁
  · intro h' tk m' news' F' N' hJ
    exact done h' tk m' news' F' N' (by simpa using hJ)

/-- a for over range(1, k + 1); the ledger may grow -/
theorem for_range1 {r : Addr} {k : Nat} {b : Int} {t₀ u₀ v₀ : Tok} (hh : A.handled = none) (hr : IsRange s.heap r 1 b 1 t₀ u₀ v₀) (hb : b = (k : Int) + 1) (hk : k ≤ 1000) (F : Fr h₀ env.locals s.heap m) (N : News h₀ env.locals s.heap news)
    (J : Nat → (Str → Option Value) → List (Addr × Obj) → Prop) (h0 : J 0 m news)
    (turn : ∀ i t m₁ news₁ h tk I oI, i < k → J i m₁ news₁ → (∀ p ∈ news₁, p.1 ≠ I) → Fr h₀ env.locals h (fun y => if y = x then some (.int ((i : Int) + 1) t) else m₁ y) → News h₀ env.locals h ((I, oI) :: news₁) →
      wpAny (model prog w) A (execs body env) (GrowEnd h₀ env.locals I oI (J (i + 1)) { s with heap := h, toks := tk } Q) E { s with heap := h, toks := tk })
    (done : ∀ h' tk m' news', Fr h₀ env.locals h' m' → News h₀ env.locals h' news' → J k m' news' → Q .next { s with heap := h', toks := tk }) :
    wpAny (model prog w) A (pyIter (.ref r)) (fun it s₂ => LoopAtV prog w A h₀ env x body Q E it s₂) E s := by
  subst hb
  have hsz : Builtin.Range.rangeSize 1 ((k : Int) + 1) 1 = (k : Int) := by rw [rangeSize_one]; split <;> omega
  have hsmall : Builtin.Range.small 1 ((k : Int) + 1) 1 = true := by
    have fits : ∀ i : Int, 0 ≤ i → i ≤ 2000 → Builtin.Range.rangeFitsLong i = true := fun i h1 h2 => by
      unfold Builtin.Range.rangeFitsLong
      rw [Bool.and_eq_true]
      exact ⟨decide_eq_true (by omega), decide_eq_true (by omega)⟩
    unfold Builtin.Range.small
    rw [hsz, fits 1 (by omega) (by omega), fits ((k : Int) + 1) (by omega) (by omega), fits (k : Int) (by omega) (by omega), if_pos (show (1 : Int) > 0 by decide), fits ((k : Int) + 1 + (1 - 1)) (by omega) (by omega)]
    simp
  have hLs : env.locals < s.heap.objs.size := F.ns.lt
  refine wpAny_pyIter_range hr hsmall ?_
  rw [hsz]
  have W : Walks prog w A s.heap.objs.size [s.heap.objs.size] [s.heap.objs.size] k (fun i v => ∃ t, v = .int (1 + i * 1) t)
      (fun i h => IsRangeIter h s.heap.objs.size (1 + (i : Nat) * 1) ((k : Int) - (i : Nat)) 1) := Walks.range hh _ 1 1 k
  refine grow_core (s := { s with heap := s.heap.push { cls := .type "range_iterator", data := .fields #[rawInt 1, rawInt (k : Int), rawInt 1] } }) W ?_ (next_is_new F) (by simp) (by show IsRangeIter _ _ _ _ _; simpa using Heap.get?_push_size _ rfl) (fun i h st => ⟨_, st⟩) (F.push _)
    (fun p hp => ⟨Heap.get?_push_of_some _ (N p hp).1, (N p hp).2⟩) (fun p hp => Nat.ne_of_lt (Heap.lt_size (N p hp).1)) J h0 ?_ ?_ ?_
  · intro q
    exact Nat.ne_of_lt hLs (List.mem_singleton.mp q)
  · intro b hb hbI
    exact absurd (List.mem_singleton.mp hb) hbI
  · rintro i v m₁ news₁ h tk oI hi ⟨t, rfl⟩ hJ hI F₁ N₁
    have e : (1 : Int) + (i : Int) * 1 = (i : Int) + 1 := by omega
    rw [e] at F₁
    exact turn i t m₁ news₁ h tk _ oI hi hJ hI F₁ N₁
  · intro h' tk m' news' F' N' hJ
    exact done h' tk m' news' F' N' hJ
end

section
variable {prog : Program} {w : World} {A : Around} {E Q : Value → Shared → Prop} {s : Shared} {h₀ : Heap} {L d : Addr} {m : Str → Option Value} {news : List (Addr × Obj)}
/-- append to a list that the ledger bears: -/
theorem append_led {vs : List Value} {n : Nat} {v : Value} (F : Fr h₀ L s.heap m) (N : News h₀ L s.heap news) (hm : (d, seqObj "list" vs.toArray n) ∈ news) (hz : vs.length ≤ 1000000)
    (h : ∀ h', Fr h₀ L h' m → (∀ nx : List (Addr × Obj), (∀ p ∈ nx, p ∈ news ∧ p.1 ≠ d) → News h₀ L h' ((d, seqObj "list" (vs ++ [v]).toArray (n + 1)) :: nx)) → Q .none { s with heap := h' }) :
    wpAny (model prog w) A (call (.builtin "list.append") [.ref d, v]) Q E s := by
  have z := N _ hm
  refine append_at (hsz := by rw [List.size_toArray, sizeLine_eq]; omega) z.1 fun h' hs ho' => ?_
  refine h h' (F.change hs z.2.1 z.2.2) fun nx hnx p hp => ?_
  rcases List.mem_cons.mp hp with rfl | hp
  · refine ⟨?_, z.2⟩
    rw [ho']
    simp
  · obtain ⟨a, b⟩ := hnx p hp
    exact ⟨(hs.2 _ b).trans (N p a).1, (N p a).2⟩
/-- the last of a list of the ledger -/
theorem item_last {value slice : PySem.Expr} {vs : List Value} {n : Nat} {u : Tok} {v : Value} (N : News h₀ L s.heap news) (hm : (d, seqObj "list" (vs ++ [v]).toArray n) ∈ news) (hz : vs.length ≤ 1000000) (h : Q v s)
    (hs : subscripted slice false (.ref d) (.int (-1) u) = operate [.ref d, .int (-1) u] (getItem (.ref d) (.int (-1) u)) := by with_unfolding_all rfl) :
    wpAny (model prog w) A (subscriptTail value slice (.ref d) (.int (-1) u)) Q E s := by
  have hl : s.heap.IsList d (vs ++ [v]).toArray := ⟨_, (N _ hm).1, rfl, n, rfl⟩
  refine tail_any hl.typeIs slot_list_getitem.lookup (wpAny_getItem_list_neg (x := v) hl (by decide) (by simp; omega) (by decide) ?_ h) hs
  have e : (-1 + ((vs ++ [v]).toArray.size : Int)).toNat = vs.length := by simp; omega
  rw [e]
  simp
end

def J2 (P : Nat → List (Addr × Obj) → Prop) (m : Str → Option Value) (x x2 : Str) (i : Nat) (m' : Str → Option Value) (nx : List (Addr × Obj)) : Prop :=
  P i nx ∧ ∃ v v2, m' = fun y => if y = x then v else if y = x2 then v2 else m y
theorem map_two (m : Str → Option Value) (x x2 : Str) : m = fun y => if y = x then m x else if y = x2 then m x2 else m y := by
  funext y
  by_cases h : y = x
  · rw [if_pos h, h]
  · rw [if_neg h]
    by_cases h2 : y = x2
    · rw [if_pos h2, h2]
    · rw [if_neg h2]
theorem map_twice2 (m : Str → Option Value) (x x2 : Str) (v v' v2 : Option Value) : (fun y => if y = x then v else if y = x then v' else if y = x2 then v2 else m y) = fun y => if y = x then v else if y = x2 then v2 else m y := by
  funext y
  by_cases h : y = x
  · simp [h]
  · simp [h]

section
variable {prog : Program} {w : World} {A : Around} {E : Value → Shared → Prop} {s : Shared} {env : Env} {h₀ : Heap} {m : Str → Option Value} {news : List (Addr × Obj)} {l : Addr} {vs : List Value} {n : Nat} {x x2 : Str} {body : List Stmt} {Q : Flow → Shared → Prop}
theorem growEnd1 {L I : Addr} {oI : Obj} {P : Nat → List (Addr × Obj) → Prop} {h' : Heap} {i tk : Nat} {nx : List (Addr × Obj)} {v v2 : Option Value} (F : Fr h₀ L h' (fun y => if y = x then v else if y = x2 then v2 else m y)) (N : News h₀ L h' ((I, oI) :: nx)) (hI : ∀ p ∈ nx, p.1 ≠ I) (hP : P (i + 1) nx) :
    GrowEnd h₀ L I oI (J2 P m x x2 (i + 1)) s Q .next { s with heap := h', toks := tk } := ⟨h', tk, _, nx, rfl, F, N, hI, hP, v, v2, rfl⟩
theorem growEnd2 {L I : Addr} {oI : Obj} {P : Nat → List (Addr × Obj) → Prop} {h' : Heap} {i tk : Nat} {nx : List (Addr × Obj)} {v v2 w2 : Option Value} (hne : x ≠ x2) (F : Fr h₀ L h' (fun y => if y = x2 then w2 else if y = x then v else if y = x2 then v2 else m y)) (N : News h₀ L h' ((I, oI) :: nx)) (hI : ∀ p ∈ nx, p.1 ≠ I) (hP : P (i + 1) nx) :
    GrowEnd h₀ L I oI (J2 P m x x2 (i + 1)) s Q .next { s with heap := h', toks := tk } := by
  have e : (fun y => if y = x2 then w2 else if y = x then v else if y = x2 then v2 else m y) = fun y => if y = x then v else if y = x2 then w2 else m y := by
    funext y
    by_cases h1 : y = x
    · subst h1; simp [hne]
    · by_cases h2 : y = x2
      · subst h2; simp [h1]
      · simp [h1, h2]
  rw [e] at F
  exact growEnd1 F N hI hP

theorem for_base2 (hh : A.handled = none) (hl : h₀.IsList l vs.toArray) (F : Fr h₀ env.locals s.heap m) (N : News h₀ env.locals s.heap news)
    (P : Nat → List (Addr × Obj) → Prop) (h0 : P 0 news)
    (turn : ∀ i v v2 news₁ h tk I oI, vs[i]? = some v → P i news₁ → (∀ p ∈ news₁, p.1 ≠ I) → Fr h₀ env.locals h (fun y => if y = x then some v else if y = x2 then v2 else m y) → News h₀ env.locals h ((I, oI) :: news₁) →
      wpAny (model prog w) A (execs body env) (GrowEnd h₀ env.locals I oI (J2 P m x x2 (i + 1)) { s with heap := h, toks := tk } Q) E { s with heap := h, toks := tk })
    (done : ∀ h' tk v v2 news', Fr h₀ env.locals h' (fun y => if y = x then v else if y = x2 then v2 else m y) → News h₀ env.locals h' news' → P vs.length news' → Q .next { s with heap := h', toks := tk }) :
    wpAny (model prog w) A (pyIter (.ref l)) (fun it s₂ => LoopAtV prog w A h₀ env x body Q E it s₂) E s := by
  refine for_base hh hl F N (J2 P m x x2) ⟨h0, m x, m x2, map_two m x x2⟩ ?_ ?_
  · rintro i v m₁ news₁ h tk I oI hv ⟨hP, v', v2, rfl⟩ hI F₁ N₁
    rw [map_twice2] at F₁
    exact turn i v v2 news₁ h tk I oI hv hP hI F₁ N₁
  · rintro h' tk m' news' F' N' ⟨hP, v', v2, rfl⟩
    exact done h' tk v' v2 news' F' N' hP
theorem for_led2 (hh : A.handled = none) (F : Fr h₀ env.locals s.heap m) (N : News h₀ env.locals s.heap news)
    (P : Nat → List (Addr × Obj) → Prop) (h0 : P 0 news) (hm : ∀ i nx, P i nx → (l, seqObj "list" vs.toArray n) ∈ nx)
    (turn : ∀ i v v2 news₁ h tk I oI, vs[i]? = some v → P i news₁ → (∀ p ∈ news₁, p.1 ≠ I) → Fr h₀ env.locals h (fun y => if y = x then some v else if y = x2 then v2 else m y) → News h₀ env.locals h ((I, oI) :: news₁) →
      wpAny (model prog w) A (execs body env) (GrowEnd h₀ env.locals I oI (J2 P m x x2 (i + 1)) { s with heap := h, toks := tk } Q) E { s with heap := h, toks := tk })
    (done : ∀ h' tk v v2 news', Fr h₀ env.locals h' (fun y => if y = x then v else if y = x2 then v2 else m y) → News h₀ env.locals h' news' → P vs.length news' → Q .next { s with heap := h', toks := tk }) :
    wpAny (model prog w) A (pyIter (.ref l)) (fun it s₂ => LoopAtV prog w A h₀ env x body Q E it s₂) E s := by
  refine for_led hh F N (J2 P m x x2) ⟨h0, m x, m x2, map_two m x x2⟩ (fun i m' nx hJ => hm i nx hJ.1) ?_ ?_
  · rintro i v m₁ news₁ h tk I oI hv ⟨hP, v', v2, rfl⟩ hI F₁ N₁
    rw [map_twice2] at F₁
    exact turn i v v2 news₁ h tk I oI hv hP hI F₁ N₁
  · rintro h' tk m' news' F' N' ⟨hP, v', v2, rfl⟩
    exact done h' tk v' v2 news' F' N' hP
theorem for_range2 {r : Addr} {k : Nat} {b : Int} {t₀ u₀ v₀ : Tok} (hh : A.handled = none) (hr : IsRange s.heap r 1 b 1 t₀ u₀ v₀) (hb : b = (k : Int) + 1) (hk : k ≤ 1000) (F : Fr h₀ env.locals s.heap m) (N : News h₀ env.locals s.heap news)
    (P : Nat → List (Addr × Obj) → Prop) (h0 : P 0 news)
    (turn : ∀ i t v2 news₁ h tk I oI, i < k → P i news₁ → (∀ p ∈ news₁, p.1 ≠ I) → Fr h₀ env.locals h (fun y => if y = x then some (.int ((i : Int) + 1) t) else if y = x2 then v2 else m y) → News h₀ env.locals h ((I, oI) :: news₁) →
      wpAny (model prog w) A (execs body env) (GrowEnd h₀ env.locals I oI (J2 P m x x2 (i + 1)) { s with heap := h, toks := tk } Q) E { s with heap := h, toks := tk })
    (done : ∀ h' tk v v2 news', Fr h₀ env.locals h' (fun y => if y = x then v else if y = x2 then v2 else m y) → News h₀ env.locals h' news' → P k news' → Q .next { s with heap := h', toks := tk }) :
    wpAny (model prog w) A (pyIter (.ref r)) (fun it s₂ => LoopAtV prog w A h₀ env x body Q E it s₂) E s := by
  refine for_range1 hh hr hb hk F N (J2 P m x x2) ⟨h0, m x, m x2, map_two m x x2⟩ ?_ ?_
  · rintro i t m₁ news₁ h tk I oI hi ⟨hP, v', v2, rfl⟩ hI F₁ N₁
    rw [map_twice2] at F₁
    exact turn i t v2 news₁ h tk I oI hi hP hI F₁ N₁
  · rintro h' tk m' news' F' N' ⟨hP, v', v2, rfl⟩
    exact done h' tk v' v2 news' F' N' hP
end

theorem RowsIn.snoc {cls : String} {news : List (Addr × Obj)} {as : List Addr} {rss : List (List Int)} {a : Addr} {o : Obj} {xs : List Int} (r : RowsIn cls news as rss) (hm : (a, o) ∈ news) (ho : RowObj cls o xs) : RowsIn cls news (as ++ [a]) (rss ++ [xs]) := by
  refine ⟨by simp [r.1], fun i hi => ?_⟩
  have hz := r.1
  rcases Nat.lt_or_ge i rss.length with q | q
  · obtain ⟨o', h1, h2⟩ := r.2 i q
    refine ⟨o', ?_, ?_⟩
    · have : (as ++ [a]).getD i 0 = as.getD i 0 := by simp [List.getElem?_append_left (show i < as.length by omega)]
      rw [this]; exact h1
    · have : (rss ++ [xs]).getD i [] = rss.getD i [] := by simp [List.getElem?_append_left q]
      rw [this]; exact h2
  · have e : i = rss.length := by simp at hi; omega
    subst e
    refine ⟨o, ?_, ?_⟩
    · have : (as ++ [a]).getD rss.length 0 = a := by rw [← hz]; simp
      rw [this]; exact hm
    · have : (rss ++ [xs]).getD rss.length [] = xs := by simp
      rw [this]; exact ho

theorem allLt_mem {d : Addr} {l : List (Addr × Obj)} (h : AllLt d l) : ∀ p ∈ l, p.1 < d := by
  induction l with
  | nil => intro p hp; cases hp
  | cons q r ih =>
    intro p hp
    rcases List.mem_cons.mp hp with e | hp
    · rw [e]; exact h.1
    · exact ih h.2 p hp
end Mine

namespace Mine
open_top hd for PySem.Challenge.rw_ko0130_01
end Mine
set_option maxHeartbeats 8000000
namespace Mine

abbrev PP : Program := PySem.Challenge.rw_ko0130_01.row.prog

def CpSpec (w : World) (mean : ExcName → Option Value) (mg mb : Str → Option Value) (cls : String) : Prop :=
  ∀ (dp un : Nat) (gd : Option (List Code)) (cn : Str) (cs : Scope) (a : Addr) (ccd : Value) (cl : List (Str × Addr)) (outer : List Env) (A₀ : Around) (base h₀ : Heap) (L : Addr) (m : Str → Option Value) (news : List (Addr × Obj)) (s : Shared)
    (lst : Addr) (n : Nat) (as : List Addr) (rss : List (List Int)) (Q E : Value → Shared → Prop),
    Below A₀ base outer h₀ → Fr h₀ L s.heap m → (hd.heap_39 w.params).In h₀ → News h₀ L s.heap news → Top hd.view_39 (looseW hd.view_39 []) mean mg mb h₀ → cs.kind = .function →
    (lst, seqObj "list" (as.map Value.ref).toArray n) ∈ news → RowsIn cls news as rss → 0 < rss.length → rss.length ≤ 64 → (∀ r ∈ rss, r.length ≤ 64) →
    dp + 10 < recursionLimit → un + 100 < cLine →
    (∀ c o h' tk', Fr h₀ L h' m → News h₀ L h' ((c, o) :: news) → RowObj cls o (gcp rss) → Q (.ref c) { s with heap := h', toks := tk' }) →
    wpAny (model PP w) (ktrTop dp un gd cn cs L a ccd cl outer) (call (.ref 101) [.ref lst]) Q E s

theorem cp_spec (w : World) (mean : ExcName → Option Value) (mg mb : Str → Option Value) (cls : String) (hc : cls = "list" ∨ cls = "tuple") : CpSpec w mean mg mb cls := by
  unfold CpSpec PP
  k_fill
  intro dp un gd cn cs a ccd cl outer A₀ base h₀ L m news s lst n as rss Q E B F X N T hk hl hrows hpos h64 hlen hdp hu hret
  refine wpAny_call ?_
  k_dflt ktr_enter
  k_steps
  (rename News _ _ _ _ => N1)
  (rename Fr _ _ _ _ => F1)
  have hz := hrows.1
  refine wpAny_truthy_list (items := (as.map Value.ref).toArray) ⟨_, (N1 _ hl).1, rfl, n, rfl⟩ (by simp; omega) ?_
  rw [isEmpty_of (by simp; omega), if_neg (by simp)]
  k_steps
  refine item_list (vs := as.map Value.ref) ⟨_, (N1 _ hl).1, rfl, n, rfl⟩ (Int.le_refl 0) (by decide) (refs_at hz hpos) ?_
  obtain ⟨o0, h0m, vs0, n0, e0, hI0⟩ := hrows.2 0 hpos
  subst e0
  k_steps
  (rename News _ _ _ _ => N2)
  refine isi_seq (cls := cls) hc (N2 _ (List.mem_cons_of_mem _ h0m)).1 rfl (N2 _ (List.mem_cons_self ..)).1 fun tk2 => ?_
  k_steps
  (rename Fr _ _ _ _ => F2)
  have N3 := News.tail1 N2
  refine min_rows (as := as) (rss := rss) rfl hc ⟨_, (N3 _ hl).1, rfl, n, rfl⟩ hz hpos (hrows.at N3) (by show un + 3 + 1 < cLine; omega) fun i1 h1 hi1 hmin hk1 => ?_
  have F4 := Fr.kept F2 hk1
  have N4 := News.grown N3 hk1
  clear N2 F2 N3 hk1
  k_steps
  (rename Fr _ _ _ _ => F5)
  (rename News _ _ _ _ => N5)
  refine max_rows (as := as) (rss := rss) rfl hc ⟨_, (N5 _ hl).1, rfl, n, rfl⟩ hz hpos (hrows.at N5) (by show un + 3 + 1 < cLine; omega) fun i2 h2 hi2 hmax hk2 => ?_
  have F6 := Fr.kept F5 hk2
  have N6 := News.grown N5 hk2
  clear F5 N5 hk2
  k_steps
  (rename Fr _ _ _ _ => F7)
  (rename News _ _ _ _ => N7)
  obtain ⟨o1, hm1, hr1⟩ := hrows.2 i1 hi1
  obtain ⟨o2, hm2, hr2⟩ := hrows.2 i2 hi2
  have hXY : lexLt (rss.getD i2 []) (rss.getD i1 []) = false := hmin i2 hi2
  refine enum_row2 (cls := cls) (xs := rss.getD i1 []) rfl hc F7 N7 hm1 hr1 (fun i => ∀ j, j < i → (rss.getD i1 [])[j]? = (rss.getD i2 [])[j]?) (fun j hj => absurd hj (Nat.not_lt_zero j)) ?turn ?done
  case turn =>
    intro i x t u h tk own hx hP F8 N8
    have hi : i < (rss.getD i1 []).length := (List.getElem?_eq_some_iff.mp hx).1
    have hb := cp_bound hXY hi hP
    have hl2 := hlen _ (List.getElem_mem (l := rss) hi2)
    rw [show rss[i2] = rss.getD i2 [] by simp [hi2]] at hl2
    k_steps
    refine item_row (cls := cls) (xs := rss.getD i2 []) hc ⟨o2, (N8 _ (List.mem_append_right _ hm2)).1, hr2⟩ (by omega) (by omega) (by omega) fun t2 => ?_
    k_steps
    rotate_left
    · exact ⟨rfl, fun j hj => by
        rcases Nat.lt_or_ge j i with q | q
        · exact hP j q
        · have : j = i := by omega
          subst this
          rename_i hne
          rw [Int.toNat_natCast] at hne
          rw [hx, hne, get_getD hb], _, _, rfl⟩
    · rename_i hne
      have hl1 := hlen _ (getD_mem hi1)
      refine slice_row (cls := cls) hc F8 N8 ⟨o1, (N8 _ (List.mem_append_right _ hm1)).1, hr1⟩ hi (by omega) fun h9 o9 F9 N9 hr9 => ?_
      k_steps
      (rename News h₀ _ _ _ => N10)
      (rename Fr h₀ _ _ _ => F10)
      have hg : gcp rss = (rss.getD i1 []).take i := by
        rw [gcp_minmax (X := rss.getD i1 []) (Y := rss.getD i2 []) (getD_mem hi1) (getD_mem hi2) (min_all hmin) (max_all hmax)]
        refine lcp2_part hP hi hb ?_
        rw [hx]
        intro e
        apply hne
        rw [get_getD hb] at e
        rw [Int.toNat_natCast]
        exact Option.some.inj e
      refine hret _ o9 _ _ F10 (fun p hp => ?_) (by rw [hg]; exact hr9)
      rcases List.mem_cons.mp hp with rfl | hp
      · exact N10 _ (List.mem_cons_self ..)
      · exact N10 p (List.mem_cons_of_mem _ (List.mem_append_right _ hp))
  case done =>
    intro h' tk vi vc F8 N8 hP
    k_steps
    (rename News h₀ _ _ _ => N9)
    (rename Fr h₀ _ _ _ => F9)
    have hg : gcp rss = rss.getD i1 [] := by
      rw [gcp_minmax (X := rss.getD i1 []) (Y := rss.getD i2 []) (getD_mem hi1) (getD_mem hi2) (min_all hmin) (max_all hmax)]
      exact lcp2_whole hP
    refine hret _ o1 _ _ F9 (fun p hp => ?_) (by rw [hg]; exact hr1)
    rcases List.mem_cons.mp hp with rfl | hp
    · exact N9 _ hm1
    · exact N9 p hp
end Mine

set_option maxHeartbeats 8000000
namespace Mine

abbrev PP' : Program := PySem.Challenge.rw_ko0130_01.row.prog

def LcSpec (w : World) (mean : ExcName → Option Value) (mg mb : Str → Option Value) : Prop :=
  ∀ (dp un : Nat) (gd : Option (List Code)) (cn : Str) (cs : Scope) (a : Addr) (ccd : Value) (cl : List (Str × Addr)) (outer : List Env) (A₀ : Around) (base h₀ : Heap) (L : Addr) (m : Str → Option Value) (news : List (Addr × Obj)) (s : Shared)
    (lst : Addr) (n : Nat) (as : List Addr) (rss : List (List Int)) (Q E : Value → Shared → Prop),
    Below A₀ base outer h₀ → Fr h₀ L s.heap m → (hd.heap_39 w.params).In h₀ → News h₀ L s.heap news → Top hd.view_39 (looseW hd.view_39 []) mean mg mb h₀ → cs.kind = .function →
    (lst, seqObj "list" (as.map Value.ref).toArray n) ∈ news → RowsIn "list" news as rss → 0 < rss.length → rss.length ≤ 64 → (∀ r ∈ rss, r.length ≤ 64) →
    dp + 10 < recursionLimit → un + 100 < cLine →
    (∀ c o h' tk', Fr h₀ L h' m → News h₀ L h' ((c, o) :: news) → RowObj "list" o (gcp rss) → Q (.ref c) { s with heap := h', toks := tk' }) →
    wpAny (model PP' w) (ktrTop dp un gd cn cs L a ccd cl outer) (call (.ref 115) [.ref lst]) Q E s

local macro_rules | `(tactic| walk_at "lc steps") => `(tactic| repeat' ((fail_if_success (with_reducible show wpAny _ _ (PySem.exec (PySem.Stmt.While _ _ _ _) _) _ _ _)); (first | (k_unfold; (try dsimp only)) | (k_end; wrow_close) | walk1 | (dsimp only; walk1) | (leave1; walk_say "STEP leave1"; try dsimp only) | fail "no step")))

theorem lc_spec (w : World) (mean : ExcName → Option Value) (mg mb : Str → Option Value) : LcSpec w mean mg mb := by
  unfold LcSpec PP'
  k_fill
  intro dp un gd cn cs a ccd cl outer A₀ base h₀ L m news s lst n as rss Q E B F X N T hk hl hrows hpos h64 hlen hdp hu hret
  refine wpAny_call ?_
  k_dflt ktr_enter
  walk_at "lc steps"
  (rename Fr _ _ _ _ => F1)
  (rename News _ _ _ _ => N1)
  have hz := hrows.1
  have hX := getD_mem hpos
  refine while_count (xi := "size") (xr := "row") 64 (fun z => ∀ r ∈ rss, (rss.getD 0 []).take z <+: r ∧ z ≤ r.length) ?pass (fr_two F1) N1 (fun r hr => ⟨List.nil_prefix, Nat.zero_le _⟩) (fun z hP => Nat.le_trans (hP _ hX).2 (hlen _ hX)) ?test ?turn
  case pass => passes_own
  case test =>
    intro h tk Q' hQ
    k_steps
    exact hQ
  case turn =>
    intro z t vr h tk hP F2 N2
    k_steps
    (rename Fr _ _ _ _ => F3)
    have hz64 : z ≤ 64 := Nat.le_trans (hP _ hX).2 (hlen _ hX)
    refine for_fix (vs := as.map Value.ref) (n := n) rfl F3 N2 hl (fun i => ∀ j, j < i → z < (rss.getD j []).length ∧ (rss.getD j [])[z]? = (rss.getD 0 [])[z]?) (fun j hj => absurd hj (Nat.not_lt_zero j)) ?fturn ?fdone
    case fturn =>
      intro i v h2 tk2 own hv hPi F4 N4
      have hi : i < rss.length := by
        have := (List.getElem?_eq_some_iff.mp hv).1
        simpa [hz] using this
      rw [refs_at hz hi] at hv
      have hv' := Option.some.inj hv
      subst hv'
      have hri := hlen _ (getD_mem hi)
      have rowsA := (hrows.more (fun p hp => List.mem_append_right own hp)).at N4
      k_steps
      refine len_row (rowsA i hi) (by omega) fun t5 tk5 => ?_
      have hX0 := hlen _ hX
      have hzX := (hP _ hX).2
      k_steps
      · rename_i hshort
        have hg : gcp rss = (rss.getD 0 []).take z := gcp_cut hX (getD_mem hi) (fun r hr => (hP r hr).1) (.inl (by omega))
        refine item_list (vs := as.map Value.ref) ⟨_, (N4 _ (List.mem_append_right own hl)).1, rfl, n, rfl⟩ (Int.le_refl 0) (by decide) (refs_at hz hpos) ?_
        k_steps
        refine slice_lrow F4 N4 (rowsA 0 hpos) hzX (by omega) fun h9 o9 F9 N9 hr9 => ?_
        k_steps
        dsimp only [WhileEnd]
        k_steps
        (rename News h₀ _ _ _ => N10)
        (rename Fr h₀ _ _ _ => F10)
        refine hret _ o9 _ _ F10 (fun p hp => ?_) (by rw [hg]; exact hr9)
        rcases List.mem_cons.mp hp with rfl | hp
        · exact N10 _ (List.mem_cons_self ..)
        · exact N10 p (List.mem_cons_of_mem _ (List.mem_append_right _ hp))
      · rename_i hlong
        have hzi : z < (rss.getD i []).length := by omega
        refine item_row (cls := "list") (.inl rfl) (rowsA i hi) (by omega) (by omega) (by omega) fun t6 => ?_
        k_steps
        refine item_list (vs := as.map Value.ref) ⟨_, (N4 _ (List.mem_append_right own hl)).1, rfl, n, rfl⟩ (Int.le_refl 0) (by decide) (refs_at hz hpos) ?_
        k_steps
        have hloc : (rss.getD i [])[z]? = some ((rss.getD i []).getD z 0) := get_getD hzi
        rcases Nat.lt_or_ge z (rss.getD 0 []).length with hz0 | hz0
        · refine item_row (cls := "list") (.inl rfl) (rowsA 0 hpos) (by omega) (by omega) (by omega) fun t7 => ?_
          k_steps
          rotate_left
          · exact ⟨rfl, fun j hj => by
              rcases Nat.lt_or_ge j i with q | q
              · exact hPi j q
              · have : j = i := by omega
                subst this
                rename_i hne
                rw [Int.toNat_natCast] at hne
                exact ⟨hzi, by rw [hloc, hne, get_getD hz0]⟩, _, rfl⟩
          · rename_i hne
            rw [Int.toNat_natCast] at hne
            have hg : gcp rss = (rss.getD 0 []).take z := gcp_cut hX (getD_mem hi) (fun r hr => (hP r hr).1) (.inr (by
              rw [hloc, get_getD hz0]
              intro e
              exact hne (Option.some.inj e)))
            refine item_list (vs := as.map Value.ref) ⟨_, (N4 _ (List.mem_append_right own hl)).1, rfl, n, rfl⟩ (Int.le_refl 0) (by decide) (refs_at hz hpos) ?_
            k_steps
            refine slice_lrow F4 N4 (rowsA 0 hpos) hzX (by omega) fun h9 o9 F9 N9 hr9 => ?_
            k_steps
            dsimp only [WhileEnd]
            k_steps
            (rename News h₀ _ _ _ => N10)
            (rename Fr h₀ _ _ _ => F10)
            refine hret _ o9 _ _ F10 (fun p hp => ?_) (by rw [hg]; exact hr9)
            rcases List.mem_cons.mp hp with rfl | hp
            · exact N10 _ (List.mem_cons_self ..)
            · exact N10 p (List.mem_cons_of_mem _ (List.mem_append_right _ hp))
        · exfalso
          rcases Nat.eq_zero_or_pos i with q | q
          · subst q; omega
          · have := (hPi 0 q).1
            omega
    case fdone =>
      intro h2 tk2 v F4 N4 hPi
      k_steps
      (rename Fr _ _ _ _ => F5)
      (rename News _ _ _ _ => N5)
      refine whileEnd F5 N5 fun r hr => ?_
      obtain ⟨j, hj, rfl⟩ := mem_getD hr
      obtain ⟨q1, q2⟩ := hPi j (by simpa [hz] using hj)
      exact ⟨take_succ_prefix (hP _ hr).1 q1 q2, q1⟩
end Mine

set_option maxHeartbeats 8000000
namespace Mine

abbrev PP2 : Program := PySem.Challenge.rw_ko0130_01.row.prog

def rowsStep (p : List (List Int) × List Int) (n : Int) : List (List Int) × List Int := if n < 0 then (p.1 ++ [p.2], []) else (p.1, p.2 ++ [n.fmod 3])
def rowsSt (ns : List Int) : List (List Int) × List Int := ns.foldl rowsStep ([], [])
def rowsOf (ns : List Int) : List (List Int) := (rowsSt ns).1 ++ [(rowsSt ns).2]

def LrSpec (w : World) (mean : ExcName → Option Value) (mg mb : Str → Option Value) : Prop :=
  ∀ (dp un : Nat) (gd : Option (List Code)) (cn : Str) (cs : Scope) (a : Addr) (ccd : Value) (cl : List (Str × Addr)) (outer : List Env) (A₀ : Around) (base h₀ : Heap) (L : Addr) (m : Str → Option Value) (s : Shared)
    (scr : Addr) (vs : List Value) (ns : List Int) (Q E : Value → Shared → Prop),
    Below A₀ base outer h₀ → Fr h₀ L s.heap m → (hd.heap_39 w.params).In h₀ → News h₀ L s.heap [] → Top hd.view_39 (looseW hd.view_39 []) mean mg mb h₀ → cs.kind = .function →
    h₀.IsList scr vs.toArray → IntsAre vs ns → ns.length ≤ 63 →
    dp + 10 < recursionLimit → un + 100 < cLine →
    (∀ r n as tl h' tk', Fr h₀ L h' m → News h₀ L h' ((r, seqObj "list" (as.map Value.ref).toArray n) :: tl) → RowsIn "list" tl as (rowsOf ns) → Q (.ref r) { s with heap := h', toks := tk' }) →
    wpAny (model PP2 w) (ktrTop dp un gd cn cs L a ccd cl outer) (call (.ref 108) [.ref scr]) Q E s

local macro_rules | `(tactic| walk_at "lr steps") => `(tactic| repeat' ((fail_if_success (with_reducible show wpAny _ _ (PySem.call (Value.builtin "list.append") _ _) _ _ _)); (fail_if_success (with_reducible show wpAny _ _ (PySem.pyIter _) _ _ _)); (first | (k_unfold; (try dsimp only)) | (k_end; wrow_close) | walk1 | (dsimp only; walk1) | (leave1; walk_say "STEP leave1"; try dsimp only) | fail "no step")))

theorem rowsSt_succ {ns : List Int} {i : Nat} {n : Int} (h : ns[i]? = some n) : rowsSt (ns.take (i + 1)) = rowsStep (rowsSt (ns.take i)) n := by
  unfold rowsSt
  rw [List.take_add_one, h, List.foldl_append]
  rfl
theorem rowsSt_len : ∀ (ns : List Int) (p : List (List Int) × List Int), (ns.foldl rowsStep p).1.length ≤ p.1.length + ns.length ∧ (ns.foldl rowsStep p).2.length ≤ p.2.length + ns.length
  | [], p => by simp
  | n :: ns, p => by
    have := rowsSt_len ns (rowsStep p n)
    simp only [List.foldl_cons, List.length_cons]
    have h1 : (rowsStep p n).1.length ≤ p.1.length + 1 ∧ (rowsStep p n).2.length ≤ p.2.length + 1 := by
      unfold rowsStep
      split <;> simp
    omega

/-- what the loop of _law_rows bears -/
def LrP (lr : Addr) (ns : List Int) (i : Nat) (nx : List (Addr × Obj)) : Prop :=
  ∃ asI al nR vsl nL older, nx = (lr, seqObj "list" (asI.map Value.ref ++ [Value.ref al]).toArray nR) :: (al, seqObj "list" vsl.toArray nL) :: older ∧
    IntsAre vsl (rowsSt (ns.take i)).2 ∧ RowsIn "list" older asI (rowsSt (ns.take i)).1 ∧ lr ≠ al ∧ ∀ p ∈ older, p.1 ≠ lr ∧ p.1 ≠ al

theorem lr_end_neg {h₀ h9 : Heap} {L I lr al l' : Addr} {oI : Obj} {asI : List Addr} {nR nL i tk : Nat} {vsl : List Value} {older : List (Addr × Obj)} {ns : List Int} {n : Int} {m : Str → Option Value} {x : Str} {v v2 : Option Value} {s : Shared} {Q : Flow → Shared → Prop}
    (hn : ns[i]? = some n) (hneg : n < 0) (hIl : IntsAre vsl (rowsSt (ns.take i)).2) (hR : RowsIn "list" older asI (rowsSt (ns.take i)).1) (hne : lr ≠ al) (hold : ∀ p ∈ older, p.1 ≠ lr ∧ p.1 ≠ al)
    (hIx : ∀ p ∈ (lr, seqObj "list" (asI.map Value.ref ++ [Value.ref al]).toArray nR) :: (al, seqObj "list" vsl.toArray nL) :: older, p.1 ≠ I)
    (hl : I < l' ∧ lr < l' ∧ al < l' ∧ AllLt l' older) (F9 : Fr h₀ L h9 (fun y => if y = x then v else if y = x then v2 else m y))
    (hN9 : ∀ nx : List (Addr × Obj), (∀ p ∈ nx, p ∈ ((l', W.listOf #[] 0) :: (I, oI) :: (lr, seqObj "list" (asI.map Value.ref ++ [Value.ref al]).toArray nR) :: (al, seqObj "list" vsl.toArray nL) :: older) ∧ p.1 ≠ lr) →
      News h₀ L h9 ((lr, seqObj "list" ((asI.map Value.ref ++ [Value.ref al]) ++ [Value.ref l']).toArray (nR + 1)) :: nx)) :
    GrowEnd h₀ L I oI (J2 (LrP lr ns) m x x (i + 1)) s Q .next { s with heap := h9, toks := tk } := by
  obtain ⟨h1, h2, h3, h4⟩ := hl
  have hall := allLt_mem h4
  have hIlr : lr ≠ I := hIx _ (.head _)
  have hIal : al ≠ I := hIx _ (.tail _ (.head _))
  refine growEnd1 (nx := (lr, seqObj "list" ((asI ++ [al]).map Value.ref ++ [Value.ref l']).toArray (nR + 1)) :: (l', W.listOf #[] 0) :: (al, seqObj "list" vsl.toArray nL) :: older) F9 ?_ ?_ ?_
  · have N := hN9 ((I, oI) :: (l', W.listOf #[] 0) :: (al, seqObj "list" vsl.toArray nL) :: older) fun p hp => by
      rcases List.mem_cons.mp hp with rfl | hp
      · exact ⟨.tail _ (.head _), fun e => hIlr e.symm⟩
      · rcases List.mem_cons.mp hp with rfl | hp
        · exact ⟨.head _, fun e => Nat.ne_of_gt h2 e⟩
        · rcases List.mem_cons.mp hp with rfl | hp
          · exact ⟨.tail _ (.tail _ (.tail _ (.head _))), fun e => hne e.symm⟩
          · exact ⟨.tail _ (.tail _ (.tail _ (.tail _ hp))), (hold p hp).1⟩
    intro p hp
    rcases List.mem_cons.mp hp with rfl | hp
    · exact N _ (.tail _ (.head _))
    · rcases List.mem_cons.mp hp with rfl | hp
      · simpa using N _ (.head _)
      · exact N p (.tail _ (.tail _ hp))
  · intro p hp
    rcases List.mem_cons.mp hp with rfl | hp
    · exact hIlr
    · rcases List.mem_cons.mp hp with rfl | hp
      · exact Nat.ne_of_gt h1
      · exact hIx p (.tail _ hp)
  · refine ⟨asI ++ [al], l', nR + 1, [], 0, (al, seqObj "list" vsl.toArray nL) :: older, rfl, ?_, ?_, Nat.ne_of_lt h2, ?_⟩
    · rw [rowsSt_succ hn, rowsStep, if_pos hneg]; exact .nil
    · rw [rowsSt_succ hn, rowsStep, if_pos hneg]
      exact (hR.more fun p hp => .tail _ hp).snoc (.head _) ⟨vsl, nL, rfl, hIl⟩
    · intro p hp
      rcases List.mem_cons.mp hp with rfl | hp
      · exact ⟨fun e => hne e.symm, Nat.ne_of_lt h3⟩
      · exact ⟨(hold p hp).1, Nat.ne_of_lt (hall p hp)⟩

theorem lr_end_pos {h₀ h9 : Heap} {L I lr al : Addr} {oI : Obj} {asI : List Addr} {nR nL i tk : Nat} {vsl : List Value} {older : List (Addr × Obj)} {ns : List Int} {n : Int} {t : Tok} {m : Str → Option Value} {x : Str} {v v2 : Option Value} {s : Shared} {Q : Flow → Shared → Prop}
    (hn : ns[i]? = some n) (hneg : ¬ n < 0) (hIl : IntsAre vsl (rowsSt (ns.take i)).2) (hR : RowsIn "list" older asI (rowsSt (ns.take i)).1) (hne : lr ≠ al) (hold : ∀ p ∈ older, p.1 ≠ lr ∧ p.1 ≠ al)
    (hIx : ∀ p ∈ (lr, seqObj "list" (asI.map Value.ref ++ [Value.ref al]).toArray nR) :: (al, seqObj "list" vsl.toArray nL) :: older, p.1 ≠ I)
    (F9 : Fr h₀ L h9 (fun y => if y = x then v else if y = x then v2 else m y))
    (hN9 : ∀ nx : List (Addr × Obj), (∀ p ∈ nx, p ∈ ((I, oI) :: (lr, seqObj "list" (asI.map Value.ref ++ [Value.ref al]).toArray nR) :: (al, seqObj "list" vsl.toArray nL) :: older) ∧ p.1 ≠ al) →
      News h₀ L h9 ((al, seqObj "list" (vsl ++ [Value.int (n.fmod 3) t]).toArray (nL + 1)) :: nx)) :
    GrowEnd h₀ L I oI (J2 (LrP lr ns) m x x (i + 1)) s Q .next { s with heap := h9, toks := tk } := by
  have hIlr : lr ≠ I := hIx _ (.head _)
  have hIal : al ≠ I := hIx _ (.tail _ (.head _))
  refine growEnd1 (nx := (lr, seqObj "list" (asI.map Value.ref ++ [Value.ref al]).toArray nR) :: (al, seqObj "list" (vsl ++ [Value.int (n.fmod 3) t]).toArray (nL + 1)) :: older) F9 ?_ ?_ ?_
  · have N := hN9 ((I, oI) :: (lr, seqObj "list" (asI.map Value.ref ++ [Value.ref al]).toArray nR) :: older) fun p hp => by
      rcases List.mem_cons.mp hp with rfl | hp
      · exact ⟨.head _, fun e => hIal e.symm⟩
      · rcases List.mem_cons.mp hp with rfl | hp
        · exact ⟨.tail _ (.head _), hne⟩
        · exact ⟨.tail _ (.tail _ (.tail _ hp)), (hold p hp).2⟩
    intro p hp
    rcases List.mem_cons.mp hp with rfl | hp
    · exact N _ (.tail _ (.head _))
    · rcases List.mem_cons.mp hp with rfl | hp
      · exact N _ (.tail _ (.tail _ (.head _)))
      · rcases List.mem_cons.mp hp with rfl | hp
        · exact N _ (.head _)
        · exact N p (.tail _ (.tail _ (.tail _ hp)))
  · intro p hp
    rcases List.mem_cons.mp hp with rfl | hp
    · exact hIlr
    · rcases List.mem_cons.mp hp with rfl | hp
      · exact hIal
      · exact hIx p (.tail _ (.tail _ hp))
  · refine ⟨asI, al, nR, _, nL + 1, older, rfl, ?_, ?_, hne, hold⟩
    · rw [rowsSt_succ hn, rowsStep, if_neg hneg]
      exact IntsAre.append hIl (.cons _ _ .nil)
    · rw [rowsSt_succ hn, rowsStep, if_neg hneg]
      exact hR

theorem lr_spec (w : World) (mean : ExcName → Option Value) (mg mb : Str → Option Value) : LrSpec w mean mg mb := by
  unfold LrSpec PP2
  k_fill
  intro dp un gd cn cs a ccd cl outer A₀ base h₀ L m s scr vs ns Q E B F X N T hk hl hInts h63 hdp hu hret
  refine wpAny_call ?_
  k_dflt ktr_enter
  walk_at "lr steps"
  (rename IntsAre vs ns => hInts)
  (rename Fr h₀ _ _ _ => FG)
  (rename Fr _ _ _ _ => F1)
  (rename News _ _ _ _ => N1)
  (rename _ < _ => hlt)
  have hl' := hl.at fun o e => FG.keep _ o e
  refine for_base2 (x2 := "n") rfl hl' F1 N1 (LrP _ ns)
    ⟨[], _, 0, [], 0, [], rfl, .nil, ⟨rfl, fun i hi => absurd hi (Nat.not_lt_zero i)⟩, Nat.ne_of_gt hlt, fun _ h => nomatch h⟩ ?turn ?done
  case turn =>
    rintro i v v2 nx h tk I oI hv ⟨asI, al, nR, vsl, nL, older, rfl, hIl, hR, hne, hold⟩ hIx F2 N2
    obtain ⟨n, t, rfl, hn⟩ := hInts.at i v hv
    have hi : i < ns.length := (List.getElem?_eq_some_iff.mp hn).1
    have hb := rowsSt_len (ns.take i) ([], [])
    have hb1 : asI.length ≤ 63 := by
      have := hR.1
      have e : (List.foldl rowsStep ([], []) (ns.take i)).1.length = asI.length := this.symm
      simp at hb; omega
    have hb2 : vsl.length ≤ 63 := by
      have := hIl.length
      have e : (List.foldl rowsStep ([], []) (ns.take i)).2.length = vsl.length := this.symm
      simp at hb; omega
    walk_at "lr steps"
    · (rename Fr _ _ _ _ => F5)
      (rename News _ _ _ _ => N5)
      (rename _ ∧ _ => l1)
      (rename _ < 0 => hneg)
      refine append_led F5 N5 (.tail _ (.tail _ (.head _))) (by simp; omega) fun h9 F9 hN9 => ?_
      walk_at "lr steps"
      exact lr_end_neg hn hneg hIl hR hne hold hIx l1 F9 hN9
    · (rename ¬ _ < 0 => hneg)
      refine item_last N2 (.tail _ (.head _)) (by simp; omega) ?_
      walk_at "lr steps"
      refine append_led F2 N2 (.tail _ (.tail _ (.head _))) (by omega) fun h9 F9 hN9 => ?_
      walk_at "lr steps"
      exact lr_end_pos hn hneg hIl hR hne hold hIx F9 hN9
  case done =>
    rintro h' tk v v2 nx F2 N2 ⟨asI, al, nR, vsl, nL, older, rfl, hIl, hR, hne, hold⟩
    have hlen := hInts.length
    rw [hlen, List.take_length] at hIl hR
    k_steps
    (rename News h₀ _ _ _ => N10)
    (rename Fr h₀ _ _ _ => F10)
    refine hret _ nR (asI ++ [al]) _ _ _ F10 (by simpa using N10) ?_
    exact (hR.more fun p hp => .tail _ hp).snoc (.head _) ⟨vsl, nL, rfl, hIl⟩
end Mine

set_option maxHeartbeats 8000000
namespace Mine
section
variable {w : World} {mean : ExcName → Option Value} {mg mb : Str → Option Value} {dp un : Nat} {gd : Option (List Code)} {cn : Str} {cs : Scope} {a : Addr} {ccd : Value} {cl : List (Str × Addr)} {outer : List Env} {A₀ : Around} {base h₀ : Heap} {L : Addr} {m : Str → Option Value} {news : List (Addr × Obj)} {s : Shared}
  {lst scr : Addr} {n : Nat} {as : List Addr} {rss : List (List Int)} {vs : List Value} {ns : List Int} {Q E : Value → Shared → Prop} {cls : String}

theorem lr_use (B : Below A₀ base outer h₀) (F : Fr h₀ L s.heap m) (X : (hd.heap_39 w.params).In h₀) (N : News h₀ L s.heap []) (T : Top hd.view_39 (looseW hd.view_39 []) mean mg mb h₀) (hk : cs.kind = .function)
    (hl : h₀.IsList scr vs.toArray) (hI : IntsAre vs ns) (h63 : ns.length ≤ 63) (hdp : dp + 10 < recursionLimit) (hu : un + 100 < cLine)
    (hret : ∀ r n as tl h' tk', Fr h₀ L h' m → News h₀ L h' ((r, seqObj "list" (as.map Value.ref).toArray n) :: tl) → RowsIn "list" tl as (rowsOf ns) → Q (.ref r) { s with heap := h', toks := tk' }) :
    wpAny (model PySem.Challenge.rw_ko0130_01.row.prog w) (ktrTop dp un gd cn cs L a ccd cl outer) (call (.ref 108) [.ref scr]) Q E s :=
  lr_spec w mean mg mb _ _ _ _ _ _ _ _ _ _ _ _ _ _ _ _ _ _ _ _ B F X N T hk hl hI h63 hdp hu hret

theorem cp_use (cls : String) (hc : cls = "list" ∨ cls = "tuple") (B : Below A₀ base outer h₀) (F : Fr h₀ L s.heap m) (X : (hd.heap_39 w.params).In h₀) (N : News h₀ L s.heap news) (T : Top hd.view_39 (looseW hd.view_39 []) mean mg mb h₀) (hk : cs.kind = .function)
    (hl : (lst, seqObj "list" (as.map Value.ref).toArray n) ∈ news) (hr : RowsIn cls news as rss) (hpos : 0 < rss.length) (h64 : rss.length ≤ 64) (hlen : ∀ r ∈ rss, r.length ≤ 64) (hdp : dp + 10 < recursionLimit) (hu : un + 100 < cLine)
    (hret : ∀ c o h' tk', Fr h₀ L h' m → News h₀ L h' ((c, o) :: news) → RowObj cls o (gcp rss) → Q (.ref c) { s with heap := h', toks := tk' }) :
    wpAny (model PySem.Challenge.rw_ko0130_01.row.prog w) (ktrTop dp un gd cn cs L a ccd cl outer) (call (.ref 101) [.ref lst]) Q E s :=
  cp_spec w mean mg mb cls hc _ _ _ _ _ _ _ _ _ _ _ _ _ _ _ _ _ _ _ _ _ _ B F X N T hk hl hr hpos h64 hlen hdp hu hret

theorem lc_use (B : Below A₀ base outer h₀) (F : Fr h₀ L s.heap m) (X : (hd.heap_39 w.params).In h₀) (N : News h₀ L s.heap news) (T : Top hd.view_39 (looseW hd.view_39 []) mean mg mb h₀) (hk : cs.kind = .function)
    (hl : (lst, seqObj "list" (as.map Value.ref).toArray n) ∈ news) (hr : RowsIn "list" news as rss) (hpos : 0 < rss.length) (h64 : rss.length ≤ 64) (hlen : ∀ r ∈ rss, r.length ≤ 64) (hdp : dp + 10 < recursionLimit) (hu : un + 100 < cLine)
    (hret : ∀ c o h' tk', Fr h₀ L h' m → News h₀ L h' ((c, o) :: news) → RowObj "list" o (gcp rss) → Q (.ref c) { s with heap := h', toks := tk' }) :
    wpAny (model PySem.Challenge.rw_ko0130_01.row.prog w) (ktrTop dp un gd cn cs L a ccd cl outer) (call (.ref 115) [.ref lst]) Q E s :=
  lc_spec w mean mg mb _ _ _ _ _ _ _ _ _ _ _ _ _ _ _ _ _ _ _ _ _ _ B F X N T hk hl hr hpos h64 hlen hdp hu hret
end
end Mine

set_option maxHeartbeats 4000000
namespace Mine
section
variable {prog : Program} {w : World} {A : Around} {E Q : Value → Shared → Prop} {s : Shared} {a b : Addr} {xs ys : List Int} {cls : String}
theorem ne_same (hc : cls = "list" ∨ cls = "tuple") (ha : RowAt cls s.heap a xs) (hb : RowAt cls s.heap b ys) (hu : A.units < cLine) (e : xs = ys) (h : Q (.bool false) s) :
    wpAny (model prog w) A (compareOp .NotEq (.ref a) (.ref b)) Q E s := by
  refine ne_rows hc ha hb hu ?_
  have : (!decide (xs = ys)) = false := by simp [e]
  rw [this]; exact h
end
theorem RowObj.at {h₀ h : Heap} {L a : Addr} {o : Obj} {news : List (Addr × Obj)} {cls : String} {xs : List Int} (r : RowObj cls o xs) (N : News h₀ L h news) (hm : (a, o) ∈ news) : RowAt cls h a xs := ⟨o, (N _ hm).1, r⟩

theorem map_getD {α : Type} {js : List Nat} {f : Nat → α} {d : α} {i : Nat} (h : i < js.length) : (js.map f).getD i d = f (js.getD i 0) := by
  simp [h]
theorem getD_in {js : List Nat} {i : Nat} (h : i < js.length) : js.getD i 0 ∈ js := by
  have e : js.getD i 0 = js[i] := by simp [h]
  rw [e]; exact List.getElem_mem h
theorem RowsIn.pick {cls : String} {news : List (Addr × Obj)} {as : List Addr} {rss : List (List Int)} (r : RowsIn cls news as rss) (js : List Nat) (hj : ∀ j ∈ js, j < rss.length) :
    RowsIn cls news (js.map fun j => as.getD j 0) (js.map fun j => rss.getD j []) := by
  refine ⟨by simp, fun i hi => ?_⟩
  have hi' : i < js.length := by simpa using hi
  rw [map_getD hi', map_getD hi']
  exact r.2 _ (hj _ (getD_in hi'))
theorem rev_range (n : Nat) : (List.range n).map (fun k => n - 1 - k) = (List.range n).reverse := by
  apply List.ext_getElem
  · simp
  · intro i h1 h2
    simp
theorem rev_as {α : Type} (xs : List α) (d : α) : xs.reverse = (List.range xs.length).reverse.map (fun j => xs.getD j d) := by
  rw [List.map_reverse]
  congr 1
  apply List.ext_getElem
  · simp
  · intro i h1 h2
    simp at h2
    simp [h2]
theorem RowsIn.rev {cls : String} {news : List (Addr × Obj)} {as : List Addr} {rss : List (List Int)} (r : RowsIn cls news as rss) : RowsIn cls news as.reverse rss.reverse := by
  have h := r.pick (List.range rss.length).reverse fun j hj => by simpa using hj
  rw [← rev_as rss []] at h
  have e := rev_as as 0
  rw [r.1] at e
  rw [e]
  exact h
theorem pick_rev (items : Array Value) : slicePick items none none (some (-1)) = items.toList.reverse.toArray := by
  have e : sliceBounds none none (some (-1)) items.size = ((items.size : Int) - 1, -1, -1) := by
    simp [sliceBounds]
  have e2 : sliceRange ((items.size : Int) - 1) (-1) (-1) = (List.range items.size).reverse := by
    rw [← rev_range]
    unfold sliceRange
    have h1 : ¬ ((-1 : Int) > 0) := by omega
    have hc : (if (-1 : Int) > 0 then (if (items.size : Int) - 1 < -1 then (-1 - ((items.size : Int) - 1) + -1 - 1) / -1 else 0) else (if (items.size : Int) - 1 > -1 then ((items.size : Int) - 1 - -1 - -1 - 1) / (- -1) else 0)).toNat = items.size := by
      rw [if_neg h1]
      have : (- -1 : Int) = 1 := by omega
      rw [this, Int.ediv_one]
      split <;> omega
    dsimp only
    rw [hc]
    apply List.map_congr_left
    intro k hk
    omega
  unfold slicePick
  rw [e]
  dsimp only
  rw [e2]
  have := pick_run items 0 items.size
  rw [List.drop_zero, List.take_of_length_le (by simp)] at this
  rw [List.filterMap_reverse]
  have e3 : (List.range items.size).map (0 + ·) = List.range items.size := by simp
  rw [e3] at this
  rw [this]
theorem drop_take_two {α : Type} {xs : List α} {k : Nat} (d : α) (h0 : 1 ≤ k) (hk : k < xs.length) : (xs.drop (k - 1)).take (k + 1 - (k - 1)) = [xs.getD (k - 1) d, xs.getD k d] := by
  have e : k + 1 - (k - 1) = 2 := by omega
  rw [e]
  have h1 : k - 1 < xs.length := by omega
  rw [List.drop_eq_getElem_cons h1]
  have h2 : k - 1 + 1 = k := by omega
  rw [h2, List.drop_eq_getElem_cons hk]
  have a1 : xs.getD (k - 1) d = xs[k - 1] := by simp [h1]
  have a2 : xs.getD k d = xs[k] := by simp [hk]
  rw [a1, a2]
  rfl

section
variable {prog : Program} {w : World} {A : Around} {E Q : Value → Shared → Prop} {hp h₀ : Heap} {gens : Array GenState} {drawn : Drawn} {toks : Nat} {os : OsState} {L l : Addr} {m : Str → Option Value} {news : List (Addr × Obj)} {as : List Addr} {n : Nat} {value slice : PySem.Expr} {u u2 : Tok} {ops : List Value}
theorem slice_rev (F : Fr h₀ L hp m) (N : News h₀ L hp news) (hm : (l, seqObj "list" (as.map Value.ref).toArray n) ∈ news) (hz : as.length ≤ 1000)
    (h : ∀ h', Fr h₀ L h' m → News h₀ L h' ((hp.objs.size + 1, seqObj "list" (as.reverse.map Value.ref).toArray 0) :: news) → Q (.ref (hp.objs.size + 1)) { heap := h', gens := gens, drawn := drawn, toks := toks, os := os })
    (hs : subscripted slice false (.ref l) (.ref hp.objs.size) = operate ops (getItem (.ref l) (.ref hp.objs.size)) := by with_unfolding_all rfl)
    (ht : ∀ r, letTemporaryGo value (.ref l) r = pure () := by intro _; with_unfolding_all rfl) :
    wpAny (model prog w) A (subscriptTail value slice (.ref l) (.ref hp.objs.size)) Q E { heap := hp.push { cls := .type "slice", data := .fields #[.none, .none, .int (-1) u] }, gens := gens, drawn := drawn, toks := toks, os := os } := by
  have hl := (N _ hm).1
  refine slice_list3 (s := { heap := hp, gens := gens, drawn := drawn, toks := toks, os := os }) F N (items := (as.map Value.ref).toArray) ⟨_, hl, rfl, n, rfl⟩ .none .none (.int _ u) (by decide) (fun h' F' N' => ?_) hs ht (by rw [List.size_toArray, sizeLine_eq, List.length_map]; omega)
  rw [pick_rev, ← List.map_reverse] at N'
  exact h h' F' N'
theorem slice_two {a b : Int} {k : Nat} (F : Fr h₀ L hp m) (N : News h₀ L hp news) (hm : (l, seqObj "list" (as.map Value.ref).toArray n) ∈ news) (ha : a = ((k - 1 : Nat) : Int)) (hb : b = ((k + 1 : Nat) : Int)) (h0 : 1 ≤ k) (hk : k < as.length) (hz : as.length ≤ 1000)
    (h : ∀ h', Fr h₀ L h' m → News h₀ L h' ((hp.objs.size + 1, seqObj "list" ([as.getD (k - 1) 0, as.getD k 0].map Value.ref).toArray 0) :: news) → Q (.ref (hp.objs.size + 1)) { heap := h', gens := gens, drawn := drawn, toks := toks, os := os })
    (hs : subscripted slice false (.ref l) (.ref hp.objs.size) = operate ops (getItem (.ref l) (.ref hp.objs.size)) := by with_unfolding_all rfl)
    (ht : ∀ r, letTemporaryGo value (.ref l) r = pure () := by intro _; with_unfolding_all rfl) :
    wpAny (model prog w) A (subscriptTail value slice (.ref l) (.ref hp.objs.size)) Q E { heap := hp.push { cls := .type "slice", data := .fields #[.int a u, .int b u2, .none] }, gens := gens, drawn := drawn, toks := toks, os := os } := by
  subst ha hb
  have hl := (N _ hm).1
  refine slice_list3 (s := { heap := hp, gens := gens, drawn := drawn, toks := toks, os := os }) F N (items := (as.map Value.ref).toArray) ⟨_, hl, rfl, n, rfl⟩ (.int _ u) (.int _ u2) .none (by decide) (fun h' F' N' => ?_) hs ht (by rw [List.size_toArray, sizeLine_eq, List.length_map]; omega)
  rw [slicePick_run _ (k - 1) (k + 1) (by rw [List.size_toArray, List.length_map]; omega) (by omega)] at N'
  have e : (((as.map Value.ref).toArray.toList.drop (k - 1)).take (k + 1 - (k - 1))) = [as.getD (k - 1) 0, as.getD k 0].map Value.ref := by
    rw [← drop_take_two 0 h0 hk, List.map_take, List.map_drop]
  rw [e] at N'
  exact h h' F' N'
end
end Mine

set_option maxHeartbeats 4000000
namespace Mine
/-- what a comprehension's element leaves: a new object -/
def MadeAt (P : Nat → Obj → Prop) (i : Nat) (s₂ : Shared) (y : Value) (s₃ : Shared) : Prop :=
  ∃ T o, y = .ref T ∧ P i o ∧ (∀ b ob, s₂.heap.get? b = some ob → b < T) ∧ s₃.heap.get? T = some o ∧ Keeps s₂ s₃

structure CompSt (s : Shared) (n : Nat) (I l D C L : Addr) (as : List Addr) (P : Nat → Obj → Prop) (i : Nat) (h : Heap) (made : List (Addr × Obj)) : Prop where
  le : i ≤ n
  it : h.IsListIter I l i
  keep : ∀ b o, s.heap.get? b = some o → h.get? b = some o
  ns : ∃ m, h.Ns C m
  acc : h.PlainList D ((made.map (·.1)).map Value.ref).toArray
  len : made.length = i
  at' : ∀ p ∈ made, h.get? p.1 = some p.2 ∧ p.1 ≠ I ∧ p.1 ≠ D ∧ p.1 ≠ C ∧ L < p.1
  ok : ∀ j p, made[j]? = some p → P j p.2

theorem get_none {h : Heap} {a : Addr} (q : h.objs.size ≤ a) : h.get? a = none := by
  cases e : h.get? a with
  | none => rfl
  | some o => exact absurd (Heap.lt_size e) (Nat.not_lt.mpr q)
theorem ofGet {α : Type} {xs : List α} {v : α} {j : Nat} {p : α} (h : (xs ++ [v])[j]? = some p) : xs[j]? = some p ∨ (j = xs.length ∧ p = v) := by
  rcases Nat.lt_trichotomy j xs.length with q | q | q
  · left; rwa [List.getElem?_append_left q] at h
  · right; subst q; simp at h; exact ⟨rfl, h.symm⟩
  · rw [List.getElem?_eq_none (by rw [List.length_append, List.length_singleton]; omega)] at h; cases h

section
variable {prog : Program} {w : World} {A : Around} {E Q : Value → Shared → Prop} {s : Shared} {env : Env} {h₀ : Heap} {m : Str → Option Value} {news : List (Addr × Obj)} {l : Addr} {as : List Addr} {n : Nat} {x : Str}
theorem comp_new {elt iter : PySem.Expr} {px pos : Pos} {scope : Scope} (P : Nat → Obj → Prop) (hh : A.handled = none) (F : Fr h₀ env.locals s.heap m) (N : News h₀ env.locals s.heap news)
    (hm : (l, seqObj "list" (as.map Value.ref).toArray n) ∈ news) (hz : as.length ≤ 1000)
    (hfree : ∀ y ∈ scope.names, y.2 ≠ .free) (hcell : ∀ y ∈ scope.names, y.2 ≠ .cell) (hkind : scope.kind = .function)
    (hnames : ∀ y ∈ scope.names, y.2 = .local → scope.names.lookup y.1 = some .local) (hx : scope.names.lookup x = some .local)
    (hit : ∀ Q' : Value → Shared → Prop, Q' (.ref l) s → wpAny (model prog w) A (eval iter env) Q' E s)
    (helt : ∀ i C h tk m₂ E', i < as.length → (∀ b o, s.heap.get? b = some o → h.get? b = some o) → h.Ns C m₂ → m₂ x = some (.ref (as.getD i 0)) →
      wpAny (model prog w) A (eval elt (compEnv scope C env)) (MadeAt P i { s with heap := h, toks := tk }) E' { s with heap := h, toks := tk })
    (done : ∀ D k made h' tk, made.length = as.length → Fr h₀ env.locals h' m → News h₀ env.locals h' ((D, seqObj "list" ((made.map (·.1)).map Value.ref).toArray k) :: (made ++ news)) →
      (∀ j p, made[j]? = some p → P j p.2) → Q (.ref D) { s with heap := h', toks := tk })
    (hs : ∀ x, foldedSetIterable iter env x = pure x) :
    wpAny (model prog w) A (eval (.ListComp elt [⟨.Name x px, iter, [], 0⟩] scope pos) env) Q E s := by
  have hl := (N _ hm).1
  have hlt : l < s.heap.objs.size := Heap.lt_size hl
  have hLs : env.locals < s.heap.objs.size := F.ns.lt
  refine wpAny_ListComp hfree hkind hnames (hit _ (wpAny_pyIter_list (items := (as.map Value.ref).toArray) ⟨_, hl, rfl, n, rfl⟩ (wpAny_newObj_type (hd := by size_fits) (wpAny_newFunctionEnv hcell (by intro y hy; simp at hy) (fun h₁ hns₁ hsb₁ => ?_) hkind)))) hs
  dsimp only at hns₁ hsb₁ ⊢
  generalize hH1 : s.heap.push { cls := .type "list_iterator", data := .fields #[.ref l, .int 0 0] } = H1 at hns₁ hsb₁ ⊢
  have hD : H1.objs.size = s.heap.objs.size + 1 := by rw [← hH1, Heap.size_push]
  generalize hH2 : H1.push { cls := .type "list", dict := none, data := .seq ([] : List Value).toArray } = H2 at hns₁ hsb₁ ⊢
  have hC : H2.objs.size = s.heap.objs.size + 2 := by rw [← hH2, Heap.size_push, hD]
  have kp : ∀ b o, H2.get? b = some o → h₁.get? b = some o := fun b o e => hsb₁.extBut b o (Nat.ne_of_lt (Heap.lt_size e)) (Heap.get?_push_of_some _ e)
  have kp1 : ∀ b o, H1.get? b = some o → h₁.get? b = some o := fun b o e => kp b o (hH2 ▸ Heap.get?_push_of_some _ e)
  have kp0 : ∀ b o, s.heap.get? b = some o → h₁.get? b = some o := fun b o e => kp1 b o (hH1 ▸ Heap.get?_push_of_some _ e)
  have st0 : CompSt s as.length s.heap.objs.size l H1.objs.size H2.objs.size env.locals as P 0 h₁ [] :=
    ⟨Nat.zero_le _, ⟨_, kp1 _ _ (hH1 ▸ Heap.get?_push_size _ rfl), rfl, rfl⟩, kp0, ⟨_, hns₁⟩, ⟨0, kp _ _ (hH2 ▸ Heap.get?_push_size _ rfl)⟩, rfl, (fun p hp => nomatch hp), fun j p e => nomatch e⟩
  have loop : ∀ s₃ : Shared, s₃ = { s with heap := h₁, toks := s.toks + ([] : List (Str × Value)).length } →
      codeAny (model prog w) A (.compLoop (.ListComp elt [⟨.Name x px, iter, [], 0⟩] scope pos) 0 (.ref s.heap.objs.size) (.ref H1.objs.size) (compEnv scope H2.objs.size env))
        (fun r s' => ∃ m, s'.heap.Ns H2.objs.size m ∧ ∀ h', Heap.SameBut H2.objs.size s'.heap h' →
          match r with | .ok _ => Q (.ref H1.objs.size) { s' with heap := h' } | .error x => wpAny (model prog w) A (passOn "comprehension.variables-let-go" x (compEnv scope H2.objs.size env)) Q E { s' with heap := h' }) s₃ := by
    rintro s₃ rfl
    refine codeAny_compLoop_list (fun k s' => ∃ i h tk made, s' = { s with heap := h, toks := tk } ∧ k = as.length + 1 - i ∧ CompSt s as.length s.heap.objs.size l H1.objs.size H2.objs.size env.locals as P i h made) ?_ (as.length + 1)
      ⟨0, h₁, _, [], rfl, rfl, st0⟩
    rintro k _ ⟨i, h, tk, made, rfl, rfl, st⟩
    have hll : h.IsList l (as.map Value.ref).toArray := ⟨_, st.keep _ _ hl, rfl, n, rfl⟩
    have hDI : H1.objs.size ≠ s.heap.objs.size := by rw [hD]; omega
    have hDC : H1.objs.size ≠ H2.objs.size := by rw [hD, hC]; omega
    have hIC : s.heap.objs.size ≠ H2.objs.size := by rw [hC]; omega
    have hlI : l ≠ s.heap.objs.size := Nat.ne_of_lt hlt
    by_cases hi : i < as.length
    · have hxi : (as.map Value.ref).toArray[i]? = some (.ref (as.getD i 0)) := by simpa using refs_at rfl hi
      refine wpAny_pyNext_list_item (s := { s with heap := h, toks := tk }) st.it hll hxi fun h2 hit2 hs2 => ?_
      obtain ⟨mC, hnC⟩ := st.ns
      refine wpAny_assign_Name (wpAny_storeName_local (m := mC) hx (hnC.sameBut hs2 (Ne.symm hIC)) (fun h3 hn3 hs3 => ?_) (by simp [compEnv, hkind]))
      have up : ∀ b o, b ≠ s.heap.objs.size → b ≠ H2.objs.size → h.get? b = some o → h3.get? b = some o := fun b o e1 e2 e => hs3.extBut b o e2 (hs2.extBut b o e1 e)
      have kp3 : ∀ b o, s.heap.get? b = some o → h3.get? b = some o := fun b o e => up b o (Nat.ne_of_lt (Heap.lt_size e)) (Nat.ne_of_lt (by rw [hC]; exact Nat.lt_add_right 2 (Heap.lt_size e))) (st.keep b o e)
      refine wpAny_mono (helt i H2.objs.size h3 (tk + 1) _ _ hi kp3 hn3 (by simp)) (fun y s4 h4 => ?_) fun _ _ e => e
      obtain ⟨T, o, rfl, hPo, hT, hTo, h4', tk4, rfl, hk4⟩ := h4
      dsimp only at hT hk4 hTo
      have hC3 : H2.objs.size < T := by obtain ⟨oC, _, _, hoC, _⟩ := hn3; exact hT _ _ hoC
      have acc3 : h3.PlainList H1.objs.size ((made.map (·.1)).map Value.ref).toArray := by
        obtain ⟨k', hk'⟩ := st.acc
        exact ⟨k', up _ _ hDI hDC hk'⟩
      have it3 : h3.IsListIter s.heap.objs.size l (i + 1) := hit2.at fun o e => hs3.extBut _ o hIC e
      have hD3 : H1.objs.size < T := by obtain ⟨k', hk'⟩ := acc3; exact hT _ _ hk'
      have hI3 : s.heap.objs.size < T := by rw [hD] at hD3; omega
      have hsz : ((made.map (·.1)).map Value.ref).toArray.size ≤ sizeLine := by
        rw [List.size_toArray, List.length_map, List.length_map, st.len, sizeLine_eq]; omega
      refine wpAny_list_append_plain (hsz := hsz) (s := { s with heap := h4', toks := tk4 }) (acc3.at fun o e => hk4 _ o e) fun h5 hl5 hs5 => ?_
      refine ⟨as.length + 1 - (i + 1), by omega, i + 1, h5, tk4, made ++ [(T, o)], rfl, rfl, hi, ?_, ?_, ?_, ?_, ?_, ?_, ?_⟩
      · exact it3.at fun o e => hs5.extBut _ o (Ne.symm hDI) (hk4 _ o e)
      · intro b ob e
        have := Heap.lt_size e
        exact hs5.extBut b ob (Nat.ne_of_lt (by rw [hD]; exact Nat.lt_succ_of_lt this)) (hk4 b ob (kp3 b ob e))
      · exact ⟨_, (hn3.keeps hk4).sameBut hs5 (Ne.symm hDC)⟩
      · simpa using hl5
      · rw [List.length_append, st.len]; rfl
      · intro p hp
        rcases List.mem_append.mp hp with hp | hp
        · obtain ⟨a1, a2, a3, a4, a5⟩ := st.at' p hp
          exact ⟨hs5.extBut _ _ a3 (hk4 _ _ (up _ _ a2 a4 a1)), a2, a3, a4, a5⟩
        · rw [List.mem_singleton.mp hp]
          exact ⟨hs5.extBut _ _ (Nat.ne_of_gt hD3) hTo, Nat.ne_of_gt hI3, Nat.ne_of_gt hD3, Nat.ne_of_gt hC3, Nat.lt_trans hLs hI3⟩
      · intro j p e
        rcases ofGet e with e | ⟨e1, e2⟩
        · exact st.ok j p e
        · rw [e1, st.len, e2]; exact hPo
    · have hin : i = as.length := by have := st.le; omega
      subst hin
      refine wpAny_pyNext_list_end (s := { s with heap := h, toks := tk }) hh st.it hll (by simp) fun h2 hs2 => ?_
      obtain ⟨mC, hnC⟩ := st.ns
      refine ⟨mC, hnC.at' fun o e => hs2 _ o (Ne.symm hIC) e, fun h3 hs3 => ?_⟩
      have up : ∀ b o, b ≠ s.heap.objs.size → b ≠ H2.objs.size → h.get? b = some o → h3.get? b = some o := fun b o e1 e2 e => hs3.extBut b o e2 (hs2 b o e1 e)
      have kp3 : ∀ b o, s.heap.get? b = some o → h3.get? b = some o := fun b o e => up b o (Nat.ne_of_lt (Heap.lt_size e)) (Nat.ne_of_lt (by rw [hC]; exact Nat.lt_add_right 2 (Heap.lt_size e))) (st.keep b o e)
      obtain ⟨k', hk'⟩ := st.acc
      have hab := F.above
      refine done _ k' made h3 tk st.len (F.kept kp3) ?_ st.ok
      intro p hp
      rcases List.mem_cons.mp hp with rfl | hp
      · exact ⟨up _ _ hDI hDC hk', Nat.ne_of_gt (by rw [hD]; exact Nat.lt_succ_of_lt hLs), get_none (by show h₀.objs.size ≤ H1.objs.size; rw [hD]; exact Nat.le_succ_of_le (Nat.le_trans hab (Nat.le_of_lt hLs)))⟩
      · rcases List.mem_append.mp hp with hp | hp
        · obtain ⟨a1, a2, a3, a4, a5⟩ := st.at' p hp
          exact ⟨up _ _ a2 a4 a1, Nat.ne_of_gt a5, get_none (Nat.le_trans hab (Nat.le_of_lt a5))⟩
        · exact ⟨kp3 _ _ (N p hp).1, (N p hp).2⟩
  exact codeAny_compStart_list (loop _ rfl) (wpAny_pyIter_listiter st0.it (loop _ rfl))

end
end Mine

set_option maxHeartbeats 4000000
namespace Mine
section
variable {M : Model} {A : Around} {E Q : Value → Shared → Prop} {s : Shared} {scope : Scope} {C : Addr} {env : Env} {h₀ : Heap}
  {N : Nat} {mg mb : Str → Option Value} {defs : List DefItem} {consts : List (Str × PyData)} {objs : List (Str × (Obj → Prop))} {names : List Str}
theorem nm_builtin {x : Str} {pos : Pos} {v : Value} (G : Glob N mg mb defs consts objs names h₀) (kp : ∀ b o, h₀.get? b = some o → s.heap.get? b = some o) (hv : bootBuiltins x = some v) (h : Q v s)
    (hfree : x ∉ names := by decide) (hboot : x ∉ bootMainNames := by decide) (hn : x ≠ "__name__" := by decide) (hg : env.globals = mainGlobals := by rfl) (hb : env.builtins = builtinsNs := by rfl)
    (hk : (compEnv scope C env).scope.kind = .function := by rfl) (hx : (compEnv scope C env).kindOf x = some .globalImplicit := by rfl)
    (hd : (x == ("__debug__" : Str)) = false := by decide) : wpAny M A (eval (.Name x pos) (compEnv scope C env)) Q E s :=
  Calls.Name_function_global hk hx (Calls.loadGlobal_builtin (env := compEnv scope C env) (show s.heap.Ns env.globals mg from hg ▸ (G.g.at' fun o e => kp _ o e)) (G.free x hfree hboot) (show s.heap.Ns env.builtins mb from hb ▸ (G.b.at' fun o e => kp _ o e)) ((G.builtins x hn).trans hv) h) hd
end
section
variable {prog : Program} {w : World} {A : Around} {E Q : Value → Shared → Prop} {s : Shared} {a : Addr} {xs : List Int}
theorem tuple_row (hr : RowAt "list" s.heap a xs) (hlen : xs.length ≤ 1000)
    (h : ∀ T o h', RowObj "tuple" o xs → (∀ b ob, s.heap.get? b = some ob → b < T) → h'.get? T = some o → (∀ b ob, s.heap.get? b = some ob → h'.get? b = some ob) → Q (.ref T) { s with heap := h' }) :
    wpAny (model prog w) A (call (.type "tuple") [.ref a]) Q E s := by
  obtain ⟨_, ho, vs, n, rfl, hI⟩ := hr
  have hl := hI.length
  refine call_tuple_list (items := vs.toArray) ⟨_, ho, rfl, n, rfl⟩ (fun h' hk => ?_) (by rw [List.size_toArray, sizeLine_eq]; omega)
  exact h _ _ _ ⟨vs, 0, rfl, hI⟩ (fun b ob e => Heap.lt_size (hk b ob e)) (Heap.get?_push_size _ rfl) fun b ob e => Heap.get?_push_of_some _ (hk b ob e)
end
theorem News.snoc1 {h₀ h h' : Heap} {L g : Addr} {o : Obj} {news : List (Addr × Obj)} {N : News h₀ L h news} (hk : ∀ b o, h.get? b = some o → h'.get? b = some o) (hg : h'.get? g = some o) (h1 : g ≠ L) (h2 : h₀.get? g = none) :
    News h₀ L h' ((g, o) :: news) := fun p hp => by
  rcases List.mem_cons.mp hp with rfl | hp
  · exact ⟨hg, h1, h2⟩
  · exact News.grown N hk p hp
/-- the ledger after a comprehension of new rows -/
theorem RowsIn.made {cls : String} {news made : List (Addr × Obj)} {rss : List (List Int)} (hl : made.length = rss.length) (hP : ∀ j p, made[j]? = some p → RowObj cls p.2 (rss.getD j []))
    (hs : ∀ p ∈ made, p ∈ news) : RowsIn cls news (made.map (·.1)) rss := by
  refine ⟨by simpa using hl, fun i hi => ?_⟩
  have hi' : i < made.length := by omega
  have e : (made.map (·.1)).getD i 0 = made[i].1 := by simp [hi']
  rw [e]
  exact ⟨made[i].2, hs _ (List.getElem_mem hi'), hP i _ (by simp [hi'])⟩
end Mine

set_option maxHeartbeats 4000000
namespace Mine
/-- the neighbours' common beginnings, by their lengths -/
def nbr (rg : List (List Int)) (i : Nat) : List Int := (List.range i).map fun j => ((gcp [rg.getD j [], rg.getD (j + 1) []]).length : Int)
theorem nbr_succ (rg : List (List Int)) (i : Nat) : nbr rg (i + 1) = nbr rg i ++ [((gcp [rg.getD i [], rg.getD (i + 1) []]).length : Int)] := by
  unfold nbr; rw [List.range_succ]; simp
def ShP (sh : Addr) (base : List (Addr × Obj)) (rg : List (List Int)) (i : Nat) (nx : List (Addr × Obj)) : Prop :=
  ∃ vs nS, nx = (sh, seqObj "list" vs.toArray nS) :: base ∧ IntsAre vs (nbr rg i)
theorem sh_end {h₀ h9 : Heap} {L I sh : Addr} {oI : Obj} {nS i tk : Nat} {vs : List Value} {base more : List (Addr × Obj)} {rg : List (List Int)} {t : Tok} {m : Str → Option Value} {x : Str} {v v2 : Option Value} {s : Shared} {Q : Flow → Shared → Prop}
    (hI : IntsAre vs (nbr rg i)) (hIx : ∀ p ∈ (sh, seqObj "list" vs.toArray nS) :: base, p.1 ≠ I) (hb : AllLt sh base)
    (F9 : Fr h₀ L h9 (fun y => if y = x then v else if y = x then v2 else m y))
    (hN9 : ∀ nx : List (Addr × Obj), (∀ p ∈ nx, p ∈ (more ++ (I, oI) :: (sh, seqObj "list" vs.toArray nS) :: base) ∧ p.1 ≠ sh) →
      News h₀ L h9 ((sh, seqObj "list" (vs ++ [Value.int ((gcp [rg.getD i [], rg.getD (i + 1) []]).length : Int) t]).toArray (nS + 1)) :: nx)) :
    GrowEnd h₀ L I oI (J2 (ShP sh base rg) m x x (i + 1)) s Q .next { s with heap := h9, toks := tk } := by
  have hIsh : sh ≠ I := hIx _ (.head _)
  have hall := allLt_mem hb
  refine growEnd1 (nx := (sh, seqObj "list" (vs ++ [Value.int ((gcp [rg.getD i [], rg.getD (i + 1) []]).length : Int) t]).toArray (nS + 1)) :: base) F9 ?_ ?_ ⟨_, nS + 1, rfl, ?_⟩
  · have N := hN9 ((I, oI) :: base) fun p hp => by
      rcases List.mem_cons.mp hp with rfl | hp
      · exact ⟨List.mem_append_right _ (.head _), fun e => hIsh e.symm⟩
      · exact ⟨List.mem_append_right _ (.tail _ (.tail _ hp)), Nat.ne_of_lt (hall p hp)⟩
    intro p hp
    rcases List.mem_cons.mp hp with rfl | hp
    · exact N _ (.tail _ (.head _))
    · rcases List.mem_cons.mp hp with rfl | hp
      · exact N _ (.head _)
      · exact N p (.tail _ (.tail _ hp))
  · intro p hp
    rcases List.mem_cons.mp hp with rfl | hp
    · exact hIsh
    · exact hIx p (.tail _ hp)
  · rw [nbr_succ]; exact IntsAre.append hI (.cons _ _ .nil)
theorem len_refs {prog : Program} {w : World} {A : Around} {E Q : Value → Shared → Prop} {s : Shared} {h₀ : Heap} {L l : Addr} {news : List (Addr × Obj)} {as : List Addr} {n : Nat} (N : News h₀ L s.heap news) (hm : (l, seqObj "list" (as.map Value.ref).toArray n) ∈ news) (hz : as.length ≤ 100000)
    (h : ∀ t tk, Q (.int as.length t) { s with toks := tk }) : wpAny (model prog w) A (call (.builtin "len") [.ref l]) Q E s := by
  refine Calls.call_len_list (items := (as.map Value.ref).toArray) ⟨_, (N _ hm).1, rfl, n, rfl⟩ (by rw [List.size_toArray, List.length_map]; omega) ?_
  rw [List.size_toArray, List.length_map]
  exact h _ _
theorem pick_two {rg : List (List Int)} {i : Nat} : ([i, i + 1].map fun j => rg.getD j []) = [rg.getD i [], rg.getD (i + 1) []] := rfl
theorem sorted_perm {rss : List (List Int)} {p : List Nat} (h : SortOut rss p) : (p.map fun j => rss.getD j []).Perm rss := by
  have := h.1.map fun j => rss.getD j []
  have e : (List.range rss.length).map (fun j => rss.getD j []) = rss := by
    apply List.ext_getElem
    · simp
    · intro i h1 h2
      simp at h1
      simp [h1]
  rwa [e] at this
theorem sorted_sorted {rss : List (List Int)} {p : List Nat} (h : SortOut rss p) : (p.map fun j => rss.getD j []).Pairwise kle := List.pairwise_map.mpr h.2
theorem nbr_len (rg : List (List Int)) (i : Nat) : (nbr rg i).length = i := by simp [nbr]
end Mine

set_option maxHeartbeats 4000000
namespace Mine
theorem RowAt.det {cls : String} {h : Heap} {a : Addr} {xs ys : List Int} (x : RowAt cls h a xs) (y : RowAt cls h a ys) : xs = ys := by
  obtain ⟨_, ho, vs, n, rfl, hx⟩ := x
  obtain ⟨_, ho2, ws, n2, e, hy⟩ := y
  rw [ho] at ho2
  cases ho2
  have e' : vs = ws := by
    injection e with _ _ e3 _
    injection e3 with e4 _
    simpa using e4
  subst e'
  rw [← hx.nums, ← hy.nums]
section
variable {prog : Program} {w : World} {A : Around} {E Q : Value → Shared → Prop} {s : Shared} {h₀ : Heap} {L H T : Addr} {m : Str → Option Value} {news : List (Addr × Obj)} {hs : List Addr} {D : List (List Int)} {x : List Int} {nH : Nat}
theorem notin_rows (N : News h₀ L s.heap news) (hm : (H, seqObj "list" (hs.map Value.ref).toArray nH) ∈ news) (hr : RowsIn "list" news hs D) (hx : RowAt "list" s.heap T x) (hu : A.in1.units < cLine)
    (h1 : x ∈ D → Q (.bool false) s) (h2 : x ∉ D → Q (.bool true) s) :
    wpAny (model prog w) A (compareOp .NotIn (.ref T) (.ref H)) Q E s := by
  have at' := hr.at N
  refine SeqAt.notIn_listAt (items := (hs.map Value.ref).toArray) (fun v => @decide _ (Classical.propDecidable (∃ a, v = .ref a ∧ RowAt "list" s.heap a x))) ⟨_, (N _ hm).1, rfl, nH, rfl⟩ (fun y hy => ?_) ?_
  · obtain ⟨i, hi, e⟩ := List.mem_iff_getElem.mp (show y ∈ hs.map Value.ref by simpa using hy)
    have hi' : i < hs.length := by simpa using hi
    have hiD : i < D.length := by rw [← hr.1]; exact hi'
    have e2 : y = .ref (hs.getD i 0) := by rw [← e]; simp [hi']
    subst e2
    have hri := at' i hiD
    have key : @decide _ (Classical.propDecidable (∃ a, Value.ref (hs.getD i 0) = .ref a ∧ RowAt "list" s.heap a x)) = decide (D.getD i [] = x) := by
      apply decide_eq_decide.mpr
      constructor
      · rintro ⟨a, ea, hra⟩
        cases ea
        exact hri.det hra
      · intro q
        exact ⟨_, rfl, q ▸ hri⟩
    rw [key]
    exact eqAt_rows (A := A.in1) (.inl rfl) hri hx hu
  · by_cases q : x ∈ D
    · have : ((hs.map Value.ref).toArray.any fun v => @decide _ (Classical.propDecidable (∃ a, v = .ref a ∧ RowAt "list" s.heap a x))) = true := by
        obtain ⟨j, hj, e⟩ := mem_getD q
        rw [List.any_toArray, List.any_eq_true]
        have hj' : j < hs.length := by rw [hr.1]; exact hj
        refine ⟨.ref (hs.getD j 0), List.mem_iff_getElem.mpr ⟨j, by simpa using hj', by simp [hj']⟩, ?_⟩
        exact @decide_eq_true _ (Classical.propDecidable _) ⟨_, rfl, e ▸ at' j hj⟩
      rw [this]
      exact h1 q
    · have : ((hs.map Value.ref).toArray.any fun v => @decide _ (Classical.propDecidable (∃ a, v = .ref a ∧ RowAt "list" s.heap a x))) = false := by
        rw [List.any_toArray, List.any_eq_false]
        intro v hv
        obtain ⟨i, hi, e⟩ := List.mem_iff_getElem.mp hv
        have hi' : i < hs.length := by simpa using hi
        have hiD : i < D.length := by rw [← hr.1]; exact hi'
        have e2 : v = .ref (hs.getD i 0) := by rw [← e]; simp [hi']
        subst e2
        intro hd
        obtain ⟨a, ea, hra⟩ := @of_decide_eq_true _ (Classical.propDecidable _) hd
        cases ea
        have := (at' i hiD).det hra
        exact q (this ▸ getD_mem hiD)
      rw [this]
      exact h2 q
end
section
variable {prog : Program} {w : World} {A : Around} {E Q : Value → Shared → Prop} {hp h₀ : Heap} {gens : Array GenState} {drawn : Drawn} {toks : Nat} {os : OsState} {L a : Addr} {m : Str → Option Value} {news : List (Addr × Obj)} {value slice : PySem.Expr} {xs : List Int} {u : Tok} {ops : List Value}
theorem slice_lit {b : Int} {k : Nat} (F : Fr h₀ L hp m) (N : News h₀ L hp news) (hr : RowAt "list" hp a xs) (hb : b = (k : Int)) (hk : k ≤ xs.length) (hlen : xs.length ≤ 1000)
    (h : ∀ h' o, Fr h₀ L h' m → News h₀ L h' ((hp.objs.size + 1, o) :: news) → RowObj "list" o (xs.take k) → Q (.ref (hp.objs.size + 1)) { heap := h', gens := gens, drawn := drawn, toks := toks, os := os })
    (hs : subscripted slice false (.ref a) (.ref hp.objs.size) = operate ops (getItem (.ref a) (.ref hp.objs.size)) := by with_unfolding_all rfl)
    (ht : ∀ r, letTemporaryGo value (.ref a) r = pure () := by intro _; with_unfolding_all rfl) :
    wpAny (model prog w) A (subscriptTail value slice (.ref a) (.ref hp.objs.size)) Q E { heap := hp.push { cls := .type "slice", data := .fields #[.none, .int b u, .none] }, gens := gens, drawn := drawn, toks := toks, os := os } := by
  subst hb
  obtain ⟨_, ho, vs, n, rfl, hI⟩ := hr
  have hl := hI.length
  refine slice_list3 (s := { heap := hp, gens := gens, drawn := drawn, toks := toks, os := os }) F N (items := vs.toArray) ⟨_, ho, rfl, n, rfl⟩ .none (.int _ u) .none (by decide) (fun h' F' N' => ?_) hs ht (by rw [List.size_toArray, sizeLine_eq]; omega)
  rw [slicePick_upto _ k (by rw [List.size_toArray]; omega)] at N'
  exact h h' _ F' N' ⟨vs.take k, 0, by simp, hI.take k⟩
end
/-- the heads so far -/
def hstep (D : List (List Int)) (x : List Int) : List (List Int) := if x ∈ D then D else D ++ [x]
def hrows (D : List (List Int)) (row : List Int) (k : Nat) : List (List Int) := ((List.range k).map fun j => row.take (j + 1)).foldl hstep D
def hall (rows : List (List Int)) : List (List Int) := rows.foldl (fun D row => hrows D row row.length) []
theorem hrows_succ (D : List (List Int)) (row : List Int) (k : Nat) : hrows D row (k + 1) = hstep (hrows D row k) (row.take (k + 1)) := by
  unfold hrows; rw [List.range_succ, List.map_append, List.foldl_append]; rfl
theorem hall_succ {rows : List (List Int)} {i : Nat} (h : i < rows.length) : hall (rows.take (i + 1)) = hrows (hall (rows.take i)) (rows.getD i []) (rows.getD i []).length := by
  unfold hall
  have e : rows.take (i + 1) = rows.take i ++ [rows.getD i []] := by
    rw [List.take_add_one]; simp [h]
  rw [e, List.foldl_append]; rfl
theorem hstep_len (D : List (List Int)) (x : List Int) : (hstep D x).length ≤ D.length + 1 := by
  unfold hstep; split
  · omega
  · simp
theorem hrows_len (D : List (List Int)) (row : List Int) (k : Nat) : (hrows D row k).length ≤ D.length + k := by
  induction k with
  | zero => exact Nat.le_refl _
  | succ k ih => rw [hrows_succ]; have := hstep_len (hrows D row k) (row.take (k + 1)); omega
theorem hall_len {rows : List (List Int)} (h : ∀ r ∈ rows, r.length ≤ 64) : ∀ i, i ≤ rows.length → (hall (rows.take i)).length ≤ 64 * i := by
  intro i
  induction i with
  | zero => intro _; simp [hall]
  | succ i ih =>
    intro hi
    rw [hall_succ hi]
    have a := hrows_len (hall (rows.take i)) (rows.getD i []) (rows.getD i []).length
    have b := ih (by omega)
    have c := h _ (getD_mem (rss := rows) (i := i) hi)
    omega
/-- the ledger with the heads -/
def HP (H : Addr) (base : List (Addr × Obj)) (front : List (Addr × Obj)) (D : List (List Int)) (nx : List (Addr × Obj)) : Prop :=
  ∃ hs nH made, nx = front ++ (H, seqObj "list" (hs.map Value.ref).toArray nH) :: (made ++ base) ∧ RowsIn "list" made hs D ∧ ∀ p ∈ made, p.1 ≠ H ∧ ∀ q ∈ front, p.1 ≠ q.1
section
variable {h₀ h9 : Heap} {L I I2 H T2 : Addr} {oI oI2 oT : Obj} {nH i tk : Nat} {hs : List Addr} {base made more : List (Addr × Obj)} {D : List (List Int)} {row : List Int} {m : Str → Option Value} {x x2 : Str} {v v2 w2 : Option Value} {s : Shared} {Q : Flow → Shared → Prop}
theorem hp_new (hRh : RowsIn "list" made hs (hrows D row i)) (hnot : row.take (i + 1) ∉ hrows D row i) (hro : RowObj "list" oT (row.take (i + 1)))
    (hne : ∀ p ∈ made, p.1 ≠ H ∧ ∀ q ∈ [(I, oI)], p.1 ≠ q.1)
    (hIx : ∀ p ∈ [(I, oI)] ++ (H, seqObj "list" (hs.map Value.ref).toArray nH) :: (made ++ base), p.1 ≠ I2) (hb : AllLt H base) (hIH : I ≠ H)
    (hT : T2 ≠ H ∧ T2 ≠ I ∧ T2 ≠ I2)
    (F9 : Fr h₀ L h9 (fun y => if y = x then v else if y = x then v2 else m y))
    (hN9 : ∀ nx : List (Addr × Obj), (∀ p ∈ nx, p ∈ ((T2, oT) :: (more ++ (I2, oI2) :: (I, oI) :: (H, seqObj "list" (hs.map Value.ref).toArray nH) :: (made ++ base))) ∧ p.1 ≠ H) →
      News h₀ L h9 ((H, seqObj "list" (hs.map Value.ref ++ [Value.ref T2]).toArray (nH + 1)) :: nx)) :
    GrowEnd h₀ L I2 oI2 (J2 (fun k nx => HP H base [(I, oI)] (hrows D row k) nx) m x x (i + 1)) s Q .next { s with heap := h9, toks := tk } := by
  have hall := allLt_mem hb
  have hI2I : I ≠ I2 := hIx _ (.head _)
  have hI2H : H ≠ I2 := hIx _ (.tail _ (.head _))
  have hI2m : ∀ p ∈ made ++ base, p.1 ≠ I2 := fun p hp => hIx p (.tail _ (.tail _ hp))
  refine growEnd1 (nx := [(I, oI)] ++ (H, seqObj "list" ((hs ++ [T2]).map Value.ref).toArray (nH + 1)) :: (((T2, oT) :: made) ++ base)) F9 ?_ ?_ ⟨hs ++ [T2], nH + 1, (T2, oT) :: made, rfl, ?_, ?_⟩
  · have N := hN9 ((I2, oI2) :: (I, oI) :: (((T2, oT) :: made) ++ base)) fun p hp => by
      rcases List.mem_cons.mp hp with rfl | hp
      · exact ⟨.tail _ (List.mem_append_right _ (.head _)), fun e => hI2H e.symm⟩
      · rcases List.mem_cons.mp hp with rfl | hp
        · exact ⟨.tail _ (List.mem_append_right _ (.tail _ (.head _))), hIH⟩
        · rcases List.mem_cons.mp hp with rfl | hp
          · exact ⟨.head _, hT.1⟩
          · refine ⟨.tail _ (List.mem_append_right _ (.tail _ (.tail _ (.tail _ hp)))), ?_⟩
            rcases List.mem_append.mp hp with hp | hp
            · exact (hne p hp).1
            · exact Nat.ne_of_lt (hall p hp)
    intro p hp
    rcases List.mem_cons.mp hp with rfl | hp
    · exact N _ (.tail _ (.head _))
    · rcases List.mem_cons.mp hp with rfl | hp
      · exact N _ (.tail _ (.tail _ (.head _)))
      · rcases List.mem_cons.mp hp with rfl | hp
        · rw [List.map_append]; exact N _ (.head _)
        · exact N p (.tail _ (.tail _ (.tail _ hp)))
  · intro p hp
    rcases List.mem_cons.mp hp with rfl | hp
    · exact hI2I
    · rcases List.mem_cons.mp hp with rfl | hp
      · exact hI2H
      · rcases List.mem_cons.mp hp with rfl | hp
        · exact hT.2.2
        · exact hI2m p hp
  · rw [hrows_succ, hstep, if_neg hnot]
    exact (hRh.more fun p hp => .tail _ hp).snoc (.head _) hro
  · intro p hp
    rcases List.mem_cons.mp hp with rfl | hp
    · exact ⟨hT.1, fun q hq => by rw [List.mem_singleton.mp hq]; exact hT.2.1⟩
    · exact hne p hp
theorem hp_old (hRh : RowsIn "list" made hs (hrows D row i)) (hin : row.take (i + 1) ∈ hrows D row i)
    (hne : ∀ p ∈ made, p.1 ≠ H ∧ ∀ q ∈ [(I, oI)], p.1 ≠ q.1)
    (hIx : ∀ p ∈ [(I, oI)] ++ (H, seqObj "list" (hs.map Value.ref).toArray nH) :: (made ++ base), p.1 ≠ I2)
    (F9 : Fr h₀ L h9 (fun y => if y = x then v else if y = x then v2 else m y))
    (N9 : News h₀ L h9 (more ++ (I2, oI2) :: ([(I, oI)] ++ (H, seqObj "list" (hs.map Value.ref).toArray nH) :: (made ++ base)))) :
    GrowEnd h₀ L I2 oI2 (J2 (fun k nx => HP H base [(I, oI)] (hrows D row k) nx) m x x (i + 1)) s Q .next { s with heap := h9, toks := tk } := by
  refine growEnd1 F9 (News.sub N9 fun p hp => List.mem_append_right _ hp) hIx ⟨hs, nH, made, rfl, ?_, hne⟩
  rw [hrows_succ, hstep, if_pos hin]
  exact hRh
theorem hp_out {rss : List (List Int)} (hne2 : x ≠ x2) (hi : i < rss.length) (hRh : RowsIn "list" made hs (hrows (hall (rss.take i)) (rss.getD i []) (rss.getD i []).length))
    (hne : ∀ p ∈ made, p.1 ≠ H ∧ ∀ q ∈ [(I, oI)], p.1 ≠ q.1) (hIH : H ≠ I) (hIb : ∀ p ∈ base, p.1 ≠ I)
    (F9 : Fr h₀ L h9 (fun y => if y = x2 then w2 else if y = x then v else if y = x2 then v2 else m y))
    (N9 : News h₀ L h9 ([(I, oI)] ++ (H, seqObj "list" (hs.map Value.ref).toArray nH) :: (made ++ base))) :
    GrowEnd h₀ L I oI (J2 (fun i nx => HP H base [] (hall (rss.take i)) nx) m x x2 (i + 1)) s Q .next { s with heap := h9, toks := tk } := by
  refine growEnd2 hne2 F9 N9 ?_ ⟨hs, nH, made, rfl, ?_, fun p hp => ⟨(hne p hp).1, fun q hq => nomatch hq⟩⟩
  · intro p hp
    rcases List.mem_cons.mp hp with rfl | hp
    · exact hIH
    · rcases List.mem_append.mp hp with hp | hp
      · exact (hne p hp).2 _ (.head _)
      · exact hIb p hp
  · rw [hall_succ hi]; exact hRh
end
end Mine

set_option maxHeartbeats 4000000
namespace Mine
def LenOf (h : Heap) (v y : Value) : Prop := ∃ a xs t, v = .ref a ∧ RowAt "list" h a xs ∧ y = .int (xs.length : Int) t
theorem lens_ints {h : Heap} : ∀ (as : List Addr) (rss : List (List Int)) (ys : List Value), as.length = rss.length → (∀ i, i < rss.length → RowAt "list" h (as.getD i 0) (rss.getD i [])) →
    Paired (LenOf h) (as.map Value.ref) ys → IntsAre ys (rss.map fun r => (r.length : Int)) := by
  intro as
  induction as with
  | nil =>
    intro rss ys hl _ hP
    cases rss with
    | nil => cases hP; exact .nil
    | cons _ _ => simp at hl
  | cons a t ih =>
    intro rss ys hl hr hP
    cases rss with
    | nil => simp at hl
    | cons r rt =>
      cases hP with
      | cons hF hT =>
        obtain ⟨a', xs, u, e, hx, rfl⟩ := hF
        cases e
        have h0 := hr 0 (by simp)
        have e2 : xs = r := hx.det h0
        subst e2
        refine .cons _ _ (ih rt _ (by simpa using hl) (fun i hi => ?_) hT)
        have := hr (i + 1) (by simpa using hi)
        simpa using this
section
variable {prog : Program} {w : World} {A : Around} {E Q : Value → Shared → Prop} {s : Shared} {env : Env} {h₀ : Heap} {m : Str → Option Value} {news : List (Addr × Obj)} {l : Addr} {as : List Addr} {rss : List (List Int)} {n : Nat} {x : Str}
theorem comp_len {elt iter : PySem.Expr} {px pos : Pos} {scope : Scope} (hh : A.handled = none) (F : Fr h₀ env.locals s.heap m) (N : News h₀ env.locals s.heap news)
    (hm : (l, seqObj "list" (as.map Value.ref).toArray n) ∈ news) (hr : RowsIn "list" news as rss) (hz : rss.length ≤ 1000)
    (hfree : ∀ y ∈ scope.names, y.2 ≠ .free) (hcell : ∀ y ∈ scope.names, y.2 ≠ .cell) (hkind : scope.kind = .function)
    (hnames : ∀ y ∈ scope.names, y.2 = .local → scope.names.lookup y.1 = some .local) (hx : scope.names.lookup x = some .local)
    (hit : ∀ Q' : Value → Shared → Prop, Q' (.ref l) s → wpAny (model prog w) A (eval iter env) Q' E s)
    (helt : ∀ i C s₂ m₂ E', i < rss.length → (∀ b o, s.heap.get? b = some o → s₂.heap.get? b = some o) → s₂.heap.Ns C m₂ → m₂ x = some (.ref (as.getD i 0)) →
      wpAny (model prog w) A (eval elt (compEnv scope C env)) (fun y s₃ => (∃ t, y = .int ((rss.getD i []).length : Int) t) ∧ Keeps s₂ s₃) E' s₂)
    (done : ∀ D vs o h' tk, Fr h₀ env.locals h' m → News h₀ env.locals h' ((D, o) :: news) → h'.IsList D vs.toArray → IntsAre vs (rss.map fun r => (r.length : Int)) → Q (.ref D) { s with heap := h', toks := tk })
    (hs : ∀ x, foldedSetIterable iter env x = pure x) :
    wpAny (model prog w) A (eval (.ListComp elt [⟨.Name x px, iter, [], 0⟩] scope pos) env) Q E s := by
  have hl := (N _ hm).1
  have hal := hr.1
  have at' := hr.at N
  refine wpAny_ListComp_map (fun _ => true) (LenOf s.heap) hh hfree hcell hkind hnames hx (hit _ ⟨l, (as.map Value.ref).toArray, rfl, ⟨_, hl, rfl, n, rfl⟩, by rw [List.size_toArray, List.length_map, sizeLine_eq]; omega, ?_, ?_, ?_⟩) hs
  · intro C v s₂ m₂ E' _ _ _ _
    exact wpAny_pure ⟨rfl, s₂.heap, s₂.toks, rfl, fun _ _ e => e⟩
  · intro C v s₂ m₂ E' hv _ hn hm₂ hk
    obtain ⟨i, hi, e⟩ := List.mem_iff_getElem.mp (show v ∈ as.map Value.ref by simpa using hv)
    have hi' : i < as.length := by simpa using hi
    have e2 : v = .ref (as.getD i 0) := by rw [← e]; simp [hi']
    subst e2
    have hir : i < rss.length := by omega
    exact wpAny_mono (helt i C s₂ m₂ E' hir hk hn hm₂) (fun y s₃ h₃ => ⟨let ⟨t, ht⟩ := h₃.1; ⟨_, _, t, rfl, at' i hir, ht⟩, h₃.2⟩) fun _ _ e => e
  · intro D h' tk ys hnew hlD hP hk
    have hP' : Paired (LenOf s.heap) (as.map Value.ref) ys.toList := by
      have e : ((as.map Value.ref).toArray.toList.filter fun _ => true) = as.map Value.ref := by simp
      rw [← e]; exact hP
    obtain ⟨o, ho, hoc⟩ := id hlD
    have e3 : ys.toList.toArray = ys := by simp
    refine done D ys.toList o h' tk (F.kept hk) (News.snoc1 (N := N) hk ho ?_ ?_) (by rw [e3]; exact hlD) (lens_ints as rss _ hal at' hP')
    · intro e4
      obtain ⟨oL, _, _, hL, _⟩ := F.ns
      rw [e4, hL] at hnew
      cases hnew
    · cases e5 : h₀.get? D with
      | none => rfl
      | some o' => rw [F.keep _ _ e5] at hnew; cases hnew
end
end Mine

set_option maxHeartbeats 4000000
namespace Mine
/-- the total of the rows' lengths -/
def tot (rss : List (List Int)) : Nat := (rss.map List.length).sum
def Small (rss : List (List Int)) : Prop := 0 < rss.length ∧ rss.length + tot rss ≤ 64
theorem tot_append (a b : List (List Int)) : tot (a ++ b) = tot a + tot b := by simp [tot]
theorem rowsSt_tot (ns : List Int) : ∀ st : List (List Int) × List Int, (ns.foldl rowsStep st).1.length + tot (ns.foldl rowsStep st).1 + (ns.foldl rowsStep st).2.length = st.1.length + tot st.1 + st.2.length + ns.length := by
  induction ns with
  | nil => intro st; simp
  | cons n ns ih =>
    intro st
    rw [List.foldl_cons, ih]
    unfold rowsStep
    by_cases h : n < 0
    · simp [h, tot_append, tot]; omega
    · simp [h]; omega
theorem rowsOf_small {ns : List Int} (h : ns.length ≤ 63) : Small (rowsOf ns) := by
  have e := rowsSt_tot ns ([], [])
  have e' : (rowsSt ns).1.length + tot (rowsSt ns).1 + (rowsSt ns).2.length = ns.length := by
    have : tot ([] : List (List Int)) = 0 := rfl
    simp only [List.length_nil, this] at e
    have e2 : rowsSt ns = List.foldl rowsStep ([], []) ns := rfl
    rw [e2]; omega
  constructor
  · simp [rowsOf]
  · simp only [rowsOf, tot_append, List.length_append, List.length_cons, List.length_nil]
    have : tot [(rowsSt ns).2] = (rowsSt ns).2.length := by simp [tot]
    omega
theorem tot_mem {rss : List (List Int)} {r : List Int} (h : r ∈ rss) : r.length ≤ tot rss := by
  induction rss with
  | nil => exact absurd h (by simp)
  | cons a t ih =>
    have e : tot (a :: t) = a.length + tot t := by simp [tot]
    rcases List.mem_cons.mp h with rfl | h
    · omega
    · have := ih h; omega
theorem Small.pos {rss : List (List Int)} (h : Small rss) : 0 < rss.length := h.1
theorem Small.le {rss : List (List Int)} (h : Small rss) : rss.length ≤ 64 := by have := h.2; omega
theorem Small.row {rss : List (List Int)} (h : Small rss) : ∀ r ∈ rss, r.length ≤ 63 := fun r hr => by
  have := tot_mem hr; have := h.2; have := h.1; omega
theorem Small.row64 {rss : List (List Int)} (h : Small rss) : ∀ r ∈ rss, r.length ≤ 64 := fun r hr => Nat.le_succ_of_le (h.row r hr)
theorem Small.sort {rss : List (List Int)} (h : Small rss) : rss.length < 64 ∨ (rss.length = 64 ∧ ∀ i, i < 64 → rss.getD i [] = []) := by
  by_cases e : rss.length < 64
  · exact .inl e
  · have h2 := h.2
    refine .inr ⟨by omega, fun i hi => ?_⟩
    have : (rss.getD i []).length ≤ tot rss := tot_mem (getD_mem (by omega))
    exact List.eq_nil_of_length_eq_zero (by omega)
end Mine

set_option maxHeartbeats 4000000
namespace Mine
theorem take_prefix_of_le {p xs : List Int} {M : Nat} (h : p <+: xs) (hM : M ≤ p.length) : xs.take M = p.take M := by
  obtain ⟨t, rfl⟩ := h
  rw [List.take_append_of_le_length hM]
theorem min_nbr {rss rg : List (List Int)} {R1 : Nat} {M : Int} (hperm : rg.Perm rss) (hpos : 0 < rss.length) (hR : rg.length = R1 + 1)
    (h1 : M ∈ nbr rg R1 ++ [((rg.getD 0 []).length : Int)]) (h2 : ∀ a, a ∈ nbr rg R1 ++ [((rg.getD 0 []).length : Int)] → M ≤ a) : ((gcp rss).length : Int) = M := by
  have hg : IsGcp rss (gcp rss) := gcp_is hpos
  have hin : ∀ j, j ≤ R1 → rg.getD j [] ∈ rss := fun j hj => hperm.mem_iff.mp (getD_mem (by omega))
  -- the one way: the common beginning of all begins each
  have up : ((gcp rss).length : Int) ≤ M := by
    rcases List.mem_append.mp h1 with h | h
    · obtain ⟨j, hj, rfl⟩ := List.mem_map.mp h
      have hj' : j < R1 := by simpa using hj
      have q : gcp rss <+: gcp [rg.getD j [], rg.getD (j + 1) []] := by
        refine (gcp_is (rss := [rg.getD j [], rg.getD (j + 1) []]) (Nat.zero_lt_succ _)).2 _ fun x hx => ?_
        rcases List.mem_cons.mp hx with rfl | hx
        · exact hg.1 _ (hin j (by omega))
        · rw [List.mem_singleton.mp hx]; exact hg.1 _ (hin (j + 1) (by omega))
      have := q.length_le
      omega
    · rw [List.mem_singleton.mp h]
      have := (hg.1 _ (hin 0 (by omega))).length_le
      omega
  -- the other: as much of the first row begins every row
  have hM0 : 0 ≤ M := by omega
  obtain ⟨K, rfl⟩ : ∃ K : Nat, M = (K : Int) := ⟨M.toNat, by omega⟩
  have hK0 : K ≤ (rg.getD 0 []).length := by
    have := h2 _ (List.mem_append_right _ (List.mem_singleton_self _))
    omega
  have hKj : ∀ j, j < R1 → K ≤ (gcp [rg.getD j [], rg.getD (j + 1) []]).length := fun j hj => by
    have := h2 _ (List.mem_append_left _ (List.mem_map.mpr ⟨j, by simpa using hj, rfl⟩))
    omega
  have all : ∀ j, j ≤ R1 → (rg.getD 0 []).take K <+: rg.getD j [] := by
    intro j
    induction j with
    | zero => intro _; exact List.take_prefix _ _
    | succ j ih =>
      intro hj
      have a := ih (by omega)
      have b := (gcp_is (rss := [rg.getD j [], rg.getD (j + 1) []]) (Nat.zero_lt_succ _)).1
      have b1 := b _ (.head _)
      have b2 := b _ (.tail _ (.head _))
      have hk := hKj j (by omega)
      have hl : ((rg.getD 0 []).take K).length = K := by rw [List.length_take]; omega
      have e1 : (rg.getD j []).take K = (rg.getD 0 []).take K := by
        have := take_prefix_of_le a (M := K) (by omega)
        rw [this, List.take_take, Nat.min_self]
      have e2 := take_prefix_of_le b1 (M := K) hk
      have e3 := take_prefix_of_le b2 (M := K) hk
      rw [← e1, e2, ← e3]
      exact List.take_prefix _ _
  have : (rg.getD 0 []).take K <+: gcp rss := hg.2 _ fun x hx => by
    obtain ⟨j, hj, rfl⟩ := mem_getD (hperm.mem_iff.mpr hx)
    exact all j (by omega)
  have := this.length_le
  rw [List.length_take] at this
  omega
end Mine

set_option maxHeartbeats 4000000
namespace Mine
/-- x is a beginning, not the empty one, of a row -/
def Head (rss : List (List Int)) (x : List Int) : Prop := ∃ r ∈ rss, x <+: r ∧ x ≠ []
theorem nodup_le {α : Type} [DecidableEq α] : ∀ (a b : List α), a.Nodup → (∀ x ∈ a, x ∈ b) → a.length ≤ b.length
  | [], _, _, _ => Nat.zero_le _
  | x :: t, b, hn, hs => by
    have hx : x ∈ b := hs x (.head _)
    obtain ⟨h1, h2⟩ := List.nodup_cons.mp hn
    have := nodup_le t (b.erase x) h2 fun y hy => by
      have hne : y ≠ x := fun e => h1 (e ▸ hy)
      exact (List.mem_erase_of_ne hne).mpr (hs y (.tail _ hy))
    rw [List.length_erase_of_mem hx] at this
    have : 0 < b.length := List.length_pos_of_mem hx
    simp only [List.length_cons]
    omega
theorem nodup_eq {α : Type} [DecidableEq α] {a b : List α} (ha : a.Nodup) (hb : b.Nodup) (h : ∀ x, x ∈ a ↔ x ∈ b) : a.length = b.length :=
  Nat.le_antisymm (nodup_le a b ha fun x hx => (h x).mp hx) (nodup_le b a hb fun x hx => (h x).mpr hx)
theorem hstep_nodup {D : List (List Int)} {x : List Int} (h : D.Nodup) : (hstep D x).Nodup := by
  unfold hstep; split
  · exact h
  · rename_i hx
    rw [List.nodup_append]
    exact ⟨h, by simp, fun a ha b hb e => hx (by rw [List.mem_singleton.mp hb] at e; exact e ▸ ha)⟩
theorem hstep_mem {D : List (List Int)} {x y : List Int} : y ∈ hstep D x ↔ y ∈ D ∨ y = x := by
  unfold hstep; split
  · rename_i hx
    exact ⟨.inl, fun h => h.elim id fun e => e ▸ hx⟩
  · simp
theorem hrows_is {D : List (List Int)} {row : List Int} (hD : D.Nodup) : ∀ k, k ≤ row.length → (hrows D row k).Nodup ∧ ∀ y, y ∈ hrows D row k ↔ y ∈ D ∨ ∃ j, j < k ∧ y = row.take (j + 1) := by
  intro k
  induction k with
  | zero => intro _; exact ⟨hD, fun y => ⟨.inl, fun h => h.elim id fun ⟨j, hj, _⟩ => absurd hj (Nat.not_lt_zero j)⟩⟩
  | succ k ih =>
    intro hk
    obtain ⟨h1, h2⟩ := ih (by omega)
    rw [hrows_succ]
    refine ⟨hstep_nodup h1, fun y => ?_⟩
    rw [hstep_mem, h2 y]
    constructor
    · rintro ((h | ⟨j, hj, e⟩) | e)
      · exact .inl h
      · exact .inr ⟨j, by omega, e⟩
      · exact .inr ⟨k, by omega, e⟩
    · rintro (h | ⟨j, hj, e⟩)
      · exact .inl (.inl h)
      · rcases Nat.lt_or_ge j k with q | q
        · exact .inl (.inr ⟨j, q, e⟩)
        · have : j = k := by omega
          exact .inr (this ▸ e)
theorem head_iff {row y : List Int} : (∃ j, j < row.length ∧ y = row.take (j + 1)) ↔ y <+: row ∧ y ≠ [] := by
  constructor
  · rintro ⟨j, hj, rfl⟩
    refine ⟨List.take_prefix _ _, fun e => ?_⟩
    have : (row.take (j + 1)).length = 0 := by rw [e]; rfl
    rw [List.length_take] at this
    omega
  · rintro ⟨h, hne⟩
    have hp : 0 < y.length := List.length_pos_iff.mpr hne
    have hl := h.length_le
    refine ⟨y.length - 1, by omega, ?_⟩
    have e : y.length - 1 + 1 = y.length := by omega
    rw [e]
    exact List.prefix_iff_eq_take.mp h
theorem hall_is (rss : List (List Int)) : ∀ i, i ≤ rss.length → (hall (rss.take i)).Nodup ∧ ∀ y, y ∈ hall (rss.take i) ↔ Head (rss.take i) y := by
  intro i
  induction i with
  | zero => intro _; exact ⟨by simp [hall], fun y => by simp [hall, Head]⟩
  | succ i ih =>
    intro hi
    obtain ⟨h1, h2⟩ := ih (by omega)
    rw [hall_succ hi]
    obtain ⟨h3, h4⟩ := hrows_is (row := rss.getD i []) h1 _ (Nat.le_refl _)
    refine ⟨h3, fun y => ?_⟩
    rw [h4 y, h2 y, head_iff]
    have e : rss.take (i + 1) = rss.take i ++ [rss.getD i []] := by
      have hi' : i < rss.length := hi
      rw [List.take_add_one]; simp [hi']
    rw [e]
    unfold Head
    constructor
    · rintro (⟨r, hr, h⟩ | h)
      · exact ⟨r, List.mem_append_left _ hr, h⟩
      · exact ⟨_, List.mem_append_right _ (List.mem_singleton_self _), h⟩
    · rintro ⟨r, hr, h⟩
      rcases List.mem_append.mp hr with hr | hr
      · exact .inl ⟨r, hr, h⟩
      · rw [List.mem_singleton.mp hr] at h; exact .inr h
theorem hrows_count {D : List (List Int)} {row : List Int} {c : Nat} (hD : D.Nodup) (hc : ∀ j, j < row.length → (row.take (j + 1) ∈ D ↔ j < c)) : ∀ k, k ≤ row.length → (hrows D row k).length = D.length + (k - c) := by
  intro k
  induction k with
  | zero => intro _; simp [hrows]
  | succ k ih =>
    intro hk
    have i1 := ih (by omega)
    obtain ⟨_, h2⟩ := hrows_is (row := row) hD k (by omega)
    have hiff : row.take (k + 1) ∈ hrows D row k ↔ k < c := by
      rw [h2, hc k (by omega)]
      constructor
      · rintro (h | ⟨j, hj, e⟩)
        · exact h
        · exfalso
          have := congrArg List.length e
          rw [List.length_take, List.length_take] at this
          omega
      · exact .inl
    rw [hrows_succ]
    unfold hstep
    by_cases q : k < c
    · rw [if_pos (hiff.mpr q), i1]; omega
    · rw [if_neg (fun h => q (hiff.mp h)), List.length_append, i1]
      simp only [List.length_cons, List.length_nil]
      omega
theorem sorted_le {rg : List (List Int)} (h : rg.Pairwise kle) {i j : Nat} (hij : i ≤ j) (hj : j < rg.length) : kle (rg.getD i []) (rg.getD j []) := by
  rcases Nat.lt_or_ge i j with q | q
  · have := List.pairwise_iff_getElem.mp h i j (by omega) hj q
    have e1 : rg.getD i [] = rg[i] := by simp [show i < rg.length by omega]
    have e2 : rg.getD j [] = rg[j] := by simp [hj]
    rw [e1, e2]; exact this
  · have : i = j := by omega
    rw [this]; exact kle_refl _
theorem take_succ_getD {rg : List (List Int)} {i : Nat} (h : i < rg.length) : rg.take (i + 1) = rg.take i ++ [rg.getD i []] := by
  rw [List.take_add_one]; simp [h]
theorem mem_take {rg : List (List Int)} {i : Nat} {r : List Int} (h : r ∈ rg.take i) : ∃ j, j < i ∧ j < rg.length ∧ r = rg.getD j [] := by
  obtain ⟨j, hj, e⟩ := List.mem_iff_getElem.mp h
  rw [List.length_take] at hj
  refine ⟨j, by omega, by omega, ?_⟩
  rw [← e]; simp [show j < rg.length by omega]
theorem heads_sorted {rg : List (List Int)} (hs : rg.Pairwise kle) : ∀ i, i < rg.length → ((hall (rg.take (i + 1))).length : Int) = (tot (rg.take (i + 1)) : Int) - (nbr rg i).sum := by
  intro i
  induction i with
  | zero =>
    intro h
    rw [hall_succ h]
    have e0 : hall (rg.take 0) = [] := by simp [hall]
    rw [e0]
    have := hrows_count (D := []) (row := rg.getD 0 []) (c := 0) List.nodup_nil (fun j _ => by simp) _ (Nat.le_refl _)
    rw [this, take_succ_getD h]
    have e1 : (nbr rg 0).sum = 0 := by simp [nbr]
    rw [e1]
    simp [tot]
  | succ i ih =>
    intro h
    have hi : i < rg.length := by omega
    have a := ih hi
    obtain ⟨b1, b2⟩ := hall_is rg (i + 1) (by omega)
    have g := (gcp_is (rss := [rg.getD i [], rg.getD (i + 1) []]) (Nat.zero_lt_succ _))
    have g1 := g.1 _ (.head _)
    have g2 := g.1 _ (.tail _ (.head _))
    have gl := g2.length_le
    have key := hrows_count (row := rg.getD (i + 1) []) (c := (gcp [rg.getD i [], rg.getD (i + 1) []]).length) b1 (fun j hj => by
      have hlen : ((rg.getD (i + 1) []).take (j + 1)).length = j + 1 := by rw [List.length_take]; omega
      rw [b2]
      constructor
      · rintro ⟨r, hr, hp, _⟩
        obtain ⟨j', hj1, hj2, rfl⟩ := mem_take hr
        have q1 := sorted_le hs (i := j') (j := i) (by omega) hi
        have q2 := sorted_le hs (i := i) (j := i + 1) (by omega) h
        have q3 := squeeze q1 q2 hp (List.take_prefix _ _)
        have q4 := g.2 ((rg.getD (i + 1) []).take (j + 1)) fun x hx => by
          rcases List.mem_cons.mp hx with rfl | hx
          · exact q3
          · rw [List.mem_singleton.mp hx]; exact List.take_prefix _ _
        have := q4.length_le
        omega
      · intro hj'
        refine ⟨rg.getD i [], ?_, ?_, fun e => by rw [e] at hlen; cases hlen⟩
        · rw [take_succ_getD hi]; exact List.mem_append_right _ (List.mem_singleton_self _)
        · rw [take_prefix_of_le g2 (M := j + 1) (by omega)]
          exact (List.take_prefix _ _).trans g1) _ (Nat.le_refl _)
    rw [hall_succ h, key, nbr_succ, take_succ_getD h, tot_append]
    have e2 : tot [rg.getD (i + 1) []] = (rg.getD (i + 1) []).length := by simp [tot]
    rw [e2, List.sum_append]
    simp only [List.sum_cons, List.sum_nil]
    omega
theorem tot_perm {a b : List (List Int)} (h : a.Perm b) : tot a = tot b := by
  induction h with
  | nil => rfl
  | cons x _ ih => simp only [tot, List.map_cons, List.sum_cons] at *; omega
  | swap x y l => simp only [tot, List.map_cons, List.sum_cons]; omega
  | trans _ _ i1 i2 => exact i1.trans i2
theorem heads_total {rss rg : List (List Int)} {R1 : Nat} (hperm : rg.Perm rss) (hs : rg.Pairwise kle) (hR : rg.length = R1 + 1) :
    ((hall rss).length : Int) = (tot rss : Int) - (nbr rg R1).sum := by
  have a := heads_sorted hs R1 (by omega)
  rw [← hR, List.take_length, tot_perm hperm] at a
  rw [← a]
  have h1 := hall_is rss rss.length (Nat.le_refl _)
  have h2 := hall_is rg rg.length (Nat.le_refl _)
  rw [List.take_length] at h1 h2
  have := nodup_eq h1.1 h2.1 fun x => by
    rw [h1.2, h2.2]
    unfold Head
    constructor
    · rintro ⟨r, hr, h⟩; exact ⟨r, hperm.mem_iff.mpr hr, h⟩
    · rintro ⟨r, hr, h⟩; exact ⟨r, hperm.mem_iff.mp hr, h⟩
  rw [this]
theorem sum_lens (rss : List (List Int)) : (rss.map fun r => (r.length : Int)).sum = (tot rss : Int) := by
  induction rss with
  | nil => rfl
  | cons a t ih => simp only [tot, List.map_cons, List.sum_cons] at *; omega
end Mine

set_option maxHeartbeats 8000000
namespace Mine
local macro_rules | `(tactic| walk_at "law steps") => `(tactic| repeat' ((try dsimp only); (fail_if_success (with_reducible show wpAny _ _ (PySem.call (Value.ref 108) _) _ _ _)); (fail_if_success (with_reducible show wpAny _ _ (PySem.call (Value.ref 101) _) _ _ _)); (fail_if_success (with_reducible show wpAny _ _ (PySem.call (Value.ref 115) _) _ _ _)); (fail_if_success (with_reducible show wpAny _ _ (PySem.call (Value.builtin "list.append") _ _) _ _ _)); (fail_if_success (with_reducible show wpAny _ _ (PySem.call (Value.builtin "sorted") _ _) _ _ _)); (fail_if_success (with_reducible show wpAny _ _ (PySem.pyIter _) _ _ _)); (fail_if_success (with_reducible show wpAny _ _ (PySem.eval (Expr.Name "tuple" _) (compEnv _ _ _)) _ _ _)); (fail_if_success (with_reducible show wpAny _ _ (PySem.eval (Expr.Name "len" _) (compEnv _ _ _)) _ _ _)); (fail_if_success (with_reducible show wpAny _ _ (PySem.compareOp CmpOp.NotIn _ _) _ _ _)); (fail_if_success (with_reducible show wpAny _ _ (PySem.compareOp CmpOp.NotEq (Value.ref _) (Value.ref _)) _ _ _)); (fail_if_success (with_reducible show wpAny _ _ (PySem.call (Value.builtin "len") _) _ _ _)); (fail_if_success (with_reducible show wpAny _ _ (PySem.call (Value.builtin "min") _) _ _ _)); (fail_if_success (with_reducible show wpAny _ _ (PySem.call (Value.builtin "sum") _) _ _ _)); (fail_if_success (with_reducible show wpAny _ _ (PySem.execs (Stmt.Assign [Expr.Name _ _] (Expr.List _ _) _ :: _) _) _ _ _)); (fail_if_success (with_reducible show wpAny _ _ (subscriptTail _ _ _ _) _ _ _)); (fail_if_success (with_reducible show wpAny _ _ (PySem.eval (.ListComp _ _ _ _) _) _ _ _)); (first | (k_unfold; (try dsimp only)) | (k_end; wrow_close) | walk1 | (leave1; walk_say "STEP leave1"; try dsimp only) | fail "no step")))
theorem law_holds : PySem.Challenge.rw_ko0130_01.Holds := hd (by
  k_go0
  all_goals try k_fold
  walk_at "law steps"
  (rename IntsAre _ _ => hInts)
  (rename Below _ _ _ _ => K0)
  (rename Top _ _ _ _ _ _ => T)
  (rename Shared => s1)
  (rename Glob _ _ _ _ _ _ _ _ => GL)
  (rename Frag.In _ _ => KX)
  (rename Fr _ _ _ _ => F0)
  (rename News _ _ _ _ => N0)
  (rename Heap.IsList _ _ _ => hL)
  (rename ¬ _ < _ => hcond)
  refine lr_use K0 F0 KX N0 T rfl hL hInts (by omega) (by decide) (by decide) fun r n as tl h1 tk1 F1 N1 hR1 => ?_
  walk_at "law steps"
  have hS := rowsOf_small (ns := ‹List Int›) (by omega)
  generalize rowsOf _ = rss at hR1 hS
  (rename News _ _ _ _ => N2)
  (rename Fr _ _ _ _ => F2)
  refine cp_use "list" (.inl rfl) K0 F2 KX N2 T rfl (.head _) (hR1.more fun _ h => .tail _ h) hS.pos hS.le hS.row64 (by decide) (by decide) fun c oc h3 tk3 F3 N3 hc3 => ?_
  walk_at "law steps"
  (rename News _ _ _ _ => N4)
  (rename Fr _ _ _ _ => F4)
  refine lc_use K0 F4 KX N4 T rfl (.tail _ (.head _)) (hR1.more fun _ h => .tail _ (.tail _ h)) hS.pos hS.le hS.row64 (by decide) (by decide) fun d od h5 tk5 F5 N5 hd5 => ?_
  walk_at "law steps"
  refine ne_same (.inl rfl) (hc3.at N5 (.tail _ (.head _))) (hd5.at N5 (.head _)) (by units_room) rfl ?_
  dsimp only
  walk_at "law steps"
  dsimp only
  refine slice_rev F5 N5 (.tail _ (.tail _ (.head _))) (by have := hS.le; have := hR1.1; omega) fun h6 F6 N6 => ?_
  walk_at "law steps"
  refine cp_use "list" (.inl rfl) K0 F6 KX N6 T rfl (.head _) ((hR1.more fun _ h => .tail _ (.tail _ (.tail _ (.tail _ h)))).rev) (by simpa using hS.pos) (by simpa using hS.le) (fun r hr => hS.row64 r (by simpa using hr)) (by decide) (by decide) fun c2 oc2 h7 tk7 F7 N7 hc7 => ?_
  try dsimp only
  walk_at "law steps"
  try dsimp only
  refine ne_same (.inl rfl) (hc7.at N7 (.head _)) (hc3.at N7 (.tail _ (.tail _ (.tail _ (.head _))))) (by units_room) (gcp_congr hS.pos (by simpa using hS.pos) (by simp)) ?_
  try dsimp only
  walk_at "law steps"
  try dsimp only
  refine comp_new (n := n) (as := as) (fun i o => RowObj "tuple" o (rss.getD i [])) rfl F7 N7 (.tail _ (.tail _ (.tail _ (.tail _ (.head _))))) (by have := hS.le; have := hR1.1; omega) (by decide) (by decide) rfl (by decide) rfl ?it ?el ?dn ?fo
  case it =>
    intro Q' hQ'
    walk_at "law steps"
    exact hQ'
  case el =>
    intro i C h tk m₂ E' hi hkp hns hm₂
    dsimp only at hkp
    walk_at "law steps"
    refine nm_builtin (v := .type "tuple") GL (fun b o e => hkp _ _ (F7.keep b o e)) rfl ?_
    walk_at "law steps"
    have hia : i < rss.length := by have := hR1.1; omega
    refine tuple_row (s := { heap := h, gens := s1.gens, drawn := s1.drawn, toks := tk, os := s1.os }) (((hR1.more fun _ h => .tail _ (.tail _ (.tail _ (.tail _ (.tail _ h))))).at (News.grown N7 hkp)) i hia) (Nat.le_trans (hS.row _ (getD_mem hia)) (by decide)) fun T' o' h' hro hT hTo hk => ?_
    exact ⟨T', o', rfl, hro, hT, hTo, h', tk, rfl, hk⟩
  case fo => intro x; with_unfolding_all rfl
  case dn =>
    intro D k made h' tk hlen F8 N8 hP
    dsimp only
    have hPn := hR1.1
    walk_at "law steps"
    refine cp_use "tuple" (.inr rfl) K0 F8 KX N8 T rfl (.head _) (RowsIn.made (hlen.trans hPn) hP (fun p hp => .tail _ (List.mem_append_left _ hp))) hS.pos hS.le hS.row64 (by decide) (by decide) fun c3 oc3 h9 tk9 F9 N9 hc9 => ?_
    try dsimp only
    walk_at "law steps"
    have hg1 : (gcp rss).length ≤ 63 := by
      have := gcp_length_le (getD_mem hS.pos)
      have := hS.row _ (getD_mem hS.pos)
      omega
    refine tuple_row (s := { heap := h9, gens := s1.gens, drawn := s1.drawn, toks := tk9, os := s1.os }) (hc3.at N9 (.tail _ (.tail _ (List.mem_append_right _ (.tail _ (.tail _ (.tail _ (.head _)))))))) (by omega) fun T' o' h' hro hT hTo hk => ?_
    have F10 := F9.kept hk
    have c10 := hc9.at (News.grown N9 hk) (.head _)
    have N10 := News.sub (news' := (c, oc) :: (r, seqObj "list" (as.map Value.ref).toArray n) :: tl) (News.grown N9 hk) (fun p hp => .tail _ (.tail _ (List.mem_append_right _ (.tail _ (.tail _ (.tail _ hp))))))
    clear N9 F9 N8 F8 N7 F7 N6 F6 N5 F5
    try dsimp only
    walk_at "law steps"
    refine ne_same (.inr rfl) c10 ⟨_, hTo, hro⟩ (by units_room) rfl ?_
    try dsimp only
    walk_at "law steps"
    have rowsA := (hR1.more (news' := (c, oc) :: (r, seqObj "list" (as.map Value.ref).toArray n) :: tl) fun _ h => .tail _ (.tail _ h))
    (rename News _ _ _ _ => N11)
    (rename Fr _ _ _ _ => F11)
    refine sorted_rows (as := as) (rss := rss) ⟨_, (N11 _ (.tail _ (.head _))).1, rfl, n, rfl⟩ hPn hS.pos hS.sort (rowsA.at N11) (by units_room) fun p e h12 hp hnew hk12 => ?_
    dsimp only at hnew hk12
    have hplt : ∀ j ∈ p, j < rss.length := fun j hj => by simpa using hp.1.mem_iff.mp hj
    have hpl : p.length = rss.length := by simpa using hp.1.length_eq
    have e12 : (p.map fun i => Value.ref (as.getD i 0)) = (p.map fun i => as.getD i 0).map Value.ref := by simp
    rw [e12] at hnew
    have F12 := F11.kept hk12
    have hLh := F11.ns.lt
    have N12 := News.snoc1 (N := N11) hk12 hnew (Nat.ne_of_gt (Nat.lt_succ_of_lt hLh)) (get_none (Nat.le_succ_of_le (Nat.le_trans F11.above (Nat.le_of_lt hLh))))
    have rowsG := rowsA.pick p hplt
    have hperm := sorted_perm hp
    have hsort := sorted_sorted hp
    generalize (p.map fun j => rss.getD j []) = rg at rowsG hperm hsort
    have hrgl : rg.length = rss.length := hperm.length_eq
    have hrow : ∀ i, i < rg.length → (rg.getD i []).length ≤ 63 := fun i hi => hS.row _ (hperm.mem_iff.mp (getD_mem hi))
    clear hnew hk12 e12 F11 N11 c10
    generalize h'.objs.size + 1 = g at N12 ⊢
    generalize (p.map fun i => as.getD i 0) = ga at N12 rowsG
    try dsimp only
    walk_at "law steps"
    refine wpAny_execs_cons ?_
    walk_at "law steps"
    (rename News _ _ _ _ => N13)
    (rename Fr _ _ _ _ => F13)
    rename_i sh h13b l1 _
    have hgl : ga.length = rss.length := by have := rowsG.1; omega
    have hRl := hS.le
    refine len_refs N13 (.tail _ (.head _)) (by omega) fun tl1 tk1 => ?_
    try dsimp only
    walk_at "law steps"
    (rename News _ _ _ _ => N14)
    (rename Fr _ _ _ _ => F14)
    (rename IsRange _ _ _ _ _ _ _ _ => hr14)
    have hgpos : 0 < ga.length := by have := hS.pos; omega
    obtain ⟨R1, hR1e⟩ : ∃ R1, ga.length = R1 + 1 := ⟨ga.length - 1, by omega⟩
    have hG0 : AllLt sh ((g, seqObj "list" (ga.map Value.ref).toArray e) :: (c, oc) :: (r, seqObj "list" (as.map Value.ref).toArray n) :: tl) := l1
    refine for_range2 (x2 := "k") (k := R1) rfl hr14 (by rw [hR1e]; rfl) (by omega) F14 N14
      (ShP sh ((g, seqObj "list" (ga.map Value.ref).toArray e) :: (c, oc) :: (r, seqObj "list" (as.map Value.ref).toArray n) :: tl) rg) ⟨[], 0, rfl, .nil⟩ ?turn ?done
    case turn =>
      rintro i t v2 nx h tk I oI hi ⟨vs, nS, rfl, hIv⟩ hIx F2 N2
      walk_at "law steps"
      dsimp only
      have hi1 : i + 1 < rg.length := by omega
      refine slice_two (k := i + 1) F2 N2 (.tail _ (.tail _ (.head _))) (by omega) (by omega) (by omega) (by omega) (by omega) fun h6 F6 N6 => ?_
      walk_at "law steps"
      have hpick := rowsG.pick [i, i + 1] (by intro j hj; rcases List.mem_cons.mp hj with rfl | hj; omega; rw [List.mem_singleton.mp hj]; omega)
      refine cp_use (rss := [rg.getD i [], rg.getD (i + 1) []]) "list" (.inl rfl) K0 F6 KX N6 T rfl (.head _) (hpick.more fun p hp => .tail _ (.tail _ (.tail _ (.tail _ hp)))) (Nat.zero_lt_succ _) (by show 2 ≤ 64; decide)
        (by intro q hq; rcases List.mem_cons.mp hq with rfl | hq; exact Nat.le_succ_of_le (hrow i (by omega)); rw [List.mem_singleton.mp hq]; exact Nat.le_succ_of_le (hrow (i + 1) hi1)) (by decide) (by decide) fun c5 oc5 h7 tk7 F7 N7 hc7 => ?_
      walk_at "law steps"
      have hl7 := gcp_length_le (rss := [rg.getD i [], rg.getD (i + 1) []]) (.head _)
      have hl7' := hrow i (by omega)
      refine len_row (hc7.at N7 (.head _)) (by omega) fun t8 tk8 => ?_
      walk_at "law steps"
      have hIl := hIv.length
      rw [nbr_len] at hIl
      refine append_led F7 N7 (.tail _ (.tail _ (.tail _ (.head _)))) (by omega) fun h9 F9 hN9 => ?_
      walk_at "law steps"
      exact sh_end (more := [_, _]) hIv hIx hG0 F9 hN9
    case done =>
      rintro h' tk v v2 nx F2 N2 ⟨vs, nS, rfl, hIv⟩
      dsimp only
      walk_at "law steps"
      have hIl := hIv.length
      rw [nbr_len] at hIl
      refine len_row (hc3.at N2 (.tail _ (.tail _ (.head _)))) (by omega) fun t3 tk3 => ?_
      walk_at "law steps"
      dsimp only
      refine item_list (vs := ga.map Value.ref) ⟨_, (N2 _ (.tail _ (.head _))).1, rfl, e, rfl⟩ (by decide) (by decide) (refs_at rfl hgpos) ?_
      walk_at "law steps"
      have hr0 := hrow 0 (by omega)
      refine len_row (((rowsG.more fun p hp => .tail _ (.tail _ hp)).at N2) 0 (by omega)) (by omega) fun t4 tk4 => ?_
      walk_at "law steps"
      (rename News _ _ _ _ => N20)
      (rename Fr _ _ _ _ => F20)
      refine min_list_N (by rfl) F20 N20 (vs := vs ++ [Value.int ((rg.getD 0 []).length : Int) t4]) ⟨_, (N20 _ (.head _)).1, rfl, _, rfl⟩ (IntsAre.append hIv (.cons _ _ .nil)) (by simp) fun h21 M t21 tk21 F21 N21 hM1 hM2 => ?_
      have hM := min_nbr (rss := rss) hperm hS.pos (by omega) hM1 hM2
      subst hM
      have N22 := News.sub (news' := (sh, seqObj "list" vs.toArray nS) :: (g, seqObj "list" (ga.map Value.ref).toArray e) :: (c, oc) :: (r, seqObj "list" (as.map Value.ref).toArray n) :: tl) N21 fun p hp => .tail _ (.tail _ hp)
      clear N21 N20 F20
      dsimp only
      walk_at "law steps"
      dsimp only
      refine wpAny_execs_cons ?_
      walk_at "law steps"
      (rename News _ _ _ _ => N30)
      (rename Fr _ _ _ _ => F30)
      rename_i H _ _ _ l2 _
      have hH0 : AllLt H ((sh, seqObj "list" vs.toArray nS) :: (g, seqObj "list" (ga.map Value.ref).toArray e) :: (c, oc) :: (r, seqObj "list" (as.map Value.ref).toArray n) :: tl) := l2
      refine for_led2 (l := r) (vs := as.map Value.ref) (n := n) (x2 := "k") rfl F30 N30
        (fun i nx => HP H ((sh, seqObj "list" vs.toArray nS) :: (g, seqObj "list" (ga.map Value.ref).toArray e) :: (c, oc) :: (r, seqObj "list" (as.map Value.ref).toArray n) :: tl) [] (hall (rss.take i)) nx)
        ⟨[], 0, [], rfl, ⟨rfl, fun i hi => absurd hi (Nat.not_lt_zero i)⟩, fun p hp => nomatch hp⟩
        (by rintro i nx ⟨hs, nH, made, rfl, _, _⟩; exact .tail _ (List.mem_append_right _ (.tail _ (.tail _ (.tail _ (.head _)))))) ?turn2 ?done2
      case turn2 =>
        rintro i v v2 nx h tk I oI hv ⟨hs, nH, made, rfl, hRh, hne⟩ hIx F31 N31
        have hia : i < as.length := by simpa using (List.getElem?_eq_some_iff.mp hv).1
        rw [refs_at rfl hia] at hv
        cases hv
        have hir : i < rss.length := by omega
        have hri := hS.row _ (getD_mem hir)
        walk_at "law steps"
        try dsimp only
        refine len_row (((hR1.more (fun p hp => .tail _ (.tail _ (List.mem_append_right _ (.tail _ (.tail _ (.tail _ (.tail _ hp)))))))).at N31) i hir) (by omega) fun t1 tk1 => ?_
        walk_at "law steps"
        (rename News _ _ _ _ => N32)
        (rename Fr _ _ _ _ => F32)
        (rename IsRange _ _ _ _ _ _ _ _ => hr32)
        refine for_range2 (x2 := "k") (k := (rss.getD i []).length) rfl hr32 rfl (by omega) F32 N32
          (fun k nx => HP H ((sh, seqObj "list" vs.toArray nS) :: (g, seqObj "list" (ga.map Value.ref).toArray e) :: (c, oc) :: (r, seqObj "list" (as.map Value.ref).toArray n) :: tl) [(I, oI)] (hrows (hall (rss.take i)) (rss.getD i []) k) nx)
          ⟨hs, nH, made, rfl, hRh, fun p hp => ⟨(hne p hp).1, fun q hq => by rw [List.mem_singleton.mp hq]; exact hIx p (.tail _ (List.mem_append_left _ hp))⟩⟩ ?turn3 ?done3
        case turn3 =>
          rintro k t v3 nx h tk I2 oI2 hk ⟨hs, nH, made, rfl, hRh, hne⟩ hIx2 F33 N33
          walk_at "law steps"
          try dsimp only
          have hb1 := hall_len hS.row64 i (by omega)
          have hb2 := hrows_len (hall (rss.take i)) (rss.getD i []) k
          have hb3 := hRh.1
          have hIH : I ≠ H := fun e => hIx _ (.head _) e.symm
          refine slice_lit (k := k + 1) F33 N33 (((hR1.more (fun p hp => .tail _ (.tail _ (.tail _ (List.mem_append_right _ (.tail _ (.tail _ (.tail _ (.tail _ hp))))))))).at N33) i hir) (by omega) (by omega) (by omega) fun h6 o6 F6 N6 hr6 => ?_
          walk_at "law steps"
          try dsimp only
          refine notin_rows N6 (.tail _ (.tail _ (.tail _ (.head _)))) (hRh.more fun p hp => .tail _ (.tail _ (.tail _ (.tail _ (List.mem_append_left _ hp))))) (hr6.at N6 (.head _)) (by units_room) (fun hin => ?_) (fun hout => ?_)
          · walk_at "law steps"
            exact hp_old (more := [_]) hRh hin hne hIx2 F6 N6
          · walk_at "law steps"
            try dsimp only
            have s1' := Heap.lt_size (N6 _ (.tail _ (.head _))).1
            have s2' := Heap.lt_size (N6 _ (.tail _ (.tail _ (.head _)))).1
            have s3' := Heap.lt_size (N6 _ (.tail _ (.tail _ (.tail _ (.head _))))).1
            refine slice_lit (k := k + 1) F6 N6 (((hR1.more (fun p hp => .tail _ (.tail _ (.tail _ (.tail _ (List.mem_append_right _ (.tail _ (.tail _ (.tail _ (.tail _ hp)))))))))).at N6) i hir) (by omega) (by omega) (by omega) fun h7 o7 F7 N7 hr7 => ?_
            walk_at "law steps"
            try dsimp only
            refine append_led F7 N7 (.tail _ (.tail _ (.tail _ (.tail _ (.head _))))) (by rw [List.length_map]; omega) fun h9 F9 hN9 => ?_
            walk_at "law steps"
            exact hp_new (more := [_]) hRh hout hr7 hne hIx2 hH0 hIH ⟨Nat.ne_of_gt (Nat.lt_succ_of_lt s3'), Nat.ne_of_gt (Nat.lt_succ_of_lt s2'), Nat.ne_of_gt (Nat.lt_succ_of_lt s1')⟩ F9 hN9
        case done3 =>
          rintro h' tk v v2 nx F33 N33 ⟨hs, nH, made, rfl, hRh, hne⟩
          try dsimp only
          walk_at "law steps"
          rw [map_twice] at F33
          exact hp_out (by decide) hir hRh hne (hIx _ (.head _)) (fun p hp => hIx p (.tail _ (List.mem_append_right _ hp))) F33 N33
      case done2 =>
        rintro h' tk v v2 nx F31 N31 ⟨hs, nH, made, rfl, hRh, hne⟩
        dsimp only
        walk_at "law steps"
        have hlm : (as.map Value.ref).length = rss.length := by rw [List.length_map]; omega
        rw [hlm, List.take_length] at hRh
        have hb1 := hall_len hS.row64 rss.length (Nat.le_refl _)
        rw [List.take_length] at hb1
        have hb3 := hRh.1
        refine len_refs N31 (.head _) (by omega) fun t1 tk1 => ?_
        walk_at "law steps"
        have rowsH : RowsIn "list" ([] ++ (H, seqObj "list" (hs.map Value.ref).toArray nH) :: (made ++ ((sh, seqObj "list" vs.toArray nS) :: (g, seqObj "list" (ga.map Value.ref).toArray e) :: (c, oc) :: (r, seqObj "list" (as.map Value.ref).toArray n) :: tl))) as rss := hR1.more (fun p hp => .tail _ (List.mem_append_right _ (.tail _ (.tail _ (.tail _ (.tail _ hp))))))
        refine comp_len (n := n) (as := as) rfl F31 N31 (.tail _ (List.mem_append_right _ (.tail _ (.tail _ (.tail _ (.head _)))))) rowsH (by omega) (by decide) (by decide) rfl (by decide) rfl ?it2 ?el2 ?dn2 ?fo2
        case it2 =>
          intro Q' hQ'
          walk_at "law steps"
          exact hQ'
        case el2 =>
          intro i C s₂ m₂ E' hi hkp hns hm₂
          dsimp only at hkp
          walk_at "law steps"
          refine nm_builtin (v := .builtin "len") GL (fun b o e => hkp _ _ (F31.keep b o e)) rfl ?_
          walk_at "law steps"
          refine len_row ((rowsH.at (News.grown N31 hkp)) i hi) (Nat.le_trans (hS.row _ (getD_mem hi)) (by decide)) fun t5 tk5 => ?_
          exact ⟨⟨_, rfl⟩, _, _, rfl, fun _ _ e => e⟩
        case fo2 => intro x; with_unfolding_all rfl
        case dn2 =>
          intro D ws oD h' tk F40 N40 hlD hID
          dsimp only
          walk_at "law steps"
          refine LSm.sum_ints F40 N40 (by rfl) hlD hID fun h41 tk41 t41 F41 N41 => ?_
          walk_at "law steps"
          (rename IntsAre vs (nbr rg R1) => hIv)
          refine LSm.sum_ints F41 N41 (by rfl) ⟨_, (N41 _ (.tail _ (.tail _ (List.mem_append_right _ (.head _))))).1, rfl, nS, rfl⟩ hIv fun h42 tk42 t42 F42 N42 => ?_
          have hfin := heads_total hperm hsort (R1 := R1) (by omega)
          rw [← sum_lens] at hfin
          rw [← hb3] at hfin
          walk_at "law steps")
end Mine

theorem PySem.Challenge.cw_ko0130_01_holds : PySem.Challenge.rw_ko0130_01.Holds := by
  exact Mine.law_holds
