import PyProof.Rows.All
import Wide.All
import OpenK.AllK
import Wide.FinOn
import PySem.Challenge.RW_tv0016_01
open PySem PySem.W PyProof.Rows PySem.Calls
set_option Elab.async false
set_option maxRecDepth 100000
set_option maxHeartbeats 8000000
set_option linter.all false
namespace Mine
open_top hd for PySem.Challenge.rw_tv0016_01
theorem fillK : PySem.Challenge.rw_tv0016_01 = PySem.Challenge.rw_tv0016_01 ∧ hd.heap_39 = hd.heap_39 := by
  w_top off
  k_fill
  exact ⟨rfl, rfl⟩
section

def Hold (P : Prop) : Prop := P
theorem hold {P : Prop} (h : Hold P) : P := h

/-- the signs of a text -/
abbrev sg (x : Str) : List Nat := x.cps.toList

theorem sg_len (x : Str) : (sg x).length = x.length := by simp [sg, Str.length]
theorem sg_app (x y : Str) : sg (x ++ y) = sg x ++ sg y := by
  simp [sg, Str.cps_append]
theorem sg_inj {x y : Str} (h : sg x = sg y) : x = y := by
  obtain ⟨a⟩ := x
  obtain ⟨b⟩ := y
  simp only [sg] at h
  exact congrArg Str.mk (Array.toList_inj.mp h)
theorem sg_item {x : Str} {i : Int} (h0 : 0 ≤ i) (h1 : i < x.length) : sg (Txt.item x i) = [(sg x).getD i.toNat 0] := by
  rw [item_meets ⟨h0, h1⟩]
  simp [sg]
theorem sg_to (x : Str) (j : Nat) : sg (Txt.slice x none (some (j : Int))) = (sg x).take j := by
  by_cases h : j ≤ x.length
  · show sg (StrLaws.sliceText x none (some (j : Int))) = _
    rw [StrLaws.sliceText_to ⟨by omega, by rw [← sg_len] at h; simpa using h⟩]
    simp [sg]
  · rw [slice_to_beyond (by omega)]
    show sg (StrLaws.sliceText x none (some (x.length : Int))) = _
    rw [StrLaws.sliceText_to ⟨by omega, by rw [← sg_len]; simp⟩]
    simp only [sg, List.drop_zero, Int.sub_zero, Int.toNat_natCast]
    rw [← sg_len, List.take_length, List.take_of_length_le (by rw [← sg_len] at h; simp at h ⊢; omega)]
theorem sg_from (x : Str) (j : Nat) : sg (Txt.slice x (some (j : Int)) none) = (sg x).drop j := by
  by_cases h : j ≤ x.length
  · show sg (StrLaws.sliceText x (some (j : Int)) none) = _
    have hl : x.cps.toList.length = x.length := sg_len x
    rw [StrLaws.sliceText_from ⟨by omega, by omega⟩]
    simp only [sg, Int.toNat_natCast]
    rw [List.take_of_length_le]
    simp only [List.length_drop]
    omega
  · rw [slice_from_beyond (by omega)]
    have hl : x.cps.toList.length = x.length := sg_len x
    simp only [sg]
    rw [List.drop_eq_nil_of_le (by omega)]
theorem sg_run (x : Str) (i j : Nat) (hij : i ≤ j) (h : j ≤ x.length) : sg (Txt.slice x (some (i : Int)) (some (j : Int))) = ((sg x).drop i).take (j - i) := by
  show sg (StrLaws.sliceText x (some (i : Int)) (some (j : Int))) = _
  rw [StrLaws.sliceText_nat x hij h]

/-- what parse257 reads behind the first mark -/
def dec : List Nat → List Nat
  | [] => []
  | c :: r => if c = 34 then (match r with
      | [] => []
      | d :: r' => if d = 34 then 34 :: dec r' else []) else c :: dec r

theorem dec_plain {c : Nat} {r : List Nat} (h : c ≠ 34) : dec (c :: r) = c :: dec r := by
  rw [dec.eq_def]; simp [h]
theorem dec_two (r : List Nat) : dec (34 :: 34 :: r) = 34 :: dec r := by
  rw [dec.eq_def]; simp
theorem dec_stop {c : Nat} {r : List Nat} (h : c ≠ 34) : dec (34 :: c :: r) = [] := by
  rw [dec.eq_def]; simp [h]
theorem dec_end : dec [34] = [] := by
  rw [dec.eq_def]; simp

theorem drop_at {l : List Nat} {i : Nat} (h : i < l.length) : l.drop i = l.getD i 0 :: l.drop (i + 1) := by
  rw [List.drop_eq_getElem_cons h]
  simp [List.getD_eq_getElem?_getD, List.getElem?_eq_getElem h]

theorem q_is (n : Nat) : (Str.mk #[n] == Str.ofString "\"") = decide (n = 34) := by
  have e : Str.ofString "\"" = Str.mk #[34] := by decide +kernel
  rw [e]
  by_cases h : n = 34
  · subst h; decide
  · simp [h]
theorem item_q {x : Str} {i : Int} (h0 : 0 ≤ i) (h1 : i < x.length) : (Txt.item x i == Str.ofString "\"") = decide ((sg x).getD i.toNat 0 = 34) := by
  rw [item_meets ⟨h0, h1⟩, q_is]
  simp [sg]

/-- the loop's word -/
def PW (x : Str) (i : Int) (d : Str) : Prop := 5 ≤ i ∧ i ≤ x.length ∧ (d.length : Int) ≤ i ∧ sg d ++ dec ((sg x).drop i.toNat) = dec ((sg x).drop 5)

theorem pw_start {x : Str} (h : 5 ≤ x.length) : PW x 5 (Str.ofString "") := by
  have e : Str.ofString "" = Str.mk #[] := by decide +kernel
  rw [e]
  refine ⟨by omega, by omega, by simp [Str.length], ?_⟩
  rfl
theorem pw_done {x d : Str} {i : Int} (h : PW x i d) (hi : ¬ i < x.length) : sg d = dec ((sg x).drop 5) := by
  obtain ⟨h1, h2, h3, h4⟩ := h
  have hl := sg_len x
  rw [List.drop_eq_nil_of_le (as := sg x) (i := i.toNat) (by omega)] at h4
  simpa [dec] using h4
theorem pw_plain {x d : Str} {i : Int} (h : PW x i d) (hi : i < x.length) (hc : (Txt.item x i == Str.ofString "\"") = false) : PW x (i + 1) (d ++ Txt.item x i) := by
  obtain ⟨h1, h2, h3, h4⟩ := h
  have hl := sg_len x
  rw [item_q (by omega) hi] at hc
  have hc' : (sg x).getD i.toNat 0 ≠ 34 := by simpa using hc
  refine ⟨by omega, by omega, ?_, ?_⟩
  · have := sg_item (x := x) (i := i) (by omega) hi
    have e : (d ++ Txt.item x i).length = d.length + 1 := by rw [← sg_len, sg_app, this, List.length_append, sg_len]; rfl
    omega
  · rw [sg_app, sg_item (by omega) hi]
    rw [drop_at (by omega), dec_plain hc'] at h4
    rw [show (i + 1).toNat = i.toNat + 1 by omega, List.append_assoc]
    exact h4
theorem pw_two {x d : Str} {i : Int} (h : PW x i d) (hi : i < x.length) (hc : (Txt.item x i == Str.ofString "\"") = true) (hi' : ¬ (x.length : Int) ≤ i + 1) (hc2 : (Txt.item x (i + 1) != Str.ofString "\"") = false) :
    PW x (i + 1 + 1) (d ++ Txt.item x i) := by
  obtain ⟨h1, h2, h3, h4⟩ := h
  have hl := sg_len x
  rw [item_q (by omega) hi] at hc
  have hc' : (sg x).getD i.toNat 0 = 34 := by simpa using hc
  rw [bne, item_q (by omega) (by omega)] at hc2
  have hc2' : (sg x).getD (i.toNat + 1) 0 = 34 := by
    rw [show (i + 1).toNat = i.toNat + 1 by omega] at hc2
    simpa using hc2
  refine ⟨by omega, by omega, ?_, ?_⟩
  · have := sg_item (x := x) (i := i) (by omega) hi
    have e : (d ++ Txt.item x i).length = d.length + 1 := by rw [← sg_len, sg_app, this, List.length_append, sg_len]; rfl
    omega
  · rw [sg_app, sg_item (by omega) hi]
    rw [drop_at (by omega), drop_at (i := i.toNat + 1) (by omega), hc', hc2', dec_two] at h4
    rw [show (i + 1 + 1).toNat = i.toNat + 1 + 1 by omega, List.append_assoc, hc']
    exact h4
theorem pw_last {x d : Str} {i : Int} (h : PW x i d) (hi : i < x.length) (hc : (Txt.item x i == Str.ofString "\"") = true) (hi' : (x.length : Int) ≤ i + 1) : sg d = dec ((sg x).drop 5) := by
  obtain ⟨h1, h2, h3, h4⟩ := h
  have hl := sg_len x
  rw [item_q (by omega) hi] at hc
  have hc' : (sg x).getD i.toNat 0 = 34 := by simpa using hc
  rw [drop_at (by omega), List.drop_eq_nil_of_le (as := sg x) (i := i.toNat + 1) (by omega), hc', dec_end] at h4
  simpa using h4
theorem pw_lone {x d : Str} {i : Int} (h : PW x i d) (hi : i < x.length) (hc : (Txt.item x i == Str.ofString "\"") = true) (hi' : ¬ (x.length : Int) ≤ i + 1) (hc2 : (Txt.item x (i + 1) != Str.ofString "\"") = true) : sg d = dec ((sg x).drop 5) := by
  obtain ⟨h1, h2, h3, h4⟩ := h
  have hl := sg_len x
  rw [item_q (by omega) hi] at hc
  have hc' : (sg x).getD i.toNat 0 = 34 := by simpa using hc
  rw [bne, item_q (by omega) (by omega)] at hc2
  have hc2' : (sg x).getD (i.toNat + 1) 0 ≠ 34 := by
    rw [show (i + 1).toNat = i.toNat + 1 by omega] at hc2
    simpa using hc2
  rw [drop_at (by omega), drop_at (i := i.toNat + 1) (by omega), hc', dec_stop hc2'] at h4
  simpa using h4

section
variable {h₀ h : Heap} {L : Addr} {m : Str → Option Value}
theorem at_int (_F : Fr h₀ L h m) (x : Str) {i : Int} {t : Tok} (e : m x = some (.int i t)) : ∃ t, m x = some (.int i t) := ⟨t, e⟩
theorem at_str (_F : Fr h₀ L h m) (x : Str) {i : Str} {t : Tok} (e : m x = some (.str i t)) : ∃ t, m x = some (.str i t) := ⟨t, e⟩
theorem all1 {P : Str × Value → Prop} {a : Str × Value} (h : P a) : ∀ p ∈ [a], P p := List.forall_mem_cons.mpr ⟨h, fun _ h => nomatch h⟩
theorem all2 {P : Str × Value → Prop} {a b : Str × Value} (h : P a) (h2 : P b) : ∀ p ∈ [a, b], P p := List.forall_mem_cons.mpr ⟨h, all1 h2⟩
theorem all3 {P : Str × Value → Prop} {a b c : Str × Value} (h : P a) (h2 : P b) (h3 : P c) : ∀ p ∈ [a, b, c], P p := List.forall_mem_cons.mpr ⟨h, all2 h2 h3⟩
end

/-- what parse257 tells, doubled, stands ahead; what stands behind -/
theorem dec_spec : ∀ (n : Nat) (l : List Nat), l.length ≤ n → ∃ r, l = StrLaws.dbl 34 (dec l) ++ r ∧ (r = [] ∨ r = [34] ∨ ∃ c r', c ≠ 34 ∧ r = 34 :: c :: r')
  | _, [], _ => ⟨[], by simp [dec, StrLaws.dbl], .inl rfl⟩
  | 0, _ :: _, h => absurd h (by simp)
  | n + 1, c :: l, h => by
    have h' : l.length ≤ n := by simpa using h
    by_cases hc : c = 34
    · subst hc
      cases l with
      | nil => exact ⟨[34], by simp [dec_end, StrLaws.dbl], .inr (.inl rfl)⟩
      | cons d l =>
        by_cases hd : d = 34
        · subst hd
          have h2 : l.length ≤ n := by simp at h'; omega
          obtain ⟨r, e, hr⟩ := dec_spec n l h2
          refine ⟨r, ?_, hr⟩
          rw [dec_two]
          simp only [StrLaws.dbl, if_true, List.cons_append]
          rw [← e]
        · exact ⟨34 :: d :: l, by simp [dec_stop hd, StrLaws.dbl], .inr (.inr ⟨d, l, hd, rfl⟩)⟩
    · obtain ⟨r, e, hr⟩ := dec_spec n l h'
      refine ⟨r, ?_, hr⟩
      rw [dec_plain hc]
      simp only [StrLaws.dbl, hc, if_false, List.cons_append]
      rw [← e]
theorem dec_len : ∀ (n : Nat) (l : List Nat), l.length ≤ n → (dec l).length ≤ l.length
  | _, [], _ => by simp [dec]
  | 0, _ :: _, h => absurd h (by simp)
  | n + 1, c :: l, h => by
    have h' : l.length ≤ n := by simpa using h
    by_cases hc : c = 34
    · subst hc
      cases l with
      | nil => simp [dec_end]
      | cons d l =>
        by_cases hd : d = 34
        · subst hd
          have h2 : l.length ≤ n := by simp at h'; omega
          have := dec_len n l h2
          rw [dec_two]
          simp only [List.length_cons]
          omega
        · simp [dec_stop hd]
    · have := dec_len n l h'
      rw [dec_plain hc]
      simp only [List.length_cons]
      omega
theorem dec_le (l : List Nat) : (dec l).length ≤ l.length := dec_len _ l (Nat.le_refl _)

/-- a reply's head -/
theorem sg_lit5 : sg (Str.ofString "257 \"") = [50, 53, 55, 32, 34] := by decide +kernel
theorem sg_reply (t : Str) : sg (Str.ofString "257 \"" ++ t) = [50, 53, 55, 32, 34] ++ sg t := by rw [sg_app, sg_lit5]
theorem len_reply (t : Str) : (Str.ofString "257 \"" ++ t).length = t.length + 5 := by
  rw [← sg_len, sg_reply, List.length_append, sg_len]; simp; omega
theorem reply3 (t : Str) : Txt.slice (Str.ofString "257 \"" ++ t) none (some 3) = Str.ofString "257" := by
  apply sg_inj
  have h := sg_to (Str.ofString "257 \"" ++ t) 3
  rw [show ((3 : Nat) : Int) = 3 from rfl] at h
  rw [h, sg_reply]
  have : sg (Str.ofString "257") = [50, 53, 55] := by decide +kernel
  rw [this]
  rfl
theorem reply5 (t : Str) : Txt.slice (Str.ofString "257 \"" ++ t) (some 3) (some 5) = Str.ofString " \"" := by
  apply sg_inj
  have h := sg_run (Str.ofString "257 \"" ++ t) 3 5 (by omega) (by rw [len_reply]; omega)
  rw [show ((3 : Nat) : Int) = 3 from rfl, show ((5 : Nat) : Int) = 5 from rfl] at h
  rw [h, sg_reply]
  have : sg (Str.ofString " \"") = [32, 34] := by decide +kernel
  rw [this]
  rfl

section
variable {α : Type} {M : Model} {A : Around} {E : Value → Shared → Prop} {env : Env}
theorem with_toksQ {t : Sem α} {Q : α → Shared → Prop} {s : Shared} {n : Nat} (hn : n ≤ s.toks) (h : wpAny M A t (fun a s' => n ≤ s'.toks → Q a s') E s) : wpAny M A t Q E s :=
  wpAny_mono (wpAny_toks_of hn h) (fun _ _ x => x.2 x.1) (fun _ _ x => x.2)
/-- a block's next statement, the tokens above nought -/
theorem execs_gen {st : Stmt} {rest : List Stmt} {h : Heap} {g : Array GenState} {d : Drawn} {X : Nat} {o : OsState} {Q : Flow → Shared → Prop} (hp : 1 ≤ X)
    (k : ∀ tk, 1 ≤ tk → wpAny M A (exec st env) (fun f s' => 1 ≤ s'.toks → (match f with | .next => wpAny M A (execs rest env) Q E s' | f => Q f s')) E ⟨h, g, d, tk, o⟩) :
    wpAny M A (execs (st :: rest) env) Q E ⟨h, g, d, X, o⟩ :=
  wpAny_execs_cons (with_toksQ (n := 1) hp (k X hp))
end
theorem len_q : (Str.ofString "\"").length = 1 := by decide +kernel
theorem len_qq : (Str.ofString "\"\"").length = 2 := by decide +kernel
theorem lit_q : Str.ofString "\"" = ⟨#[34]⟩ := by decide +kernel
theorem lit_qq : Str.ofString "\"\"" = ⟨#[34, 34]⟩ := by decide +kernel
theorem ne_q : (Str.ofString "\"" == Str.ofString "\"\"") = false := by decide +kernel
theorem call_replace {prog : Program} {w : World} {A : Around} {E : Value → Shared → Prop} {s : Shared} {x : Str} {t u v : Tok} {Q : Value → Shared → Prop} (hu : 1 ≤ u) (hv : v = u + 1) (hx : x.length ≤ 1000)
    (hq : ∀ y t' k, sg y = StrLaws.dbl 34 (sg x) → y.length ≤ 2 * x.length → Q (.str y t') { s with toks := k }) :
    wpAny (model prog w) A (call (.builtin "str.replace") [.str x t, .str (Str.ofString "\"") u, .str (Str.ofString "\"\"") v]) Q E s := by
  subst hv
  have e : ∀ l : List Nat, (StrLaws.dbl 34 l).length ≤ 2 * l.length := by
    intro l
    induction l with
    | nil => simp [StrLaws.dbl]
    | cons c r ih =>
      simp only [StrLaws.dbl]
      split <;> simp only [List.length_cons] <;> omega
  refine SC.replace (Nat.ne_of_gt hu) (Nat.succ_ne_zero u) (Nat.ne_of_lt (Nat.lt_succ_self u)) ne_q (by rw [len_qq]; omega) fun t' k => ?_
  have h1 : sg (Txt.replace x (Str.ofString "\"") (Str.ofString "\"\"")) = StrLaws.dbl 34 (sg x) := by
    rw [lit_q, lit_qq]; exact StrLaws.replace_double x 34
  refine hq _ t' k h1 ?_
  have := e (sg x)
  rw [← h1, sg_len, sg_len] at this
  exact this

section
variable {hp v y : Str}
theorem names_rest (hv : sg v = dec (sg hp)) (hy : sg y = StrLaws.dbl 34 (sg v)) :
    sg hp = sg y ++ sg (Txt.slice hp (some (y.length : Int)) none) ∧ (sg (Txt.slice hp (some (y.length : Int)) none) = [] ∨ sg (Txt.slice hp (some (y.length : Int)) none) = [34] ∨ ∃ c r', c ≠ 34 ∧ sg (Txt.slice hp (some (y.length : Int)) none) = 34 :: c :: r') := by
  obtain ⟨r, e, hr⟩ := dec_spec _ (sg hp) (Nat.le_refl _)
  rw [← hv, ← hy] at e
  have e2 : sg (Txt.slice hp (some (y.length : Int)) none) = r := by
    rw [sg_from, e, ← sg_len y, List.drop_left]
  rw [e2]
  exact ⟨e, hr⟩
theorem names_q1 (hv : sg v = dec (sg hp)) (hy : sg y = StrLaws.dbl 34 (sg v)) : (y ++ Txt.slice hp (some (y.length : Int)) none != hp) = false := by
  have e : y ++ Txt.slice hp (some (y.length : Int)) none = hp := sg_inj (by rw [sg_app]; exact (names_rest hv hy).1.symm)
  rw [e]
  simp
theorem names_q2 (hv : sg v = dec (sg hp)) (hy : sg y = StrLaws.dbl 34 (sg v)) :
    ([Str.ofString "", Str.ofString "\""].any fun x => x == Txt.slice (Txt.slice hp (some (y.length : Int)) none) none (some 1)) = true := by
  have h := sg_to (Txt.slice hp (some (y.length : Int)) none) 1
  rw [show ((1 : Nat) : Int) = 1 from rfl] at h
  have e0 : Str.ofString "" = ⟨#[]⟩ := by decide +kernel
  rcases (names_rest hv hy).2 with e | e | ⟨c, r', _, e⟩
  · have : Txt.slice (Txt.slice hp (some (y.length : Int)) none) none (some 1) = Str.ofString "" := sg_inj (by rw [h, e, e0]; rfl)
    rw [this]; simp
  · have : Txt.slice (Txt.slice hp (some (y.length : Int)) none) none (some 1) = Str.ofString "\"" := sg_inj (by rw [h, e, lit_q]; rfl)
    rw [this]; simp
  · have : Txt.slice (Txt.slice hp (some (y.length : Int)) none) none (some 1) = Str.ofString "\"" := sg_inj (by rw [h, e, lit_q]; rfl)
    rw [this]; simp
theorem names_q3 (hv : sg v = dec (sg hp)) (hy : sg y = StrLaws.dbl 34 (sg v)) :
    (Txt.slice (Txt.slice hp (some (y.length : Int)) none) none (some 2) == Str.ofString "\"\"") = false := by
  have h := sg_to (Txt.slice hp (some (y.length : Int)) none) 2
  rw [show ((2 : Nat) : Int) = 2 from rfl] at h
  rw [beq_eq_false_iff_ne]
  intro q
  rw [q, lit_qq] at h
  rcases (names_rest hv hy).2 with e | e | ⟨c, r', hc, e⟩
  · rw [e] at h; simp [sg] at h
  · rw [e] at h; simp [sg] at h
  · rw [e] at h
    simp [sg] at h
    exact hc h.symm
end
theorem zero_fit : (0 : Nat) ≤ sizeLine := by rw [sizeLine_eq]; omega
theorem one_fit : (1 : Nat) ≤ sizeLine := by rw [sizeLine_eq]; omega
theorem two_fit : (2 : Nat) ≤ sizeLine := by rw [sizeLine_eq]; omega
/-- a grown list of texts in the ledger -/
theorem led_push {its : List (Str × Tok)} {v : Str} {t : Tok} {l : Addr} {ep : Nat} {news own : List (Addr × Obj)} :
    ∀ p ∈ (l, W.listOf ((its ++ [(v, t)]).map fun p => Value.str p.1 p.2).toArray (ep + 1)) :: news, p ∈ (l, W.listOf ((its.map fun p => Value.str p.1 p.2).toArray.push (Value.str v t)) (ep + 1)) :: (news ++ own) := by
  intro p hp
  have e : ((its ++ [(v, t)]).map fun p => Value.str p.1 p.2).toArray = (its.map fun p => Value.str p.1 p.2).toArray.push (Value.str v t) := by simp
  rw [e] at hp
  rcases List.mem_cons.mp hp with h | h
  · rw [h]; exact .head _
  · exact .tail _ (List.mem_append_left _ h)
theorem own_in {p₀ : Addr × Obj} {news own : List (Addr × Obj)} : ∀ p ∈ own, p ∈ p₀ :: (news ++ own) := fun _ hp => .tail _ (List.mem_append_right _ hp)
theorem names_word {x v : Str} {its : List (Str × Tok)} {t : Tok} {pre : List Int} {k : Int} (h : its.map (fun p => sg p.1) = (List.range pre.length).map fun n => dec ((sg x).take n)) (hk : k = 0 + (pre.length : Int)) (hv : sg v = dec (sg (Txt.slice x none (some k)))) :
    (its ++ [(v, t)]).map (fun p => sg p.1) = (List.range (pre ++ [k]).length).map fun n => dec ((sg x).take n) := by
  have e : k = ((pre.length : Nat) : Int) := by omega
  subst e
  rw [List.length_append, List.length_singleton, List.range_succ, List.map_append, List.map_append, h]
  simp only [List.map_cons, List.map_nil]
  rw [hv, sg_to]

/-- ints picked out of a list of ints -/
theorem ints_of_all : ∀ l : List Value, (∀ v ∈ l, ∃ n t, v = Value.int n t) → ∃ ms, IntsAre l ms
  | [], _ => ⟨[], .nil⟩
  | v :: r, h => by
    obtain ⟨n, t, rfl⟩ := h v (.head _)
    obtain ⟨ms, hm⟩ := ints_of_all r fun v hv => h v (.tail _ hv)
    exact ⟨n :: ms, .cons n t hm⟩
theorem ints_mem : ∀ {vs : List Value} {ns : List Int}, IntsAre vs ns → ∀ v ∈ vs, ∃ n t, v = Value.int n t
  | _, _, .cons n t h, v, hv => by
    rcases List.mem_cons.mp hv with rfl | hv
    · exact ⟨n, t, rfl⟩
    · exact ints_mem h v hv
theorem ints_pick {vs : List Value} {ns : List Int} (h : IntsAre vs ns) (lo hi st : Option Int) : ∃ ms, IntsAre (slicePick vs.toArray lo hi st).toList ms := by
  refine ints_of_all _ fun v hv => ?_
  unfold slicePick at hv
  simp only [List.mem_filterMap] at hv
  obtain ⟨i, _, hi⟩ := hv
  refine ints_mem h v ?_
  have : vs[i]? = some v := by simpa using hi
  exact List.mem_of_getElem? this

section
variable {prog : Program} {w : World} {A : Around} {E : Value → Shared → Prop} {s : Shared}
theorem item4 {value slice : PySem.Expr} {l : Addr} {a b c d : Str} {ta tb tc td : Tok} {x : Int} {u : Tok} {Q : Value → Shared → Prop} (hl : s.heap.IsList l #[.str a ta, .str b tb, .str c tc, .str d td])
    (h : ∀ v t, v = a ∨ v = b ∨ v = c ∨ v = d → Q (.str v t) s)
    (hs : subscripted slice false (.ref l) (.int (Int.fmod x 4) u) = operate [.ref l, .int (Int.fmod x 4) u] (getItem (.ref l) (.int (Int.fmod x 4) u)) := by with_unfolding_all rfl) :
    wpAny (model prog w) A (subscriptTail value slice (.ref l) (.int (Int.fmod x 4) u)) Q E s := by
  have h1 : 0 ≤ Int.fmod x 4 := Int.fmod_nonneg_of_pos x (by omega)
  have h2 : Int.fmod x 4 < 4 := Int.fmod_lt_of_pos x (by omega)
  have h3 : Int.fmod x 4 = 0 ∨ Int.fmod x 4 = 1 ∨ Int.fmod x 4 = 2 ∨ Int.fmod x 4 = 3 := by omega
  rcases h3 with e | e | e | e
  · exact tail_any hl.typeIs slot_list_getitem.lookup (wpAny_getItem_list hl h1 (by omega) (by rw [e]; rfl) (h a ta (.inl rfl))) hs
  · exact tail_any hl.typeIs slot_list_getitem.lookup (wpAny_getItem_list hl h1 (by omega) (by rw [e]; rfl) (h b tb (.inr (.inl rfl)))) hs
  · exact tail_any hl.typeIs slot_list_getitem.lookup (wpAny_getItem_list hl h1 (by omega) (by rw [e]; rfl) (h c tc (.inr (.inr (.inl rfl))))) hs
  · exact tail_any hl.typeIs slot_list_getitem.lookup (wpAny_getItem_list hl h1 (by omega) (by rw [e]; rfl) (h d td (.inr (.inr (.inr rfl))))) hs
end
/-- one piece of the text -/
theorem piece_ok {v : Str} {y : Int} (h : v = Str.ofString " " ∨ v = Str.ofString "\"\"" ∨ v = Str.ofString "\"" ∨ v = ⟨#[(35 + Int.fmod y 55000).toNat]⟩) : v.length ≤ 2 ∧ ∀ n ∈ sg v, n < 60000 := by
  rcases h with e | e | e | e
  · subst e; decide +kernel
  · subst e; decide +kernel
  · subst e; decide +kernel
  · subst e
    have h1 : 0 ≤ Int.fmod y 55000 := Int.fmod_nonneg_of_pos y (by omega)
    have h2 : Int.fmod y 55000 < 55000 := Int.fmod_lt_of_pos y (by omega)
    refine ⟨by simp [Str.length], fun n hn => ?_⟩
    simp [sg] at hn
    omega
theorem text_word {v p : Str} {n : Nat} (h : v.length ≤ 2 * n ∧ ∀ c ∈ sg v, c < 60000) (hp : p.length ≤ 2 ∧ ∀ c ∈ sg p, c < 60000) : (v ++ p).length ≤ 2 * (n + 1) ∧ ∀ c ∈ sg (v ++ p), c < 60000 := by
  have e : (v ++ p).length = v.length + p.length := by rw [← sg_len, sg_app, List.length_append, sg_len, sg_len]
  refine ⟨by omega, fun c hc => ?_⟩
  rw [sg_app] at hc
  exact (List.mem_append.mp hc).elim (h.2 c) (hp.2 c)
theorem led_in {p₀ : Addr × Obj} {news own : List (Addr × Obj)} : ∀ p ∈ p₀ :: news, p ∈ p₀ :: (news ++ own) := fun p hp => by
  rcases List.mem_cons.mp hp with h | h
  · rw [h]; exact .head _
  · exact .tail _ (List.mem_append_left _ h)
end
section
section
variable {M : Model} {A : Around} {E : Value → Shared → Prop} {s : Shared} {env : Env} {outer : List Env} {base : Heap} {L a : Addr} {oe : Obj} {vs : Array Value}

/-- a frame's first note on an exception -/
theorem note_first {Q : Unit → Shared → Prop} (hfr : A.frames = some (env :: outer)) (hl : s.heap.FunFrames base (env :: outer)) (hf : env.frame = some L)
    (he : s.heap.get? a = some oe) (hd : oe.data = .fields vs) (head : Value) (h1 : vs[1]? = some head) (hh : head = .none)
    (h : ∀ h' T oT ts, s.heap.objs.size ≤ T → (∀ b o, b ≠ a → b ∉ (env :: outer).filterMap (·.frame) → s.heap.get? b = some o → h'.get? b = some o) →
      (∀ b o, b ∈ (env :: outer).filterMap (·.frame) → s.heap.get? b = some o → ∃ sl, h'.get? b = some { o with slots := sl }) →
      h'.get? a = some (oe.mapFields (·.setIfInBounds 1 (.ref T))) → h'.get? T = some oT → oT.data = .fields ts → ts[3]? = some (rawInt L) → Q () { s with heap := h' }) :
    wpAny M A (noteFrame (.ref a) env) Q E s := by
  subst hh
  have hsz : 1 < vs.size := (Array.getElem?_eq_some_iff.mp h1).1
  have hea : a ∉ (env :: outer).filterMap (·.frame) := fun hm => by
    obtain ⟨_, o, ho, hnf⟩ := hl.mem hm
    rw [he] at ho; injection ho with ho; subst ho; exact hnf vs hd
  unfold noteFrame
  simp only [hf]
  refine wpAny_bind (wpAny_field he hd h1 ?_)
  rw [if_neg (by decide)]
  refine wpAny_bind (wpAny_frameOf_fun hfr hl hf fun h₁ hs₁ => ?_)
  refine wpAny_bind (wpAny_entryPlaceOf fun pl hpl => ?_)
  unfold EntryCells.newEntry newFields
  refine wpAny_bind (wpAny_newObj_type ?_ (hpl.sizeOk5 _ _ _ _ _))
  have he₁ : h₁.get? a = some oe := (hs₁.2.1 a hea).trans he
  have he₂ := Heap.get?_push_of_some (h := h₁) { cls := .type "traceback", dict := none, data := .fields ([Value.none, .ref L, .none, rawInt L, .none] ++ (if pl.isEmpty then List.replicate 6 Value.none else pl)).toArray } he₁
  have hTe : h₁.objs.size ≠ a := Nat.ne_of_gt (Heap.lt_size he₁)
  have hd₃ := Obj.data_mapFields hd (·.setIfInBounds 1 (Value.ref h₁.objs.size))
  refine wpAny_setField he₂ hd hsz (h _ h₁.objs.size { cls := .type "traceback", dict := none, data := .fields ([Value.none, .ref L, .none, rawInt L, .none] ++ (if pl.isEmpty then List.replicate 6 Value.none else pl)).toArray } _ (Nat.le_of_eq hs₁.1.symm) (fun b o hb hm ho => ?_) (fun b o hm ho => ?_) (Heap.get?_update_self _ he₂ (Obj.isFreed_of_fields hd₃)) ?_ rfl (by rcases hpl with rfl | ⟨_, _, _, _, _, _, _, rfl⟩ <;> rfl))
  · rw [Heap.get?_update_other _ _ (Ne.symm hb)]
    exact Heap.get?_push_of_some _ ((hs₁.2.1 b hm).trans ho)
  · obtain ⟨sl, hs⟩ := hs₁.2.2 b o ho
    refine ⟨sl, ?_⟩
    rw [Heap.get?_update_other _ _ (fun q : a = b => hea (q ▸ hm))]
    exact Heap.get?_push_of_some _ hs
  · rw [Heap.get?_update_other _ _ (Ne.symm hTe)]
    exact Heap.get?_push_size h₁ rfl

theorem note_again {Q : Unit → Shared → Prop} {T : Addr} {oT : Obj} {ts : Array Value} (hf : env.frame = some L) (he : s.heap.get? a = some oe) (hd : oe.data = .fields vs) (h1 : vs[1]? = some (.ref T))
    (hT : s.heap.get? T = some oT) (hdT : oT.data = .fields ts) (h3 : ts[3]? = some (rawInt L)) (h : Q () s) : wpAny M A (noteFrame (.ref a) env) Q E s :=
  wpAny_noteFrame_inFlight hf he hd h1 hT hdT h3 h

theorem flight_set {Q : Unit → Shared → Prop} {T : Addr} {oT : Obj} {ts : Array Value} (fr : Option Addr) (he : s.heap.get? a = some oe) (hd : oe.data = .fields vs) (h1 : vs[1]? = some (.ref T))
    (hT : s.heap.get? T = some oT) (hdT : oT.data = .fields ts) (h3 : 3 < ts.size)
    (h : ∀ h', (∀ b o, b ≠ T → s.heap.get? b = some o → h'.get? b = some o) → h'.get? T = some (oT.mapFields (·.setIfInBounds 3 (fr.elim .none fun f => rawInt f))) → Q () { s with heap := h' }) :
    wpAny M A (setFlight (.ref a) fr) Q E s := by
  unfold setFlight
  refine wpAny_bind (wpAny_field he hd h1 ?_)
  rw [if_pos (show (Value.ref T != Value.none) = true from by simp)]
  refine wpAny_setField hT hdT h3 (h _ (fun b o hb ho => ?_) (Heap.get?_update_self _ hT (Obj.isFreed_of_fields (Obj.data_mapFields hdT _))))
  rw [Heap.get?_update_other _ _ (Ne.symm hb)]
  exact ho
end

/-- two frames on the stack: the def's own and the law's -/
structure Two (A : Around) (env' env : Env) (L' L : Addr) : Prop where
  frames : A.frames = some [env', env]
  f' : env'.frame = some L'
  f : env.frame = some L
  k' : env'.scope.kind = .function
  k : env.scope.kind = .function
theorem Two.mark {A : Around} {env' env : Env} {L' L : Addr} (t : Two A env' env L' L) (h : Option Value) : Two (A.mark h) env' env L' L := ⟨t.frames, t.f', t.f, t.k', t.k⟩
theorem Two.fs {A : Around} {env' env : Env} {L' L : Addr} (t : Two A env' env L' L) : [env', env].filterMap (·.frame) = [L', L] := by simp [t.f', t.f]

def Stands (h₀ h : Heap) (led : List (Addr × Obj)) (a : Addr) (vs : Array Value) : Option Value → Prop
  | none => vs[1]? = some .none
  | some fl => ∃ T oT ts, vs[1]? = some (.ref T) ∧ T ≠ a ∧ h.get? T = some oT ∧ oT.data = .fields ts ∧ ts[3]? = some fl ∧ h₀.get? T = none ∧ ∀ p ∈ led, p.1 ≠ T

/-- a frame and its ledger, and an exception beside it -/
structure ExC (h₀ h : Heap) (L' L : Addr) (oL : Obj) (m : Str → Option Value) (led : List (Addr × Obj)) (a : Addr) (cls : Value) (C : Value → Prop) (st : Option Value) : Prop where
  fr : Fr h₀ L' h m
  news : ∃ sl, News h₀ L' h ((L, { oL with slots := sl }) :: led)
  offL : ∀ p ∈ led, p.1 ≠ L
  dict : ∃ es ep, oL.data = .dict es ep
  ex : ∃ oe vs c, h.get? a = some oe ∧ oe.cls = cls ∧ oe.data = .fields vs ∧ vs[2]? = some c ∧ C c ∧ Stands h₀ h led a vs st
  new : h₀.get? a = none
  off : ∀ p ∈ led, p.1 ≠ a

section
variable {h₀ h h' : Heap} {L' L a : Addr} {oL : Obj} {m : Str → Option Value} {led : List (Addr × Obj)} {cls : Value} {C : Value → Prop} {st : Option Value}
theorem fr_none (F : Fr h₀ L' h m) : h₀.get? L' = none := by
  cases q : h₀.get? L' with
  | none => rfl
  | some o => exact absurd (Nat.lt_of_lt_of_le (Heap.lt_size q) F.above) (Nat.lt_irrefl _)
theorem ExC.frames {A : Around} {env' env : Env} (x : ExC h₀ h L' L oL m led a cls C st) (t : Two A env' env L' L) : h.FunFrames h₀ [env', env] := by
  obtain ⟨sl, N⟩ := x.news
  obtain ⟨es, ep, hd⟩ := x.dict
  have hL := N _ (.head _)
  obtain ⟨o', es', ep', ho', hd', _⟩ := x.fr.ns
  exact ⟨by rw [t.k']; decide, ⟨L', o', t.f', fr_none x.fr, ho', fun vs q => by rw [hd'] at q; cases q⟩, by rw [t.k]; decide, ⟨L, _, t.f, hL.2.2, hL.1, fun vs q => by rw [show ({ oL with slots := sl } : Obj).data = oL.data from rfl, hd] at q; cases q⟩, trivial⟩

/-- a turn of the heap off the ledger -/
theorem ExC.turn (x : ExC h₀ h L' L oL m led a cls C st) {st' : Option Value} (X : List Addr) (hX : ∀ b ∈ X, h₀.get? b = none ∧ b ≠ L' ∧ b ≠ L ∧ ∀ p ∈ led, p.1 ≠ b)
    (h1 : ∀ b o, b ∉ X → b ≠ L' → b ≠ L → h.get? b = some o → h'.get? b = some o) (h2 : ∀ b o, b = L' ∨ b = L → h.get? b = some o → ∃ sl, h'.get? b = some { o with slots := sl })
    (ex : ∃ oe vs c, h'.get? a = some oe ∧ oe.cls = cls ∧ oe.data = .fields vs ∧ vs[2]? = some c ∧ C c ∧ Stands h₀ h' led a vs st') : ExC h₀ h' L' L oL m led a cls C st' := by
  obtain ⟨sl, N⟩ := x.news
  have hL := N _ (.head _)
  refine ⟨⟨?_, fun b o e => ?_, x.fr.above⟩, ?_, x.offL, x.dict, ex, x.new, x.off⟩
  · obtain ⟨o', es', ep', ho', hd', r⟩ := x.fr.ns
    obtain ⟨sl', hs'⟩ := h2 L' o' (.inl rfl) ho'
    exact ⟨_, es', ep', hs', hd', r⟩
  · refine h1 b o (fun q => ?_) (fun q => ?_) (fun q => ?_) (x.fr.keep b o e)
    · rw [(hX b q).1] at e; cases e
    · rw [q, fr_none x.fr] at e; cases e
    · rw [q, hL.2.2] at e; cases e
  · obtain ⟨sl', hs'⟩ := h2 L _ (.inr rfl) hL.1
    refine ⟨sl', fun p hp => ?_⟩
    rcases List.mem_cons.mp hp with rfl | hp
    · exact ⟨hs', hL.2⟩
    · have z := N p (.tail _ hp)
      exact ⟨h1 _ _ (fun q => (hX _ q).2.2.2 p hp rfl) z.2.1 (x.offL p hp) z.1, z.2⟩
theorem ExC.aside (x : ExC h₀ h L' L oL m led a cls C st) : a ≠ L' ∧ a ≠ L := by
  obtain ⟨oe, vs, c, he, _, hd, _⟩ := x.ex
  obtain ⟨sl, N⟩ := x.news
  obtain ⟨es, ep, hdL⟩ := x.dict
  have hL := N _ (.head _)
  obtain ⟨o', es', ep', ho', hd', _⟩ := x.fr.ns
  refine ⟨fun q => ?_, fun q => ?_⟩
  · rw [q, ho'] at he; cases he; rw [hd'] at hd; cases hd
  · rw [q, hL.1] at he; cases he; rw [show ({ oL with slots := sl } : Obj).data = oL.data from rfl, hdL] at hd; cases hd
end

section
variable {M : Model} {A : Around} {E : Value → Shared → Prop} {s : Shared} {env' env : Env} {h₀ : Heap} {L' L a : Addr} {oL : Obj} {m : Str → Option Value} {led : List (Addr × Obj)} {cls : Value} {C : Value → Prop} {st : Option Value} {Q : Unit → Shared → Prop}
theorem exC_note (t : Two A env' env L' L) (x : ExC h₀ s.heap L' L oL m led a cls C st) (hst : st = none ∨ st = some (rawInt L'))
    (k : ∀ h', ExC h₀ h' L' L oL m led a cls C (some (rawInt L')) → Q () { s with heap := h' }) : wpAny M A (noteFrame (.ref a) env') Q E s := by
  obtain ⟨oe, vs, c, he, hc, hd, h2, hC, hS⟩ := id x.ex
  rcases hst with rfl | rfl
  · refine note_first t.frames (x.frames t) t.f' he hd _ hS rfl fun h' T oT ts hT k1 k2 k3 k4 k5 k6 => k h' ?_
    rw [t.fs] at k1 k2
    have hTs : ∀ b o, s.heap.get? b = some o → b ≠ T := fun b o ho q => absurd (Heap.lt_size ho) (by rw [q]; exact Nat.not_lt.mpr hT)
    have hTn : h₀.get? T = none := by
      cases q : h₀.get? T with
      | none => rfl
      | some o => exact absurd rfl (hTs T o (x.fr.keep _ _ q))
    obtain ⟨sl, N⟩ := x.news
    refine x.turn [a] (fun b hb => by
      rw [List.mem_singleton.mp hb]
      exact ⟨x.new, x.aside.1, x.aside.2, x.off⟩) (fun b o hb hb1 hb2 ho => k1 b o (fun q => hb (by rw [q]; exact .head _)) (fun q => by
        rcases List.mem_cons.mp q with q | q
        · exact hb1 q
        · exact hb2 (List.mem_singleton.mp q)) ho) (fun b o hb ho => k2 b o (by rcases hb with rfl | rfl <;> simp) ho) ?_
    refine ⟨_, _, c, k3, (Obj.cls_mapFields _ _).trans hc, Obj.data_mapFields hd _, ?_, hC, T, oT, ts, ?_, fun q => hTs a _ he q.symm, k4, k5, k6, hTn, fun p hp => hTs _ _ (N p (.tail _ hp)).1⟩
    · rw [Array.getElem?_setIfInBounds_ne (by decide)]; exact h2
    · have := (Array.getElem?_eq_some_iff.mp hS).1
      simp [this]
  · obtain ⟨T, oT, ts, e1, _, e3, e4, e5, _⟩ := id hS
    exact note_again t.f' he hd e1 e3 e4 e5 (k s.heap x)
theorem exC_flight {fl : Value} (fr : Option Addr) (x : ExC h₀ s.heap L' L oL m led a cls C (some fl))
    (k : ∀ h', ExC h₀ h' L' L oL m led a cls C (some (fr.elim .none fun f => rawInt f)) → Q () { s with heap := h' }) : wpAny M A (setFlight (.ref a) fr) Q E s := by
  obtain ⟨oe, vs, c, he, hc, hd, h2, hC, T, oT, ts, e1, e2, e3, e4, e5, e6, e7⟩ := id x.ex
  obtain ⟨sl, N⟩ := x.news
  obtain ⟨es, ep, hdL⟩ := x.dict
  obtain ⟨o', es', ep', ho', hd', _⟩ := x.fr.ns
  have hsz := (Array.getElem?_eq_some_iff.mp e5).1
  refine flight_set fr he hd e1 e3 e4 hsz fun h' k1 k2 => k h' ?_
  have nT1 : T ≠ L' := fun q => by rw [q, ho'] at e3; cases e3; rw [hd'] at e4; cases e4
  have nT2 : T ≠ L := fun q => by rw [q, (N _ (.head _)).1] at e3; cases e3; rw [show ({ oL with slots := sl } : Obj).data = oL.data from rfl, hdL] at e4; cases e4
  refine x.turn [T] (fun b hb => by
    rw [List.mem_singleton.mp hb]
    exact ⟨e6, nT1, nT2, e7⟩) (fun b o hb _ _ ho => k1 b o (fun q => hb (by rw [q]; exact .head _)) ho) (fun b o hb ho => ⟨o.slots, k1 b o (by rcases hb with rfl | rfl <;> first | exact Ne.symm nT1 | exact Ne.symm nT2) ho⟩) ?_
  exact ⟨oe, vs, c, k1 _ _ (Ne.symm e2) he, hc, hd, h2, hC, T, _, _, e1, e2, k2, Obj.data_mapFields e4 _, by simp [hsz], e6, e7⟩
end

/-- what is handled where a thing is raised: nothing, or one without a context -/
def Ctx0 (A : Around) (h : Heap) : Prop := A.handled = none ∨ ∃ a1 o1 vs1, A.handled = some (.ref a1) ∧ h.get? a1 = some o1 ∧ o1.data = .fields vs1 ∧ vs1[2]? = some .none
theorem Ctx0.in1 {A : Around} {h : Heap} (x : Ctx0 A h) : Ctx0 A.in1 h := x
theorem Ctx0.keeps {A : Around} {h h' : Heap} (x : Ctx0 A h) (k : ∀ b o, h.get? b = some o → h'.get? b = some o) : Ctx0 A h' :=
  x.imp id fun ⟨a1, o1, vs1, h1, h2, h3, h4⟩ => ⟨a1, o1, vs1, h1, k _ _ h2, h3, h4⟩

structure RaisedX (A : Around) (h h' : Heap) (e : Addr) (cls : String) : Prop where
  keeps : ∀ b o, h.get? b = some o → h'.get? b = some o
  new : h.get? e = none
  there : ∃ oe vs c, h'.get? e = some oe ∧ oe.cls = .type cls ∧ oe.data = .fields vs ∧ vs[1]? = some .none ∧ vs[2]? = some c ∧ (A.handled = none → c = .none)

theorem entry_unchain : entryFor table "proto.unchain" = some Builtin.«proto.unchain» := entryFor_of_fast (by kernel_rfl)

section
variable {prog : Program} {w : World} {α : Type} {A : Around} {E : Value → Shared → Prop} {s : Shared}
theorem raise_new {Q : α → Shared → Prop} {a : Addr} {oe : Obj} {vs : Array Value} (hc : Ctx0 A s.heap) (he : s.heap.get? a = some oe) (hd : oe.data = .fields vs) (h2 : 2 < vs.size) (hne : ∀ a1, A.handled = some (.ref a1) → a1 ≠ a)
    (h0 : A.handled = none → E (.ref a) s)
    (h1 : ∀ a1 h', A.handled = some (.ref a1) → (∀ b o, b ≠ a → s.heap.get? b = some o → h'.get? b = some o) → h'.get? a = some (oe.mapFields (·.setIfInBounds 2 (.ref a1))) → E (.ref a) { s with heap := h' }) :
    wpAny (model prog w) A (raiseNew (.ref a) : Sem α) Q E s := by
  rcases hc with hh | ⟨a1, o1, vs1, hh, g1, g2, g3⟩
  · exact wpAny_raiseNew_none hh (h0 hh)
  · unfold raiseNew
    refine wpAny_bind (wpAny_handled ?_)
    rw [hh]
    have hn : (Value.ref a1 != Value.ref a) = true := by simp [hne a1 hh]
    simp only [hn, if_true]
    have un : wpAny (model prog w) A (runValue (.builtin "proto.unchain" ⟨[.ref a, .ref a1, .ref a1, .bool false], []⟩)) (fun _ s' => s' = s) E s := by
      refine wpAny_runValue (codeAny_builtin entry_unchain ?_)
      unfold Builtin.«proto.unchain»
      refine wpAny_bind (wpAny_field g1 g2 g3 ?_)
      rw [if_pos (by decide)]
      exact wpAny_pure rfl
    have upd : wpAny (model prog w) A (updateField a 2 (.ref a1)) (fun _ s' => ∃ h', s' = { s with heap := h' } ∧ (∀ b o, b ≠ a → s.heap.get? b = some o → h'.get? b = some o) ∧ h'.get? a = some (oe.mapFields (·.setIfInBounds 2 (.ref a1)))) E s := by
      have := wpAny_setField (M := model prog w) (A := A) (E := E) (i := 2) (x := .ref a1) (Q := fun _ s' => ∃ h', s' = { s with heap := h' } ∧ (∀ b o, b ≠ a → s.heap.get? b = some o → h'.get? b = some o) ∧ h'.get? a = some (oe.mapFields (·.setIfInBounds 2 (.ref a1)))) he hd h2
        ⟨_, rfl, fun b o hb ho => by rw [Heap.get?_update_other _ _ (Ne.symm hb)]; exact ho, Heap.get?_update_self _ he (Obj.isFreed_of_fields (Obj.data_mapFields hd _))⟩
      exact this
    first
      | (refine wpAny_bind (wpAny_bind (wpAny_mono (wpAny_holding un) (fun _ s' hs => ?_) fun _ _ x => x))
         subst hs
         refine wpAny_mono upd (fun _ s' hs => ?_) fun _ _ x => x
         obtain ⟨h', rfl, k1, k2⟩ := hs
         exact wpAny_throw (h1 a1 h' hh k1 k2))
      | (refine wpAny_bind (wpAny_mono (wpAny_holding un) (fun _ s' hs => ?_) fun _ _ x => x)
         subst hs
         refine wpAny_bind (wpAny_mono upd (fun _ s' hs => ?_) fun _ _ x => x)
         obtain ⟨h', rfl, k1, k2⟩ := hs
         exact wpAny_throw (h1 a1 h' hh k1 k2))

theorem raise_words {cls msg : String} {Q : α → Shared → Prop} (hp : PlainExc cls) (hc : Ctx0 A s.heap) (h : ∀ h' tk e, RaisedX A s.heap h' e cls → E (.ref e) { s with heap := h', toks := tk }) :
    wpAny (model prog w) A (raiseErrorWords cls msg : Sem α) Q E s := by
  unfold raiseErrorWords
  refine wpAny_bind (wpAny_mkText (wpAny_bind ?_))
  unfold newExc newTuple
  refine wpAny_bind (wpAny_newObj_type ?_)
  refine wpAny_bind (m := firstArgMember _ _) (wpAny_of_eq (a := Value.none) (by simp only [firstArgMember, hp.first]; rfl) ?_)
  rw [hp.own]
  refine wpAny_newObj_type ?_
  have ks : ∀ (o1 o2 : Obj) b o, s.heap.get? b = some o → ((s.heap.push o1).push o2).get? b = some o := fun o1 o2 b o hb => Heap.get?_push_of_some _ (Heap.get?_push_of_some _ hb)
  have hnew : s.heap.get? (s.heap.objs.size + 1) = none := Heap.get?_none_of_le (by omega)
  have hsz : ∀ o : Obj, (s.heap.push o).objs.size = s.heap.objs.size + 1 := fun o => by simp [Heap.push]
  refine raise_new (hc.keeps (ks _ _)) (Heap.get?_push_size _ rfl) rfl (by simp) (fun a1 hh q => ?_) (fun hh => ?_) fun a1 h' hh k1 k2 => ?_
  · rcases hc with h0 | ⟨a2, o2, vs2, g0, g1, _⟩
    · rw [h0] at hh; cases hh
    · rw [g0] at hh; cases hh
      rw [hsz] at q
      rw [q] at g1
      exact absurd (Heap.lt_size g1) (Nat.not_lt.mpr (Nat.le_succ _))
  · refine h _ _ _ ⟨ks _ _, by rw [hsz]; exact hnew, _, _, Value.none, Heap.get?_push_size _ rfl, rfl, rfl, rfl, rfl, fun _ => rfl⟩
  · refine h _ _ _ ⟨fun b o hb => k1 b o (fun q => ?_) (ks _ _ b o hb), by rw [hsz]; exact hnew, _, _, Value.ref a1, k2, Obj.cls_mapFields _ _, Obj.data_mapFields rfl _, rfl, rfl, fun h0 => by rw [h0] at hh; cases hh⟩
    rw [q, hsz] at hb
    exact absurd (Heap.lt_size hb) (Nat.not_lt.mpr (Nat.le_succ _))

/-- an item of a list by an int from nought on: there, or raised -/
theorem getItem_ix {l : Addr} {items : Array Value} {k : Int} {t : Tok} {Q : Value → Shared → Prop} (hc : Ctx0 A s.heap) (hl : s.heap.IsList l items) (h0 : 0 ≤ k) (hk : k < 2 ^ 63)
    (hin : ∀ x, items[k.toNat]? = some x → Q x s) (hout : (items.size : Int) ≤ k → ∀ h' tk e, RaisedX A s.heap h' e "IndexError" → E (.ref e) { s with heap := h', toks := tk }) :
    wpAny (model prog w) A (getItem (.ref l) (.int k t)) Q E s := by
  by_cases hlt : k < items.size
  · have : k.toNat < items.size := by omega
    exact wpAny_getItem_list hl h0 hk (Array.getElem?_eq_getElem this) (hin _ (Array.getElem?_eq_getElem this))
  · obtain ⟨o, ho, hcl, ne, hd⟩ := id hl
    unfold getItem
    try with_reducible refine wpAny_holding ?_
    first | refine wpAny_bind (wpAny_pure ?_) | skip
    refine wpAny_bind (wpAny_sequenceKey hl.typeIs (by decide) ?_)
    refine wpAny_bind (wpAny_callSpecial?_slot (name := Str.ofString "__getitem__") hl.typeIs slot_list_getitem
      (wpAny_call_entry slot_list_getitem hl.typeIs entry_list_getitem ?_ (args_list_getitem _ _)))
    show wpAny _ _ (Builtin.List.listSubscript? (.int k t) >>= _) _ _ s
    refine wpAny_bind (wpAny_listSubscript_int (fitsIndex_both (by omega) hk) ?_)
    have hk' : k = Int.ofNat k.toNat := by simp; omega
    have hx : items[k.toNat]? = none := Array.getElem?_eq_none (by omega)
    rw [hk']
    show wpAny _ _ ((seqItemAt l k.toNat >>= fun r => pure (r.map (k.toNat, ·))) >>= _) _ _ s
    refine wpAny_bind (wpAny_bind (wpAny_seqItemAt ho hd (wpAny_pure ?_)))
    rw [hx]
    have hE : ∀ h' tk e, RaisedX A.in1 s.heap h' e "IndexError" → E (.ref e) { s with heap := h', toks := tk } := fun h' tk e r => hout (by omega) h' tk e ⟨r.keeps, r.new, r.there⟩
    first
      | exact wpAny_bind (wpAny_rule (raise_words plainExc_IndexError hc.in1 hE))
      | exact wpAny_bind (wpAny_rule (wpAny_bind (raise_words plainExc_IndexError hc.in1 hE)))
      | exact wpAny_bind (wpAny_bind (wpAny_rule (raise_words plainExc_IndexError hc.in1 hE)))
      | exact wpAny_rule (raise_words plainExc_IndexError hc.in1 hE)
end

section
variable {h₀ h h' : Heap} {L' L a : Addr} {oL : Obj} {m : Str → Option Value} {led : List (Addr × Obj)} {C : Value → Prop} {A : Around} {X : String} {sl : Array (Option Value)}
theorem exC_new (F : Fr h₀ L' h m) (N : News h₀ L' h ((L, { oL with slots := sl }) :: led)) (hoff : ∀ p ∈ led, p.1 ≠ L) (hd : ∃ es ep, oL.data = .dict es ep) (r : RaisedX A h h' a X) (hC : ∀ c, (A.handled = none → c = .none) → C c) :
    ExC h₀ h' L' L oL m led a (.type X) C none := by
  obtain ⟨oe, vs, c, g1, g2, g3, g4, g5, g6⟩ := r.there
  refine ⟨⟨F.ns.keeps r.keeps, fun b o e => r.keeps b o (F.keep b o e), F.above⟩, ⟨sl, fun p hp => ⟨r.keeps _ _ (N p hp).1, (N p hp).2⟩⟩, hoff, hd, ⟨oe, vs, c, g1, g2, g3, g5, hC c g6, g4⟩, ?_, fun p hp q => ?_⟩
  · cases q : h₀.get? a with
    | none => rfl
    | some o => have := F.keep _ _ q; rw [r.new] at this; cases this
  · have := (N p (.tail _ hp)).1
    rw [q, r.new] at this
    cases this
end

/-- a word for the ways that raise -/
def EX (h₀ : Heap) (L' L : Addr) (oL : Obj) (K : (Str → Option Value) → List (Addr × Obj) → Prop) (cls : Value) (C : Value → Prop) (s₀ : Shared) (e : Value) (s' : Shared) : Prop :=
  ∃ a h' tk m led st, e = .ref a ∧ s' = { s₀ with heap := h', toks := tk } ∧ ExC h₀ h' L' L oL m led a cls C st ∧ (st = none ∨ st = some (rawInt L')) ∧ K m led

section
variable {M : Model} {A : Around} {E : Value → Shared → Prop} {s₀ : Shared} {env' env : Env} {h₀ : Heap} {L' L : Addr} {oL : Obj} {cls : Value} {C : Value → Prop} {K : (Str → Option Value) → List (Addr × Obj) → Prop}
theorem ex_cameBack {s : Shared} {a : Addr} {m : Str → Option Value} {led : List (Addr × Obj)} (t : Two A env' env L' L) (x : ExC h₀ s.heap L' L oL m led a cls C (some (rawInt L')))
    (k : ∀ h', ExC h₀ h' L' L oL m led a cls C (some (rawInt L')) → E (.ref a) { s with heap := h' }) : cameBackBy M A env' E (.ref a) s := by
  unfold cameBackBy
  obtain ⟨oe, vs, c, he, _, hd, _, _, T, _, _, h1, _⟩ := id x.ex
  refine wpAny_bind (wpAny_field he hd h1 ?_)
  rw [if_neg (by simp)]
  rw [t.f']
  have go : wpAny M A (setFlight (.ref a) (some L')) (fun _ s'' => E (.ref a) s'') E s := exC_flight (some L') x k
  first
    | exact go
    | exact wpAny_bind (wpAny_pure go)
theorem ex_passes (t : Two A env' env L' L) : PassesOwn M A env' (EX h₀ L' L oL K cls C s₀) := by
  rintro e s' ⟨a, h', tk, m, led, st, rfl, rfl, x, hst, hk⟩
  unfold notedBy
  refine exC_note t x hst fun h₁ x₁ => ?_
  refine ex_cameBack t x₁ fun h₂ x₂ => ?_
  exact ⟨a, h₂, tk, m, led, _, rfl, rfl, x₂, .inr rfl, hk⟩
theorem ex_land {P : Value → Shared → Prop} (t : Two A env' env L' L) {e : Value} {s₁ : Shared} (x : EX h₀ L' L oL K cls C s₀ e s₁)
    (k : ∀ a h' tk m led, ExC h₀ h' L' L oL m led a cls C (some .none) → K m led → P (.ref a) { s₀ with heap := h', toks := tk }) :
    wpAny M A (noteFrame e env') (fun _ s₂ => wpAny M A (setFlight e none) (fun _ s₃ => P e s₃) E s₂) E s₁ := by
  obtain ⟨a, h', tk, m, led, st, rfl, rfl, x, hst, hk⟩ := x
  refine exC_note t x hst fun h₁ x₁ => ?_
  exact exC_flight none x₁ fun h₂ x₂ => k a h₂ tk m led x₂ hk
end

section
variable {prog : Program} {w : World} {A : Around} {E : Value → Shared → Prop} {s : Shared} {env : Env} {h₀ : Heap} {L' L f : Addr} {oL : Obj} {C : Value → Prop} {K : (Str → Option Value) → List (Addr × Obj) → Prop}
  {name : Str} {scope : Scope} {cd : Value} {KF : Frag} {p : Program} {loose : List Str} {mean : ExcName → Option Value} {mg mb : Str → Option Value} {x : Str} {X : String}
theorem ExC.typeIs {h : Heap} {m : Str → Option Value} {led : List (Addr × Obj)} {a : Addr} {st : Option Value} {s : Shared} (hs : s.heap = h) (e : ExC h₀ h L' L oL m led a (.type X) C st) : s.TypeIs (.ref a) X := by
  subst hs
  obtain ⟨oe, _, _, he, hc, _⟩ := e.ex
  exact ⟨oe, he, hc⟩
/-- try .. except X: a suite that doesn't raise -/
theorem try_exc {body suite : List Stmt} {b₀ : Stmt} {pos np tpos : Pos} {Q : Flow → Shared → Prop} (t : Two A (envOf name scope L' f cd) env L' L) (XK : KF.In h₀) (TR : TopRead p loose mg mb h₀)
    (ex : nsIn KF mainGlobals x = some none) (hv : bootBuiltins x = some (.type X)) (hn : x ≠ "__name__")
    (hexc : isSubtype (.type X) (.type "BaseException") = pure true) (hnt : isSubtype (.type ((Manifest.find? X).elim "type" fun y => y.metatype)) (.type "tuple") = pure false) (hsub : isSubtype (.type X) (.type X) = pure true)
    (hbody : wpAny (model prog w) A (execs body (envOf name scope L' f cd)) Q (EX h₀ L' L oL K (.type X) C s) s)
    (hsuite : ∀ a h' tk m led sl, K m led → Fr h₀ L' h' m → News h₀ L' h' ((L, { oL with slots := sl }) :: led) → (∀ p ∈ led, p.1 ≠ L) →
      wpAny (model prog w) (A.mark (some (.ref a))) (execs (b₀ :: suite) (envOf name scope L' f cd)) Q (fun _ _ => False) { s with heap := h', toks := tk })
    (hk : scope.kind = .function := by rfl) (hx : (envOf name scope L' f cd).kindOf x = some .globalImplicit := by rfl) (hd : (x == ("__debug__" : Str)) = false := by decide) :
    wpAny (model prog w) A (exec (.Try body [.ExceptHandler (some (.Name x np)) none (b₀ :: suite) pos] [] [] tpos) (envOf name scope L' f cd)) Q E s := by
  refine wpAny_Try_except (wpAny_mono hbody (fun fl s₁ q => ?_) fun e s₁ he => ?_)
  · cases fl <;> first | exact q | exact wpAny_execs_nil q
  · refine ex_land (P := fun e s₃ => wpAny (model prog w) A (handleBy e (envOf name scope L' f cd) [.ExceptHandler (some (.Name x np)) none (b₀ :: suite) pos]) Q E s₃) t he fun a h' tk m led xc hK => ?_
    refine wpAny_handleBy_builtin (X := X) (T := X) (b := true) hexc hnt hsub ?_
    refine name_B xc.fr XK TR ex hv hn ⟨rfl, xc.typeIs rfl, ?_⟩ hk hx hd
    simp only [if_true]
    refine exC_flight none xc fun h₂ x₂ => ?_
    obtain ⟨sl, N⟩ := x₂.news
    exact wpAny_mono (hsuite a h₂ tk m led sl hK x₂.fr N x₂.offL) (fun _ _ q => q) fun _ _ q => q.elim
end

section
variable {prog : Program} {w : World} {A : Around} {s : Shared} {env' env : Env} {h₀ : Heap} {L' L : Addr} {oL : Obj} {C : Value → Prop} {K K1 : (Str → Option Value) → List (Addr × Obj) → Prop} {cls : Value}
theorem ex_noted {M : Model} {A' : Around} (t' : Two A' env' env L' L) (t : Two A env' env L' L) {e : Value} {s' : Shared} (x : EX h₀ L' L oL K cls C s e s') :
    notedBy M A' env' (cameBackBy M A env' (EX h₀ L' L oL K cls C s)) e s' := by
  obtain ⟨a, h', tk, m, led, st, rfl, rfl, x, hst, hk⟩ := x
  unfold notedBy
  refine exC_note t' x hst fun h₁ x₁ => ?_
  refine ex_cameBack t x₁ fun h₂ x₂ => ?_
  exact ⟨a, h₂, tk, m, led, _, rfl, rfl, x₂, .inr rfl, hk⟩

/-- what stands when a finally's suite begins under a pending exception -/
structure Pend (oL : Obj) (L' L a T : Addr) (oe oT : Obj) (led : List (Addr × Obj)) (cls : Value) : Prop where
  aT : T ≠ a
  aL : a ≠ L
  TL : T ≠ L
  off : ∀ p ∈ led, p.1 ≠ a ∧ p.1 ≠ T ∧ p.1 ≠ L
  dict : ∃ es ep, oL.data = .dict es ep
  e : ∃ vs, oe.cls = cls ∧ oe.data = .fields vs ∧ vs[1]? = some (.ref T) ∧ vs[2]? = some .none
  t : ∃ ts fl, oT.data = .fields ts ∧ ts[3]? = some fl
theorem Pend.led {a T : Addr} {oe oT : Obj} {led led' : List (Addr × Obj)} (x : Pend oL L' L a T oe oT led cls) (h : ∀ p ∈ led', p.1 ≠ a ∧ p.1 ≠ T ∧ p.1 ≠ L) : Pend oL L' L a T oe oT led' cls := ⟨x.aT, x.aL, x.TL, h, x.dict, x.e, x.t⟩
theorem Pend.ctx {a T : Addr} {oe oT : Obj} {led : List (Addr × Obj)} {h : Heap} {sl : Array (Option Value)} (x : Pend oL L' L a T oe oT led cls) (N : News h₀ L' h ((L, { oL with slots := sl }) :: (a, oe) :: (T, oT) :: led)) : Ctx0 (A.mark (some (.ref a))) h := by
  obtain ⟨vs, _, hd, _, h2⟩ := x.e
  exact .inr ⟨a, oe, vs, rfl, (N _ (.tail _ (.head _))).1, hd, h2⟩
theorem Pend.offL {a T : Addr} {oe oT : Obj} {led : List (Addr × Obj)} (x : Pend oL L' L a T oe oT led cls) : ∀ p ∈ (a, oe) :: (T, oT) :: led, p.1 ≠ L := by
  intro p hp
  rcases List.mem_cons.mp hp with rfl | hp
  · exact x.aL
  rcases List.mem_cons.mp hp with rfl | hp
  · exact x.TL
  · exact (x.off p hp).2.2

/-- try .. finally, both ways -/
theorem try_fin {body fs : List Stmt} {f₀ : Stmt} {tpos : Pos} {Q : Flow → Shared → Prop} (t : Two A env' env L' L)
    (hbody : wpAny (model prog w) A (execs body env') (fun f s₁ => f = .next ∧ wpAny (model prog w) A (execs (f₀ :: fs) env') (fun g s' => g = .next ∧ Q .next s') (EX h₀ L' L oL K cls C s) s₁) (EX h₀ L' L oL K1 cls (· = .none) s) s)
    (hraised : ∀ a T oe oT h' tk m led sl, K1 m led → Fr h₀ L' h' m → News h₀ L' h' ((L, { oL with slots := sl }) :: (a, oe) :: (T, oT) :: led) → Pend oL L' L a T oe oT led cls →
      wpAny (model prog w) (A.mark (some (.ref a))) (execs (f₀ :: fs) env')
        (fun g s' => g = .next ∧ ∃ h'' tk'' m'' led'' sl'', s' = { s with heap := h'', toks := tk'' } ∧ Fr h₀ L' h'' m'' ∧ News h₀ L' h'' ((L, { oL with slots := sl'' }) :: (a, oe) :: (T, oT) :: led'') ∧ (∀ p ∈ led'', p.1 ≠ a ∧ p.1 ≠ T ∧ p.1 ≠ L) ∧ K m'' led'')
        (EX h₀ L' L oL K cls C s) { s with heap := h', toks := tk })
    (hC : C .none) :
    wpAny (model prog w) A (exec (.Try body [] [] (f₀ :: fs) tpos) env') Q (EX h₀ L' L oL K cls C s) s := by
  refine wpAny_Try_finally (wpAny_mono hbody (fun fl s₁ q => ?_) fun e s₁ he => ?_)
  · obtain ⟨rfl, q⟩ := q
    refine wpAny_execs_nil (wpAny_mono q (fun g s' z => ?_) fun e s' z => ex_noted t t z)
    obtain ⟨rfl, z⟩ := z
    exact z
  · obtain ⟨a, h', tk, m, led, st, rfl, rfl, x, hst, hk⟩ := he
    refine exC_note t x hst fun h₁ x₁ => ?_
    refine ⟨ref_ne_byPass a, ?_⟩
    refine exC_note t x₁ (.inr rfl) fun h₂ x₂ => ?_
    refine exC_flight none x₂ fun h₃ x₃ => ?_
    obtain ⟨sl, N⟩ := x₃.news
    obtain ⟨oe, vs, c, he, hcl, hd, h2, hc, T, oT, ts, e1, e2, e3, e4, e5, e6, e7⟩ := x₃.ex
    subst hc
    have nT1 : T ≠ L' := fun q => by
      obtain ⟨o', es', ep', ho', hd', _⟩ := x₃.fr.ns
      rw [q, ho'] at e3; cases e3; rw [hd'] at e4; cases e4
    have nT2 : T ≠ L := fun q => by
      obtain ⟨es, ep, hdL⟩ := x₃.dict
      rw [q, (N _ (.head _)).1] at e3; cases e3; rw [show ({ oL with slots := sl } : Obj).data = oL.data from rfl, hdL] at e4; cases e4
    have N' : News h₀ L' h₃ ((L, { oL with slots := sl }) :: (a, oe) :: (T, oT) :: led) := fun p hp => by
      rcases List.mem_cons.mp hp with rfl | hp
      · exact N _ (.head _)
      rcases List.mem_cons.mp hp with rfl | hp
      · exact ⟨he, x₃.aside.1, x₃.new⟩
      rcases List.mem_cons.mp hp with rfl | hp
      · exact ⟨e3, nT1, e6⟩
      · exact N p (.tail _ hp)
    have pd : Pend oL L' L a T oe oT led cls := ⟨e2, x₃.aside.2, nT2, fun p hp => ⟨x₃.off p hp, e7 p hp, x₃.offL p hp⟩, x₃.dict, ⟨vs, hcl, hd, e1, h2⟩, ts, _, e4, e5⟩
    refine wpAny_mono (hraised a T oe oT h₃ tk m led sl hk x₃.fr N' pd) (fun g s' z => ?_) fun e s' z => ex_noted (t.mark _) t z
    obtain ⟨rfl, h'', tk'', m'', led'', sl'', rfl, F'', N'', off'', K''⟩ := z
    dsimp only
    unfold PySem.passOn
    have hea := (N'' _ (.tail _ (.head _)))
    have hTa := (N'' _ (.tail _ (.tail _ (.head _))))
    refine wpAny_bind (wpAny_field hea.1 hd e1 ?_)
    rw [if_neg (by simp)]
    have x₄ : ExC h₀ h'' L' L oL m'' led'' a cls C (some (rawInt L')) ∨ True := .inr trivial
    clear x₄
    have x₅ : ExC h₀ h'' L' L oL m'' led'' a cls C (some ((none : Option Addr).elim .none fun f => rawInt f)) :=
      ⟨F'', ⟨sl'', fun p hp => by
        rcases List.mem_cons.mp hp with rfl | hp
        · exact N'' _ (.head _)
        · exact N'' p (.tail _ (.tail _ (.tail _ hp)))⟩, fun p hp => (off'' p hp).2.2, x₃.dict, ⟨oe, vs, .none, hea.1, hcl, hd, h2, hC, T, oT, ts, e1, e2, hTa.1, e4, e5, hTa.2.2, fun p hp => (off'' p hp).2.1⟩, hea.2.2, fun p hp => (off'' p hp).1⟩
    rw [t.f']
    have go : wpAny (model prog w) A (setFlight (.ref a) (some L')) (fun _ s'' => wpAny (model prog w) A (throw (.ref a) : Sem Flow) Q (EX h₀ L' L oL K cls C s) s'') (EX h₀ L' L oL K cls C s) { s with heap := h'', toks := tk'' } :=
      exC_flight (s := { s with heap := h'', toks := tk'' }) (some L') x₅ fun h₆ x₆ => wpAny_throw ⟨a, h₆, tk'', m'', led'', _, rfl, rfl, x₆, .inr rfl, K''⟩
    first
      | exact wpAny_bind go
      | exact wpAny_bind (wpAny_pure (wpAny_bind go))
end

/-- the way out of a def whose caller's frame stands in the ledger -/
def LeaveH (h₀ : Heap) (L L' : Addr) (oL : Obj) (m : Str → Option Value) (R : Result → Shared → Prop) (v : Value) (s' : Shared) : Prop :=
  ∃ m' sl news', Fr h₀ L' s'.heap m' ∧ News h₀ L' s'.heap ((L, { oL with slots := sl }) :: news') ∧ (∀ p ∈ news', p.1 ≠ L) ∧ (Fr h₀ L s'.heap m → News h₀ L s'.heap news' → R (.ok (.ret v)) s')
section
variable {prog : Program} {w : World} {A : Around} {s : Shared} {h₀ : Heap} {env : Env} {L : Addr} {m : Str → Option Value} {news : List (Addr × Obj)} {K : Frag} {p : Program} {loose : List Str} {mean : ExcName → Option Value} {mg mb : Str → Option Value}
    {R : Result → Shared → Prop} {name qual : Str} {params : Arguments} {body : List Stmt} {scope : Scope} {dV kV doc pm cdv ct oc : Value} {an od : Option Addr} {osl : Array (Option Value)} {f : Addr} {args : Args} {binds : List (Str × Value)}
theorem enter_hidden (F : Fr h₀ L s.heap m) (X₀ : K.In h₀) (N : News h₀ L s.heap news) (T : Top p loose mean mg mb h₀) (hA : A.frames = some [env]) (hf : env.frame = some L) (hke : env.scope.kind = .function)
    (ho : K.lookup f = some ⟨oc, od, .func (fnOf name qual params body scope dV kV doc pm an cdv ct), osl⟩) (hcd : codeIn K cdv qual = true) (hroom : A.depth < recursionLimit)
    (hbind : BindsTo s (fnOf name qual params body scope dV kV doc pm an cdv ct) args binds) (hloc : ∀ y ∈ binds, scope.names.lookup y.1 = some .local)
    (h : ∀ L' h₁ oL, (∃ es ep, oL.data = .dict es ep) → Fr h₀ L' h₁ (fun y => binds.reverse.lookup y) → News h₀ L' h₁ ((L, oL) :: news) → (∀ p ∈ news, p.1 ≠ L) → L < L' → (∀ p ∈ news, p.1 < L') →
      Two (A.deeper (envOf qual scope L' f cdv)) (envOf qual scope L' f cdv) env L' L →
      wpAny (model prog w) (A.deeper (envOf qual scope L' f cdv)) (execs body (envOf qual scope L' f cdv))
        (fun fl s' => LeaveH h₀ L L' oL m R (match fl with | .ret v => v | _ => .none) s') (fun _ _ => False) { s with heap := h₁, toks := s.toks + binds.length })
    (hco : scope.isCoroutine = false) (hgen : scope.isGenerator = false) (hk : scope.kind = .function)
    (hcell : ∀ x ∈ scope.names, x.2 ≠ .cell) : codeAny (model prog w) A (.call (.ref f) args) R s := by
  have X := X₀.keeps F.keep
  refine codeAny_call_def (fd := fnOf name qual params body scope dV kV doc pm an cdv ct) (body := body) (binds := binds) hroom (X _ _ ho) rfl (T.nolimit.keeps F.keep) (codeRec_of X hcd) rfl hbind hcell hloc (fun h₁ hns hk₁ => ?_) hco hgen hk
  obtain ⟨oL, es, ep, hL, hLd, hLk, hLf⟩ := F.ns
  have hLn := fr_none F
  have up : L < s.heap.objs.size := Heap.lt_size hL
  have two : Two (A.deeper (envOf qual scope s.heap.objs.size f cdv)) (envOf qual scope s.heap.objs.size f cdv) env s.heap.objs.size L := ⟨Around.frames_deeper hA, rfl, hf, hk, hke⟩
  refine wpAny_mono (h s.heap.objs.size h₁ oL ⟨es, ep, hLd⟩ ⟨hns, fun b o e => hk₁ b o (F.keep b o e), Nat.le_trans F.above (Nat.le_of_lt up)⟩ (fun p hp => ?_) (fun p hp => (N p hp).2.1) up (fun p hp => Heap.lt_size (N p hp).1) two) (fun fl s' hl => ?_) fun _ _ y => y.elim
  · rcases List.mem_cons.mp hp with rfl | hp
    · exact ⟨hk₁ _ _ hL, Nat.ne_of_lt up, hLn⟩
    · exact ⟨hk₁ _ _ (N p hp).1, Nat.ne_of_lt (Heap.lt_size (N p hp).1), (N p hp).2.2⟩
  · obtain ⟨m', sl, news', F', N', off, k⟩ := hl
    have z := N' _ (.head _)
    exact k ⟨⟨_, es, ep, z.1, hLd, hLk, hLf⟩, F'.keep, F.above⟩ fun p hp => ⟨(N' p (.tail _ hp)).1, off p hp, (N' p (.tail _ hp)).2.2⟩
end

section
variable {prog : Program} {w : World} {A : Around} {E : Value → Shared → Prop} {s : Shared} {env : Env} {h₀ : Heap} {L' L f : Addr} {oL : Obj} {C : Value → Prop}
  {name : Str} {scope : Scope} {cd : Value} {KF : Frag} {p : Program} {loose : List Str} {mean : ExcName → Option Value} {mg mb : Str → Option Value} {x : Str} {X : String}
/-- try_exc where nothing that the ledger holds has turned when it raises -/
theorem try_now (G : Prop) {m₀ : Str → Option Value} {led₀ : List (Addr × Obj)} {sl₀ : Array (Option Value)} {body suite : List Stmt} {b₀ : Stmt} {pos np tpos : Pos} {Q : Flow → Shared → Prop}
    (_F : Fr h₀ L' s.heap m₀) (_N : News h₀ L' s.heap ((L, { oL with slots := sl₀ }) :: led₀)) (t : Two A (envOf name scope L' f cd) env L' L) (XK : KF.In h₀) (TR : Top p loose mean mg mb h₀)
    (ex : nsIn KF mainGlobals x = some none) (hv : bootBuiltins x = some (.type X)) (hn : x ≠ "__name__")
    (hexc : isSubtype (.type X) (.type "BaseException") = pure true) (hnt : isSubtype (.type ((Manifest.find? X).elim "type" fun y => y.metatype)) (.type "tuple") = pure false) (hsub : isSubtype (.type X) (.type X) = pure true)
    (hbody : wpAny (model prog w) A (execs body (envOf name scope L' f cd)) Q (EX h₀ L' L oL (fun m led => (m = m₀ ∧ led = led₀) ∧ G) (.type X) (fun _ => True) s) s)
    (hsuite : ∀ a h' tk sl, G → Fr h₀ L' h' m₀ → News h₀ L' h' ((L, { oL with slots := sl }) :: led₀) →
      wpAny (model prog w) (A.mark (some (.ref a))) (execs (b₀ :: suite) (envOf name scope L' f cd)) Q (fun _ _ => False) { s with heap := h', toks := tk })
    (hk : scope.kind = .function := by rfl) (hx : (envOf name scope L' f cd).kindOf x = some .globalImplicit := by rfl) (hd : (x == ("__debug__" : Str)) = false := by decide) :
    wpAny (model prog w) A (exec (.Try body [.ExceptHandler (some (.Name x np)) none (b₀ :: suite) pos] [] [] tpos) (envOf name scope L' f cd)) Q E s :=
  try_exc t XK (topRead_of TR) ex hv hn hexc hnt hsub hbody (fun a h' tk m led sl hK F' N' _ => by
    obtain ⟨⟨rfl, rfl⟩, hG⟩ := hK
    exact hsuite a h' tk sl hG F' N') hk hx hd
theorem ex_now {G : Prop} {s₀ : Shared} {m₀ : Str → Option Value} {h h' : Heap} {led₀ : List (Addr × Obj)} {sl : Array (Option Value)} {a : Addr} {tk : Nat} (F : Fr h₀ L' h m₀) (N : News h₀ L' h ((L, { oL with slots := sl }) :: led₀)) (hoff : ∀ p ∈ led₀, p.1 ≠ L)
    (hd : ∃ es ep, oL.data = .dict es ep) (r : RaisedX A h h' a X) (hG : G) : EX h₀ L' L oL (fun m led => (m = m₀ ∧ led = led₀) ∧ G) (.type X) (fun _ => True) s₀ (.ref a) { s₀ with heap := h', toks := tk } :=
  ⟨a, h', tk, m₀, led₀, none, rfl, rfl, exC_new F N hoff hd r fun _ _ => trivial, .inl rfl, ⟨rfl, rfl⟩, hG⟩
end
section
variable {h₀ h : Heap} {L : Addr} {a b c d e : Addr × Obj} {r : List (Addr × Obj)}
theorem mem_cab {p : Addr × Obj} (hp : p ∈ c :: a :: b :: r) : p ∈ a :: b :: c :: r := by
  simp only [List.mem_cons] at *; rcases hp with h | h | h | h <;> simp [h]
theorem mem_ba {p : Addr × Obj} (hp : p ∈ b :: a :: r) : p ∈ a :: b :: r := by
  simp only [List.mem_cons] at *; rcases hp with h | h | h <;> simp [h]
theorem mem_dabc {p : Addr × Obj} (hp : p ∈ d :: a :: b :: c :: r) : p ∈ a :: b :: c :: d :: r := by
  simp only [List.mem_cons] at *; rcases hp with h | h | h | h | h <;> simp [h]
theorem mem_cdab {p : Addr × Obj} (hp : p ∈ c :: d :: a :: b :: r) : p ∈ a :: b :: c :: d :: r := by
  simp only [List.mem_cons] at *; rcases hp with h | h | h | h | h <;> simp [h]
theorem mem_mLab {p : Addr × Obj} (hp : p ∈ c :: b :: d :: a :: r) : p ∈ a :: b :: d :: c :: r := by
  simp only [List.mem_cons] at *; rcases hp with h | h | h | h | h <;> simp [h]
theorem mem_dabc' {p : Addr × Obj} (hp : p ∈ d :: a :: b :: c :: r) : p ∈ a :: b :: c :: d :: r := mem_dabc hp
theorem mem_mLx {p : Addr × Obj} (hp : p ∈ a :: b :: c :: d :: r) : p ∈ a :: b :: d :: c :: r := by
  simp only [List.mem_cons] at *; rcases hp with h | h | h | h | h <;> simp [h]
theorem mem_cabr {p : Addr × Obj} (hp : p ∈ c :: a :: b :: r) : p ∈ a :: b :: c :: r := mem_cab hp
theorem ne_lt {x : Addr} {l : List (Addr × Obj)} (h1 : a.1 < x) (h2 : b.1 < x) (h3 : ∀ p ∈ l, p.1 < x) : ∀ p ∈ a :: b :: l, p.1 < x := List.forall_mem_cons.mpr ⟨h1, List.forall_mem_cons.mpr ⟨h2, h3⟩⟩
theorem News.re {l l' : List (Addr × Obj)} (N : News h₀ L h l) (k : ∀ {p}, p ∈ l' → p ∈ l) : News h₀ L h l' := fun p hp => N p (k hp)
theorem ne_cons {x : Addr} {l : List (Addr × Obj)} (h1 : a.1 ≠ x) (h2 : ∀ p ∈ l, p.1 ≠ x) : ∀ p ∈ a :: l, p.1 ≠ x := List.forall_mem_cons.mpr ⟨h1, h2⟩
end
end
section

/-- unorderable_list_difference: the first list from behind, the second -/
def ul : List Int → List Int → List Int × List Int
  | [], ac => ([], ac)
  | e :: es, ac => if e ∈ ac then ul es (ac.erase e) else (e :: (ul es ac).1, (ul es ac).2)

theorem ints_len {vs : List Value} {ns : List Int} (h : IntsAre vs ns) : vs.length = ns.length := h.length
theorem kf_of_ints {vs : List Value} {ns : List Int} (h : IntsAre vs ns) : kf_ints vs = true := by
  induction h with
  | nil => rfl
  | cons n t _ ih => exact ih
theorem ints_erase {k : Int} : ∀ {vs : List Value} {ns : List Int}, IntsAre vs ns → k ∈ ns → ∃ j q, kf_at k vs = some j ∧ ki_delL vs j = some q ∧ IntsAre q (ns.erase k)
  | _, _, .nil, h => nomatch h
  | _, _, .cons (vs := r) (ns := ns) n t h, hk => by
    by_cases e : n = k
    · subst e
      refine ⟨0, r, ?_, rfl, ?_⟩
      · unfold kf_at; simp [isInt]
      · simpa using h
    · have hk' : k ∈ ns := by
        rcases List.mem_cons.mp hk with q | q
        · exact absurd q.symm e
        · exact q
      obtain ⟨j, q, h1, h2, h3⟩ := ints_erase h hk'
      refine ⟨j + 1, .int n t :: q, ?_, ?_, ?_⟩
      · unfold kf_at
        have : isInt k (.int n t) = false := by simp [isInt, e]
        rw [this, h1]; rfl
      · unfold ki_delL; rw [h2]
      · rw [List.erase_cons_tail (by simpa using e)]
        exact .cons n t h3
theorem ints_none {k : Int} : ∀ {vs : List Value} {ns : List Int}, IntsAre vs ns → k ∉ ns → ∀ m (hm : m < vs.length), isInt k vs[m] = false
  | _, _, .cons n t h, hk, 0, _ => by
    have : ¬ n = k := fun e => hk (by rw [e]; exact .head _)
    simp [isInt, this]
  | _, _, .cons n t h, hk, m + 1, hm => ints_none h (fun q => hk (.tail _ q)) m (by simpa using hm)

section
variable {prog : Program} {w : World} {A : Around} {E : Value → Shared → Prop} {s : Shared} {h₀ : Heap} {L D : Addr} {m : Str → Option Value} {rest : List (Addr × Obj)} {n : Nat}
theorem newExc_raisedX {h h' : Heap} {e : Addr} {X : String} (hh : A.handled = none) (x : Heap.NewExc h h' e X) : RaisedX A h h' e X := by
  obtain ⟨ob, t, h1, h2, h3⟩ := x.there
  exact ⟨x.keeps, x.new, ob, _, .none, h1, h2, h3, rfl, rfl, fun _ => rfl⟩
theorem remove_any {vs : List Value} {ns : List Int} {k : Int} {t : Tok} {Q : Value → Shared → Prop} (F : Fr h₀ L s.heap m) (N : News h₀ L s.heap ((D, W.listOf vs.toArray n) :: rest)) (hne : ∀ p ∈ rest, p.1 ≠ D) (hi : IntsAre vs ns) (hh : A.handled = none) (hz : vs.length ≤ 1000)
    (hin : k ∈ ns → ∀ h' vs' n', IntsAre vs' (ns.erase k) → Fr h₀ L h' m → News h₀ L h' ((D, W.listOf vs'.toArray n') :: rest) → Q .none { s with heap := h' })
    (hout : k ∉ ns → ∀ h' tk e, RaisedX A s.heap h' e "ValueError" → E (.ref e) { s with heap := h', toks := tk }) : wpAny (model prog w) A (call (.builtin "list.remove") [.ref D, .int k t]) Q E s := by
  have hsl : vs.length ≤ sizeLine := by rw [sizeLine_eq]; omega
  by_cases hk : k ∈ ns
  · obtain ⟨j, q, h1, h2, h3⟩ := ints_erase hi hk
    exact kf_remove F N (kf_of_ints hi) (by simpa using h1) (by simpa using h2) (Upd.head hne) (by simpa using hsl) fun h' F' N' => hin hk h' q _ h3 F' N'
  · have z := N _ (.head _)
    have e1 : ∀ y, y ∈ vs.toArray → MeetsSeq.EqGives y (.int k t) (isInt k y) := fun y hy => kf_eq (kf_of_ints hi) y (by simpa using hy)
    have e2 : ∀ m (hm : m < vs.toArray.size), isInt k vs.toArray[m] = false := fun m hm => by
      simpa using ints_none hi hk m (by simpa using hm)
    exact call_meets PySem.F.slot_list_remove ⟨_, z.1, rfl⟩ PySem.F.entry_list_remove (PySem.F.args_list_remove_2 _ _) (MeetsSeq.list_remove_none D vs.toArray n (.int k t) (isInt k) e1 e2)
      ⟨z.1, hh, fun h' tk e x => hout hk h' tk e (newExc_raisedX hh x)⟩
end

structure US where
  sl : Array (Option Value)
  ve : List Value
  ne : Nat
  va : List Value
  na : Nat
  vm : List Value
  nm : Nat
/-- what unorderable_list_difference keeps -/
def UW (R : List Int × List Int) (c : US) : Prop :=
  ∃ ex ac ms, IntsAre c.ve ex ∧ IntsAre c.va ac ∧ IntsAre c.vm ms ∧ ms ++ (ul ex.reverse ac).1 = R.1 ∧ (ul ex.reverse ac).2 = R.2 ∧ c.ve.length + c.vm.length ≤ 100 ∧ c.va.length ≤ 100
theorem uw_last {ex : List Int} (h : ex ≠ []) : ex.reverse = ex.getLastD 0 :: ex.dropLast.reverse := by
  obtain ⟨r, x, rfl⟩ : ∃ r x, ex = r ++ [x] := ⟨ex.dropLast, ex.getLast h, (List.dropLast_concat_getLast h).symm⟩
  simp
theorem ints_push {vs : List Value} {ns : List Int} (h : IntsAre vs ns) (n : Int) (t : Tok) : IntsAre (vs ++ [Value.int n t]) (ns ++ [n]) := by
  induction h with
  | nil => exact .cons n t .nil
  | cons k u _ ih => exact .cons k u ih
theorem uw_in {R : List Int × List Int} {ex ac ms : List Int} (hex : ex ≠ []) (hk : ex.getLastD 0 ∈ ac) (h1 : ms ++ (ul ex.reverse ac).1 = R.1) (h2 : (ul ex.reverse ac).2 = R.2) :
    ms ++ (ul ex.dropLast.reverse (ac.erase (ex.getLastD 0))).1 = R.1 ∧ (ul ex.dropLast.reverse (ac.erase (ex.getLastD 0))).2 = R.2 := by
  rw [uw_last hex, ul, if_pos hk] at h1 h2
  exact ⟨h1, h2⟩
theorem uw_out {R : List Int × List Int} {ex ac ms : List Int} (hex : ex ≠ []) (hk : ex.getLastD 0 ∉ ac) (h1 : ms ++ (ul ex.reverse ac).1 = R.1) (h2 : (ul ex.reverse ac).2 = R.2) :
    (ms ++ [ex.getLastD 0]) ++ (ul ex.dropLast.reverse ac).1 = R.1 ∧ (ul ex.dropLast.reverse ac).2 = R.2 := by
  rw [uw_last hex, ul, if_neg hk] at h1 h2
  exact ⟨by rw [← h1]; simp, h2⟩
theorem push_arr {vs : List Value} {v : Value} : (vs ++ [v]).toArray = vs.toArray.push v := by simp
end
section

/-- what stands behind the run of e's -/
def drp (e : Int) : List Int → List Int
  | [] => []
  | x :: r => if x = e then drp e r else x :: r
theorem drp_len (e : Int) : ∀ l : List Int, (drp e l).length ≤ l.length
  | [] => Nat.le_refl _
  | x :: r => by
    unfold drp
    split
    · exact Nat.le_succ_of_le (drp_len e r)
    · exact Nat.le_refl _
theorem drop_get {l : List Int} {i : Nat} {x : Int} (h : l[i]? = some x) : l.drop i = x :: l.drop (i + 1) := by
  obtain ⟨hi, rfl⟩ := List.getElem?_eq_some_iff.mp h
  exact List.drop_eq_getElem_cons hi
theorem ints_get : ∀ {vs : List Value} {ns : List Int}, IntsAre vs ns → ∀ {i : Nat} {v : Value}, vs[i]? = some v → ∃ n t, v = .int n t ∧ ns[i]? = some n
  | _, _, .cons n t h, 0, v, hv => by
    simp at hv
    exact ⟨n, t, hv.symm, rfl⟩
  | _, _, .cons n t h, i + 1, v, hv => by
    simp at hv
    obtain ⟨k, u, h1, h2⟩ := ints_get h hv
    exact ⟨k, u, h1, by simpa using h2⟩

section
variable {prog : Program} {w : World} {A : Around} {E : Value → Shared → Prop} {s : Shared} {h₀ : Heap} {L' f : Addr} {m : Str → Option Value} {led : List (Addr × Obj)} {name : Str} {scope : Scope} {cd : Value}

/-- an item of the ledger's list of ints, there or raised -/
theorem item_ix {value slice : PySem.Expr} {x : Addr} {vs : List Value} {ns : List Int} {n : Nat} {k : Int} {u : Tok} {Q : Value → Shared → Prop} (hc : Ctx0 A s.heap) (N : News h₀ L' s.heap led) (hx : (x, W.listOf vs.toArray n) ∈ led) (hi : IntsAre vs ns) (h0 : 0 ≤ k) (hk : k ≤ 1000)
    (hin : ∀ e t, ns[k.toNat]? = some e → Q (.int e t) s) (hout : ns.drop k.toNat = [] → ∀ h' tk a, RaisedX A s.heap h' a "IndexError" → E (.ref a) { s with heap := h', toks := tk })
    (hs : subscripted slice false (.ref x) (.int k u) = operate [.ref x, .int k u] (getItem (.ref x) (.int k u)) := by with_unfolding_all rfl) :
    wpAny (model prog w) A (subscriptTail value slice (.ref x) (.int k u)) Q E s := by
  have hl := News.isList N hx
  refine tail_any hl.typeIs slot_list_getitem.lookup (getItem_ix hc hl h0 (by omega) (fun y hy => ?_) fun ho h' tk a r => ?_) hs
  · obtain ⟨e, t, rfl, he⟩ := ints_get hi (by simpa using hy)
    exact hin e t he
  · refine hout ?_ h' tk a r
    rw [List.size_toArray, ints_len hi] at ho
    exact List.drop_eq_nil_of_le (by omega)

theorem bind_same {m : Str → Option Value} {y : Str} {v : Value} (h : m y = some v) : m = fun z => if z = y then some v else m z := by
  funext z
  by_cases q : z = y
  · rw [q, if_pos rfl, h]
  · rw [if_neg q]

theorem upd_twice {m : Str → Option Value} {y : Str} {v u : Value} : (fun z => if z = y then some v else (if z = y then some u else m z)) = fun z => if z = y then some v else m z := by
  funext z
  by_cases q : z = y
  · rw [if_pos q, if_pos q]
  · rw [if_neg q, if_neg q, if_neg q]

/-- while X[i] == v: i += 1 -/
theorem skip_loop {lst idx v : Str} {x : Addr} {i e : Int} {ti te : Tok} {vs : List Value} {ns : List Int} {n : Nat} {p1 p2 p3 p4 p5 p6 p7 p8 p9 : Pos} {Q : Flow → Shared → Prop}
    (F : Fr h₀ L' s.heap m) (N : News h₀ L' s.heap led) (hm1 : m lst = some (.ref x)) (hm2 : m idx = some (.int i ti)) (hm3 : m v = some (.int e te)) (d1 : lst ≠ idx) (d2 : v ≠ idx)
    (hx : (x, W.listOf vs.toArray n) ∈ led) (hi : IntsAre vs ns) (h0 : 0 ≤ i) (hn : i ≤ ns.length + 1) (hlen : ns.length ≤ 900) (hc : ∀ h, News h₀ L' h led → Ctx0 A h)
    (done : ∀ (i' : Int) (ti' : Tok) h' tk', 0 ≤ i' → i' ≤ ns.length + 1 → drp e (ns.drop i.toNat) = ns.drop i'.toNat → Fr h₀ L' h' (fun y => if y = idx then some (.int i' ti') else m y) → News h₀ L' h' led → Q .next { s with heap := h', toks := tk' })
    (out : ∀ (i' : Int) (ti' : Tok) h h' tk' a, 0 ≤ i' → i' ≤ ns.length + 1 → drp e (ns.drop i.toNat) = [] → ns.drop i'.toNat = [] → Fr h₀ L' h (fun y => if y = idx then some (.int i' ti') else m y) → News h₀ L' h led → RaisedX A h h' a "IndexError" → E (.ref a) { s with heap := h', toks := tk' })
    (hE : PassesOwn (model prog w) A (envOf name scope L' f cd) E)
    (hk : scope.kind = .function) (k1 : (envOf name scope L' f cd).kindOf lst = some .local) (k2 : (envOf name scope L' f cd).kindOf idx = some .local) (k3 : (envOf name scope L' f cd).kindOf v = some .local)
    (b1 : (lst == ("__debug__" : Str)) = false) (b2 : (idx == ("__debug__" : Str)) = false) (b3 : (v == ("__debug__" : Str)) = false) :
    wpAny (model prog w) A (exec (.While (.Compare (.Subscript (.Name lst p1) (.Name idx p2) p3) [.Eq] [.Name v p4] p5) [.AugAssign (.Name idx p6) .Add (.Constant (.int 1) 0 p7) p8] [] p9) (envOf name scope L' f cd)) Q E s := by
  refine While_inv2 (n₀ := ns.length + 1 - i.toNat) (fun c m₁ nx => ∃ (i' : Int) (ti' : Tok), nx = led ∧ m₁ = (fun y => if y = idx then some (.int i' ti') else m y) ∧ 0 ≤ i' ∧ i' ≤ ns.length + 1 ∧ drp e (ns.drop i.toNat) = drp e (ns.drop i'.toNat) ∧ c = ns.length + 1 - i'.toNat) F N ⟨i, ti, rfl, bind_same hm2, h0, hn, rfl, rfl⟩ ?_ hE
  rintro c m₁ nx h tk F₁ N₁ ⟨i', ti', rfl, rfl, hi0, hin, hd, hcn⟩
  refine wpAny_isTrue_Compare1 (Subscript_ (ld F₁ (v := .ref x) (by rw [if_neg d1]; exact hm1) (ld F₁ (v := .int i' ti') (by rw [if_pos rfl]) ?_ hk k2 b2) hk k1 b1))
  refine item_ix (hc _ N₁) N₁ hx hi hi0 (by omega) (fun y ty hy => ?_) fun ho h' tk' a r => ?_
  · refine ld F₁ (v := .int e te) (by rw [if_neg d2]; exact hm3) (eq_int ?_) hk k3 b3
    show wpAny _ _ (truthy (.bool (y == e))) _ _ _
    refine wpAny_truthy_bool ?_
    have hdy := drop_get hy
    by_cases q : y = e
    · subst q
      rw [if_pos (by simp)]
      refine wpAny_execs_cons (wpAny_AugAssign_Name (ldn F₁ (v := .int i' ti') (by rw [if_pos rfl]) ?_ hk k2))
      refine wpAny_Constant_int ?_
      refine iadd_int ?_
      refine stN F₁ N₁ (fun h₂ F₂ N₂ => wpAny_execs_nil ?_) hk k2
      have hlt : i'.toNat < ns.length := (List.getElem?_eq_some_iff.mp hy).1
      refine ⟨_, _, _, _, _, rfl, F₂, N₂, ?_, i' + 1, _, rfl, upd_twice, by omega, by omega, ?_, rfl⟩
      · omega
      · rw [hd, hdy]
        have : (i' + 1).toNat = i'.toNat + 1 := by omega
        rw [this]
        show (if y = y then drp y (ns.drop (i'.toNat + 1)) else _) = _
        rw [if_pos rfl]
    · rw [if_neg (by simpa using q)]
      refine done i' ti' h _ hi0 hin ?_ F₁ N₁
      rw [hd, hdy]
      show (if y = e then _ else y :: ns.drop (i'.toNat + 1)) = _
      rw [if_neg q]
  · exact out i' ti' h h' tk' a hi0 hin (by rw [hd, ho]; rfl) ho F₁ N₁ r
end
end
section

/-- what sorted_list_difference tells of two lists -/
inductive SD : List Int → List Int → List Int × List Int → Prop
  | nilL (ac : List Int) : SD [] ac ([], ac)
  | nilR (ex : List Int) : SD ex [] (ex, [])
  | lt {e a : Int} {ex ac R1 R2 : List Int} : e < a → SD (drp e ex) (a :: ac) (R1, R2) → SD (e :: ex) (a :: ac) (e :: R1, R2)
  | gt {e a : Int} {ex ac R1 R2 : List Int} : a < e → SD (e :: ex) (drp a ac) (R1, R2) → SD (e :: ex) (a :: ac) (R1, a :: R2)
  | eq {e : Int} {ex ac : List Int} {R : List Int × List Int} : SD (drp e ex) (drp e ac) R → SD (e :: ex) (e :: ac) R
theorem sd_nilL {ac : List Int} {R} (h : SD [] ac R) : R = ([], ac) := by cases h <;> rfl
theorem sd_nilR {ex : List Int} {R} (h : SD ex [] R) : R = (ex, []) := by cases h <;> rfl
theorem sd_lt {e a : Int} {ex ac : List Int} {R} (h : SD (e :: ex) (a :: ac) R) (hlt : e < a) : ∃ R1, SD (drp e ex) (a :: ac) (R1, R.2) ∧ R.1 = e :: R1 := by
  cases h with
  | lt _ h => exact ⟨_, h, rfl⟩
  | gt h1 _ => omega
  | eq _ => omega
theorem sd_gt {e a : Int} {ex ac : List Int} {R} (h : SD (e :: ex) (a :: ac) R) (hlt : a < e) : ∃ R2, SD (e :: ex) (drp a ac) (R.1, R2) ∧ R.2 = a :: R2 := by
  cases h with
  | lt h1 _ => omega
  | gt h1 h => exact ⟨_, h, rfl⟩
  | eq _ => omega
theorem sd_eq {e : Int} {ex ac : List Int} {R} (h : SD (e :: ex) (e :: ac) R) : SD (drp e ex) (drp e ac) R := by
  cases h with
  | lt h1 _ => omega
  | gt h1 h => omega
  | eq h => exact h

structure SS where
  i : Int
  ti : Tok
  j : Int
  tj : Tok
  sl : Array (Option Value)
  vm : List Value
  nm : Nat
  vu : List Value
  nu : Nat
structure SW (ex ac : List Int) (R : List Int × List Int) (c : SS) (ms us : List Int) : Prop where
  i0 : 0 ≤ c.i
  i1 : c.i ≤ ex.length + 1
  j0 : 0 ≤ c.j
  j1 : c.j ≤ ac.length + 1
  hm : IntsAre c.vm ms
  hu : IntsAre c.vu us
  lm : ms.length ≤ R.1.length
  lu : us.length ≤ R.2.length
def SI (ex ac : List Int) (R : List Int × List Int) (c : SS) : Prop := ∃ ms us R', SW ex ac R c ms us ∧ SD (ex.drop c.i.toNat) (ac.drop c.j.toNat) R' ∧ ms ++ R'.1 = R.1 ∧ us ++ R'.2 = R.2
/-- what stands when a list is spent -/
def SE (ex ac : List Int) (R : List Int × List Int) (c : SS) : Prop := ∃ ms us, SW ex ac R c ms us ∧ ms ++ ex.drop c.i.toNat = R.1 ∧ us ++ ac.drop c.j.toNat = R.2
def psS (x1 x2 mi un : Addr) (c : SS) : List (Str × Value) :=
  [(Str.ofString "i", .int c.i c.ti), (Str.ofString "j", .int c.j c.tj), (Str.ofString "expected", .ref x1), (Str.ofString "actual", .ref x2), (Str.ofString "missing", .ref mi), (Str.ofString "unexpected", .ref un)]
def ledS (mi un : Addr) (c : SS) (news : List (Addr × Obj)) : List (Addr × Obj) := (un, W.listOf c.vu.toArray c.nu) :: (mi, W.listOf c.vm.toArray c.nm) :: news
def KS (x1 x2 mi un : Addr) (news : List (Addr × Obj)) (D : SS → (Str → Option Value) → Prop) (m : Str → Option Value) (led : List (Addr × Obj)) : Prop :=
  ∃ c : SS, led = ledS mi un c news ∧ (∀ p ∈ psS x1 x2 mi un c, m p.1 = some p.2) ∧ D c m

theorem fr_named {h₀ h : Heap} {L : Addr} {m : Str → Option Value} (F : Fr h₀ L h m) {ps : List (Str × Value)} (k : ∀ p ∈ ps, m p.1 = some p.2) : Fr h₀ L h (kstB m ps) := by
  have : kstB m ps = m := by
    funext y
    exact kstB_eq k fun _ => rfl
  rw [this]
  exact F
section
variable {h₀ : Heap} {L' L : Addr} {oL : Obj} {K : (Str → Option Value) → List (Addr × Obj) → Prop} {cls : Value} {C : Value → Prop} {s s₀ : Shared}
theorem ex_base (h : ∀ hh tk, ({ s with heap := hh, toks := tk } : Shared) = { s₀ with heap := hh, toks := tk }) : EX h₀ L' L oL K cls C s = EX h₀ L' L oL K cls C s₀ := by
  funext e s'
  unfold EX
  simp only [h]
end
section
variable {prog : Program} {w : World} {A : Around} {s s₀ : Shared} {env' env : Env} {h₀ : Heap} {L' L : Addr} {oL : Obj} {C : Value → Prop} {K K1 : (Str → Option Value) → List (Addr × Obj) → Prop} {cls : Value}
theorem try_fin2 {body fs : List Stmt} {f₀ : Stmt} {tpos : Pos} {Q : Flow → Shared → Prop} (t : Two A env' env L' L) (h0 : ∀ hh tk, ({ s with heap := hh, toks := tk } : Shared) = { s₀ with heap := hh, toks := tk })
    (hbody : wpAny (model prog w) A (execs body env') (fun f s₁ => f = .next ∧ wpAny (model prog w) A (execs (f₀ :: fs) env') (fun g s' => g = .next ∧ Q .next s') (EX h₀ L' L oL K cls C s₀) s₁) (EX h₀ L' L oL K1 cls (· = .none) s₀) s)
    (hraised : ∀ a T oe oT h' tk m led sl, K1 m led → Fr h₀ L' h' m → News h₀ L' h' ((L, { oL with slots := sl }) :: (a, oe) :: (T, oT) :: led) → Pend oL L' L a T oe oT led cls →
      wpAny (model prog w) (A.mark (some (.ref a))) (execs (f₀ :: fs) env')
        (fun g s' => g = .next ∧ ∃ h'' tk'' m'' led'' sl'', s' = { s with heap := h'', toks := tk'' } ∧ Fr h₀ L' h'' m'' ∧ News h₀ L' h'' ((L, { oL with slots := sl'' }) :: (a, oe) :: (T, oT) :: led'') ∧ (∀ p ∈ led'', p.1 ≠ a ∧ p.1 ≠ T ∧ p.1 ≠ L) ∧ K m'' led'')
        (EX h₀ L' L oL K cls C s₀) { s with heap := h', toks := tk })
    (hC : C .none) :
    wpAny (model prog w) A (exec (.Try body [] [] (f₀ :: fs) tpos) env') Q (EX h₀ L' L oL K cls C s₀) s := by
  have e1 : EX h₀ L' L oL K cls C s = EX h₀ L' L oL K cls C s₀ := ex_base h0
  have e2 : EX h₀ L' L oL K1 cls (· = .none) s = EX h₀ L' L oL K1 cls (· = .none) s₀ := ex_base h0
  rw [← e1]
  refine try_fin t ?_ ?_ hC (K1 := K1)
  · rw [e1, e2]; exact hbody
  · rw [e1]; exact hraised
end
section
variable {prog : Program} {w : World} {A : Around} {E : Value → Shared → Prop} {s : Shared} {h₀ : Heap} {L : Addr} {m : Str → Option Value}
theorem extend_K {D b : Addr} {ys zs : List Value} {ns ms : List Int} {n n2 : Nat} {rest : List (Addr × Obj)} {Q : Value → Shared → Prop}
    (F : Fr h₀ L s.heap m) (N : News h₀ L s.heap ((D, W.listOf ys.toArray n) :: rest)) (hap : ∀ p ∈ rest, p.1 ≠ D) (hb : (b, W.listOf zs.toArray n2) ∈ rest) (hi : IntsAre ys ns) (hj : IntsAre zs ms)
    (hsz : ns.length + ms.length ≤ 1000)
    (h : ∀ h' n', Fr h₀ L h' m → News h₀ L h' ((D, W.listOf (ys ++ zs).toArray n') :: rest) → IntsAre (ys ++ zs) (ns ++ ms) → Q .none { s with heap := h' }) :
    wpAny (model prog w) A (call (.builtin "list.extend") [.ref D, .ref b]) Q E s := by
  refine extend_in (own := []) F N (fun _ h => nomatch h) hap (N _ (.tail _ hb)).1 (fun h' n' F' N' => h h' n' F' ?_ (hi.append hj)) ?_
  · exact N'
  · rw [List.size_toArray, hi.length, hj.length, sizeLine_eq]; omega
end
theorem mem_e1 {p a b c d : Addr × Obj} {r : List (Addr × Obj)} (h : p ∈ d :: c :: a :: b :: r) : p ∈ a :: b :: c :: d :: r := by
  simp only [List.mem_cons] at *; rcases h with h | h | h | h | h <;> simp [h]
theorem mem_e2 {p a b c : Addr × Obj} {r : List (Addr × Obj)} (h : p ∈ c :: b :: a :: r) : p ∈ a :: b :: c :: r := by
  simp only [List.mem_cons] at *; rcases h with h | h | h | h <;> simp [h]
theorem mem_e3 {p t u m d e l : Addr × Obj} {r : List (Addr × Obj)} (h : p ∈ l :: t :: u :: m :: r) : p ∈ t :: u :: m :: d :: e :: l :: r := by
  simp only [List.mem_cons] at *; rcases h with h | h | h | h | h <;> simp [h]
theorem mem_fin {p l a b c d : Addr × Obj} {r : List (Addr × Obj)} (h : p ∈ c :: d :: l :: r) : p ∈ l :: a :: b :: c :: d :: r := by
  simp only [List.mem_cons] at *; rcases h with h | h | h | h <;> simp [h]
theorem all6 {P : Str × Value → Prop} {a b c d e f : Str × Value} (h1 : P a) (h2 : P b) (h3 : P c) (h4 : P d) (h5 : P e) (h6 : P f) : ∀ p ∈ [a, b, c, d, e, f], P p := by
  simp only [List.mem_cons, List.not_mem_nil, or_false]
  rintro p (rfl | rfl | rfl | rfl | rfl | rfl) <;> assumption
section
variable {A : Around} {h₀ h h' : Heap} {L' L a x1 x2 mi ui : Addr} {oL : Obj} {m : Str → Option Value} {news : List (Addr × Obj)} {D : SS → (Str → Option Value) → Prop} {C : Value → Prop} {s₀ : Shared} {sl : Array (Option Value)} {tk : Nat} {X : String}
/-- an exception where the ledger is that of sorted_list_difference -/
theorem ks_raise (c : SS) (F : Fr h₀ L' h m) (N : News h₀ L' h (ledS mi ui c ((L, { oL with slots := sl }) :: news))) (hm : ∀ p ∈ psS x1 x2 mi ui c, m p.1 = some p.2) (hoff : ∀ p ∈ news, p.1 ≠ L) (h1 : mi ≠ L) (h2 : ui ≠ L) (hd : ∃ es ep, oL.data = .dict es ep)
    (r : RaisedX A h h' a X) (hC : ∀ c, (A.handled = none → c = .none) → C c) (hD : D c m) : EX h₀ L' L oL (KS x1 x2 mi ui news D) (.type X) C s₀ (.ref a) { s₀ with heap := h', toks := tk } :=
  ⟨a, h', tk, m, ledS mi ui c news, none, rfl, rfl, exC_new F (News.re N mem_cab) (ne_cons h2 (ne_cons h1 hoff)) hd r hC, .inl rfl, c, rfl, hm, hD⟩
end
section
variable {ex ac : List Int} {R R' : List Int × List Int} {i j i' j' : Int} {ti tj ti' tj' : Tok} {sl sl' : Array (Option Value)} {vm vu : List Value} {nm nu nm' nu' : Nat} {ms us : List Int} {e a : Int} {te : Tok}
theorem SW.at (W : SW ex ac R ⟨i, ti, j, tj, sl, vm, nm, vu, nu⟩ ms us) (h1 : 0 ≤ i') (h2 : i' ≤ ex.length + 1) (h3 : 0 ≤ j') (h4 : j' ≤ ac.length + 1) : SW ex ac R ⟨i', ti', j', tj', sl', vm, nm', vu, nu'⟩ ms us := ⟨h1, h2, h3, h4, W.hm, W.hu, W.lm, W.lu⟩
theorem succ_nat (h : 0 ≤ i) : (i + 1).toNat = i.toNat + 1 := by omega
theorem lt_in {k : Nat} {l : List Int} {x : Int} (h : l[k]? = some x) : k < l.length := (List.getElem?_eq_some_iff.mp h).1
theorem drp_less {k : Nat} {n : Nat} {l : List Int} {x y : Int} (h : l[k]? = some x) (hd : drp y (l.drop (k + 1)) = l.drop n) : (l.drop n).length < (l.drop k).length := by
  rw [← hd]
  have := drp_len y (l.drop (k + 1))
  have := lt_in h
  simp only [List.length_drop] at *
  omega
variable (W : SW ex ac R ⟨i, ti, j, tj, sl, vm, nm, vu, nu⟩ ms us) (hS : SD (ex.drop i.toNat) (ac.drop j.toNat) R') (h1 : ms ++ R'.1 = R.1) (h2 : us ++ R'.2 = R.2) (he : ex[i.toNat]? = some e) (ha : ac[j.toNat]? = some a)
include W hS h1 h2 he ha
theorem lt_step (hlt : e < a) : ∃ R1, SD (drp e (ex.drop (i + 1).toNat)) (ac.drop j.toNat) (R1, R'.2) ∧ (ms ++ [e]) ++ R1 = R.1 ∧ IntsAre (vm ++ [.int e te]) (ms ++ [e]) ∧ (ms ++ [e]).length ≤ R.1.length := by
  rw [drop_get he, drop_get ha] at hS
  obtain ⟨R1, h3, h4⟩ := sd_lt hS hlt
  rw [← drop_get ha] at h3
  rw [succ_nat W.i0]
  rw [h4] at h1
  refine ⟨R1, h3, by rw [← h1]; simp, ints_push W.hm _ _, ?_⟩
  rw [← h1]; simp
theorem gt_step (hlt : a < e) : ∃ R2, SD (ex.drop i.toNat) (drp a (ac.drop (j + 1).toNat)) (R'.1, R2) ∧ (us ++ [a]) ++ R2 = R.2 ∧ IntsAre (vu ++ [.int a te]) (us ++ [a]) ∧ (us ++ [a]).length ≤ R.2.length := by
  rw [drop_get he, drop_get ha] at hS
  obtain ⟨R1, h3, h4⟩ := sd_gt hS hlt
  rw [← drop_get he] at h3
  rw [succ_nat W.j0]
  rw [h4] at h2
  refine ⟨R1, h3, by rw [← h2]; simp, ints_push W.hu _ _, ?_⟩
  rw [← h2]; simp
theorem lt_end (hlt : e < a) (k0 : 0 ≤ i') (k1 : i' ≤ ex.length + 1) (hd : drp e (ex.drop (i + 1).toNat) = ex.drop i'.toNat) :
    SI ex ac R ⟨i', ti', j, tj, sl', vm ++ [.int e te], nm', vu, nu'⟩ ∧ (ex.drop i'.toNat).length + (ac.drop j.toNat).length < (ex.drop i.toNat).length + (ac.drop j.toNat).length := by
  obtain ⟨R1, g1, g2, g3, g4⟩ := lt_step (te := te) W hS h1 h2 he ha hlt
  rw [hd] at g1
  refine ⟨⟨_, us, _, ⟨k0, k1, W.j0, W.j1, g3, W.hu, g4, W.lu⟩, g1, g2, h2⟩, ?_⟩
  rw [succ_nat W.i0] at hd
  have := drp_less he hd
  omega
theorem lt_out (hlt : e < a) (k0 : 0 ≤ i') (k1 : i' ≤ ex.length + 1) (hd : drp e (ex.drop (i + 1).toNat) = []) (ho : ex.drop i'.toNat = []) :
    SE ex ac R ⟨i', ti', j, tj, sl', vm ++ [.int e te], nm', vu, nu'⟩ := by
  obtain ⟨R1, g1, g2, g3, g4⟩ := lt_step (te := te) W hS h1 h2 he ha hlt
  rw [hd] at g1
  have g5 := sd_nilL g1
  injection g5 with g5 g6
  refine ⟨_, us, ⟨k0, k1, W.j0, W.j1, g3, W.hu, g4, W.lu⟩, ?_, ?_⟩
  · dsimp only; rw [ho, ← g2, g5]
  · dsimp only; rw [← h2, g6]
theorem gt_end (hlt : a < e) (k0 : 0 ≤ j') (k1 : j' ≤ ac.length + 1) (hd : drp a (ac.drop (j + 1).toNat) = ac.drop j'.toNat) :
    SI ex ac R ⟨i, ti, j', tj', sl', vm, nm', vu ++ [.int a te], nu'⟩ ∧ (ex.drop i.toNat).length + (ac.drop j'.toNat).length < (ex.drop i.toNat).length + (ac.drop j.toNat).length := by
  obtain ⟨R1, g1, g2, g3, g4⟩ := gt_step (te := te) W hS h1 h2 he ha hlt
  rw [hd] at g1
  refine ⟨⟨ms, _, _, ⟨W.i0, W.i1, k0, k1, W.hm, g3, W.lm, g4⟩, g1, h1, g2⟩, ?_⟩
  rw [succ_nat W.j0] at hd
  have := drp_less ha hd
  omega
theorem gt_out (hlt : a < e) (k0 : 0 ≤ j') (k1 : j' ≤ ac.length + 1) (hd : drp a (ac.drop (j + 1).toNat) = []) (ho : ac.drop j'.toNat = []) :
    SE ex ac R ⟨i, ti, j', tj', sl', vm, nm', vu ++ [.int a te], nu'⟩ := by
  obtain ⟨R1, g1, g2, g3, g4⟩ := gt_step (te := te) W hS h1 h2 he ha hlt
  rw [hd] at g1
  have g5 := sd_nilR g1
  injection g5 with g5 g6
  refine ⟨ms, _, ⟨W.i0, W.i1, k0, k1, W.hm, g3, W.lm, g4⟩, ?_, ?_⟩
  · dsimp only; rw [← h1, g5]
  · dsimp only; rw [ho, ← g2, g6]
end
section
variable {ex ac : List Int} {R R' : List Int × List Int} {i j i' j' : Int} {ti tj ti' tj' : Tok} {sl sl' : Array (Option Value)} {vm vu : List Value} {nm nu nm' nu' : Nat} {ms us : List Int} {e : Int}
variable (W : SW ex ac R ⟨i, ti, j, tj, sl, vm, nm, vu, nu⟩ ms us) (hS : SD (ex.drop i.toNat) (ac.drop j.toNat) R') (h1 : ms ++ R'.1 = R.1) (h2 : us ++ R'.2 = R.2) (he : ex[i.toNat]? = some e) (ha : ac[j.toNat]? = some e)
include W hS h1 h2 he ha
theorem eq_step : SD (drp e (ex.drop (i + 1).toNat)) (drp e (ac.drop (j + 1).toNat)) R' := by
  rw [drop_get he, drop_get ha] at hS
  rw [succ_nat W.i0, succ_nat W.j0]
  exact sd_eq hS
theorem eq_end (k0 : 0 ≤ i') (k1 : i' ≤ ex.length + 1) (hd : drp e (ex.drop (i + 1).toNat) = ex.drop i'.toNat) (l0 : 0 ≤ j') (l1 : j' ≤ ac.length + 1) (ld : drp e (ac.drop (j + 1).toNat) = ac.drop j'.toNat) :
    SI ex ac R ⟨i', ti', j', tj', sl', vm, nm', vu, nu'⟩ ∧ (ex.drop i'.toNat).length + (ac.drop j'.toNat).length < (ex.drop i.toNat).length + (ac.drop j.toNat).length := by
  have g1 := eq_step W hS h1 h2 he ha
  rw [hd, ld] at g1
  refine ⟨⟨ms, us, _, W.at k0 k1 l0 l1, g1, h1, h2⟩, ?_⟩
  rw [succ_nat W.j0] at ld
  rw [succ_nat W.i0] at hd
  have := drp_less ha ld
  have := drp_less he hd
  omega
theorem eq_outj (k0 : 0 ≤ i') (k1 : i' ≤ ex.length + 1) (hd : drp e (ex.drop (i + 1).toNat) = ex.drop i'.toNat) (l0 : 0 ≤ j') (l1 : j' ≤ ac.length + 1) (ld : drp e (ac.drop (j + 1).toNat) = []) (lo : ac.drop j'.toNat = []) :
    SE ex ac R ⟨i', ti', j', tj', sl', vm, nm', vu, nu'⟩ := by
  have g1 := eq_step W hS h1 h2 he ha
  rw [hd, ld] at g1
  have g5 := sd_nilR g1
  refine ⟨ms, us, W.at k0 k1 l0 l1, ?_, ?_⟩
  · dsimp only; rw [← h1, g5]
  · dsimp only; rw [← h2, g5, lo]
theorem eq_outi (hd : drp e (ex.drop (i + 1).toNat) = []) : ms = R.1 ∧ us ++ drp e (ac.drop (j + 1).toNat) = R.2 := by
  have g1 := eq_step W hS h1 h2 he ha
  rw [hd] at g1
  have g5 := sd_nilL g1
  exact ⟨by rw [← h1, g5]; simp, by rw [← h2, g5]⟩
end
/-- what stands when the first list is spent in the third branch -/
def SP (ex ac : List Int) (R : List Int × List Int) (j a : Int) (ta : Tok) (c : SS) (m : Str → Option Value) : Prop :=
  m (Str.ofString "a") = some (.int a ta) ∧ c.j = j ∧ ∃ ms us, SW ex ac R c ms us ∧ ex.drop c.i.toNat = [] ∧ ms = R.1 ∧ us ++ drp a (ac.drop (j + 1).toNat) = R.2
theorem mem3 {p a b c : Addr × Obj} {r : List (Addr × Obj)} (h : p ∈ r) : p ∈ a :: b :: c :: r := .tail _ (.tail _ (.tail _ h))
end
section
theorem head3 (p t : Str) (hp : 3 ≤ (sg p).length) : sg (Txt.slice (p ++ t) none (some 3)) = (sg p).take 3 := by
  have h := sg_to (p ++ t) 3
  rw [show ((3 : Nat) : Int) = 3 from rfl] at h
  rw [h, sg_app, List.take_append_of_le_length hp]
theorem head5 (p t : Str) (hp : 5 ≤ (sg p).length) : sg (Txt.slice (p ++ t) (some 3) (some 5)) = ((sg p).take 5).drop 3 := by
  have hl : (p ++ t).length = (sg (p ++ t)).length := (sg_len _).symm
  have h := sg_run (p ++ t) 3 5 (by omega) (by rw [hl, sg_app, List.length_append]; omega)
  rw [show ((3 : Nat) : Int) = 3 from rfl, show ((5 : Nat) : Int) = 5 from rfl] at h
  rw [h, sg_app]
  rw [List.drop_append_of_le_length (by omega), List.take_append_of_le_length (by rw [List.length_drop]; omega), List.drop_take]
theorem pre_len {p t : Str} (h : (sg p).length ≤ 6) (ht : t.length ≤ 20) : (p ++ t).length ≤ 100 := by
  rw [← sg_len, sg_app, List.length_append, sg_len t]; omega
theorem head3_is {p t q : Str} (hp : 3 ≤ (sg p).length) (h : (sg p).take 3 = sg q) : Txt.slice (p ++ t) none (some 3) = q := sg_inj ((head3 p t hp).trans h)
theorem head3_not {p t q : Str} (hp : 3 ≤ (sg p).length) (h : (sg p).take 3 ≠ sg q) : Txt.slice (p ++ t) none (some 3) ≠ q := fun e => h (by rw [← e, head3 p t hp])
theorem head5_not {p t q : Str} (hp : 5 ≤ (sg p).length) (h : ((sg p).take 5).drop 3 ≠ sg q) : Txt.slice (p ++ t) (some 3) (some 5) ≠ q := fun e => h (by rw [← e, head5 p t hp])
section
variable {prog : Program} {w : World} {A₀ A : Around} {s : Shared} {base h₀ : Heap} {L : Addr} {m : Str → Option Value} {env : Env} {news : List (Addr × Obj)} {K : Frag} {p : Program} {loose : List Str} {mean : ExcName → Option Value} {mg mb : Str → Option Value}
    {R : Result → Shared → Prop} {name qual : Str} {params : Arguments} {body : List Stmt} {scope : Scope} {dV kV doc pm cdv ct oc : Value} {an od : Option Addr} {osl : Array (Option Value)} {f : Addr} {args : Args} {binds : List (Str × Value)}
theorem enter_S (B : Below A₀ base [] h₀) (F : Fr h₀ L s.heap m) (X₀ : K.In h₀) (N : News h₀ L s.heap news) (T : Top p loose mean mg mb h₀) (hA : A.frames = some [env]) (hf : env.frame = some L) (hke : env.scope.kind = .function)
    (ho : K.lookup f = some ⟨oc, od, .func (fnOf name qual params body scope dV kV doc pm an cdv ct), osl⟩) (hcd : codeIn K cdv qual = true) (hroom : A.depth < recursionLimit)
    (hbind : BindsTo s (fnOf name qual params body scope dV kV doc pm an cdv ct) args binds) (hloc : ∀ y ∈ binds, scope.names.lookup y.1 = some .local)
    (h : ∀ g L' h₁, Fr h₀ L g m → Fr g L' h₁ (fun y => binds.reverse.lookup y) → News g L' h₁ news → Below A base [env] g → K.In g → Top p loose mean mg mb g → KtsDicts ([env].filterMap (·.frame)) g →
      wpAny (model prog w) (A.deeper (envOf qual scope L' f cdv)) (execs body (envOf qual scope L' f cdv))
        (fun fl s' => LeaveS0 ([env].filterMap (·.frame)) h₀ L m g R (match fl with | .ret v => v | _ => .none) s')
        (fun e s' => wpAny (model prog w) (A.deeper (envOf qual scope L' f cdv)) (leaving (envOf qual scope L' f cdv) e) (fun _ s'' => R (.error e) s'') (fun e' s'' => R (.error e') s'') s')
        { s with heap := h₁, toks := s.toks + binds.length })
    (hco : scope.isCoroutine = false) (hgen : scope.isGenerator = false) (hk : scope.kind = .function)
    (hcell : ∀ x ∈ scope.names, x.2 ≠ .cell) : codeAny (model prog w) A (.call (.ref f) args) R s := by
  have X := X₀.keeps F.keep
  obtain ⟨FG, BG, st, _⟩ := groundX (R := R) B F N hA hf hke
  have hfs : ∀ b, b ∈ [env].filterMap (·.frame) → b = L := fun b hb => by simpa [hf] using hb
  refine codeAny_call_def (fd := fnOf name qual params body scope dV kV doc pm an cdv ct) (body := body) (binds := binds) hroom (X _ _ ho) rfl (T.nolimit.keeps F.keep) (codeRec_of X hcd) rfl hbind hcell hloc (fun h₁ hns hk₁ => ?_) hco hgen hk
  obtain ⟨oL, es, ep, hLg, hLd, hLk, hLf⟩ := id FG.ns
  refine wpAny_mono (h _ s.heap.objs.size h₁ FG ⟨hns, fun b o e => hk₁ b o (of_hideAll _ e), Nat.le_of_eq (hideAll_size _ _)⟩
    (fun p hp => ⟨hk₁ _ _ (N p hp).1, Nat.ne_of_lt (Heap.lt_size (N p hp).1), hideAll_none _ (List.mem_map_of_mem hp)⟩) BG (X₀.keeps st) (T.keeps st) (fun b hb => ⟨oL, es, ep, by rw [hfs b hb]; exact hLg, hLd⟩)) (fun fl s' hl => ?_) fun _ _ y => y
  obtain ⟨g', L', m', news', T', F', N', k⟩ := hl
  obtain ⟨sl, hs⟩ := T'.up hLg
  refine k ⟨⟨_, es, ep, F'.keep _ _ hs, hLd, hLk, hLf⟩, fun b o e => F'.keep b o (T'.other b o (st b o e) fun q => ?_), F.above⟩ fun p hp => ⟨(N' p hp).1, fun q => ?_, ?_⟩
  · rw [hfs b q, kts_self F] at e
    cases e
  · have := (N' p hp).2.2
    rw [q, hs] at this
    cases this
  · cases q : h₀.get? p.1 with
    | none => rfl
    | some o =>
      obtain ⟨sl', hs'⟩ := T'.up (st _ _ q)
      have := (N' p hp).2.2
      rw [hs'] at this
      cases this
end

/-- what a turn of a loop leaves where the ground may turn -/
def StepS (G : Heap → Prop) (L : Addr) (led : List (Addr × Obj)) (s : Shared) (Q : Flow → Shared → Prop) (f : Flow) (s₂ : Shared) : Prop :=
  match f with
  | .ret v => Q (.ret v) s₂
  | .brk => False
  | _ => ∃ g h tk m, s₂ = { s with heap := h, toks := tk } ∧ G g ∧ Fr g L h m ∧ News g L h led
def LoopS (prog : Program) (w : World) (A : Around) (env : Env) (x : Str) (body : List Stmt) (G : Heap → Prop) (Q : Flow → Shared → Prop) (E : Value → Shared → Prop) (it : Value) (s : Shared) : Prop :=
  ∃ (I l : Addr) (items : Array Value) (n : Nat) (g₀ : Heap) (m₀ : Str → Option Value) (led : List (Addr × Obj)), it = .ref I ∧ A.handled = none ∧ I ≠ l ∧ I ≠ env.locals ∧ (∀ p ∈ led, p.1 ≠ I) ∧ (∀ g, G g → g.get? I = none) ∧ (l, W.listOf items n) ∈ led ∧ G g₀ ∧
    Fr g₀ env.locals s.heap m₀ ∧ News g₀ env.locals s.heap ((I, ({ cls := .type "list_iterator", data := .fields #[.ref l, .int 0 0] } : Obj)) :: led) ∧
    (∀ (i : Nat) (v : Value) (g h : Heap) (tk : Nat) (m : Str → Option Value) (oI : Obj), items[i]? = some v → G g → Fr g env.locals h (fun y => if y = x then some v else m y) → News g env.locals h ((I, oI) :: led) →
      wpAny (model prog w) A (execs body env) (StepS G env.locals ((I, oI) :: led) s Q) E { s with heap := h, toks := tk }) ∧
    ∀ (g h : Heap) (tk : Nat) (m : Str → Option Value), G g → Fr g env.locals h m → News g env.locals h led → Q .next { s with heap := h, toks := tk }
section
variable {prog : Program} {w : World} {A : Around} {s : Shared} {env : Env}
theorem For_S {E : Value → Shared → Prop} {Q : Flow → Shared → Prop} {x : Str} {px pos : Pos} {iter : PySem.Expr} {body : List Stmt} (G : Heap → Prop) (hx : env.kindOf x = some .local)
    (hp : (env.scope.kind == .class || (env.scope.kind == .module && env.locals != env.globals)) = false)
    (h : wpAny (model prog w) A (eval iter env) (fun xv s₁ => wpAny (model prog w) A (pyIter xv) (fun it s₂ => LoopS prog w A env x body G Q E it s₂) E s₁) E s)
    (hs : ∀ x, foldedSetIterable iter env x = pure x := by intro _; rfl)
    (hE : PassesOwn (model prog w) A env E := by passes_own) :
    wpAny (model prog w) A (exec (.For (.Name x px) iter body [] pos) env) Q E s := by
  refine wpAny_For (wpAny_mono h (fun xv s₁ h₁ => wpAny_mono h₁ (fun it s₂ h₂ => ?_) fun _ _ e => e) fun _ _ e => e) hs
  obtain ⟨I, l, items, n, g₀, m₀, led, rfl, hh, hIl, hIL, hoff, hfree, hmem, hG₀, F, N, step, done⟩ := h₂
  refine codeAny_forLoop (R := fun r s' => match r with | .ok f => Q f s' | .error e => cameBackBy (model prog w) A env E e s')
    (fun k s' => ∃ g h tk m i oI, s' = { s₂ with heap := h, toks := tk } ∧ G g ∧ Fr g env.locals h m ∧ News g env.locals h ((I, oI) :: led) ∧ oI.cls = .type "list_iterator" ∧ oI.data = .fields #[.ref l, .int (Int.ofNat i) 0] ∧ i ≤ items.size ∧ k = items.size + 1 - i) ?_ (items.size + 1) ⟨g₀, s₂.heap, s₂.toks, m₀, 0, _, rfl, hG₀, F, N, rfl, rfl, Nat.zero_le _, rfl⟩
  rintro k s' ⟨g, h', tk, m, i, oI, rfl, hG, F', N', hcI, hdI, hi, rfl⟩
  have zI := N' _ (.head _)
  have hit : h'.IsListIter I l i := ⟨_, zI.1, hcI, hdI⟩
  have hl : h'.IsList l items := ⟨_, (N' _ (.tail _ hmem)).1, rfl, n, rfl⟩
  have fI := hfree g hG
  by_cases hlt : i < items.size
  · refine wpAny_pyNext_list_item hit hl (Array.getElem?_eq_getElem hlt) fun h₁ hit₁ hb₁ => ?_
    obtain ⟨o₁, ho₁, hc₁, hd₁⟩ := id hit₁
    have hF₁ : Fr g env.locals h₁ m := F'.change hb₁ hIL fI
    have hN₁ : News g env.locals h₁ ((I, o₁) :: led) := fun p hp => by
      rcases List.mem_cons.mp hp with rfl | hp
      · exact ⟨ho₁, zI.2⟩
      · exact ⟨(hb₁.2 p.1 (hoff p hp)).trans (N' p (.tail _ hp)).1, (N' p (.tail _ hp)).2⟩
    refine wpAny_assign_Name (wpAny_storeName_local hx hF₁.ns (fun h₂ hn₂ hs₂ => ?_) hp)
    have F₂ := hF₁.set hn₂ hs₂
    refine wpAny_mono (wpAny_passesOwn hE (step i _ g h₂ _ m o₁ (Array.getElem?_eq_getElem hlt) hG F₂ (hN₁.set hs₂))) (fun f s₃ h₃ => ?_) fun _ _ e => e
    cases f with
    | ret v => exact h₃
    | brk => exact h₃.elim
    | cont =>
      obtain ⟨g', h₃', tk₃, m₂, rfl, G₃, F₃, N₃⟩ := h₃
      exact ⟨items.size + 1 - (i + 1), by omega, g', h₃', tk₃, m₂, i + 1, o₁, rfl, G₃, F₃, N₃, hc₁, hd₁, hlt, rfl⟩
    | next =>
      obtain ⟨g', h₃', tk₃, m₂, rfl, G₃, F₃, N₃⟩ := h₃
      exact ⟨items.size + 1 - (i + 1), by omega, g', h₃', tk₃, m₂, i + 1, o₁, rfl, G₃, F₃, N₃, hc₁, hd₁, hlt, rfl⟩
  · refine wpAny_pyNext_list_end hh hit hl (Array.getElem?_eq_none (by omega)) fun h₁ hb₁ => wpAny_execs_nil ?_
    have keep : ∀ b o, b ≠ I → h'.get? b = some o → h₁.get? b = some o := fun b o hb e => hb₁ b o hb e
    refine done g h₁ tk m hG ⟨F'.ns.at' fun o e => keep _ o (Ne.symm hIL) e, fun b o e => keep b o (fun q => ?_) (F'.keep b o e), F'.above⟩ fun p hp => ⟨keep _ _ (hoff p hp) (N' p (.tail _ hp)).1, (N' p (.tail _ hp)).2⟩
    rw [q, fI] at e
    cases e
end
/-- a ground that has turned -/
structure GS (fs : List Addr) (A : Around) (base : Heap) (outer : List Env) (K : Frag) (p : Program) (loose : List Str) (mean : ExcName → Option Value) (mg mb : Str → Option Value) (g₀ g : Heap) : Prop where
  turn : KtsTurn fs g₀ g
  below : Below A base outer g
  frag : K.In g
  top : Top p loose mean mg mb g
  dicts : KtsDicts fs g
section
variable {prog : Program} {w : World} {A A₀ : Around} {s : Shared} {env : Env} {fs : List Addr} {base g₀ : Heap} {outer : List Env} {K : Frag} {p : Program} {loose : List Str} {mean : ExcName → Option Value} {mg mb : Str → Option Value} {E : Value → Shared → Prop} {Q : Flow → Shared → Prop} {x : Str} {body : List Stmt}
theorem For_GS {px pos : Pos} {iter : PySem.Expr} (_G1 : GS fs A₀ base outer K p loose mean mg mb g₀ g₀) (hx : env.kindOf x = some .local)
    (hp : (env.scope.kind == .class || (env.scope.kind == .module && env.locals != env.globals)) = false)
    (h : wpAny (model prog w) A (eval iter env) (fun xv s₁ => wpAny (model prog w) A (pyIter xv) (fun it s₂ => LoopS prog w A env x body (GS fs A₀ base outer K p loose mean mg mb g₀) Q E it s₂) E s₁) E s)
    (hs : ∀ x, foldedSetIterable iter env x = pure x := by intro _; rfl)
    (hE : PassesOwn (model prog w) A env E := by passes_own) :
    wpAny (model prog w) A (exec (.For (.Name x px) iter body [] pos) env) Q E s := For_S _ hx hp h hs hE
theorem loop_start {m₀ : Str → Option Value} {led : List (Addr × Obj)} {l : Addr} {items : Array Value} {n : Nat} (G1 : GS fs A₀ base outer K p loose mean mg mb g₀ g₀) (F : Fr g₀ env.locals s.heap m₀) (N : News g₀ env.locals s.heap led) (hl : (l, W.listOf items n) ∈ led) (hh : A.handled = none)
    (step : ∀ (i : Nat) (v : Value) (g h : Heap) (tk : Nat) (m : Str → Option Value) (I : Addr) (oI : Obj), items[i]? = some v → GS fs A₀ base outer K p loose mean mg mb g₀ g → Fr g env.locals h (fun y => if y = x then some v else m y) → News g env.locals h ((I, oI) :: led) →
      wpAny (model prog w) A (execs body env) (StepS (GS fs A₀ base outer K p loose mean mg mb g₀) env.locals ((I, oI) :: led) s Q) E { s with heap := h, toks := tk })
    (done : ∀ (g h : Heap) (tk : Nat) (m : Str → Option Value), GS fs A₀ base outer K p loose mean mg mb g₀ g → Fr g env.locals h m → News g env.locals h led → Q .next { s with heap := h, toks := tk }) :
    wpAny (model prog w) A (pyIter (.ref l)) (fun it s₂ => LoopS prog w A env x body (GS fs A₀ base outer K p loose mean mg mb g₀) Q E it s₂) E s := by
  have z := N _ hl
  have hlt := Heap.lt_size z.1
  refine wpAny_pyIter_list (N.isList hl) ⟨s.heap.objs.size, l, items, n, g₀, m₀, led, rfl, hh, Nat.ne_of_gt hlt, Nat.ne_of_gt F.ns.lt, fun p hp => Nat.ne_of_lt (Heap.lt_size (N p hp).1), fun g G => G.turn.none_ _ (Heap.get?_none_of_le (Nat.le_trans F.above (Nat.le_of_lt F.ns.lt))), hl, G1, F.push _, fun p hp => ?_, fun i v g h tk m oI hv G F' N' => ?_, fun g h tk m G F' N' => done g h tk m G F' N'⟩
  · rcases List.mem_cons.mp hp with rfl | hp
    · exact ⟨Heap.get?_push_size _ rfl, Nat.ne_of_gt F.ns.lt, Heap.get?_none_of_le (Nat.le_trans F.above (Nat.le_of_lt F.ns.lt))⟩
    · exact ⟨Heap.get?_push_of_some _ (N p hp).1, (N p hp).2⟩
  · refine wpAny_mono (step i v g h tk m _ oI hv G F' N') (fun f s₃ h₃ => ?_) fun _ _ e => e
    cases f <;> exact h₃
end
end
section
section
variable {prog : Program} {w : World} {A : Around} {E : Value → Shared → Prop} {s : Shared} {K : Frag} {e t0 C : Addr} {o : Obj} {vs : Array Value} {m : Str} {tk : Tok}
open Builtin Builtin.Str Builtin.BaseException Builtin.Exceptions
theorem bexcArgs_own {M : Model} {items : List Value} {Q : Value × List Value → Shared → Prop} (ho : s.heap.get? e = some o) (hd : o.data = .fields vs) (h0 : vs[0]? = some (.ref t0)) (ht : s.heap.TupAt t0 items) (hq : Q (.ref t0, items) s) :
    wpAny M A (bexcArgs (.ref e)) Q E s := by
  obtain ⟨ot, k, hto, _, htd⟩ := ht
  unfold bexcArgs
  refine wpAny_bind (wpAny_field ho hd h0 (wpAny_bind (wpAny_seqItems hto htd ?_)))
  have : items.toArray.toList = items := by simp
  show wpAny M A (pure (Value.ref t0, items.toArray.toList)) Q E s
  rw [this]; exact wpAny_pure hq
theorem strEntry_own {Q : Fin → Shared → Prop} (ho : s.heap.get? e = some o) (hd : o.data = .fields vs) (h0 : vs[0]? = some (.ref t0)) (ht : s.heap.TupAt t0 [.str m tk]) (hq : Q (.done (.ret (.str m tk))) s) :
    wpAny (model prog w) A (Builtin.«BaseException.__str__» ⟨[.ref e], []⟩) Q E s := by
  unfold Builtin.«BaseException.__str__»
  repeat (first | with_reducible refine bexcArgs_own ho hd h0 ht ?_ | wp_step)
  exact hq
theorem kind_str : builtinKind "BaseException.__str__" = some .slot := by decide +kernel
theorem split_str : splitId "BaseException.__str__" = some ("BaseException", "__str__") := by decide +kernel
theorem strOf_own (hu : A.units < cLine) {Q : Value → Shared → Prop} (X : K.In s.heap) (ho : s.heap.get? e = some o) (hc : o.cls = .ref C) (hd : o.data = .fields vs) (h0 : vs[0]? = some (.ref t0)) (ht : s.heap.TupAt t0 [.str m tk])
    (hs : findIn K (.ref C) "__str__" = some (some (.builtin "BaseException.__str__"))) (hsub : subIn K (.ref C) (.type "BaseException") = some true) (hq : Q (.str m tk) s) : wpAny (model prog w) A (PySem.Builtin.Str.strOf (.ref e)) Q E s := by
  have L : Looks (model prog w) s.heap (typeOf (.ref e)) (.ref C) := hc ▸ (Looks.ld ho).andThen .now
  have hi : Looks (model prog w) s.heap (isInstance (.ref e) (.type "BaseException")) true := L.andThen (looks_subIn X hsub)
  have hc0 : wpAny (model prog w) A.in1 (Builtin.«BaseException.__str__» ⟨[.ref e], []⟩) (fun fin s' => fin = .done (.ret (.str m tk)) ∧ s' = s) E s := strEntry_own ho hd h0 ht ⟨rfl, rfl⟩
  have hcall : wpAny (model prog w) A (call (.builtin "BaseException.__str__") [.ref e]) (fun v s' => v = .str m tk ∧ s' = s) E s := by
    refine wpAny_call (codeAny_call_builtin PySem.F.excStr_ValueError.str.plain PySem.F.entry_bexc_str ?_)
    refine @check_slot (model prog w) A.in1 E s "BaseException.__str__" "BaseException" "__str__" (.ref e) [] [] _ kind_str split_str hi (PySem.F.args_bexc_str _) ?_
    refine wpAny_mono hc0 (fun fin s' h' => ?_) fun _ _ h' => h'
    obtain ⟨q, rfl⟩ := h'
    subst q
    exact ⟨rfl, rfl⟩
  unfold PySem.Builtin.Str.strOf
  rw [show isExactStr (.ref e) = false from rfl]
  refine wpAny_bind (m := cRoomFor _ _) (wpAny_cRoomFor hu ?_)
  refine wpAny_bind (m := callSpecial? (.ref e) (Str.ofString "__str__")) ?_
  simp only [callSpecial?]
  refine wpAny_bind (wpAny_bind (L.here ((looks_findIn X hs).here ?_)))
  simp only [PySem.F.excStr_ValueError.str.bind]
  refine wpAny_holding (wpAny_bind (wpAny_pure (wpAny_bind (wpAny_mono hcall (fun v s' h' => wpAny_pure ?_) fun _ _ h' => h'))))
  obtain ⟨rfl, rfl⟩ := h'
  exact wpAny_pure hq
theorem str_own (hu : A.units + 2 < cLine) {Q : Value → Shared → Prop} (X : K.In s.heap) (ho : s.heap.get? e = some o) (hc : o.cls = .ref C) (hd : o.data = .fields vs) (h0 : vs[0]? = some (.ref t0)) (ht : s.heap.TupAt t0 [.str m tk])
    (hs : findIn K (.ref C) "__str__" = some (some (.builtin "BaseException.__str__"))) (hsub : subIn K (.ref C) (.type "BaseException") = some true) (h : Q (.str m tk) s) :
    wpAny (model prog w) A (call (.type "str") [.ref e]) Q E s :=
  callType_new PySem.F.called_str (by decide) (PySem.F.typeCall_str_1 _) (PySem.F.newCall_str_1 _) (fun obj => PySem.F.args_object_init_2 obj _) PySem.F.entry_str_new
    (meets_str_new (S := fun A' R s' => A'.units + 1 < cLine ∧ K.In s'.heap ∧ s'.heap.get? e = some o ∧ s'.heap.TupAt t0 [.str m tk] ∧ R (.ok (.ret (.str m tk))) s')
      fun _ _ A' _ _ hq => strOf_own (A := A'.in1) hq.1 hq.2.1 hq.2.2.1 hc hd h0 hq.2.2.2.1 hs hsub hq.2.2.2.2)
    ⟨(show A.units + 1 + 1 < cLine from hu), X, ho, ht, typeIs_str _ _ _, h⟩
theorem str_got {g : Heap} {L : Addr} {mm : Str → Option Value} {n₂ : List (Addr × Obj)} (F : Fr g L s.heap mm) (N : News g L s.heap n₂) (G : Got n₂ e t0 (.ref C) [.str m tk]) (X : K.In g) (hu : A.units + 2 < cLine)
    (hs : findIn K (.ref C) "__str__" = some (some (.builtin "BaseException.__str__"))) (hsub : subIn K (.ref C) (.type "BaseException") = some true) {Q : Value → Shared → Prop} (h : Q (.str m tk) s) :
    wpAny (model prog w) A (call (.type "str") [.ref e]) Q E s := by
  obtain ⟨oe, ot, ws, nt, m1, m2, hc, hd, h0, htc, htd⟩ := G
  exact str_own hu (X.keeps F.keep) (N _ m1).1 hc hd h0 ⟨ot, nt, (N _ m2).1, htc, htd⟩ hs hsub h
end
end
section

/-! names that grow -/
theorem dec_grow : ∀ (n : Nat) (l : List Nat) (c : Nat), l.length ≤ n → dec (l ++ [c]) = dec l ∨ ∃ d ∈ l ++ [c], dec (l ++ [c]) = dec l ++ [d]
  | _, [], c, _ => by
    by_cases h : c = 34
    · subst h; exact .inl (by simp [dec_end, dec])
    · exact .inr ⟨c, by simp, by rw [List.nil_append, dec_plain h]; simp [dec]⟩
  | 0, _ :: _, _, h => absurd h (by simp)
  | n + 1, b :: l, c, h => by
    have h' : l.length ≤ n := by simpa using h
    by_cases hb : b = 34
    · subst hb
      cases l with
      | nil =>
        by_cases hc : c = 34
        · subst hc; exact .inr ⟨34, by simp, by simp [dec_two, dec_end, dec]⟩
        · exact .inl (by simp [dec_stop hc, dec_end])
      | cons d l =>
        by_cases hd : d = 34
        · subst hd
          have h2 : l.length ≤ n := by simp at h'; omega
          rw [List.cons_append, List.cons_append, dec_two, dec_two]
          rcases dec_grow n l c h2 with e | ⟨x, hx, e⟩
          · exact .inl (by rw [e])
          · exact .inr ⟨x, .tail _ (.tail _ hx), by rw [e]; rfl⟩
        · exact .inl (by rw [List.cons_append, List.cons_append, dec_stop hd, dec_stop hd])
    · rw [List.cons_append, dec_plain hb, dec_plain hb]
      rcases dec_grow n l c h' with e | ⟨x, hx, e⟩
      · exact .inl (by rw [e])
      · exact .inr ⟨x, .tail _ hx, by rw [e]; rfl⟩
theorem dec_sub : ∀ (n : Nat) (l : List Nat), l.length ≤ n → ∀ x ∈ dec l, x ∈ l
  | _, [], _, x, hx => by simp [dec] at hx
  | 0, _ :: _, h, _, _ => absurd h (by simp)
  | n + 1, b :: l, h, x, hx => by
    have h' : l.length ≤ n := by simpa using h
    by_cases hb : b = 34
    · subst hb
      cases l with
      | nil => simp [dec_end] at hx
      | cons d l =>
        by_cases hd : d = 34
        · subst hd
          have h2 : l.length ≤ n := by simp at h'; omega
          rw [dec_two] at hx
          rcases List.mem_cons.mp hx with rfl | hx
          · exact .head _
          · exact .tail _ (.tail _ (dec_sub n l h2 x hx))
        · rw [dec_stop hd] at hx; cases hx
    · rw [dec_plain hb] at hx
      rcases List.mem_cons.mp hx with rfl | hx
      · exact .head _
      · exact .tail _ (dec_sub n l h' x hx)

/-- how many may be taken from a heap of n signs -/
def tk (x : List Nat) (n : Nat) : Nat := (dec (x.take n)).length
theorem tk_zero (x : List Nat) : tk x 0 = 0 := by simp [tk, dec]
theorem tk_le (x : List Nat) (n : Nat) : tk x n ≤ n := Nat.le_trans (dec_le _) (by simp; omega)
theorem take_succ' {x : List Nat} {n : Nat} (h : n < x.length) : x.take (n + 1) = x.take n ++ [x[n]] := by
  rw [List.take_add_one]; simp [h]
theorem dec_succ {x : List Nat} {n : Nat} (h : n < x.length) : dec (x.take (n + 1)) = dec (x.take n) ∨ ∃ d ∈ x, dec (x.take (n + 1)) = dec (x.take n) ++ [d] := by
  rw [take_succ' h]
  rcases dec_grow _ (x.take n) x[n] (Nat.le_refl _) with e | ⟨d, hd, e⟩
  · exact .inl e
  · refine .inr ⟨d, ?_, e⟩
    rcases List.mem_append.mp hd with q | q
    · exact List.mem_of_mem_take q
    · rw [List.mem_singleton.mp q]; exact List.getElem_mem h

/-! three_way_cmp of names -/
theorem lt_irr (x : List Nat) : ¬ x < x := List.lt_irrefl x
theorem lt_app (x : List Nat) (d : Nat) : x < x ++ [d] := by
  induction x with
  | nil => exact .nil
  | cons a r ih => exact .cons ih
theorem not_lt_app (x : List Nat) (d : Nat) : ¬ x ++ [d] < x := fun h => lt_irr x (List.lt_trans (lt_app x d) h)
theorem lt_big {x : List Nat} {b : Nat} (h : ∀ c ∈ x, c < b) : x < [b] := by
  cases x with
  | nil => exact .nil
  | cons a r => exact .rel (h a (.head _))
/-- the value of three_way_cmp -/
def cmp3 (x y : Str) : Int := b2i (decide (y.cps.toList < x.cps.toList)) - b2i (decide (x.cps.toList < y.cps.toList))
theorem cmp_same (x : Str) : cmp3 x x = 0 := by
  unfold cmp3
  rw [decide_eq_false (lt_irr _)]; rfl
theorem cmp_up {x y : Str} {d : Nat} (h : sg y = sg x ++ [d]) : cmp3 y x = 1 ∧ cmp3 x y = -1 := by
  unfold cmp3
  have h1 : x.cps.toList < y.cps.toList := by
    have := lt_app (sg x) d
    rw [← h] at this
    exact this
  have h2 : ¬ y.cps.toList < x.cps.toList := by
    have := not_lt_app (sg x) d
    rw [← h] at this
    exact this
  rw [decide_eq_true h1, decide_eq_false h2]
  exact ⟨rfl, rfl⟩
theorem cmp_big {x : Str} (h : ∀ c ∈ sg x, c < 60000) : cmp3 (Str.mk #[Int.toNat 60000]) x = 1 := by
  unfold cmp3
  have h1 : x.cps.toList < [60000] := lt_big h
  have h2 : ¬ [60000] < x.cps.toList := fun q => lt_irr _ (List.lt_trans q h1)
  show b2i (decide (x.cps.toList < [60000])) - b2i (decide ([60000] < x.cps.toList)) = 1
  rw [decide_eq_true h1, decide_eq_false h2]
  rfl
/-- what longer asks of two names that follow -/
theorem longer_ok {x y : Str} (h : sg x = sg y ∨ ∃ d, sg x = sg y ++ [d]) : cmp3 x y = (x.length : Int) - y.length ∧ cmp3 y x = -((x.length : Int) - y.length) := by
  rcases h with h | ⟨d, h⟩
  · rw [sg_inj h, cmp_same]
    exact ⟨by omega, by omega⟩
  · obtain ⟨h1, h2⟩ := cmp_up h
    have := congrArg List.length h
    rw [sg_len, List.length_append, sg_len] at this
    simp at this
    rw [h1, h2]
    exact ⟨by omega, by omega⟩
end
section

theorem sd_symm {ex ac : List Int} {R} (h : SD ex ac R) : SD ac ex (R.2, R.1) := by
  induction h with
  | nilL ac => exact .nilR ac
  | nilR ex => exact .nilL ex
  | lt h _ ih => exact .gt h ih
  | gt h _ ih => exact .lt h ih
  | eq _ ih => exact .eq ih
theorem drp_self {e : Int} : ∀ {l : List Int}, (∀ x ∈ l, x ≠ e) → drp e l = l
  | [], _ => rfl
  | x :: r, h => by
    unfold drp
    rw [if_neg (h x (.head _))]
/-- a sorted list behind its least, and without it -/
theorem drp_filter {e : Int} : ∀ {l : List Int}, l.Pairwise (· ≤ ·) → (∀ x ∈ l, e ≤ x) → drp e l = l.filter (· != e)
  | [], _, _ => rfl
  | x :: r, hp, h => by
    have hr := (List.pairwise_cons.mp hp)
    unfold drp
    by_cases q : x = e
    · rw [if_pos q, drp_filter hr.2 (fun y hy => h y (.tail _ hy)), List.filter_cons_of_neg (by simpa using q)]
    · rw [if_neg q, List.filter_eq_self.mpr]
      intro y hy
      have hx := h x (.head _)
      rcases List.mem_cons.mp hy with rfl | hy
      · simpa using q
      · have := hr.1 y hy
        simp only [bne_iff_ne, ne_eq]
        omega
/-- ws: a sorted list whose numbers are those of u -/
structure Same (ws u : List Int) : Prop where
  ord : ws.Pairwise (· ≤ ·)
  str : u.Pairwise (· < ·)
  mem : ∀ x, x ∈ ws ↔ x ∈ u
theorem Same.nil {ws : List Int} (h : Same ws []) : ws = [] := by
  cases ws with
  | nil => rfl
  | cons a r => exact absurd ((h.mem a).mp (.head _)) (by simp)
theorem Same.cons {ws u : List Int} {e : Int} (h : Same ws (e :: u)) : ∃ r, ws = e :: r ∧ Same (drp e r) u ∧ drp e r = r.filter (· != e) := by
  have hu := List.pairwise_cons.mp h.str
  cases ws with
  | nil => exact absurd ((h.mem e).mpr (.head _)) (by simp)
  | cons a r =>
    have hw := List.pairwise_cons.mp h.ord
    have h1 : a ≤ e := by
      rcases List.mem_cons.mp ((h.mem e).mpr (.head _)) with q | q
      · omega
      · exact hw.1 e q
    have h2 : e ≤ a := by
      rcases List.mem_cons.mp ((h.mem a).mp (.head _)) with q | q
      · omega
      · have := hu.1 a q; omega
    have q : a = e := by omega
    subst q
    have hf := drp_filter hw.2 hw.1
    refine ⟨r, rfl, ⟨?_, hu.2, fun x => ?_⟩, hf⟩
    · rw [hf]; exact hw.2.filter _
    · rw [hf, List.mem_filter]
      constructor
      · rintro ⟨h3, h4⟩
        rcases List.mem_cons.mp ((h.mem x).mp (.tail _ h3)) with q | q
        · simp [q] at h4
        · exact q
      · intro h3
        have h5 := hu.1 x h3
        refine ⟨?_, by simp only [bne_iff_ne, ne_eq]; omega⟩
        rcases List.mem_cons.mp ((h.mem x).mpr (.tail _ h3)) with q | q
        · omega
        · exact q
theorem strict_ne {e : Int} {u : List Int} (h : (e :: u).Pairwise (· < ·)) : ∀ x ∈ u, x ≠ e := fun x hx => by
  have := (List.pairwise_cons.mp h).1 x hx
  omega
theorem filter_ne_self {e : Int} {u : List Int} (h : ∀ x ∈ u, x ≠ e) : u.filter (· != e) = u := by
  rw [List.filter_eq_self]
  intro x hx
  simpa using h x hx

/-- more on the right -/
theorem sd_more : ∀ {u ws v : List Int}, Same ws u → (u ++ v).Pairwise (· < ·) → SD ws (u ++ v) ([], v)
  | [], ws, v, h, _ => by rw [h.nil]; exact .nilL v
  | e :: u, ws, v, h, hp => by
    obtain ⟨r, rfl, hs, _⟩ := h.cons
    refine .eq ?_
    show SD (drp e r) (drp e (u ++ v)) ([], v)
    rw [drp_self (l := u ++ v) (strict_ne hp)]
    exact sd_more hs (List.pairwise_cons.mp hp).2
/-- less on the right -/
theorem sd_less : ∀ {v ws u : List Int}, Same ws (v ++ u) → SD ws v (ws.filter fun x => !v.contains x, [])
  | [], ws, u, h => by
    rw [List.filter_eq_self.mpr (by simp)]
    exact .nilR ws
  | e :: v, ws, u, h => by
    obtain ⟨r, rfl, hs, hf⟩ := h.cons
    refine .eq ?_
    have hv : ∀ x ∈ v, x ≠ e := fun x hx => strict_ne h.str x (List.mem_append_left _ hx)
    rw [drp_self hv]
    have := sd_less hs
    rw [hf] at this ⊢
    have e2 : ((e :: r).filter fun x => !(e :: v).contains x) = (r.filter (· != e)).filter fun x => !v.contains x := by
      rw [List.filter_cons_of_neg (by simp), List.filter_filter]
      congr 1
      funext x
      simp only [List.contains_cons, Bool.not_or]
      rw [Bool.and_comm]
      rfl
    rw [e2]
    exact this
/-- one alone -/
theorem sd_one : ∀ {u ws : List Int} {d : Int}, Same ws u → d ∈ u → SD ws (u.filter (· != d)) (if u.any (fun y => decide (d < y)) then [d] else List.replicate (ws.count d) d, [])
  | [], _, _, _, hd => nomatch hd
  | e :: u, ws, d, h, hd => by
    obtain ⟨r, rfl, hs, hf⟩ := h.cons
    have hne := strict_ne h.str
    by_cases q : e = d
    · subst q
      rw [List.filter_cons_of_neg (by simp), filter_ne_self hne]
      cases u with
      | nil =>
        have hr : ∀ x ∈ e :: r, x = e := fun x hx => by simpa using (h.mem x).mp hx
        have e1 : ([e].any fun y => decide (e < y)) = false := by simp
        rw [e1, if_neg (by decide)]
        have e2 : List.replicate ((e :: r).count e) e = e :: r := by
          symm
          rw [List.eq_replicate_iff]
          exact ⟨(List.count_eq_length.mpr fun b hb => (hr b hb).symm).symm, hr⟩
        rw [e2]
        exact .nilR _
      | cons a u =>
        have hlt : e < a := (List.pairwise_cons.mp h.str).1 a (.head _)
        have e1 : ((e :: a :: u).any fun y => decide (e < y)) = true := by simp [hlt]
        rw [e1, if_pos rfl]
        refine .lt hlt ?_
        have := sd_more (v := []) hs (by rw [List.append_nil]; exact hs.str)
        rwa [List.append_nil] at this
    · have hd' : d ∈ u := by
        rcases List.mem_cons.mp hd with q' | q'
        · exact absurd q'.symm q
        · exact q'
      have hlt : e < d := (List.pairwise_cons.mp h.str).1 d hd'
      rw [List.filter_cons_of_pos (by simpa using q)]
      refine .eq ?_
      rw [drp_self (fun x hx => hne x (List.mem_filter.mp hx).1)]
      have e1 : ((e :: u).any fun y => decide (d < y)) = u.any fun y => decide (d < y) := by
        have : decide (d < e) = false := decide_eq_false (by omega)
        simp [this]
      have e2 : (e :: r).count d = (drp e r).count d := by
        rw [hf, List.count_cons_of_ne q, List.count_filter (by simpa using Ne.symm q)]
      rw [e1, e2]
      exact sd_one hs hd'
/-- what stands behind is told apart -/
theorem ul_sub : ∀ {b nums : List Int} (r : List Int), b.Nodup → nums.Nodup → (∀ x ∈ b, x ∈ nums) → ul (b ++ r) nums = ul r (nums.filter fun x => !b.contains x)
  | [], nums, r, _, _, _ => by
    rw [List.filter_eq_self.mpr (by simp)]; rfl
  | e :: b, nums, r, hb, hn, hm => by
    have hb' := List.nodup_cons.mp hb
    have he : e ∈ nums := hm e (.head _)
    rw [List.cons_append, ul, if_pos he, hn.erase_eq_filter]
    rw [ul_sub r hb'.2 (hn.filter _) (fun x hx => List.mem_filter.mpr ⟨hm x (.tail _ hx), by simp only [bne_iff_ne, ne_eq]; rintro rfl; exact hb'.1 hx⟩)]
    rw [List.filter_filter]
    congr 2
    funext x
    simp only [List.contains_cons, Bool.not_or]
    rw [Bool.and_comm]
    rfl
theorem ul_none : ∀ {a nums : List Int}, (∀ x ∈ a, x ∉ nums) → ul a nums = (a, nums)
  | [], _, _ => rfl
  | e :: a, nums, h => by
    rw [ul, if_neg (h e (.head _)), ul_none (fun x hx => h x (.tail _ hx))]
end
section

/-- the numbers below n -/
def up (n : Nat) : List Int := (List.range n).map fun k : Nat => (k : Int)
theorem mem_up {n : Nat} {x : Int} : x ∈ up n ↔ 0 ≤ x ∧ x < n := by
  unfold up
  rw [List.mem_map]
  constructor
  · rintro ⟨k, hk, rfl⟩
    have := List.mem_range.mp hk
    omega
  · rintro ⟨h1, h2⟩
    exact ⟨x.toNat, List.mem_range.mpr (by omega), by omega⟩
theorem up_str (n : Nat) : (up n).Pairwise (· < ·) := by
  unfold up
  rw [List.pairwise_map]
  exact List.pairwise_lt_range.imp fun h => by omega
theorem str_le {u : List Int} (h : u.Pairwise (· < ·)) : u.Pairwise (· ≤ ·) := h.imp fun h => Int.le_of_lt h
theorem str_nodup {u : List Int} (h : u.Pairwise (· < ·)) : u.Nodup := h.imp fun h => by omega
theorem up_succ (n : Nat) : up (n + 1) = up n ++ [(n : Int)] := by
  unfold up
  rw [List.range_succ, List.map_append]; rfl
theorem up_len (n : Nat) : (up n).length = n := by simp [up]
theorem up_same (n : Nat) : Same (up n) (up n) := ⟨str_le (up_str n), up_str n, fun _ => Iff.rfl⟩
theorem sort_eq {a b : List Int} (p : a.Perm b) (ha : a.Pairwise (· ≤ ·)) (hb : b.Pairwise (· ≤ ·)) : a = b :=
  List.Perm.eq_of_pairwise (fun _ _ _ _ h1 h2 => Int.le_antisymm h1 h2) ha hb p
theorem filter_last (n : Nat) : (up (n + 1)).filter (· != (n : Int)) = up n := by
  rw [up_succ, List.filter_append, filter_ne_self (fun x hx => by have := mem_up.mp hx; omega)]
  simp
theorem any_up {n : Nat} {d : Int} : (up (n + 1)).any (fun y => decide (d < y)) = decide (d < n) := by
  rw [Bool.eq_iff_iff, List.any_eq_true]
  simp only [decide_eq_true_eq]
  constructor
  · rintro ⟨y, hy, h⟩
    have := mem_up.mp hy
    omega
  · intro h
    exact ⟨n, mem_up.mpr (by omega), h⟩

/-- what stands when n heaps are through -/
def Worth (x : List Nat) (n : Nat) (ws : List Int) : Prop :=
  ws.length = n ∧ (0 < n → (ws.drop (n - 1 - tk x (n - 1))).Perm (up (tk x (n - 1) + 1)) ∧ ∀ w ∈ ws, 0 ≤ w ∧ w ≤ tk x (n - 1))
/-- a heap's worth -/
def due (x : List Nat) (n : Nat) (ws : List Int) : Int := if n = 0 ∨ tk x (n - 1) < tk x n then (tk x n : Int) else ws.getD (n - tk x n - 1) 0

theorem tk_succ {x : List Nat} {n : Nat} (h : n < x.length) : tk x (n + 1) = tk x n ∨ tk x (n + 1) = tk x n + 1 := by
  unfold tk
  rcases dec_succ h with e | ⟨d, _, e⟩
  · exact .inl (by rw [e])
  · exact .inr (by rw [e]; simp)
theorem tk_pred {x : List Nat} {n : Nat} (h0 : 0 < n) (h : n ≤ x.length) : tk x n = tk x (n - 1) ∨ tk x n = tk x (n - 1) + 1 := by
  obtain ⟨k, rfl⟩ : ∃ k, n = k + 1 := ⟨n - 1, by omega⟩
  exact tk_succ (by omega)
section
variable {x : List Nat} {n : Nat} {ws : List Int}
theorem due_split (W : Worth x n ws) (hn : n ≤ x.length) : due x n ws ∈ up (tk x n + 1) ∧ (ws.drop (n - tk x n)).Perm ((up (tk x n + 1)).filter (· != due x n ws)) ∧ ∀ w ∈ ws, 0 ≤ w ∧ w ≤ tk x n := by
  obtain ⟨hl, h⟩ := W
  by_cases h0 : n = 0
  · subst h0
    have hw : ws = [] := List.length_eq_zero_iff.mp hl
    subst hw
    have ht := tk_zero x
    have hd : due x 0 [] = (tk x 0 : Int) := by simp [due]
    rw [hd, filter_last, ht]
    exact ⟨mem_up.mpr (by omega), by simp [up], fun w hw => nomatch hw⟩
  · obtain ⟨hp, hb⟩ := h (by omega)
    have hT := tk_le x (n - 1)
    rcases tk_pred (by omega) hn with e | e
    · have hd : due x n ws = ws.getD (n - tk x n - 1) 0 := by
        unfold due
        rw [if_neg (by omega)]
      have hi : n - 1 - tk x (n - 1) < ws.length := by omega
      have hg : ws.getD (n - tk x n - 1) 0 = ws[n - 1 - tk x (n - 1)] := by
        rw [show n - tk x n - 1 = n - 1 - tk x (n - 1) by omega]
        simp [hi]
      rw [List.drop_eq_getElem_cons hi, ← hg, ← hd, show n - 1 - tk x (n - 1) + 1 = n - tk x n by omega, ← e] at hp
      have hm : due x n ws ∈ up (tk x n + 1) := hp.mem_iff.mp (.head _)
      refine ⟨hm, ?_, fun w hw => by have := hb w hw; omega⟩
      rw [← (str_nodup (up_str _)).erase_eq_filter]
      exact (List.cons_perm_iff_perm_erase.mp hp).2
    · have hd : due x n ws = (tk x n : Int) := by
        unfold due
        rw [if_pos (.inr (by omega))]
      rw [hd, filter_last]
      refine ⟨mem_up.mpr (by omega), ?_, fun w hw => by have := hb w hw; omega⟩
      rw [show n - tk x n = n - 1 - tk x (n - 1) by omega, e]
      exact hp
theorem perm_back {u l : List Int} {d : Int} (hu : u.Nodup) (hd : d ∈ u) (h : l.Perm (u.filter (· != d))) : (l ++ [d]).Perm u := by
  rw [← hu.erase_eq_filter] at h
  exact (List.perm_append_singleton d l).trans ((h.cons d).trans (List.perm_cons_erase hd).symm)
theorem worth_next (W : Worth x n ws) (hn : n ≤ x.length) : Worth x (n + 1) (ws ++ [due x n ws]) := by
  obtain ⟨h1, h2, h3⟩ := due_split W hn
  refine ⟨by simp [W.1], fun _ => ⟨?_, fun w hw => ?_⟩⟩
  · show ((ws ++ [due x n ws]).drop (n - tk x n)).Perm (up (tk x n + 1))
    rw [List.drop_append_of_le_length (by rw [W.1]; omega)]
    exact perm_back (str_nodup (up_str _)) h1 h2
  · show 0 ≤ w ∧ w ≤ (tk x n : Int)
    rcases List.mem_append.mp hw with q | q
    · exact h3 w q
    · rw [List.mem_singleton.mp q]
      have := mem_up.mp h1
      omega
/-- sorted worths hold each number up to the last name's length -/
theorem worth_same {s : List Int} (W : Worth x (n + 1) ws) (hp : s.Perm ws) (ho : s.Pairwise (· ≤ ·)) : Same s (up (tk x n + 1)) := by
  obtain ⟨hl, h⟩ := W
  obtain ⟨h1, h2⟩ := h (by omega)
  refine ⟨ho, up_str _, fun w => ?_⟩
  rw [hp.mem_iff]
  constructor
  · intro hw
    have := h2 w hw
    exact mem_up.mpr (by show 0 ≤ w ∧ w < ((tk x n + 1 : Nat) : Int); have h4 : w ≤ (tk x n : Int) := this.2; omega)
  · intro hw
    exact List.mem_of_mem_drop (h1.mem_iff.mpr hw)
/-- the first call of sorted_list_difference -/
theorem call_due {s : List Int} (W : Worth x n ws) (hn : n ≤ x.length) (hp : s.Perm (ws.drop (n - tk x n))) (ho : s.Pairwise (· ≤ ·)) : SD (up (tk x n + 1)) s ([due x n ws], []) := by
  obtain ⟨h1, h2, _⟩ := due_split W hn
  have e : s = (up (tk x n + 1)).filter (· != due x n ws) := sort_eq (hp.trans h2) ho ((str_le (up_str _)).filter _)
  rw [e]
  have := sd_one (up_same (tk x n + 1)) h1
  have hc : (up (tk x n + 1)).count (due x n ws) = 1 := by rw [(str_nodup (up_str _)).count, if_pos h1]
  rw [hc] at this
  simpa using this
/-- how often the other calls tell the heap's worth -/
def often (x : List Nat) (n : Nat) (ws : List Int) : Nat := if due x n ws < tk x n then 1 else (ws ++ [due x n ws]).count (due x n ws)
theorem call_alone {s : List Int} (W : Worth x n ws) (hn : n ≤ x.length) (hp : s.Perm (ws ++ [due x n ws])) (ho : s.Pairwise (· ≤ ·)) :
    SD s ((up (tk x n + 1)).filter (· != due x n ws)) (List.replicate (often x n ws) (due x n ws), []) := by
  obtain ⟨h1, _⟩ := due_split W hn
  have hs := worth_same (worth_next W hn) hp ho
  have := sd_one hs h1
  rw [any_up, hp.count_eq] at this
  unfold often
  by_cases q : due x n ws < (tk x n : Int)
  · rw [if_pos q]
    rw [decide_eq_true q, if_pos rfl] at this
    exact this
  · rw [if_neg q]
    rw [decide_eq_false q, if_neg (by decide)] at this
    exact this
/-- the call of unorderable_list_difference -/
theorem call_ul (W : Worth x n ws) (hn : n ≤ x.length) :
    ul (ws ++ [due x n ws]).reverse ([((tk x n : Int) + 1)] ++ up (tk x n + 1) ++ [((tk x n : Int) + 2)]) = (((ws ++ [due x n ws]).take (n - tk x n)).reverse, [(tk x n : Int) + 1, (tk x n : Int) + 2]) := by
  have W' := worth_next W hn
  obtain ⟨hl, h⟩ := W'
  obtain ⟨h1, h2⟩ := h (by omega)
  replace h1 : ((ws ++ [due x n ws]).drop (n - tk x n)).Perm (up (tk x n + 1)) := h1
  replace h2 : ∀ w ∈ ws ++ [due x n ws], 0 ≤ w ∧ w ≤ (tk x n : Int) := h2
  generalize hv : ws ++ [due x n ws] = v at *
  have e : v.reverse = (v.drop (n - tk x n)).reverse ++ (v.take (n - tk x n)).reverse := by
    rw [← List.reverse_append, List.take_append_drop]
  rw [e]
  have hm : ∀ y, y ∈ (v.drop (n - tk x n)).reverse ↔ 0 ≤ y ∧ y ≤ (tk x n : Int) := fun y => by
    rw [List.mem_reverse, h1.mem_iff, mem_up]
    constructor <;> intro h <;> omega
  have hnd : ([((tk x n : Int) + 1)] ++ up (tk x n + 1) ++ [((tk x n : Int) + 2)]).Nodup := by
    rw [List.nodup_append, List.nodup_append]
    refine ⟨⟨by simp, str_nodup (up_str _), fun a ha b hb => ?_⟩, by simp, fun a ha b hb => ?_⟩
    · rw [List.mem_singleton.mp ha]
      have := mem_up.mp hb
      omega
    · rw [List.mem_singleton.mp hb]
      rcases List.mem_append.mp ha with q | q
      · rw [List.mem_singleton.mp q]; omega
      · have := mem_up.mp q
        omega
  rw [ul_sub _ ((List.reverse_perm _).nodup_iff.mpr (h1.nodup_iff.mpr (str_nodup (up_str _)))) hnd (fun y hy => by
    have := (hm y).mp hy
    exact List.mem_append_left _ (List.mem_append_right _ (mem_up.mpr (by omega))))]
  have ef : (([((tk x n : Int) + 1)] ++ up (tk x n + 1) ++ [((tk x n : Int) + 2)]).filter fun y => !(v.drop (n - tk x n)).reverse.contains y) = [(tk x n : Int) + 1, (tk x n : Int) + 2] := by
    rw [List.filter_append, List.filter_append]
    have hc : ∀ y, (v.drop (n - tk x n)).reverse.contains y = decide (0 ≤ y ∧ y ≤ (tk x n : Int)) := fun y => by
      rw [Bool.eq_iff_iff, List.contains_iff_mem, hm, decide_eq_true_eq]
    have e2 : ((up (tk x n + 1)).filter fun y => !(v.drop (n - tk x n)).reverse.contains y) = [] := by
      rw [List.filter_eq_nil_iff]
      intro y hy
      rw [hc]
      have := mem_up.mp hy
      simp only [Bool.not_eq_true', decide_eq_false_iff_not, Decidable.not_not]
      omega
    rw [e2]
    have e3 : decide (0 ≤ (tk x n : Int) + 1 ∧ (tk x n : Int) + 1 ≤ (tk x n : Int)) = false := decide_eq_false (by omega)
    have e4 : decide (0 ≤ (tk x n : Int) + 2 ∧ (tk x n : Int) + 2 ≤ (tk x n : Int)) = false := decide_eq_false (by omega)
    simp only [List.filter_cons, List.filter_nil, hc, e3, e4, Bool.not_false, if_true, List.append_nil, List.cons_append, List.nil_append]
  rw [ef]
  refine ul_none fun y hy hq => ?_
  have := h2 y (List.mem_of_mem_take (List.mem_reverse.mp hy))
  simp only [List.mem_cons, List.not_mem_nil, or_false] at hq
  omega
/-- the numbers from a on, below b -/
def rg (a b : Nat) : List Int := (List.range (b - a)).map fun k : Nat => ((a + k : Nat) : Int)
theorem up_cut {a b : Nat} (h : a ≤ b) : up b = up a ++ rg a b := by
  obtain ⟨k, rfl⟩ : ∃ k, b = a + k := ⟨b - a, by omega⟩
  unfold up rg
  rw [List.range_add, List.map_append, List.map_map]
  rw [show a + k - a = k by omega]
  rfl
/-- the last calls -/
theorem call_bound {s a : List Int} {b : Nat} (W : Worth x (n + 1) ws) (hp : s.Perm ws) (ho : s.Pairwise (· ≤ ·)) (ha : a.Perm (ws.filter fun y => decide ((b : Int) ≤ y))) (hao : a.Pairwise (· ≤ ·)) :
    SD s (up b) (a, rg (tk x n + 1) b) := by
  have hs := worth_same W hp ho
  have ea : a = s.filter fun y => decide ((b : Int) ≤ y) := sort_eq (ha.trans (hp.symm.filter _)) hao (ho.filter _)
  by_cases q : tk x n + 1 ≤ b
  · have e : a = [] := by
      rw [ea, List.filter_eq_nil_iff]
      intro y hy
      have := mem_up.mp ((hs.mem y).mp hy)
      simp only [decide_eq_true_eq]
      omega
    rw [e]
    have hc := up_cut q
    have := sd_more (v := rg (tk x n + 1) b) hs (by rw [← hc]; exact up_str b)
    rwa [← hc] at this
  · have hc := up_cut (a := b) (b := tk x n + 1) (by omega)
    rw [hc] at hs
    have e : rg (tk x n + 1) b = [] := by
      unfold rg
      rw [show b - (tk x n + 1) = 0 by omega]; rfl
    have := sd_less hs
    rw [e]
    have e2 : (s.filter fun y => !(up b).contains y) = a := by
      rw [ea]
      refine List.filter_congr fun y hy => ?_
      have h1 : y ∈ up b ++ rg b (tk x n + 1) := (hs.mem y).mp hy
      rw [← hc] at h1
      have := mem_up.mp h1
      rw [Bool.eq_iff_iff]
      simp only [Bool.not_eq_true', decide_eq_true_eq]
      rw [← Bool.not_eq_true, List.contains_iff_mem, mem_up]
      omega
    rwa [e2] at this
end
end
section
structure LS where
  vs : List Value
  e : Nat
  od : Obj
def GotInt (s : Shared) (d : Int) (v : Value) (s' : Shared) : Prop := ∃ t tk, v = .int d t ∧ s' = { s with toks := tk }
theorem names_longer {x y z : Str} {k : Nat} (hy : sg y = dec ((sg x).take k)) (hz : sg z = dec ((sg x).take (k - 1))) (hk : k ≤ x.length) : sg y = sg z ∨ ∃ d, sg y = sg z ++ [d] := by
  cases k with
  | zero => exact .inl (by rw [hy, hz])
  | succ k =>
    rw [hy, hz]
    rcases dec_succ (x := sg x) (n := k) (by rw [sg_len]; omega) with e | ⟨d, _, e⟩
    · exact .inl e
    · exact .inr ⟨d, e⟩
theorem names_small {x y : Str} {k : Nat} (hc : ∀ c ∈ sg x, c < 60000) (hy : sg y = dec ((sg x).take k)) : ∀ c ∈ sg y, c < 60000 := fun c h => by
  rw [hy] at h
  exact hc c (List.mem_of_mem_take (dec_sub _ _ (Nat.le_refl _) c h))
section
variable {prog : Program} {w : World} {A : Around} {E : Value → Shared → Prop} {s : Shared} {h₀ : Heap} {L l : Addr} {news : List (Addr × Obj)}
theorem len_own {Q : Value → Shared → Prop} {vs : List Value} {e n : Nat} (N : News h₀ L s.heap news) (hm : (l, W.listOf vs.toArray e) ∈ news) (hn : vs.length = n) (hf : n ≤ 1000)
    (h : Q (.int n (s.toks + 1)) { s with toks := s.toks + 1 + 1 }) : wpAny (model prog w) A (call (.builtin "len") [.ref l]) Q E s :=
  len_list (News.isList N hm) (by rw [List.size_toArray]; omega) (by rw [List.size_toArray, hn]; exact h)
theorem got_cut {Q : Value → Shared → Prop} {t : Sem Value} {d : Int} (h1 : wpAny (model prog w) A t (GotInt s d) E s) (h2 : ∀ u tk, Q (.int d u) { s with toks := tk }) : wpAny (model prog w) A t Q E s :=
  wpAny_mono h1 (fun v s' h => by obtain ⟨u, tk, rfl, rfl⟩ := h; exact h2 u tk) fun _ _ e => e
theorem item_own {Q : Value → Shared → Prop} {value slice : PySem.Expr} {vs : List Value} {e k : Nat} {i : Int} {u : Tok} (N : News h₀ L s.heap news) (hm : (l, W.listOf vs.toArray e) ∈ news) (hi : i = (k : Int)) (hk : k < vs.length) (hf : vs.length ≤ 1000)
    (h : Q vs[k] s)
    (hs : subscripted slice false (.ref l) (.int i u) = operate [.ref l, .int i u] (getItem (.ref l) (.int i u)) := by with_unfolding_all rfl) :
    wpAny (model prog w) A (subscriptTail value slice (.ref l) (.int i u)) Q E s := by
  subst hi
  have hl := News.isList N hm
  exact tail_any hl.typeIs slot_list_getitem.lookup (wpAny_getItem_list hl (by omega) (by omega) (by rw [Int.toNat_natCast, List.getElem?_toArray, List.getElem?_eq_getElem hk]) h) hs
theorem names_at {Q : Value → Shared → Prop} {value slice : PySem.Expr} {its : List (Str × Tok)} {x : Str} {e k : Nat} {i : Int} {u : Tok} (N : News h₀ L s.heap news) (hm : (l, W.listOf (its.map fun p => Value.str p.1 p.2).toArray e) ∈ news)
    (hits : its.map (fun p => sg p.1) = (List.range (x.length + 1)).map fun n => dec ((sg x).take n)) (hx : x.length ≤ 20) (hi : i = (k : Int)) (hk : k ≤ x.length)
    (h : ∀ y t, sg y = dec ((sg x).take k) → y.length = tk (sg x) k → y.length ≤ 20 → Q (.str y t) s)
    (hs : subscripted slice false (.ref l) (.int i u) = operate [.ref l, .int i u] (getItem (.ref l) (.int i u)) := by with_unfolding_all rfl) :
    wpAny (model prog w) A (subscriptTail value slice (.ref l) (.int i u)) Q E s := by
  have hl : its.length = x.length + 1 := by simpa using congrArg List.length hits
  have hk' : k < its.length := by omega
  refine item_own N hm hi (by simpa using hk') (by simp; omega) ?_ hs
  rw [List.getElem_map]
  have e1 : sg its[k].1 = dec ((sg x).take k) := by
    have := congrArg (·[k]?) hits
    simp only [List.getElem?_map] at this
    rw [List.getElem?_eq_getElem hk', List.getElem?_eq_getElem (by simp; omega)] at this
    simpa using this
  have e2 : its[k].1.length = tk (sg x) k := by rw [← sg_len, e1]; rfl
  refine h _ _ e1 e2 ?_
  have := tk_le (sg x) k
  omega
end
theorem got_yes {x : List Nat} {k : Nat} {ws : List Int} {y : Str} {s : Shared} {t : Tok} {tk' : Nat} (hy : y.length = tk x k) (h : k = 0 ∨ tk x (k - 1) < tk x k) : GotInt s (due x k ws) (.int (y.length : Int) t) { s with toks := tk' } :=
  ⟨t, tk', by unfold due; rw [if_pos h, hy], rfl⟩
theorem due_item {x : List Nat} {k : Nat} {ws : List Int} {vs : List Value} (W : Worth x k ws) (hws : IntsAre vs ws) (h0 : k ≠ 0) (hle : ¬ tk x (k - 1) < tk x k) (hk : k ≤ x.length) :
    tk x k + 1 ≤ k ∧ ∃ h : k - tk x k - 1 < vs.length, ∃ t, vs[k - tk x k - 1] = .int (due x k ws) t := by
  have h1 := tk_le x (k - 1)
  have h2 := tk_pred (x := x) (n := k) (by omega) hk
  have h3 : vs.length = ws.length := hws.length
  have h4 := W.1
  have h5 : k - tk x k - 1 < vs.length := by omega
  refine ⟨by omega, h5, ?_⟩
  obtain ⟨e, t, he, hw⟩ := ints_get hws (List.getElem?_eq_getElem h5)
  refine ⟨t, ?_⟩
  rw [he]
  unfold due
  rw [if_neg (by omega), List.getD_eq_getElem?_getD, hw]
  rfl
theorem rangeKs_rg {a b : Nat} : rangeKs (a : Int) (b - a) = rg a b := by
  unfold rangeKs rg
  refine List.map_congr_left fun i _ => ?_
  omega
theorem up_rg (n : Nat) : rg 0 n = up n := by
  unfold rg up
  rw [Nat.sub_zero]
  refine List.map_congr_left fun i _ => ?_
  omega
theorem worth_len {x : List Nat} {k : Nat} {ws : List Int} {vs : List Value} (W : Worth x k ws) (hws : IntsAre vs ws) : vs.length = k := by rw [hws.length, W.1]
section
variable {prog : Program} {w : World} {A : Around} {E : Value → Shared → Prop} {s : Shared} {h₀ : Heap} {L l r : Addr} {m : Str → Option Value} {news : List (Addr × Obj)} {Q : Value → Shared → Prop}
theorem list_rg {a b : Int} {t u v : Tok} {i j : Nat} (hh : A.handled = none) (F : Fr h₀ L s.heap m) (N : News h₀ L s.heap news) (hr : IsRange s.heap r a b 1 t u v) (ha : a = (i : Int)) (hb : b = (j : Int)) (hi : i ≤ 1000) (hj : j ≤ 1000)
    (h : ∀ D us c h' tk, Fr h₀ L h' m → News h₀ L h' ((D, W.listOf (List.toArray us) c) :: news) → (∀ p ∈ news, p.1 < D) → IntsAre us (rg i j) → us.length = j - i → Q (.ref D) { s with heap := h', toks := tk }) :
    wpAny (model prog w) A (call (.type "list") [.ref r]) Q E s := by
  subst ha hb
  refine kll_range hh F N hr (small_one (by omega) (by omega) (by omega) (by omega)) (n := j - i) (by rw [rangeSize_nat]; omega) (by omega) fun D us c h' tk F' N' l1 hI => ?_
  rw [rangeKs_rg] at hI
  exact h D us c h' tk F' N' l1 hI (by rw [hI.length]; unfold rg; rw [List.length_map, List.length_range])
theorem list_up {a b : Int} {t u v : Tok} {j : Nat} (hh : A.handled = none) (F : Fr h₀ L s.heap m) (N : News h₀ L s.heap news) (hr : IsRange s.heap r a b 1 t u v) (ha : a = 0) (hb : b = (j : Int)) (hj : j ≤ 1000)
    (h : ∀ D us c h' tk, Fr h₀ L h' m → News h₀ L h' ((D, W.listOf (List.toArray us) c) :: news) → (∀ p ∈ news, p.1 < D) → IntsAre us (up j) → us.length = j → Q (.ref D) { s with heap := h', toks := tk }) :
    wpAny (model prog w) A (call (.type "list") [.ref r]) Q E s :=
  list_rg (i := 0) hh F N hr (by rw [ha]; rfl) hb (by omega) hj fun D us c h' tk F' N' l1 hI hl => h D us c h' tk F' N' l1 (by rwa [up_rg] at hI) hl
theorem slice_own {value slice : PySem.Expr} {vs : List Value} {ws : List Int} {e j : Nat} {x : Int} {u : Tok} (F : Fr h₀ L s.heap m) (N : News h₀ L s.heap news) (hm : (l, W.listOf vs.toArray e) ∈ news) (hi : IntsAre vs ws) (hx : x = (j : Int)) (hl : vs.length ≤ 1000)
    (h : ∀ D us h', Fr h₀ L h' m → News h₀ L h' ((D, W.listOf (List.toArray us) 0) :: news) → (∀ p ∈ news, p.1 < D) → IntsAre us (ws.drop j) → us.length = vs.length - j → Q (.ref D) { s with heap := h' })
    (hs : subscripted slice false (.ref l) (.ref s.heap.objs.size) = operate [.ref s.heap.objs.size, .ref l] (getItem (.ref l) (.ref s.heap.objs.size))) (ht : ∀ r, letTemporaryGo value (.ref l) r = pure ()) :
    wpAny (model prog w) A (subscriptTail value slice (.ref l) (.ref s.heap.objs.size)) Q E { s with heap := s.heap.push { cls := .type "slice", data := .fields #[.int x u, .none, .none] } } := by
  subst hx
  refine kmk_slice_ints F N (News.isList N hm) (IsPart.int _ _) IsPart.none hi (kmk_from hi (by omega)) rfl (fun D us h' F' N' l1 hI _ _ => ?_) hs ht (by rw [List.size_toArray, sizeLine_eq]; omega)
  rw [Int.toNat_natCast] at hI
  exact h D us h' F' N' l1 hI (by rw [hI.length, List.length_drop, hi.length])
theorem sorted_own {vs : List Value} {ws : List Int} {e : Nat} (F : Fr h₀ L s.heap m) (N : News h₀ L s.heap news) (hm : (l, W.listOf vs.toArray e) ∈ news) (hi : IntsAre vs ws) (hl : vs.length < 64)
    (h : ∀ D us ns c h', Fr h₀ L h' m → News h₀ L h' ((D, W.listOf (List.toArray us) c) :: news) → (∀ p ∈ news, p.1 < D) → IntsAre us ns → us.length = vs.length → ns.Perm ws → ns.Pairwise (· ≤ ·) → Q (.ref D) { s with heap := h' }) :
    wpAny (model prog w) A (call (.builtin "sorted") [.ref l]) Q E s := by
  have hlen := hi.length
  refine kso_sorted F N (News.isList N hm) hi (by omega) fun D us ns c h' F' N' l1 hI hL hP hO _ => h D us ns c h' F' N' l1 hI ?_ hP hO
  rw [hI.length, hL, hi.length]
theorem copy_own {vs : List Value} {e : Nat} (F : Fr h₀ L s.heap m) (N : News h₀ L s.heap news) (hm : (l, W.listOf vs.toArray e) ∈ news) (hl : vs.length ≤ 1000)
    (h : ∀ D c h', Fr h₀ L h' m → News h₀ L h' ((D, W.listOf vs.toArray c) :: news) → (∀ p ∈ news, p.1 < D) → Q (.ref D) { s with heap := h' }) :
    wpAny (model prog w) A (call (.type "list") [.ref l]) Q E s :=
  kup_listOf F N hm (by simp) h (by simp only [sizeLine_eq]; omega)
theorem add_own {l2 : Addr} {vs us : List Value} {xs ys : List Int} {e e2 : Nat} (F : Fr h₀ L s.heap m) (N : News h₀ L s.heap news) (h1 : (l, W.listOf vs.toArray e) ∈ news) (h2 : (l2, W.listOf us.toArray e2) ∈ news) (hi : IntsAre vs xs) (hj : IntsAre us ys) (hl : vs.length ≤ 1000) (hl2 : us.length ≤ 1000)
    (h : ∀ D zs h', Fr h₀ L h' m → News h₀ L h' ((D, W.listOf (List.toArray zs) 0) :: news) → (∀ p ∈ news, p.1 < D) → IntsAre zs (xs ++ ys) → zs.length = vs.length + us.length → Q (.ref D) { s with heap := h' }) :
    wpAny (model prog w) A (binaryOp .Add (.ref l) (.ref l2)) Q E s := by
  have a1 := hi.length
  have a2 := hj.length
  refine kmk_add_ints F N (News.isList N h1) (News.isList N h2) hi hj (fun D zs h' F' N' l1 hI => h D zs h' F' N' l1 hI ?_) (by rw [sizeLine_eq]; omega)
  rw [hI.length, List.length_append]; omega
theorem append_own {vs : List Value} {e : Nat} {x : Value} {rest : List (Addr × Obj)} (F : Fr h₀ L s.heap m) (N : News h₀ L s.heap ((l, W.listOf vs.toArray e) :: rest)) (hne : ∀ p ∈ rest, p.1 ≠ l) (hl : vs.length ≤ 1000)
    (h : ∀ h', Fr h₀ L h' m → News h₀ L h' ((l, W.listOf (vs ++ [x]).toArray (e + 1)) :: rest) → Q .none { s with heap := h' }) : wpAny (model prog w) A (call (.builtin "list.append") [.ref l, x]) Q E s :=
  append_K F N (Upd.head hne) (fun h' F' N' => h h' F' (by rwa [List.push_toArray] at N')) (by rw [List.size_toArray, sizeLine_eq]; omega)
theorem flat_one {α : Type} (d : α) : ∀ n : Nat, (List.replicate n [d]).flatten = List.replicate n d
  | 0 => rfl
  | n + 1 => by rw [List.replicate_succ, List.flatten_cons, flat_one d n]; rfl
theorem mul_own {d : Int} {t u : Tok} {e n : Nat} {x : Int} (F : Fr h₀ L s.heap m) (N : News h₀ L s.heap news) (hm : (l, W.listOf (List.toArray [.int d t]) e) ∈ news) (hx : x = (n : Int)) (hn : n ≤ 1000)
    (h : ∀ D zs h', Fr h₀ L h' m → News h₀ L h' ((D, W.listOf (List.toArray zs) 0) :: news) → (∀ p ∈ news, p.1 < D) → IntsAre zs (List.replicate n d) → zs.length = n → Q (.ref D) { s with heap := h' }) :
    wpAny (model prog w) A (binaryOp .Mult (.ref l) (.int x u)) Q E s := by
  subst hx
  refine KM.mul F N (News.isList N hm) (ns := [d]) (.cons _ _ .nil) (by omega) (by omega) (by simp; omega) fun D h' F' N' l1 hI _ _ _ _ _ => ?_
  rw [Int.toNat_natCast, flat_one, flat_one] at hI
  rw [Int.toNat_natCast, flat_one] at N'
  exact h D _ h' F' N' l1 hI (by simp)
theorem ne_pair {t1 t2 a1 b1 a2 b2 : Addr} {va1 vb1 va2 vb2 : List Value} {xs ys : List Int} {e1 e2 e3 e4 n1 n2 : Nat} (N : News h₀ L s.heap news)
    (h1 : (t1, ({ cls := .type "tuple", data := .seq #[.ref a1, .ref b1] n1 } : Obj)) ∈ news) (h2 : (t2, ({ cls := .type "tuple", data := .seq #[.ref a2, .ref b2] n2 } : Obj)) ∈ news)
    (ha1 : (a1, W.listOf va1.toArray e1) ∈ news) (hb1 : (b1, W.listOf vb1.toArray e2) ∈ news) (ha2 : (a2, W.listOf va2.toArray e3) ∈ news) (hb2 : (b2, W.listOf vb2.toArray e4) ∈ news)
    (ia1 : IntsAre va1 xs) (ib1 : IntsAre vb1 ys) (ia2 : IntsAre va2 xs) (ib2 : IntsAre vb2 ys) (hu : A.units + 64 < cLine) (h : Q (.bool false) s) :
    wpAny (model prog w) A (compareOp .NotEq (.ref t1) (.ref t2)) Q E s := by
  have r1 : Reads s.heap (.ref t1) (.tuple [.list (xs.map PyData.int), .list (ys.map PyData.int)]) _ := reads_tuple_at (N.get h1) rfl rfl (.cons (reads_newData (News.isList N ha1) (ke_carried ia1)) (.cons (reads_newData (News.isList N hb1) (ke_carried ib1)) .nil))
  have r2 : Reads s.heap (.ref t2) (.tuple [.list (xs.map PyData.int), .list (ys.map PyData.int)]) _ := reads_tuple_at (N.get h2) rfl rfl (.cons (reads_newData (News.isList N ha2) (ke_carried ia2)) (.cons (reads_newData (News.isList N hb2) (ke_carried ib2)) .nil))
  have sh : SeqAt.shaped (.tuple [.list (xs.map PyData.int), .list (ys.map PyData.int)]) = true := by simp [SeqAt.shaped, PyData.canLay0, PyData.canLayAll0, PyData.depth, PyData.depthAll, ke_canLayAll0, ke_depthAll]
  refine ne_dataH r1 r2 sh sh hu ?_
  simp only [PyData.eqv, PyData.eqvAll, ked_eqvAll, decide_true, Bool.and_true, Bool.not_true]
  exact h
theorem eq_pair {t1 t2 a1 b1 a2 b2 : Addr} {va1 vb1 va2 vb2 : List Value} {xs ys : List Int} {e1 e2 e3 e4 n1 n2 : Nat} (N : News h₀ L s.heap news)
    (h1 : (t1, ({ cls := .type "tuple", data := .seq #[.ref a1, .ref b1] n1 } : Obj)) ∈ news) (h2 : (t2, ({ cls := .type "tuple", data := .seq #[.ref a2, .ref b2] n2 } : Obj)) ∈ news)
    (ha1 : (a1, W.listOf va1.toArray e1) ∈ news) (hb1 : (b1, W.listOf vb1.toArray e2) ∈ news) (ha2 : (a2, W.listOf va2.toArray e3) ∈ news) (hb2 : (b2, W.listOf vb2.toArray e4) ∈ news)
    (ia1 : IntsAre va1 xs) (ib1 : IntsAre vb1 ys) (ia2 : IntsAre va2 xs) (ib2 : IntsAre vb2 ys) (hu : A.units + 64 < cLine) (h : Q (.bool true) s) :
    wpAny (model prog w) A (compareOp .Eq (.ref t1) (.ref t2)) Q E s := by
  have r1 : Reads s.heap (.ref t1) (.tuple [.list (xs.map PyData.int), .list (ys.map PyData.int)]) _ := reads_tuple_at (N.get h1) rfl rfl (.cons (reads_newData (News.isList N ha1) (ke_carried ia1)) (.cons (reads_newData (News.isList N hb1) (ke_carried ib1)) .nil))
  have r2 : Reads s.heap (.ref t2) (.tuple [.list (xs.map PyData.int), .list (ys.map PyData.int)]) _ := reads_tuple_at (N.get h2) rfl rfl (.cons (reads_newData (News.isList N ha2) (ke_carried ia2)) (.cons (reads_newData (News.isList N hb2) (ke_carried ib2)) .nil))
  have sh : SeqAt.shaped (.tuple [.list (xs.map PyData.int), .list (ys.map PyData.int)]) = true := by simp [SeqAt.shaped, PyData.canLay0, PyData.canLayAll0, PyData.depth, PyData.depthAll, ke_canLayAll0, ke_depthAll]
  refine eq_dataH r1 r2 sh sh hu ?_
  simp only [PyData.eqv, PyData.eqvAll, ked_eqvAll, decide_true, Bool.and_true]
  exact h
end
theorem ints_one {vm : List Value} {d : Int} (h : IntsAre vm [d]) : ∃ t, vm = [.int d t] := by
  cases h with
  | cons _ t r => cases r; exact ⟨t, rfl⟩
theorem ints_no {vm : List Value} (h : IntsAre vm []) : vm = [] := by
  cases h; rfl
theorem filt_yes {d : Int} {i : Nat} {ys : List Value} {t : Tok} (h : IntsAre ys ((up i).filter (· != d))) (hne : 0 + (i : Int) ≠ d) : IntsAre (ys ++ [.int (0 + (i : Int)) t]) ((up (i + 1)).filter (· != d)) := by
  rw [up_succ, List.filter_append]
  have e : [(i : Int)].filter (· != d) = [0 + (i : Int)] := by
    rw [Int.zero_add] at hne ⊢
    simp [hne]
  rw [e]
  exact h.append (.cons _ t .nil)
theorem filt_no {d : Int} {i : Nat} {ys : List Value} (h : IntsAre ys ((up i).filter (· != d))) (he : 0 + (i : Int) = d) : IntsAre ys ((up (i + 1)).filter (· != d)) := by
  rw [up_succ, List.filter_append]
  have e : [(i : Int)].filter (· != d) = [] := by
    rw [Int.zero_add] at he
    simp [he]
  rw [e, List.append_nil]
  exact h
theorem got_one {x : List Nat} {k : Nat} {ws : List Int} {y : Str} {s : Shared} {t : Tok} {tk' : Nat} (hy : y.length = tk x k) (h : due x k ws < (y.length : Int)) : GotInt s ((often x k ws : Nat) : Int) (.int 1 t) { s with toks := tk' } :=
  ⟨t, tk', by unfold often; rw [if_pos (by omega)]; rfl, rfl⟩
theorem got_count {x : List Nat} {k : Nat} {ws : List Int} {y : Str} {s : Shared} {t : Tok} {tk' : Nat} (hy : y.length = tk x k) (h : ¬ due x k ws < (y.length : Int)) : GotInt s ((often x k ws : Nat) : Int) (.int (((ws ++ [due x k ws]).count (due x k ws) : Nat) : Int) t) { s with toks := tk' } :=
  ⟨t, tk', by unfold often; rw [if_neg (by omega)], rfl⟩
theorem often_le {x : List Nat} {k : Nat} {ws : List Int} (W : Worth x k ws) : often x k ws ≤ k + 1 := by
  unfold often
  split
  · omega
  · have := List.count_le_length (a := due x k ws) (l := ws ++ [due x k ws])
    rw [List.length_append, W.1] at this
    exact this
section
variable {a b c d e f g i j k : Addr × Obj} {r : List (Addr × Obj)}
theorem at0 : a ∈ a :: r := .head _
theorem at1 : b ∈ a :: b :: r := .tail _ (.head _)
theorem at2 : c ∈ a :: b :: c :: r := .tail _ (.tail _ (.head _))
theorem at3 : d ∈ a :: b :: c :: d :: r := .tail _ (.tail _ (.tail _ (.head _)))
theorem at4 : e ∈ a :: b :: c :: d :: e :: r := .tail _ (.tail _ (.tail _ (.tail _ (.head _))))
theorem at5 : f ∈ a :: b :: c :: d :: e :: f :: r := .tail _ (.tail _ (.tail _ (.tail _ (.tail _ (.head _)))))
theorem at6 : g ∈ a :: b :: c :: d :: e :: f :: g :: r := .tail _ (.tail _ (.tail _ (.tail _ (.tail _ (.tail _ (.head _))))))
theorem at7 : i ∈ a :: b :: c :: d :: e :: f :: g :: i :: r := .tail _ (.tail _ (.tail _ (.tail _ (.tail _ (.tail _ (.tail _ (.head _)))))))
theorem at8 : j ∈ a :: b :: c :: d :: e :: f :: g :: i :: j :: r := .tail _ (.tail _ (.tail _ (.tail _ (.tail _ (.tail _ (.tail _ (.tail _ (.head _))))))))
theorem at9 : k ∈ a :: b :: c :: d :: e :: f :: g :: i :: j :: k :: r := .tail _ (.tail _ (.tail _ (.tail _ (.tail _ (.tail _ (.tail _ (.tail _ (.tail _ (.head _)))))))))
theorem drop1 {h₀ h : Heap} {L : Addr} (N : News h₀ L h (a :: r)) : News h₀ L h r := fun p hp => N p (.tail _ (hp))
theorem drop2 {h₀ h : Heap} {L : Addr} (N : News h₀ L h (a :: b :: r)) : News h₀ L h r := fun p hp => N p (.tail _ (.tail _ (hp)))
theorem drop3 {h₀ h : Heap} {L : Addr} (N : News h₀ L h (a :: b :: c :: r)) : News h₀ L h r := fun p hp => N p (.tail _ (.tail _ (.tail _ (hp))))
theorem drop4 {h₀ h : Heap} {L : Addr} (N : News h₀ L h (a :: b :: c :: d :: r)) : News h₀ L h r := fun p hp => N p (.tail _ (.tail _ (.tail _ (.tail _ (hp)))))
theorem drop5 {h₀ h : Heap} {L : Addr} (N : News h₀ L h (a :: b :: c :: d :: e :: r)) : News h₀ L h r := fun p hp => N p (.tail _ (.tail _ (.tail _ (.tail _ (.tail _ (hp))))))
theorem drop6 {h₀ h : Heap} {L : Addr} (N : News h₀ L h (a :: b :: c :: d :: e :: f :: r)) : News h₀ L h r := fun p hp => N p (.tail _ (.tail _ (.tail _ (.tail _ (.tail _ (.tail _ (hp)))))))
theorem drop7 {h₀ h : Heap} {L : Addr} (N : News h₀ L h (a :: b :: c :: d :: e :: f :: g :: r)) : News h₀ L h r := fun p hp => N p (.tail _ (.tail _ (.tail _ (.tail _ (.tail _ (.tail _ (.tail _ (hp))))))))
theorem drop8 {h₀ h : Heap} {L : Addr} (N : News h₀ L h (a :: b :: c :: d :: e :: f :: g :: i :: r)) : News h₀ L h r := fun p hp => N p (.tail _ (.tail _ (.tail _ (.tail _ (.tail _ (.tail _ (.tail _ (.tail _ (hp)))))))))
theorem drop9 {h₀ h : Heap} {L : Addr} (N : News h₀ L h (a :: b :: c :: d :: e :: f :: g :: i :: j :: r)) : News h₀ L h r := fun p hp => N p (.tail _ (.tail _ (.tail _ (.tail _ (.tail _ (.tail _ (.tail _ (.tail _ (.tail _ (hp))))))))))
end
theorem pick60 {a b c d e f : Addr × Obj} {r : List (Addr × Obj)} {h₀ h : Heap} {L : Addr} (N : News h₀ L h (a :: b :: c :: d :: e :: f :: r)) : News h₀ L h (f :: a :: r) := fun p hp => by
  rcases List.mem_cons.mp hp with rfl | hp
  · exact N _ at5
  · rcases List.mem_cons.mp hp with rfl | hp
    · exact N _ at0
    · exact drop6 N p hp
theorem back_item {vs : List Value} {ws : List Int} (hws : IntsAre vs ws) {n i : Nat} (hi : i < n) (hn : n ≤ vs.length) :
    ∃ h : n - 1 - i < vs.length, ∃ e t, vs[n - 1 - i] = .int e t ∧ (ws.take n).reverse.take (i + 1) = (ws.take n).reverse.take i ++ [e] := by
  have hl := hws.length
  have h1 : n - 1 - i < vs.length := by omega
  obtain ⟨e, t, he, hw⟩ := ints_get hws (List.getElem?_eq_getElem h1)
  refine ⟨h1, e, t, he, ?_⟩
  have h2 : (ws.take n).length = n := by rw [List.length_take]; omega
  have h3 : (ws.take n).reverse[i]? = some e := by
    rw [List.getElem?_reverse (by omega), h2, List.getElem?_take_of_lt (by omega)]
    exact hw
  rw [List.take_add_one, h3]
  rfl
theorem back_all {ws : List Int} {n : Nat} : (ws.take n).reverse.take n = (ws.take n).reverse := List.take_of_length_le (by rw [List.length_reverse, List.length_take]; omega)
theorem ne_none {prog : Program} {w : World} {A : Around} {E : Value → Shared → Prop} {s : Shared} {h₀ : Heap} {L l l2 : Addr} {news : List (Addr × Obj)} {Q : Value → Shared → Prop} {e e2 : Nat} (N : News h₀ L s.heap news)
    (h1 : (l, W.listOf #[] e) ∈ news) (h2 : (l2, W.listOf #[] e2) ∈ news) (hu : A.units + 64 < cLine) (h : Q (.bool false) s) : wpAny (model prog w) A (compareOp .NotEq (.ref l) (.ref l2)) Q E s :=
  ke_ne_ints (xs := []) (ys := []) (News.isList N h1) (News.isList N h2) .nil .nil hu h
theorem names_last {prog : Program} {w : World} {A : Around} {E : Value → Shared → Prop} {s : Shared} {h₀ : Heap} {L l : Addr} {news : List (Addr × Obj)} {Q : Value → Shared → Prop} {value slice : PySem.Expr} {its : List (Str × Tok)} {x : Str} {e : Nat} {u : Tok} (N : News h₀ L s.heap news) (hm : (l, W.listOf (its.map fun p => Value.str p.1 p.2).toArray e) ∈ news)
    (hits : its.map (fun p => sg p.1) = (List.range (x.length + 1)).map fun n => dec ((sg x).take n)) (hx : x.length ≤ 20)
    (h : ∀ y t, y.length = tk (sg x) x.length → y.length ≤ 20 → Q (.str y t) s)
    (hs : subscripted slice false (.ref l) (.int (-1) u) = operate [.ref l, .int (-1) u] (getItem (.ref l) (.int (-1) u)) := by with_unfolding_all rfl) :
    wpAny (model prog w) A (subscriptTail value slice (.ref l) (.int (-1) u)) Q E s := by
  have hl : its.length = x.length + 1 := by simpa using congrArg List.length hits
  have hk' : x.length < its.length := by omega
  have hL := News.isList N hm
  have e1 : sg its[x.length].1 = dec ((sg x).take x.length) := by
    have := congrArg (·[x.length]?) hits
    simp only [List.getElem?_map] at this
    rw [List.getElem?_eq_getElem hk', List.getElem?_eq_getElem (by simp)] at this
    simpa using this
  have e2 : its[x.length].1.length = tk (sg x) x.length := by rw [← sg_len, e1]; rfl
  refine tail_any hL.typeIs slot_list_getitem.lookup (wpAny_getItem_list_neg hL (x := Value.str its[x.length].1 its[x.length].2) (by omega) (by simp [hl]; omega) (by omega) ?_ (h _ _ e2 ?_)) hs
  · have e3 : ((-1 : Int) + (((its.map fun p => Value.str p.1 p.2).toArray.size : Nat) : Int)).toNat = x.length := by
      simp only [List.size_toArray, List.length_map, hl]
      omega
    rw [e3, List.getElem?_toArray, List.getElem?_map, List.getElem?_eq_getElem hk']
    rfl
  · have := tk_le (sg x) x.length
    omega
theorem over_yes {ws : List Int} {b : Int} {e : Int} {i : Nat} {ys : List Value} {t : Tok} (h : IntsAre ys ((ws.take i).filter fun y => decide (b ≤ y))) (hw : ws[i]? = some e) (hb : b ≤ e) : IntsAre (ys ++ [.int e t]) ((ws.take (i + 1)).filter fun y => decide (b ≤ y)) := by
  rw [List.take_add_one, hw, List.filter_append]
  have e2 : (some e).toList.filter (fun y => decide (b ≤ y)) = [e] := by simp [hb]
  rw [e2]
  exact h.append (.cons _ t .nil)
theorem over_no {ws : List Int} {b : Int} {e : Int} {i : Nat} {ys : List Value} (h : IntsAre ys ((ws.take i).filter fun y => decide (b ≤ y))) (hw : ws[i]? = some e) (hb : ¬ b ≤ e) : IntsAre ys ((ws.take (i + 1)).filter fun y => decide (b ≤ y)) := by
  rw [List.take_add_one, hw, List.filter_append]
  have e2 : (some e).toList.filter (fun y => decide (b ≤ y)) = [] := by simp [hb]
  rw [e2, List.append_nil]
  exact h
theorem mod_ten (x : Int) : ∃ b : Nat, Int.fmod x 10 = (b : Int) ∧ b < 10 := by
  have h1 : 0 ≤ Int.fmod x 10 := Int.fmod_nonneg_of_pos x (by omega)
  have h2 : Int.fmod x 10 < 10 := Int.fmod_lt_of_pos x (by omega)
  exact ⟨(Int.fmod x 10).toNat, by omega, by omega⟩
theorem rg_len (a b : Nat) : (rg a b).length = b - a := by unfold rg; rw [List.length_map, List.length_range]
end
section
/-- a turn of a block that leaves the heap as it was -/
def Turned (s : Shared) (h : Heap) (R : Prop) (s' : Shared) : Prop := (∃ tk, s' = { s with heap := h, toks := tk }) ∧ R
theorem turned {s : Shared} {h : Heap} {R : Prop} {tk : Nat} (r : R) : Turned s h R { s with heap := h, toks := tk } := ⟨⟨tk, rfl⟩, r⟩
section
variable {prog : Program} {w : World} {A : Around} {E : Value → Shared → Prop} {s : Shared} {h₀ : Heap} {L : Addr} {m : Str → Option Value} {env : Env}
theorem rest_T {ct elt : PySem.Expr} {x : Str} {scope : Scope} {cl : List (Str × Addr)} {S : List (Addr × Obj) → Prop} {P : Nat → Value → Prop} {Fin : List Value → List (Addr × Obj) → Prop} {news : List (Addr × Obj)} {n : Nat} (I : Nat → List Value → Prop) (hS : S news)
    (turn : ∀ i v Ia oI C oC D m₂ h tk (E' : Value → Shared → Prop) ys, i < n → I i ys → P i v → LCg.NsObj oC m₂ → m₂ x = some v → Fr h₀ L h m → News h₀ L h ((Ia, oI) :: (C, oC) :: (D, LCg.lst ys) :: news) →
      wpAny (model prog w) A (isTrue ct (compEnvC scope cl C env) (eval ct (compEnvC scope cl C env))) (fun ok s' => if ok = true then
        wpAny (model prog w) A (eval elt (compEnvC scope cl C env)) (fun y s'' => Turned s h (I (i + 1) (ys ++ [y])) s'') E' s' else Turned s h (I (i + 1) ys) s') E' { s with heap := h, toks := tk })
    (fin : ∀ ys, I n ys → Fin ys news) : ∀ k i ys, i + k = n → I i ys → LCt.CompRestT prog w A h₀ L m env ct elt x scope cl s S P Fin k i ys news
  | 0, i, ys, hi, h => LCt.CompRestT.zero (fin ys (by rw [← hi]; exact h))
  | k + 1, i, ys, hi, h => by
    refine LCt.CompRestT.succ fun v Ia oI C oC D m₂ hh tk E' hP hC hx F N off ne => ?_
    refine wpAny_mono (turn i v Ia oI C oC D m₂ hh tk E' ys (by omega) h hP hC hx F N) (fun ok s' h' => ?_) fun _ _ e => e
    cases ok with
    | true =>
      simp only [if_true] at h' ⊢
      refine wpAny_mono h' (fun y s'' h'' => ?_) fun _ _ e => e
      obtain ⟨⟨tk', rfl⟩, r⟩ := h''
      exact ⟨hh, tk', news, rfl, F, N, off, hS, rest_T I hS turn fin k (i + 1) _ (by omega) r⟩
    | false =>
      simp only [Bool.false_eq_true, if_false] at h' ⊢
      obtain ⟨⟨tk', rfl⟩, r⟩ := h'
      exact ⟨hh, tk', news, rfl, F, N, off, hS, rest_T I hS turn fin k (i + 1) _ (by omega) r⟩
theorem rest_U {elt : PySem.Expr} {x : Str} {scope : Scope} {cl : List (Str × Addr)} {S : List (Addr × Obj) → Prop} {P : Nat → Value → Prop} {Fin : List Value → List (Addr × Obj) → Prop} {news : List (Addr × Obj)} {n : Nat} (I : Nat → List Value → Prop) (hS : S news)
    (turn : ∀ i v Ia oI C oC D m₂ h tk (E' : Value → Shared → Prop) ys, i < n → I i ys → P i v → LCg.NsObj oC m₂ → m₂ x = some v → Fr h₀ L h m → News h₀ L h ((Ia, oI) :: (C, oC) :: (D, LCg.lst ys) :: news) →
      wpAny (model prog w) A (eval elt (compEnvC scope cl C env)) (fun y s'' => Turned s h (I (i + 1) (ys ++ [y])) s'') E' { s with heap := h, toks := tk })
    (fin : ∀ ys, I n ys → Fin ys news) : ∀ k i ys, i + k = n → I i ys → LCg.CompRest prog w A h₀ L m env elt x scope cl s S P Fin k i ys news
  | 0, i, ys, hi, h => LCg.CompRest.zero (fin ys (by rw [← hi]; exact h))
  | k + 1, i, ys, hi, h => by
    refine LCg.CompRest.succ fun v Ia oI C oC D m₂ hh tk E' hP hC hx F N off ne => ?_
    refine wpAny_mono (turn i v Ia oI C oC D m₂ hh tk E' ys (by omega) h hP hC hx F N) (fun y s'' h'' => ?_) fun _ _ e => e
    obtain ⟨⟨tk', rfl⟩, r⟩ := h''
    exact ⟨hh, tk', news, rfl, F, N, off, hS, rest_U I hS turn fin k (i + 1) _ (by omega) r⟩

/-- a block's iterable: a range that goes down by one -/
def SrcDown (prog : Program) (w : World) (A : Around) (h₀ : Heap) (L : Addr) (m : Str → Option Value) (env : Env) (elt : PySem.Expr) (x : Str) (scope : Scope) (cl : List (Str × Addr)) (Fin : Shared → List Value → List (Addr × Obj) → Prop) (xv : Value) (s₁ : Shared) : Prop :=
  ∃ r a b t u v n news, xv = .ref r ∧ A.handled = none ∧ Fr h₀ L s₁.heap m ∧ News h₀ L s₁.heap news ∧ IsRange s₁.heap r a b (-1) t u v ∧ Builtin.Range.small a b (-1) = true ∧ Builtin.Range.rangeSize a b (-1) = ((n : Nat) : Int) ∧ n ≤ sizeLine ∧
    ∀ s₂ : Shared, (∃ h, s₂ = { s₁ with heap := h }) → LCg.CompRest prog w A h₀ L m env elt x scope cl s₂ (fun _ => True) (fun i v => i < n ∧ ∃ t, v = .int (a + i * -1) t) (Fin s₂) n 0 [] news
theorem comp_down {elt iter : PySem.Expr} {x : Str} {px : Pos} {scope : Scope} {cl : List (Str × Addr)} {pos : Pos} {Q : Value → Shared → Prop} (_F₀ : Fr h₀ L s.heap m)
    (hclos : closureFor scope env = pure cl) (hcell : ∀ y ∈ scope.names, y.2 ≠ .cell) (hkind : scope.kind = .function)
    (hnames : ∀ y ∈ scope.names, y.2 = .local → scope.names.lookup y.1 = some .local) (hx : scope.names.lookup x = some .local)
    (h : wpAny (model prog w) A (eval iter env) (SrcDown prog w A h₀ L m env elt x scope cl (fun s₂ => LCg.FinE h₀ L m s₂ Q)) E s)
    (hs : ∀ x, foldedSetIterable iter env x = pure x := by intro _; rfl) :
    wpAny (model prog w) A (eval (.ListComp elt [⟨.Name x px, iter, [], 0⟩] scope pos) env) Q E s := by
  rw [eval_ListComp]
  refine wpAny_comprehension_free (use := none) rfl hs hclos hkind hnames (wpAny_mono h (fun xv s₁ h₁ => ?_) fun _ _ e => e)
  obtain ⟨r, a, b, t, u, v, n, news, rfl, hh, F, N, hr, hsm, hn, hsz, R⟩ := h₁
  refine wpAny_pyIter_range hr hsm ?_
  have W : Walks prog w A s₁.heap.objs.size [s₁.heap.objs.size] [s₁.heap.objs.size] n (fun i v => i < n ∧ ∃ t, v = .int (a + i * -1) t)
      (fun i h => IsRangeIter h s₁.heap.objs.size (a + (i : Nat) * -1) ((n : Int) - (i : Nat)) (-1)) := (Walks.range hh _ a (-1) n).bound
  refine LCg.block_U W hsz (fun i h st => ⟨_, st⟩) (fun i hA hB o nw st e e' _ _ _ => ?_) hcell hkind hx (by show IsRangeIter _ _ _ _ _; rw [hn]; simpa using Heap.get?_push_size _ rfl) (fun b hb => ?_)
    (F.keeps fun _ _ e => Heap.get?_push_of_some _ e) (N.grown fun _ _ e => Heap.get?_push_of_some _ e) (Nat.ne_of_lt F.ns.lt) (next_is_new F) (fun p hp => Nat.ne_of_lt (Heap.lt_size (N p hp).1)) trivial (R _ ⟨_, rfl⟩) ?_
  · have st' : hA.get? s₁.heap.objs.size = some _ := st
    show hB.get? s₁.heap.objs.size = some _
    rw [e', ← e]; exact st'
  · rw [List.mem_singleton.mp hb]
    show s₁.heap.objs.size < (s₁.heap.push _).objs.size
    rw [Heap.size_push]; exact Nat.lt_succ_self _
  · intro D C h tk m' ys news' F' N' o1 hn hC₀ hD₀ hCL hDL hCD offC fin
    refine ⟨m', hn, fun h'' hs'' => fin D h'' tk (F'.change hs'' hCL hC₀) (fun p hp => ?_) o1⟩
    refine ⟨hs''.extBut _ _ ?_ (N' p hp).1, (N' p hp).2⟩
    rcases List.mem_cons.mp hp with rfl | hp
    · exact Ne.symm hCD
    · exact offC p hp
end
end
section
local macro_rules | `(tactic| walk_at "exec While") => `(tactic| ((with_reducible show wpAny _ _ (exec (Stmt.While _ _ _ _) _) _ _ _); refine hold ?_))
local macro_rules | `(tactic| walk_at "exec While Compare cons nil") => `(tactic| ((with_reducible show wpAny _ _ (exec (Stmt.While _ _ _ _) _) _ _ _); refine hold ?_))
local macro_rules | `(tactic| walk_at "execs nil") => `(tactic| refine wpAny_execs_nil ?_)
local macro_rules | `(tactic| walk_at "InvEndN") => `(tactic| (refine hold ?_))
local macro_rules | `(tactic| walk_at "KswEnd") => `(tactic| ((with_reducible show KswEnd _ _ _ _ _ _ _ _ _ _ _ _); refine hold ?_))
local macro_rules | `(tactic| walk_at "GO") => `(tactic| repeat' (first | (k_unfold; (try dsimp only)) | walk1 | (dsimp only; walk1) | (leave1; try dsimp only) | fail "no step"))
section
local macro_rules | `(tactic| walk_at "pyIter ref") => `(tactic| ((with_reducible show wpAny _ _ (pyIter (Value.ref _)) _ _ _); refine hold ?_))
section

section
variable {w : World} {mean : ExcName → Option Value} {mg mb : Str → Option Value} {dp un : Nat} {gd : Option (List Code)} {cn : Str} {cs : Scope} {a : Addr} {ccd : Value} {cl : List (Str × Addr)} {outer : List Env} {A₀ : Around} {base h₀ : Heap} {L : Addr} {m : Str → Option Value} {news : List (Addr × Obj)} {s : Shared} {Q : Value → Shared → Prop} {E : Value → Shared → Prop}
  (B : Below A₀ base outer h₀) (F : Fr h₀ L s.heap m) (X : (hd.heap_39 w.params).In h₀) (N : News h₀ L s.heap news) (T : Top hd.view_39 (looseW hd.view_39 []) mean mg mb h₀) (hk : cs.kind = .function)
include B F X N T hk
theorem parse_tells (x : Str) (tx : Tok) (hlen : x.length ≤ 100) (hl5 : 5 ≤ x.length) (h3 : Txt.slice x none (some 3) = Str.ofString "257") (h5 : Txt.slice x (some 3) (some 5) = Str.ofString " \"") (hdp : dp + 1 < recursionLimit) (hun : un + 8 < cLine)
  (hret : ∀ (v : Str) (t : Tok) (h' : Heap) (tk' : Nat), sg v = dec ((sg x).drop 5) → Fr h₀ L h' m → News h₀ L h' news → Q (.str v t) { s with heap := h', toks := tk' }) :
  wpAny (model PySem.Challenge.rw_tv0016_01.row.prog w) (ktrTop dp un gd cn cs L a ccd cl outer) (call (.ref 46) [.str x tx]) Q E s := by
  refine wpAny_call ?_
  k_dflt cell_enter
  walk_at "GO"
  all_goals (first | (exfalso; simp_all; done) | skip)
  case' _ => unfold Hold
  rename Fr _ _ _ _ => F1
  rename News _ _ _ _ => N1
  obtain ⟨ti, e1⟩ := at_int F1 (Str.ofString "i") (i := 5) rfl
  obtain ⟨td, e2⟩ := at_str F1 (Str.ofString "dirname") (i := Str.ofString "") rfl
  refine' ksw_while (σ := Int × Str × Tok × Tok) (fun _ => news) (fun c => [(Str.ofString "i", .int c.1 c.2.2.1), (Str.ofString "dirname", .str c.2.1 c.2.2.2)]) (fun _ => True) [Str.ofString "c"] (fun c => PW x c.1 c.2.1) (fun c => x.length - c.1.toNat) (5, Str.ofString "", ti, td) F1 N1 trivial ?hk1 ?hp1 ?turn1
  case hk1 => exact all2 e1 e2
  case hp1 => exact pw_start hl5
  case turn1 =>
    clear F1 N1 e1 e2 ti td
    rintro ⟨i, d, ti, td⟩ u h tk - hinv F1 N1
    dsimp only [kstB] at F1 N1 hinv
    have ⟨hi5, hin, hdl, _⟩ := hinv
    walk_at "GO"
    · exact hret _ _ _ _ (pw_last hinv (by assumption) (by assumption) (by assumption)) (by assumption) (by assumption)
    · exact hret _ _ _ _ (pw_lone hinv (by assumption) (by assumption) (by assumption) (by assumption)) (by assumption) (by assumption)
    · unfold Hold
      have h2 := pw_two hinv (by assumption) (by assumption) (by assumption) (by assumption)
      have := h2.2.1
      rename Fr _ _ _ _ => F2
      obtain ⟨ti', e1⟩ := at_int F2 (Str.ofString "i") (i := i + 1 + 1) rfl
      obtain ⟨td', e2⟩ := at_str F2 (Str.ofString "dirname") (i := d ++ Txt.item x i) rfl
      refine' ksw_end (i + 1 + 1, d ++ Txt.item x i, ti', td') F2 (by assumption) (fun _ h => h) trivial ?e1 ?e2 h2 ?e3
      case e1 => exact all2 e1 e2
      case e2 => ksw_same
      case e3 => dsimp only; omega
    · unfold Hold
      have h2 := pw_plain hinv (by assumption) (by assumption)
      have := h2.2.1
      rename Fr _ _ _ _ => F2
      obtain ⟨ti', e1⟩ := at_int F2 (Str.ofString "i") (i := i + 1) rfl
      obtain ⟨td', e2⟩ := at_str F2 (Str.ofString "dirname") (i := d ++ Txt.item x i) rfl
      refine' ksw_end (i + 1, d ++ Txt.item x i, ti', td') F2 (by assumption) (fun _ h => h) trivial ?e1 ?e2 h2 ?e3
      case e1 => exact all2 e1 e2
      case e2 => ksw_same
      case e3 => dsimp only; omega
    · exact hret _ _ _ _ (pw_done hinv (by assumption)) (by assumption) (by assumption)

end
end
section

section
variable {w : World} {mean : ExcName → Option Value} {mg mb : Str → Option Value} {dp un : Nat} {gd : Option (List Code)} {cn : Str} {cs : Scope} {a : Addr} {ccd : Value} {cl : List (Str × Addr)} {outer : List Env} {A₀ : Around} {base h₀ : Heap} {L : Addr} {m : Str → Option Value} {news : List (Addr × Obj)} {s : Shared} {Q : Value → Shared → Prop} {E : Value → Shared → Prop}
  (B : Below A₀ base outer h₀) (F : Fr h₀ L s.heap m) (X : (hd.heap_39 w.params).In h₀) (N : News h₀ L s.heap news) (T : Top hd.view_39 (looseW hd.view_39 []) mean mg mb h₀) (hk : cs.kind = .function)
include B F X N T hk

theorem cmp_tells (x y : Str) (tx ty : Tok) (hdp : dp + 1 < recursionLimit) (hun : un + 8 < cLine)
  (hret : ∀ (t : Tok) (h' : Heap) (tk' : Nat), Fr h₀ L h' m → News h₀ L h' news → Q (.int (cmp3 x y) t) { s with heap := h', toks := tk' }) :
  wpAny (model PySem.Challenge.rw_tv0016_01.row.prog w) (ktrTop dp un gd cn cs L a ccd cl outer) (call (.ref 67) [.str x tx, .str y ty]) Q E s := by
  refine wpAny_call ?_
  k_dflt cell_enter
  walk_at "GO"
  exact hret _ _ _ (by assumption) (by assumption)

local macro_rules | `(tactic| walk_at "call ref") => `(tactic| (k_here; (with_reducible show wpAny _ _ (call (Value.ref 67) _) _ _ _); k_dflt (refine' cmp_tells ?k1 ?k2 ?k3 ?k4 ?k5 ?k6 _ _ _ _ ?k7 ?k8 ?_; (case k1 => k_asm); (case k2 => k_asm); (case k3 => k_asm); (case k4 => k_asm); (case k5 => k_asm); (case k6 => first | exact rfl | assumption); (case k7 => ktr_room); (case k8 => ktr_units)); intro t9 h9 tk9 F9 N9; (try dsimp only)))

theorem longer_tells (x y : Str) (tx ty : Tok) (hlx : x.length ≤ 100) (hly : y.length ≤ 100) (h1 : cmp3 x y = (x.length : Int) - y.length) (h2 : cmp3 y x = -((x.length : Int) - y.length)) (h3 : cmp3 (Str.mk #[Int.toNat 60000]) x = 1)
  (hdp : dp + 2 < recursionLimit) (hun : un + 16 < cLine)
  (hret : ∀ (h' : Heap) (tk' : Nat), Fr h₀ L h' m → News h₀ L h' news → Q (.bool true) { s with heap := h', toks := tk' }) :
  wpAny (model PySem.Challenge.rw_tv0016_01.row.prog w) (ktrTop dp un gd cn cs L a ccd cl outer) (call (.ref 95) [.str x tx, .str y ty]) Q E s := by
  refine wpAny_call ?_
  k_dflt cell_enter
  walk_at "GO"
  · exfalso
    rename ((_ != _) = true) => hc
    rw [h1] at hc
    simp at hc
  · exfalso
    rename ((_ != _) = true) => hc
    rw [h2] at hc
    simp at hc
  · have e : (Str.ofString (toString (cmp3 (Str.mk #[Int.toNat 60000]) x)) == Str.ofString "1") = true := by rw [h3]; decide +kernel
    rw [e]
    exact hret _ _ (by assumption) (by assumption)

end
end
section

section
variable {w : World} {mean : ExcName → Option Value} {mg mb : Str → Option Value} {dp un : Nat} {gd : Option (List Code)} {cn : Str} {cs : Scope} {a : Addr} {ccd : Value} {cl : List (Str × Addr)} {outer : List Env} {A₀ : Around} {base h₀ : Heap} {L : Addr} {m : Str → Option Value} {news : List (Addr × Obj)} {s : Shared} {Q : Value → Shared → Prop} {E : Value → Shared → Prop}
  (B : Below A₀ base outer h₀) (F : Fr h₀ L s.heap m) (X : (hd.heap_39 w.params).In h₀) (N : News h₀ L s.heap news) (T : Top hd.view_39 (looseW hd.view_39 []) mean mg mb h₀) (hk : cs.kind = .function)
include B F X N T hk
theorem parse_ok (y : Str) (ty tx : Tok) (hlen : y.length ≤ 90) (hdp : dp + 1 < recursionLimit) (hun : un + 8 < cLine)
  (hret : ∀ (v : Str) (t : Tok) (h' : Heap) (tk' : Nat), sg v = dec (sg y) → v.length ≤ y.length → Fr h₀ L h' m → News h₀ L h' news → Q (.str v t) { s with heap := h', toks := tk' }) :
  wpAny (model PySem.Challenge.rw_tv0016_01.row.prog w) (ktrTop dp un gd cn cs L a ccd cl outer) (call (.ref 46) [.str (Str.ofString "257 \"" ++ y) tx]) Q E s := by
  have hl := len_reply y
  refine parse_tells B F X N T hk _ tx (by omega) (by omega) (reply3 y) (reply5 y) hdp hun fun v t h' tk' hv F' N' => ?_
  rw [sg_reply] at hv
  refine hret v t h' tk' hv ?_ F' N'
  have h1 := dec_le (sg y)
  have h2 : (sg v).length = (dec (sg y)).length := congrArg List.length hv
  have h3 := sg_len v
  have h4 := sg_len y
  omega

local macro_rules | `(tactic| walk_at "call ref") => `(tactic| (k_here; (with_reducible show wpAny _ _ (call (Value.ref 46) _) _ _ _); k_dflt (refine' parse_ok ?k1 ?k2 ?k3 ?k4 ?k5 ?k6 _ 0 _ ?k9 ?k7 ?k8 ?_; (case k1 => k_asm); (case k2 => k_asm); (case k3 => k_asm); (case k4 => k_asm); (case k5 => k_asm); (case k6 => first | exact rfl | assumption); (case k9 => omega); (case k7 => ktr_room); (case k8 => ktr_units)); intro v9 t9 h9 tk9 hv9 hl9 F9 N9; (try dsimp only)))

local macro_rules | `(tactic| walk_at "execs cons") => `(tactic| (k_here; k_dflt (refine' execs_gen ?kp ?_; (case kp => first | assumption | omega)); intro tk hpos9))
local macro_rules | `(tactic| walk_at "forall") => `(tactic| (intro hpos9))
local macro_rules | `(tactic| walk_at "call builtin:str.replace") => `(tactic| (k_here; k_dflt (refine' call_replace ?k1 ?k2 ?k3 ?_; (case k1 => assumption); (case k2 => rfl); (case k3 => omega)); intro y9 t9 k9 hy9 hyl9; (have q1 := names_q1 (by assumption) hy9); (have q2 := names_q2 (by assumption) hy9); (have q3 := names_q3 (by assumption) hy9); (try dsimp only)))
local macro_rules | `(tactic| walk_at "call builtin:list.append") => `(tactic| ((with_reducible show wpAny _ _ (call (Value.builtin _) [Value.ref _, _]) _ _ _); refine hold ?_))
local macro_rules | `(tactic| walk_at "newList") => `(tactic| (k_here; k_dflt (refine' newList_K ?k1 ?k2 ?_ ?z; (case k1 => k_asm); (case k2 => k_asm); (case z => first | exact two_fit | exact zero_fit); k_whole); intro l' h' F' N' l1))
theorem names_tells (x : Str) (tx : Tok) (hlx : x.length ≤ 20) (hs0 : 1 ≤ s.toks)
  (hdp : dp + 2 < recursionLimit) (hun : un + 16 < cLine)
  (hret : ∀ (l : Addr) (its : List (Str × Tok)) (ep : Nat) (h' : Heap) (tk' : Nat), its.map (fun p => sg p.1) = (List.range (x.length + 1)).map (fun n => dec ((sg x).take n)) → (∀ p ∈ news, p.1 < l) →
    Fr h₀ L h' m → News h₀ L h' ((l, W.listOf (its.map fun p => Value.str p.1 p.2).toArray ep) :: news) → Q (.ref l) { s with heap := h', toks := tk' }) :
  wpAny (model PySem.Challenge.rw_tv0016_01.row.prog w) (ktrTop dp un gd cn cs L a ccd cl outer) (call (.ref 81) [.str x tx]) Q E s := by
  refine wpAny_call ?_
  k_dflt cell_enter
  walk_at "GO"
  unfold Hold
  rename Fr _ _ _ _ => F1
  rename News _ _ _ _ => N1
  rename IsRange _ _ _ _ _ _ _ _ => R1
  rename (∀ (p : Addr × Obj), p ∈ news → p.fst < _) => l1
  refine' kst_range (σ := List (Str × Tok) × Nat) (n := x.length + 1) (fun c => (_, W.listOf (c.1.map fun p => Value.str p.1 p.2).toArray c.2) :: news) (fun _ => []) (fun _ => True) [Str.ofString "heap", Str.ofString "name", Str.ofString "quoted", Str.ofString "rest"]
    (fun pre c => c.1.map (fun p => sg p.1) = (List.range pre.length).map fun n => dec ((sg x).take n)) ([], 0) rfl R1 ?q1 ?q2 F1 N1 trivial (fun _ h => nomatch h) rfl ?turn ?done
  case q1 => exact small_one (by omega) (by omega) (by omega) (by omega)
  case q2 => rw [rangeSize_nat]; omega
  case done =>
    clear F1 N1 R1
    rintro ⟨its, ep⟩ u h tks - hinv F1 N1
    dsimp only [kstB, envOf] at F1 N1 hinv
    rw [rangeKs_length] at hinv
    walk_at "GO"
    exact hret _ its ep _ _ hinv l1 (by assumption) (by assumption)
  case turn =>
    clear F1 N1 R1
    rintro ⟨its, ep⟩ pre k tk u h tks own hpk hpre hoff - hinv F1 N1
    dsimp only [kstB, envOf] at F1 N1 hinv
    have hits : its.length = pre.length := by simpa using congrArg List.length hinv
    have hne : ∀ p ∈ news ++ own, p.1 ≠ _ := fun p hp => (List.mem_append.mp hp).elim (fun hq => Nat.ne_of_lt (l1 p hq)) fun hq => hoff p hq _ (.head _)
    walk_at "GO"
    unfold Hold
    rename Fr _ _ _ _ => F2
    rename News _ _ _ _ => N2
    with_reducible rename (sg _ = dec _) => hv9
    refine append_K F2 (fun p hp => N2 p (.tail _ hp)) (Upd.head hne) (fun h9 F9 N9 => ?_) (by simp only [List.size_toArray, List.length_map]; rw [sizeLine_eq]; omega)
    clear F2 N2
    dsimp only
    walk_at "GO"
    unfold Hold
    rename Fr _ _ _ _ => F2
    refine' kst_end (its ++ [(_, _)], ep + 1) F2 (by assumption) led_push own_in rfl trivial (fun _ h => nomatch h) ?e3 (names_word hinv hpk hv9)
    intro z h1 h2 h3
    simp only [List.contains_cons, List.contains_nil, Bool.or_false, Bool.or_eq_false_iff, beq_eq_false_iff_ne, ne_eq] at h3
    simp [h1, h3]

end
end
section

section
variable {w : World} {mean : ExcName → Option Value} {mg mb : Str → Option Value} {dp un : Nat} {gd : Option (List Code)} {cn : Str} {cs : Scope} {a : Addr} {ccd : Value} {cl : List (Str × Addr)} {outer : List Env} {A₀ : Around} {base h₀ : Heap} {L : Addr} {m : Str → Option Value} {news : List (Addr × Obj)} {s : Shared} {Q : Value → Shared → Prop} {E : Value → Shared → Prop}
  (B : Below A₀ base outer h₀) (F : Fr h₀ L s.heap m) (X : (hd.heap_39 w.params).In h₀) (N : News h₀ L s.heap news) (T : Top hd.view_39 (looseW hd.view_39 []) mean mg mb h₀) (hk : cs.kind = .function)
include B F X N T hk
local macro_rules | `(tactic| walk_at "call builtin:sum") => `(tactic| ((with_reducible show wpAny _ _ (call (Value.builtin _) _) _ _ _); refine hold ?_))
local macro_rules | `(tactic| walk_at "subscriptTail List") => `(tactic| ((with_reducible show wpAny _ _ (subscriptTail _ _ (Value.ref _) (Value.int (Int.fmod _ _) _)) _ _ _); refine hold ?_))
local macro_rules | `(tactic| walk_at "subscriptTail List cons BinOp ref int") => `(tactic| ((with_reducible show wpAny _ _ (subscriptTail _ _ (Value.ref _) (Value.int (Int.fmod _ _) _)) _ _ _); refine hold ?_))
theorem text_tells {l : Addr} {vs : List Value} {ns : List Int} (hl : base.IsList l vs.toArray) (hi : IntsAre vs ns) (hns : ns.length ≤ 63)
  (hdp : dp + 1 < recursionLimit) (hun : un + 8 < cLine)
  (hret : ∀ (v : Str) (t : Tok) (h' : Heap) (tk' : Nat), v.length ≤ 14 → (∀ c ∈ sg v, c < 60000) → Fr h₀ L h' m → News h₀ L h' news → Q (.str v t) { s with heap := h', toks := tk' }) :
  wpAny (model PySem.Challenge.rw_tv0016_01.row.prog w) (ktrTop dp un gd cn cs L a ccd cl outer) (call (.ref 74) [.ref l]) Q E s := by
  refine wpAny_call ?_
  k_dflt cell_enter
  walk_at "GO"
  unfold Hold
  rename Fr _ _ _ _ => F1
  rename News _ _ _ _ => N1
  rename IsRange _ _ _ _ _ _ _ _ => R1
  obtain ⟨td, e1⟩ := at_str F1 (Str.ofString "text") (i := Str.ofString "") rfl
  rename (∀ (p : Addr × Obj), p ∈ news → p.fst < _) => l1
  refine' kst_range (σ := Str × Tok) (n := 7) (fun c => _) (fun c => [(Str.ofString "text", .str c.1 c.2)]) (fun _ => True) [Str.ofString "cell"]
    (fun pre c => c.1.length ≤ 2 * pre.length ∧ ∀ n ∈ sg c.1, n < 60000) (Str.ofString "", td) rfl R1 ?q1 ?q2 F1 N1 trivial ?q3 ?q4 ?turn ?done
  case q1 => exact small_one (by omega) (by omega) (by omega) (by omega)
  case q2 => rw [rangeSize_nat]; omega
  case q3 => exact all1 e1
  case q4 => exact ⟨by show (Str.ofString "").length ≤ 0; decide +kernel, by show ∀ n ∈ sg (Str.ofString ""), n < 60000; decide +kernel⟩
  case done =>
    clear F1 N1 R1 e1 td
    rintro ⟨v, td⟩ u h tks - hinv F1 N1
    dsimp only [kstB, envOf] at F1 N1 hinv
    rw [rangeKs_length] at hinv
    walk_at "GO"
    rename News _ _ _ _ => N2
    exact hret _ _ _ _ hinv.1 hinv.2 (by assumption) (fun p hp => N2 p (.tail _ hp))
  case turn =>
    clear F1 N1 R1 e1 td
    rintro ⟨v, td⟩ pre k tk u h tks own hpk hpre hoff - hinv F1 N1
    dsimp only [kstB, envOf] at F1 N1 hinv
    walk_at "GO"
    unfold Hold
    rename Fr _ _ _ _ => F2
    rename News _ _ _ _ => N2
    obtain ⟨ms, hms⟩ := ints_pick hi (some k) none (some 8)
    refine sumK (vs := (slicePick vs.toArray (some k) none (some 8)).toList) (ns := ms) rfl F2 N2 (News.isList N2 (.head _)) hms fun h9 tk9 t9 F9 N9 => ?_
    clear F2 N2
    replace N9 : News _ _ h9 _ := fun p hp => N9 p (.tail _ hp)
    dsimp only
    walk_at "GO"
    unfold Hold
    rename Fr _ _ _ _ => F2
    rename News _ _ _ _ => N2
    refine item4 (News.isList N2 (.head _)) fun p9 tp9 hp9 => ?_
    clear hms
    have hp8 := piece_ok hp9
    have hl8 := hp8.1
    have hl7 := hinv.1
    replace N2 : News _ _ _ _ := fun p hp => N2 p (.tail _ hp)
    dsimp only
    walk_at "GO"
    unfold Hold
    rename Fr _ _ _ _ => F3
    obtain ⟨td', e1⟩ := at_str F3 (Str.ofString "text") (i := v ++ p9) rfl
    refine' kst_end (v ++ p9, td') F3 (by assumption) led_in own_in rfl trivial (all1 e1) ?e3 (by rw [List.length_append]; exact text_word hinv hp8)
    intro z h1 h2 h3
    have h2' : z ≠ Str.ofString "text" := h2 _ (.head _)
    simp only [List.contains_cons, List.contains_nil, Bool.or_false, Bool.or_eq_false_iff, beq_eq_false_iff_ne, ne_eq] at h3
    simp [h1, h2', h3]

end
end
section

section
variable {w : World} {mean : ExcName → Option Value} {mg mb : Str → Option Value} {dp un : Nat} {gd : Option (List Code)} {cn : Str} {cs : Scope} {a : Addr} {ccd : Value} {cl : List (Str × Addr)} {outer : List Env} {A₀ : Around} {base h₀ : Heap} {L : Addr} {m : Str → Option Value} {news : List (Addr × Obj)} {s : Shared} {Q : Value → Shared → Prop} {E : Value → Shared → Prop}
  (B : Below A₀ base outer h₀) (F : Fr h₀ L s.heap m) (X : (hd.heap_39 w.params).In h₀) (N : News h₀ L s.heap news) (T : Top hd.view_39 (looseW hd.view_39 []) mean mg mb h₀) (hk : cs.kind = .function)
include B F X N T hk
local macro_rules | `(tactic| walk_at "ENTERS") => `(tactic| (refine' enter_S ?k1 ?k2 ?k3 ?k4 ?k5 ?kA ?kF ?kK ?k6 ?k7 ?k8 ?k9 ?kB ?_ ?c2 ?c3 ?c4 ?c5; (case kA => exact rfl); (case kF => exact rfl); (case kK => assumption); (case k1 => k_asm); (case k2 => k_asm); (case k3 => k_asm); (case k4 => k_asm); (case k5 => k_asm); (case k6 => k_is); (case k7 => k_is); (case k8 => ktr_room); (case k9 => exact BindsTo.of_eq rfl); (case c5 => decide); (case kB => exact locs rfl); (case c2 => exact rfl); (case c3 => exact rfl); (case c4 => exact rfl); k_whole; intro g' L' h' FG' F' N' B' X' T' D'; (try dsimp only); (try k_lift B'); (try k_fold)))

theorem parse_none (x : Str) (tx : Tok) (hlen : x.length ≤ 100) (h3 : Txt.slice x none (some 3) = Str.ofString "257") (h5 : Txt.slice x (some 3) (some 5) ≠ Str.ofString " \"") (hdp : dp + 1 < recursionLimit) (hun : un + 8 < cLine)
  (hret : ∀ (t : Tok) (h' : Heap) (tk' : Nat), Fr h₀ L h' m → News h₀ L h' news → Q (.str (Str.ofString "") t) { s with heap := h', toks := tk' }) :
  wpAny (model PySem.Challenge.rw_tv0016_01.row.prog w) (ktrTop dp un gd cn cs L a ccd cl outer) (call (.ref 46) [.str x tx]) Q E s := by
  refine wpAny_call ?_
  k_dflt cell_enter
  walk_at "GO"
  all_goals (first | (exfalso; simp_all; done) | skip)
  case' _ => exact hret _ _ _ (by assumption) (by assumption)

local macro_rules | `(tactic| walk_at "call ref") => `(tactic| (k_here; (with_reducible show wpAny _ _ (call (Value.ref 46) _) _ _ _); first
  | (with_reducible show wpAny _ _ (call (Value.ref 46) [Value.str (Str.ofString _ ++ _) _]) _ _ _); k_dflt (refine' parse_none ?k1 ?k2 ?k3 ?k4 ?k5 ?k6 _ _ ?k9 (head3_is ?ka ?kb) (head5_not ?kc ?kd) ?k7 ?k8 ?_; (case k1 => k_asm); (case k2 => k_asm); (case k3 => k_asm); (case k4 => k_asm); (case k5 => k_asm); (case k6 => first | exact rfl | assumption); (case k9 => exact pre_len (by decide +kernel) (by assumption)); (case k7 => ktr_room); (case k8 => ktr_units); (case ka => decide +kernel); (case kb => decide +kernel); (case kc => decide +kernel); (case kd => decide +kernel); intro t9 h9 tk9 F9 N9; (try dsimp only))
  | k_dflt (refine wpAny_call ?_; refine' code_def ?k1 ?k2 ?k3 ?k4 ?k5 ?kA ?kF ?kK ?k6 ?k7 ?k8 ?k9 ?kB ?_ ?c2 ?c3 ?c4 ?c5; (case kA => exact rfl); (case kF => exact rfl); (case kK => exact rfl); (case k1 => k_asm); (case k2 => k_asm); (case k3 => k_asm); (case k4 => k_asm); (case k5 => k_asm); (case k6 => k_is); (case k7 => k_is); (case k8 => ktr_room); (case k9 => exact BindsTo.of_eq rfl); (case c5 => decide); (case kB => exact locs rfl); (case c2 => exact rfl); (case c3 => exact rfl); (case c4 => exact rfl); k_whole; intro g' L' h' FG' F' N' B' X' T'; (try dsimp only); (try k_lift B'); (try k_fold))))

local macro_rules | `(tactic| walk_at "exec For Name List cons nil") => `(tactic| ((with_reducible show wpAny _ _ (exec (Stmt.For _ _ _ _ _) _) _ _ _); refine hold ?_))
local macro_rules | `(tactic| walk_at "call type:str") => `(tactic| ((with_reducible show wpAny _ _ (call (Value.type "str") [Value.ref _]) _ _ _); (with_reducible rename Got _ _ _ _ _ => gX); refine' str_got ?F ?N gX ?X ?u ?s ?b ?_; (case F => assumption); (case N => assumption); (case X => assumption); (case u => ktr_units); (case s => k_is); (case b => first | k_is | decide +kernel); (try dsimp only)))

theorem refused_tells (hout : outer = []) (XB : (hd.heap_39 w.params).In base) (TB : Top hd.view_39 (looseW hd.view_39 []) mean mg mb base) (x : Str) (tx : Tok) (hlen : x.length ≤ 20) (hdp : dp + 2 < recursionLimit) (hun : un + 16 < cLine)
  (hret : ∀ (h' : Heap) (tk' : Nat), Fr h₀ L h' m → News h₀ L h' news → Q (.bool true) { s with heap := h', toks := tk' }) :
  wpAny (model PySem.Challenge.rw_tv0016_01.row.prog w) (ktrTop dp un gd cn cs L a ccd cl outer) (call (.ref 88) [.str x tx]) Q E s := by
  subst hout
  refine wpAny_call ?_
  k_dflt (walk_at "ENTERS")
  walk_at "GO"
  unfold Hold
  rename Fr _ _ _ _ => F1
  rename News _ _ _ _ => N1
  rename Below _ _ _ _ => B1
  rename KtsDicts _ _ => D1
  rename (hd.heap_39 w.params).In _ => X1
  rename Top _ _ _ _ _ _ => T1
  have G1 := GS.mk KtsTurn.refl B1 X1 T1 D1
  refine For_GS G1 rfl rfl ?_
  walk_at "GO"
  unfold Hold
  rename Fr _ _ _ _ => F2
  rename News _ _ _ _ => N2
  refine loop_start G1 F2 N2 (.head _) rfl (fun i v g h tk m I oI hv G9 F9 N9 => ?_) (fun g h tk m G9 F9 N9 => ?_)
  · clear B1 D1 X1 T1 F2 N2 G1
    obtain ⟨T9, B9, X9, P9, D9⟩ := G9
    dsimp only [envOf] at F9 N9
    obtain ⟨r, t, rfl, hr3, hrl⟩ : ∃ r t, v = .str r t ∧ Txt.slice r none (some 3) ≠ Str.ofString "257" ∧ r.length ≤ 100 := by
      match i, hv with
      | 0, hv => exact ⟨_, _, (Option.some.inj hv).symm, head3_not (by decide +kernel) (by decide +kernel), pre_len (by decide +kernel) hlen⟩
      | 1, hv => exact ⟨_, _, (Option.some.inj hv).symm, head3_not (by decide +kernel) (by decide +kernel), pre_len (by decide +kernel) hlen⟩
      | 2, hv => exact ⟨_, _, (Option.some.inj hv).symm, head3_not (by decide +kernel) (by decide +kernel), pre_len (by decide +kernel) hlen⟩
      | 3, hv => exact ⟨_, _, (Option.some.inj hv).symm, head3_not (by decide +kernel) (by decide +kernel), pre_len (by decide +kernel) hlen⟩
      | i + 4, hv => exact nomatch hv
    walk_at "GO"
    · exfalso
      with_reducible rename ((r != r) = true) => hq
      simp at hq
    · with_reducible rename KtsTurn _ _ _ => T8
      with_reducible rename Below _ _ _ _ => B8
      with_reducible rename (hd.heap_39 w.params).In _ => X8
      with_reducible rename Top _ _ _ _ _ _ => P8
      with_reducible rename KtsDicts _ _ => D8
      exact ⟨_, _, _, _, rfl, ⟨T8, B8, X8, P8, D8⟩, by assumption, by assumption⟩
    · exfalso
      with_reducible rename ((Txt.slice r none (some 3) != Str.ofString "257") = false) => hq
      exact hr3 (by simpa using hq)
    · exfalso
      with_reducible rename ((Txt.slice r none (some 3) != Str.ofString "257") = false) => hq
      exact hr3 (by simpa using hq)
  · clear B1 D1 X1 T1 F2 N2 G1
    obtain ⟨T9, B9, X9, P9, D9⟩ := G9
    dsimp only [envOf] at F9 N9
    walk_at "GO"
    with_reducible rename Fr h₀ L _ _ => kF
    with_reducible rename News h₀ L _ (_ :: _) => kN
    exact hret _ _ kF (fun p hp => kN p (.tail _ hp))

end
end
section

section
variable {w : World} {mean : ExcName → Option Value} {mg mb : Str → Option Value} {dp un : Nat} {gd : Option (List Code)} {cn : Str} {cs : Scope} {a : Addr} {ccd : Value} {cl : List (Str × Addr)}  {h₀ : Heap} {L : Addr} {m : Str → Option Value} {news : List (Addr × Obj)} {s : Shared} {Q : Value → Shared → Prop} {E : Value → Shared → Prop}
  (F : Fr h₀ L s.heap m) (X : (hd.heap_39 w.params).In h₀) (N : News h₀ L s.heap news) (T : Top hd.view_39 (looseW hd.view_39 []) mean mg mb h₀) (hk : cs.kind = .function)
include F X N T hk
local macro_rules | `(tactic| walk_at "ENTERH") => `(tactic| (refine' enter_hidden ?k2 ?k3 ?k4 ?k5 ?kA ?kF ?kK ?k6 ?k7 ?k8 ?k9 ?kB ?_ ?c2 ?c3 ?c4 ?c5; (case kA => exact rfl); (case kF => exact rfl); (case kK => assumption); (case k2 => k_asm); (case k3 => k_asm); (case k4 => k_asm); (case k5 => k_asm); (case k6 => k_is); (case k7 => k_is); (case k8 => ktr_room); (case k9 => exact BindsTo.of_eq rfl); (case c5 => decide); (case kB => exact locs rfl); (case c2 => exact rfl); (case c3 => exact rfl); (case c4 => exact rfl); k_whole))
local macro_rules | `(tactic| walk_at "truthy ref") => `(tactic| ((with_reducible show wpAny _ _ (truthy (Value.ref _)) _ _ _); refine hold ?_))
local macro_rules | `(tactic| walk_at "exec While Name") => `(tactic| ((with_reducible show wpAny _ _ (exec (Stmt.While _ _ _ _) _) _ _ _); refine hold ?_))
local macro_rules | `(tactic| walk_at "exec Try") => `(tactic| ((with_reducible show wpAny _ _ (exec (Stmt.Try _ _ _ _ _) _) _ _ _); refine hold ?_))
local macro_rules | `(tactic| walk_at "call builtin:list.append") => `(tactic| ((with_reducible show wpAny _ _ (call (Value.builtin _) [Value.ref _, _]) _ _ _); refine hold ?_))
local macro_rules | `(tactic| walk_at "call builtin:list.pop") => `(tactic| ((with_reducible show wpAny _ _ (call (Value.builtin _) [Value.ref _]) _ _ _); refine hold ?_))
local macro_rules | `(tactic| walk_at "call builtin:list.remove") => `(tactic| ((with_reducible show wpAny _ _ (call (Value.builtin _) [Value.ref _, _]) _ _ _); refine hold ?_))
local macro_rules | `(tactic| walk_at "newList") => `(tactic| (k_here; k_dflt (refine' newList_K ?k1 ?k2 ?_ ?z; (case k1 => k_asm); (case k2 => k_asm); (case z => first | exact two_fit | exact zero_fit); k_whole); intro l' h' F' N' l1))

theorem unord_tells {x1 x2 : Addr} {ve va : List Value} {ex ac : List Int} {ne na : Nat} {rest : List (Addr × Obj)} (hN : news = (x1, W.listOf ve.toArray ne) :: (x2, W.listOf va.toArray na) :: rest) (hie : IntsAre ve ex) (hia : IntsAre va ac)
  (h12 : x1 ≠ x2) (hr1 : ∀ p ∈ rest, p.1 ≠ x1) (hr2 : ∀ p ∈ rest, p.1 ≠ x2) (hle : ve.length ≤ 100) (hla : va.length ≤ 100)
  (hdp : dp + 1 < recursionLimit) (hun : un + 8 < cLine)
  (hret : ∀ (t mi : Addr) (vm va' : List Value) (n1 n2 nm nt : Nat) (h' : Heap) (tk' : Nat), IntsAre vm (ul ex.reverse ac).1 → IntsAre va' (ul ex.reverse ac).2 → (∀ p ∈ news, p.1 < mi) → mi < t → Fr h₀ L h' m →
    News h₀ L h' ((t, ({ cls := .type "tuple", data := .seq #[.ref mi, .ref x2] nt } : Obj)) :: (mi, W.listOf vm.toArray nm) :: (x1, W.listOf [].toArray n1) :: (x2, W.listOf va'.toArray n2) :: rest) → Q (.ref t) { s with heap := h', toks := tk' }) :
  wpAny (model PySem.Challenge.rw_tv0016_01.row.prog w) (ktrTop dp un gd cn cs L a ccd cl []) (call (.ref 60) [.ref x1, .ref x2]) Q E s := by
  refine wpAny_call ?_
  k_dflt (walk_at "ENTERH")
  intro L' h₁ oL hoL F1 N1 hoff hLL hnL t2
  dsimp only at F1 ⊢
  walk_at "GO"
  unfold Hold
  subst hN
  rename Fr _ _ _ _ => F2
  rename News _ _ _ _ => N2
  with_reducible rename (∀ (p : Addr × Obj), p ∈ (L, oL) :: _ → p.fst < _) => hm1
  refine' ksw_while (σ := US) (fun c => (_, W.listOf c.vm.toArray c.nm) :: (L, { oL with slots := c.sl }) :: (x1, W.listOf c.ve.toArray c.ne) :: (x2, W.listOf c.va.toArray c.na) :: rest) (fun _ => []) (fun _ => True) [Str.ofString "item"] (UW (ul ex.reverse ac)) (fun c => c.ve.length) ⟨oL.slots, ve, ne, va, na, [], 0⟩ F2 N2 trivial (fun _ h => nomatch h) ?hp1 ?turn1 PassesOwn.never
  case hp1 => exact ⟨ex, ac, [], hie, hia, .nil, rfl, rfl, by simpa using hle, hla⟩
  case turn1 =>
    clear F2 N2 hie hia hle hla
    rintro ⟨sl, ve, ne, va, na, vm, nm⟩ u h tk - ⟨ex', ac', ms, hie, hia, him, hR1, hR2, hle, hla⟩ F1 N1
    dsimp only [kstB, envOf] at F1 N1 hie hia him hle hla
    walk_at "GO"
    have a1 : x1 < _ := hm1 _ (.tail _ (.head _))
    have a2 : x2 < _ := hm1 _ (.tail _ (.tail _ (.head _)))
    have aL : L < _ := hm1 _ (.head _)
    have ar : ∀ p ∈ rest, p.1 < _ := fun p hp => hm1 p (.tail _ (.tail _ (.tail _ hp)))
    have o1 : x1 ≠ L := hoff _ (.head _)
    have o2 : x2 ≠ L := hoff _ (.tail _ (.head _))
    have or : ∀ p ∈ rest, p.1 ≠ L := fun p hp => hoff p (.tail _ (.tail _ hp))
    clear hm1 hoff
    unfold Hold
    refine kgr_truthy N1 (.tail _ (.tail _ (.head _))) rfl rfl (by omega) ?_
    dsimp only
    split
    · rename ((!_) = true) => hne
      have hex : ex' ≠ [] := fun q => by subst q; cases hie; cases hne
      have hlen := ints_len hie
      have hpos : 0 < ve.length := by rw [hlen]; exact List.length_pos_iff.mpr hex
      walk_at "GO"
      unfold Hold
      rename Fr _ _ _ _ => F2
      rename News _ _ _ _ => N2
      refine kpa_pop F2 (News.re N2 mem_cab) (Upd.head (ne_cons (Nat.ne_of_gt a1) (ne_cons (Ne.symm o1) (ne_cons (Ne.symm h12) hr1)))) hie hpos (by rw [sizeLine_eq]; omega) fun h9 t9 F9 N9 hie9 => ?_
      clear F2 N2
      dsimp only
      walk_at "GO"
      unfold Hold
      rename Fr _ _ _ _ => F3
      rename News _ _ _ _ => N3
      have N4 := News.re N3 mem_cdab
      refine try_now (ex'.getLastD 0 ∉ ac') (X := "ValueError") F3 N4 t2 X T (by k_is) PyProof.Rows.Boot.«ValueError» (by decide) PySem.F.isExc_ValueError PySem.F.notTuple_ValueError (by kts_sub) ?hbody ?hsuite
      case hbody =>
        clear N3
        walk_at "GO"
        unfold Hold
        rename Fr _ _ _ _ => F4
        rename News _ _ _ _ => N4
        refine remove_any F4 (News.re N4 mem_ba) (ne_cons (Ne.symm o2) (ne_cons h12 (ne_cons (Nat.ne_of_gt a2) hr2))) hia rfl (by omega) (fun hin h9 vs9 n9 hi9 F9 N9 => ?_) (fun hnot h9 tk9 e9 r9 => ?_)
        · clear F4 N4
          dsimp only
          walk_at "GO"
          unfold Hold
          rename Fr _ _ _ _ => F5
          rename News _ _ _ _ => N5
          have hP := uw_in hex hin hR1 hR2
          have hl9 := ints_len hi9
          have hl8 := ints_len hia
          have hl7 := List.length_erase_le (a := ex'.getLastD 0) (l := ac')
          have hl6 : ve.dropLast.length = ve.length - 1 := by simp
          refine ksw_end ⟨sl, ve.dropLast, ne + 1, vs9, n9, vm, nm⟩ F5 (News.re N5 mem_mLab) (fun _ h => h) trivial (fun _ h => nomatch h) ?e2 ⟨_, _, ms, hie9, hi9, him, hP.1, hP.2, by dsimp only; omega, by dsimp only; omega⟩ (by dsimp only; omega)
          ksw_same
        · exact ex_now F4 N4 (ne_cons o2 (ne_cons o1 (ne_cons (Nat.ne_of_gt aL) or))) hoL r9 hnot
      case hsuite =>
        intro a9 h9 tk9 sl9 hnot F9 N9
        clear N3 N4 F3
        walk_at "GO"
        unfold Hold
        rename Fr _ _ _ _ => F5
        rename News _ _ _ _ => N5
        refine append_K F5 (News.re N5 mem_dabc') (Upd.head (ne_cons (Nat.ne_of_lt aL) (ne_cons (Nat.ne_of_lt a2) (ne_cons (Nat.ne_of_lt a1) fun p hp => Nat.ne_of_lt (ar p hp))))) (fun h8 F8 N8 => ?_) (by simp only [List.size_toArray]; rw [sizeLine_eq]; omega)
        clear F5 N5
        dsimp only
        walk_at "GO"
        unfold Hold
        rename Fr _ _ _ _ => F5
        rename News _ _ _ _ => N5
        have hP := uw_out hex hnot hR1 hR2
        have hl6 : ve.dropLast.length = ve.length - 1 := by simp
        refine ksw_end ⟨sl9, ve.dropLast, ne + 1, va, na, vm ++ [.int (ex'.getLastD 0) t9], nm + 1⟩ F5 (by rw [push_arr]; exact News.re N5 mem_mLx) (fun _ h => h) trivial (fun _ h => nomatch h) ?e2b ⟨_, _, _, hie9, hia, ints_push him _ _, hP.1, hP.2, by simp only [List.length_append, List.length_singleton]; omega, by dsimp only; omega⟩ (by dsimp only; omega)
        ksw_same
    · rename (¬ (!_) = true) => hne
      have hv : ve = [] := by simpa using hne
      subst hv
      cases hie
      have hL1 : L < _ := aL
      walk_at "GO"
      rename Fr _ _ _ _ => F5
      rename News _ _ _ _ => N5
      with_reducible rename (_ < _ ∧ _ < _ ∧ _) => l5
      refine ⟨_, sl, _, F5, News.re N5 mem_cabr, ?_, fun F6 N6 => ?_⟩
      · exact ne_cons (Nat.ne_of_gt l5.2.1) (ne_cons (Nat.ne_of_gt aL) (ne_cons o1 (ne_cons o2 or)))
      · simp only [ul, List.reverse_nil, List.append_nil] at hR1 hR2
        exact hret _ _ vm va ne na nm _ _ _ (hR1 ▸ him) (hR2 ▸ hia) (ne_lt a1 a2 ar) l5.1 F6 N6

end
end
section

section
variable {w : World} {mean : ExcName → Option Value} {mg mb : Str → Option Value} {dp un : Nat} {gd : Option (List Code)} {cn : Str} {cs : Scope} {a : Addr} {ccd : Value} {cl : List (Str × Addr)}  {h₀ : Heap} {L : Addr} {m : Str → Option Value} {news : List (Addr × Obj)} {s : Shared} {Q : Value → Shared → Prop} {E : Value → Shared → Prop}
  (F : Fr h₀ L s.heap m) (X : (hd.heap_39 w.params).In h₀) (N : News h₀ L s.heap news) (T : Top hd.view_39 (looseW hd.view_39 []) mean mg mb h₀) (hk : cs.kind = .function)
include F X N T hk
local macro_rules | `(tactic| walk_at "ENTERH") => `(tactic| (refine' enter_hidden ?k2 ?k3 ?k4 ?k5 ?kA ?kF ?kK ?k6 ?k7 ?k8 ?k9 ?kB ?_ ?c2 ?c3 ?c4 ?c5; (case kA => exact rfl); (case kF => exact rfl); (case kK => assumption); (case k2 => k_asm); (case k3 => k_asm); (case k4 => k_asm); (case k5 => k_asm); (case k6 => k_is); (case k7 => k_is); (case k8 => ktr_room); (case k9 => exact BindsTo.of_eq rfl); (case c5 => decide); (case kB => exact locs rfl); (case c2 => exact rfl); (case c3 => exact rfl); (case c4 => exact rfl); k_whole))
local macro_rules | `(tactic| walk_at "exec While Constant") => `(tactic| ((with_reducible show wpAny _ _ (exec (Stmt.While _ _ _ _) _) _ _ _); refine hold ?_))
local macro_rules | `(tactic| walk_at "exec Try") => `(tactic| ((with_reducible show wpAny _ _ (exec (Stmt.Try _ _ _ _ _) _) _ _ _); refine hold ?_))
local macro_rules | `(tactic| walk_at "call builtin:list.append") => `(tactic| ((with_reducible show wpAny _ _ (call (Value.builtin _) [Value.ref _, _]) _ _ _); refine hold ?_))
local macro_rules | `(tactic| walk_at "call builtin:list.extend") => `(tactic| ((with_reducible show wpAny _ _ (call (Value.builtin _) [Value.ref _, _]) _ _ _); refine hold ?_))
local macro_rules | `(tactic| walk_at "newList") => `(tactic| (k_here; k_dflt (refine' newList_K ?k1 ?k2 ?_ ?z; (case k1 => k_asm); (case k2 => k_asm); (case z => first | exact two_fit | exact zero_fit); k_whole); intro l' h' F' N' l1))

local macro_rules | `(tactic| walk_at "exec Try cons nil") => `(tactic| ((with_reducible show wpAny _ _ (exec (Stmt.Try _ _ _ _ _) _) _ _ _); refine hold ?_))

local macro_rules | `(tactic| walk_at "subscriptTail Name Slice ref ref") => `(tactic| ((with_reducible show wpAny _ _ (subscriptTail _ _ (Value.ref _) (Value.ref _)) _ _ _); refine hold ?_))

theorem sorted_tells {x1 x2 : Addr} {ve va : List Value} {ex ac : List Int} {R : List Int × List Int} {ne na : Nat} (hx1 : (x1, W.listOf ve.toArray ne) ∈ news) (hx2 : (x2, W.listOf va.toArray na) ∈ news) (hie : IntsAre ve ex) (hia : IntsAre va ac)
  (hS : SD ex ac R) (hle : ex.length ≤ 100) (hla : ac.length ≤ 100) (hr1 : R.1.length ≤ 200) (hr2 : R.2.length ≤ 200)
  (hdp : dp + 1 < recursionLimit) (hun : un + 8 < cLine)
  (hret : ∀ (t mi ui : Addr) (vm vu : List Value) (nm nu nt : Nat) (h' : Heap) (tk' : Nat), IntsAre vm R.1 → IntsAre vu R.2 → (∀ p ∈ news, p.1 < mi) → mi < ui → ui < t → Fr h₀ L h' m →
    News h₀ L h' ((t, ({ cls := .type "tuple", data := .seq #[.ref mi, .ref ui] nt } : Obj)) :: (ui, W.listOf vu.toArray nu) :: (mi, W.listOf vm.toArray nm) :: news) → Q (.ref t) { s with heap := h', toks := tk' }) :
  wpAny (model PySem.Challenge.rw_tv0016_01.row.prog w) (ktrTop dp un gd cn cs L a ccd cl []) (call (.ref 53) [.ref x1, .ref x2]) Q E s := by
  refine wpAny_call ?_
  k_dflt (walk_at "ENTERH")
  intro L' h₁ oL hoL F1 N1 hoff hLL hnL t2
  dsimp only at F1 ⊢
  walk_at "GO"
  unfold Hold
  rename Fr _ _ _ _ => F2
  rename News _ _ _ _ => N2
  with_reducible rename (∀ (p : Addr × Obj), p ∈ _ :: (L, oL) :: _ → p.fst < _) => hm2
  rename_i mi gA l1 gB tA ui gD tB
  obtain ⟨ti, e1⟩ := at_int F2 (Str.ofString "i") (i := 0) rfl
  obtain ⟨tj, e2⟩ := at_int F2 (Str.ofString "j") (i := 0) rfl
  refine' ksw_while (σ := SS) (fun c => ledS _ _ c ((L, { oL with slots := c.sl }) :: news)) (fun c => [(Str.ofString "i", .int c.i c.ti), (Str.ofString "j", .int c.j c.tj)]) (fun _ => True) [Str.ofString "e", Str.ofString "a"] (SI ex ac R) (fun c => (ex.drop c.i.toNat).length + (ac.drop c.j.toNat).length) ⟨0, ti, 0, tj, oL.slots, [], 0, [], 0⟩ F2 N2 trivial ?hk1 ?hp1 ?turn1 PassesOwn.never
  case hk1 => exact all2 e1 e2
  case hp1 => exact ⟨[], [], R, ⟨Int.le_refl _, by simp; omega, Int.le_refl _, by simp; omega, .nil, .nil, Nat.zero_le _, Nat.zero_le _⟩, hS, rfl, rfl⟩
  case turn1 =>
    clear F2 N2 e1 e2 ti tj
    rintro ⟨i, ti, j, tj, sl, vm, nm, vu, nu⟩ u h tk - ⟨ms, us, R', W1, hS', hR1, hR2⟩ F1 N1
    dsimp only [kstB, envOf, ledS] at F1 N1 hS'
    walk_at "GO"
    unfold Hold
    have aL : L < mi := l1 _ (.head _)
    have am : mi < ui := hm2 _ (.head _)
    have i0 := W1.i0
    have i1 := W1.i1
    have j0 := W1.j0
    have j1 := W1.j1
    dsimp only at i0 i1 j0 j1
    refine try_exc (oL := oL) (K := KS x1 x2 mi ui news (fun c _ => SE ex ac R c)) (X := "IndexError") (C := fun _ => True) t2 X (topRead_of T) (by k_is) PyProof.Rows.Boot.«IndexError» (by decide) PySem.F.isExc_IndexError PySem.F.notTuple_IndexError (by kts_sub) ?hbody ?hsuite
    case hbody =>
      walk_at "GO"
      refine item_ix (.inl rfl) N1 (mem3 hx1) hie i0 (by omega) (fun e te he => ?_) fun ho h' tk' a r => ks_raise ⟨i, ti, j, tj, sl, vm, nm, vu, nu⟩ F1 N1 (all6 rfl rfl rfl rfl rfl rfl) hoff (Nat.ne_of_gt aL) (Nat.ne_of_gt (Nat.lt_trans aL am)) hoL r (fun _ _ => trivial) ?_
      rotate_left
      · rw [ho] at hS'
        rw [sd_nilL hS'] at hR1 hR2
        exact ⟨ms, us, W1, by dsimp only; rw [ho]; exact hR1, hR2⟩
      dsimp only
      walk_at "GO"
      rename Fr _ _ _ _ => F2
      rename News _ _ _ _ => N2
      refine item_ix (.inl rfl) N2 (mem3 hx2) hia j0 (by omega) (fun a ta ha => ?_) fun ho h' tk' a r => ks_raise ⟨i, ti, j, tj, sl, vm, nm, vu, nu⟩ F2 N2 (all6 rfl rfl rfl rfl rfl rfl) hoff (Nat.ne_of_gt aL) (Nat.ne_of_gt (Nat.lt_trans aL am)) hoL r (fun _ _ => trivial) ?_
      rotate_left
      · rw [ho] at hS'
        rw [sd_nilR hS'] at hR1 hR2
        exact ⟨ms, us, W1, hR1, by dsimp only; rw [ho]; exact hR2⟩
      dsimp only
      walk_at "GO"
      · rename (e < a) => hlt
        unfold Hold
        rename Fr _ _ _ _ => F3
        rename News _ _ _ _ => N3
        refine append_K F3 (News.re N3 mem_ba) (Upd.head (ne_cons (Nat.ne_of_gt am) (ne_cons (Nat.ne_of_lt aL) fun p hp => Nat.ne_of_lt (l1 p (.tail _ hp))))) (fun h8 F8 N8 => ?_) (by have := W1.lm; have := ints_len W1.hm; simp only [List.size_toArray]; rw [sizeLine_eq]; dsimp only at *; omega)
        clear F3 N3
        dsimp only
        walk_at "GO"
        unfold Hold
        rename Fr _ _ _ _ => F4
        rename News _ _ _ _ => N4
        rw [← push_arr] at N4
        replace N4 := News.re N4 mem_ba
        have hlt1 := lt_in he
        refine skip_loop (ns := ex) F4 N4 rfl rfl rfl (by decide) (by decide) (mem3 hx1) hie (by omega) (by omega) (by omega) (fun _ _ => .inl rfl) (fun i' ti' h' tk' k0 k1 hd F5 N5 => ?_) (fun i' ti' h hh tk' a5 k0 k1 hd ho F5 N5 r => ?_) (ex_passes t2) rfl rfl rfl rfl (by decide) (by decide) (by decide)
        · have hE := lt_end (te := te) (sl' := sl) (nm' := nm + 1) (nu' := nu) (ti' := ti') W1 hS' hR1 hR2 he ha hlt k0 k1 hd
          dsimp only
          walk_at "GO"
          unfold Hold
          refine ksw_end ⟨i', ti', j, tj, sl, vm ++ [Value.int e te], nm + 1, vu, nu⟩ F5 N5 (fun _ h => h) trivial ?e1 ?e2 hE.1 hE.2
          case e1 => exact all2 rfl rfl
          case e2 => ksw_same
        · refine ks_raise ⟨i', ti', j, tj, sl, vm ++ [Value.int e te], nm + 1, vu, nu⟩ F5 N5 (all6 rfl rfl rfl rfl rfl rfl) hoff (Nat.ne_of_gt aL) (Nat.ne_of_gt (Nat.lt_trans aL am)) hoL r (fun _ _ => trivial) (lt_out W1 hS' hR1 hR2 he ha hlt k0 k1 hd ho)
      · rename (a < e) => hlt
        unfold Hold
        rename Fr _ _ _ _ => F3
        rename News _ _ _ _ => N3
        refine append_K F3 N3 (Upd.head (ne_cons (Nat.ne_of_lt am) (ne_cons (Nat.ne_of_lt (Nat.lt_trans aL am)) fun p hp => Nat.ne_of_lt (hm2 p (.tail _ (.tail _ hp)))))) (fun h8 F8 N8 => ?_) (by have := W1.lu; have := ints_len W1.hu; simp only [List.size_toArray]; rw [sizeLine_eq]; dsimp only at *; omega)
        clear F3 N3
        dsimp only
        walk_at "GO"
        unfold Hold
        rename Fr _ _ _ _ => F4
        rename News _ _ _ _ => N4
        rw [← push_arr] at N4
        have hlt1 := lt_in ha
        refine skip_loop (ns := ac) F4 N4 rfl rfl rfl (by decide) (by decide) (mem3 hx2) hia (by omega) (by omega) (by omega) (fun _ _ => .inl rfl) (fun i' ti' h' tk' k0 k1 hd F5 N5 => ?_) (fun i' ti' h hh tk' a5 k0 k1 hd ho F5 N5 r => ?_) (ex_passes t2) rfl rfl rfl rfl (by decide) (by decide) (by decide)
        · have hE := gt_end (te := ta) (sl' := sl) (nm' := nm) (nu' := nu + 1) (tj' := ti') (ti := ti) W1 hS' hR1 hR2 he ha hlt k0 k1 hd
          dsimp only
          walk_at "GO"
          unfold Hold
          refine ksw_end ⟨i, ti, i', ti', sl, vm, nm, vu ++ [Value.int a ta], nu + 1⟩ F5 N5 (fun _ h => h) trivial ?e1b ?e2b hE.1 hE.2
          case e1b => exact all2 rfl rfl
          case e2b => ksw_same
        · exact ks_raise ⟨i, ti, i', ti', sl, vm, nm, vu ++ [Value.int a ta], nu + 1⟩ F5 N5 (all6 rfl rfl rfl rfl rfl rfl) hoff (Nat.ne_of_gt aL) (Nat.ne_of_gt (Nat.lt_trans aL am)) hoL r (fun _ _ => trivial) (gt_out W1 hS' hR1 hR2 he ha hlt k0 k1 hd ho)
      · have q : a = e := by omega
        subst q
        unfold Hold
        rename Fr _ _ _ _ => F3
        rename News _ _ _ _ => N3
        have hlt1 := lt_in he
        have hlt2 := lt_in ha
        refine try_fin2 (K1 := KS x1 x2 mi ui news (SP ex ac R j a ta)) t2 (fun _ _ => rfl) ?fb ?fr trivial
        case fb =>
          walk_at "GO"
          unfold Hold
          refine skip_loop (ns := ex) F3 N3 rfl rfl rfl (by decide) (by decide) (mem3 hx1) hie (by omega) (by omega) (by omega) (fun _ _ => .inl rfl) (fun i' ti' h' tk' k0 k1 hd F5 N5 => ?_) (fun i' ti' h hh tk' a5 k0 k1 hd ho F5 N5 r => ?_) (ex_passes t2) rfl rfl rfl rfl (by decide) (by decide) (by decide)
          · clear F3 N3
            dsimp only
            walk_at "GO"
            unfold Hold
            rename Fr _ _ _ _ => F4
            rename News _ _ _ _ => N4
            refine skip_loop (ns := ac) F4 N4 rfl rfl rfl (by decide) (by decide) (mem3 hx2) hia (by omega) (by omega) (by omega) (fun _ _ => .inl rfl) (fun j' tj' h' tk' l0 l1 ld F5 N5 => ?_) (fun j' tj' h hh tk' a5 l0 l1 ld lo F5 N5 r => ?_) (ex_passes t2) rfl rfl rfl rfl (by decide) (by decide) (by decide)
            · have hE := eq_end (sl' := sl) (nm' := nm) (nu' := nu) (ti' := ti') (tj' := tj') W1 hS' hR1 hR2 he ha k0 k1 hd l0 l1 ld
              dsimp only
              walk_at "GO"
              unfold Hold
              refine ksw_end ⟨i', ti', j', tj', sl, vm, nm, vu, nu⟩ F5 N5 (fun _ h => h) trivial ?e1c ?e2c hE.1 hE.2
              case e1c => exact all2 rfl rfl
              case e2c => ksw_same
            · exact ks_raise ⟨i', ti', j', tj', sl, vm, nm, vu, nu⟩ F5 N5 (all6 rfl rfl rfl rfl rfl rfl) hoff (Nat.ne_of_gt aL) (Nat.ne_of_gt (Nat.lt_trans aL am)) hoL r (fun _ _ => trivial) (eq_outj W1 hS' hR1 hR2 he ha k0 k1 hd l0 l1 ld lo)
          · have hE := eq_outi W1 hS' hR1 hR2 he ha hd
            exact ks_raise ⟨i', ti', j, tj, sl, vm, nm, vu, nu⟩ F5 N5 (all6 rfl rfl rfl rfl rfl rfl) hoff (Nat.ne_of_gt aL) (Nat.ne_of_gt (Nat.lt_trans aL am)) hoL r (fun c h => h rfl) ⟨rfl, rfl, ms, us, W1.at k0 k1 W1.j0 W1.j1, ho, hE.1, hE.2⟩
        case fr =>
          clear F3 N3
          rintro a9 T9 oe9 oT9 h9 tk9 m9 led9 sl9 ⟨⟨i9, ti9, j9, tj9, sl8, vm9, nm9, vu9, nu9⟩, rfl, hk9, ha9, hj9, ms9, us9, W9, ho9, hm9, hu9⟩ F9 N9 pd
          dsimp only at hj9
          subst hj9
          replace F9 := fr_named F9 (ps := (Str.ofString "a", Value.int a ta) :: psS x1 x2 mi ui ⟨i9, ti9, j9, tj9, sl8, vm9, nm9, vu9, nu9⟩) (List.forall_mem_cons.mpr ⟨ha9, hk9⟩)
          dsimp only [kstB, envOf, ledS, psS] at F9 N9
          walk_at "GO"
          unfold Hold
          rename Fr _ _ _ _ => F4
          rename News _ _ _ _ => N4
          refine skip_loop (ns := ac) F4 N4 rfl rfl rfl (by decide) (by decide) (.tail _ (.tail _ (mem3 hx2))) hia (by omega) (by omega) (by omega) (fun _ N => pd.ctx N) (fun j' tj' h' tk' l0 l1 ld F5 N5 => ?_) (fun j' tj' h hh tk' a5 l0 l1 ld lo F5 N5 r => ?_) (ex_passes (t2.mark _)) rfl rfl rfl rfl (by decide) (by decide) (by decide)
          · dsimp only
            refine wpAny_execs_nil ⟨rfl, _, _, _, _, _, rfl, F5, N5, pd.off, ⟨i9, ti9, j', tj', sl8, vm9, nm9, vu9, nu9⟩, rfl, all6 rfl rfl rfl rfl rfl rfl, ms9, us9, W9.at W9.i0 W9.i1 l0 l1, ?_, ?_⟩
            · dsimp only at ho9 ⊢; rw [ho9, hm9]; simp
            · dsimp only; rw [← ld]; exact hu9
          · refine ks_raise ⟨i9, ti9, j', tj', sl8, vm9, nm9, vu9, nu9⟩ F5 (News.re N5 mem_fin) (all6 rfl rfl rfl rfl rfl rfl) hoff (Nat.ne_of_gt aL) (Nat.ne_of_gt (Nat.lt_trans aL am)) hoL r (fun _ _ => trivial) ⟨ms9, us9, W9.at W9.i0 W9.i1 l0 l1, ?_, ?_⟩
            · dsimp only at ho9 ⊢; rw [ho9, hm9]; simp
            · dsimp only; rw [ld] at hu9; rw [lo]; exact hu9
    case hsuite =>
      rintro a9 h9 tk9 m9 led9 sl9 ⟨⟨i9, ti9, j9, tj9, sl8, vm9, nm9, vu9, nu9⟩, rfl, hk9, ms9, us9, W9, hm9, hu9⟩ F9 N9 hoff9
      clear F1 N1 i0 i1 j0 j1 hR1 hR2 hS' W1
      have i0 := W9.i0
      have i1 := W9.i1
      have j0 := W9.j0
      have j1 := W9.j1
      dsimp only at i0 i1 j0 j1
      replace F9 := fr_named F9 hk9
      dsimp only [kstB, envOf, ledS, psS] at F9 N9
      walk_at "GO"
      unfold Hold
      have g1 : ui ≠ mi := Nat.ne_of_gt am
      have g2 : L ≠ mi := Nat.ne_of_lt aL
      have g3 : L ≠ ui := Nat.ne_of_lt (Nat.lt_trans aL am)
      have g4 : ∀ p ∈ news, p.1 ≠ mi := fun p hp => Nat.ne_of_lt (l1 p (.tail _ hp))
      have g5 : ∀ p ∈ news, p.1 ≠ ui := fun p hp => Nat.ne_of_lt (hm2 p (.tail _ (.tail _ hp)))
      refine kmk_slice_ints F9 N9 (News.isList N9 (mem3 hx1)) (IsPart.int _ _) IsPart.none hie (kmk_from hie i0) rfl (fun D1 ws1 h1 F1 N1 m1 hI1 _ k1 => ?_) (by with_unfolding_all rfl) (by intro _; with_unfolding_all rfl) (by rw [List.size_toArray, hie.length, sizeLine_eq]; omega)
      dsimp only
      walk_at "GO"
      unfold Hold
      have f1 : mi < D1 := m1 _ (.tail _ (.tail _ (.head _)))
      have f2 : ui < D1 := m1 _ (.tail _ (.head _))
      refine extend_K F1 (News.re N1 mem_e1) (ne_cons g1 (ne_cons (Nat.ne_of_gt f1) (ne_cons g2 g4))) (.tail _ (.head _)) W9.hm hI1 (by have := W9.lm; omega) (fun h2 n2 F2 N2 hI2 => ?_)
      clear F1 N1
      dsimp only
      walk_at "GO"
      unfold Hold
      rename Fr _ _ _ _ => F3
      rename News _ _ _ _ => N3
      refine kmk_slice_ints F3 N3 (News.isList N3 (.tail _ (mem3 hx2))) (IsPart.int _ _) IsPart.none hia (kmk_from hia j0) rfl (fun D2 ws2 h3 F4 N4 m2 hI3 _ k2 => ?_) (by with_unfolding_all rfl) (by intro _; with_unfolding_all rfl) (by rw [List.size_toArray, hia.length, sizeLine_eq]; omega)
      clear F3 N3
      dsimp only
      walk_at "GO"
      unfold Hold
      have f4 : ui < D2 := m2 _ (.tail _ (.head _))
      refine extend_K F4 (News.re N4 mem_e2) (ne_cons (Ne.symm g1) (ne_cons (Nat.ne_of_gt f4) (ne_cons (Nat.ne_of_gt f2) (ne_cons g3 g5)))) (.tail _ (.head _)) W9.hu hI3 (by have := W9.lu; omega) (fun h5 n5 F5 N5 hI5 => ?_)
      clear F4 N4
      dsimp only
      walk_at "GO"
      rename Fr _ _ _ _ => F6
      rename News _ _ _ _ => N6
      with_reducible rename (_ < _ ∧ _ < _ ∧ _) => l6
      refine ⟨_, sl9, _, F6, News.re N6 mem_e3, ?_, fun F7 N7 => ?_⟩
      · exact ne_cons (Nat.ne_of_gt l6.2.2.2.2.1) (ne_cons (Ne.symm g3) (ne_cons (Ne.symm g2) hoff))
      · dsimp only at hm9 hu9
        exact hret _ mi ui (vm9 ++ ws1) (vu9 ++ ws2) _ _ _ _ _ (hm9 ▸ hI2) (hu9 ▸ hI5) (fun p hp => l1 p (.tail _ hp)) am l6.1 F7 N7

end
end
section

local macro_rules | `(tactic| walk_at "call ref") => `(tactic| (k_here; (with_reducible show wpAny _ _ (call (Value.ref 74) _) _ _ _); k_dflt (refine' text_tells ?k1 ?k2 ?k3 ?k4 ?k5 ?k6 ?kl ?ki ?kn ?k7 ?k8 ?_; (case k2 => k_asm); (case k1 => assumption); (case k3 => k_asm); (case k4 => k_asm); (case k5 => k_asm); (case k6 => exact rfl); (case kl => assumption); (case ki => assumption); (case kn => omega); (case k7 => ktr_room); (case k8 => ktr_units)); intro text ttx hT tkT hlT hcT FT NT; (try dsimp only)))
local macro_rules | `(tactic| walk_at "call ref") => `(tactic| (k_here; (with_reducible show wpAny _ _ (call (Value.ref 81) _) _ _ _); k_dflt (refine' names_tells ?k1 ?k2 ?k3 ?k4 ?k5 ?k6 _ _ ?kl ?kt ?k7 ?k8 ?_; (case k2 => k_asm); (case k1 => assumption); (case k3 => k_asm); (case k4 => k_asm); (case k5 => k_asm); (case k6 => exact rfl); (case kl => omega); (case kt => first | assumption | omega); (case k7 => ktr_room); (case k8 => ktr_units)); intro nl its epN hNN tkN hits hlN FNN NNN; k_lt hlN; (try dsimp only)))
local macro_rules | `(tactic| walk_at "call ref") => `(tactic| (k_here; (with_reducible show wpAny _ _ (call (Value.ref 88) _) _ _ _); k_dflt (refine' refused_tells ?k1 ?k2 ?k3 ?k4 ?k5 ?k6 ?ko ?kx ?ky _ _ ?kl ?k7 ?k8 ?_; (case k2 => k_asm); (case k1 => assumption); (case k3 => k_asm); (case k4 => k_asm); (case k5 => k_asm); (case k6 => exact rfl); (case ko => exact rfl); (case kx => assumption); (case ky => assumption); (case kl => omega); (case k7 => ktr_room); (case k8 => ktr_units)); intro hRR tkR FRR NRR; (try dsimp only)))
local macro_rules | `(tactic| walk_at "execs cons") => `(tactic| (k_here; k_dflt (refine' execs_gen ?kp ?_; (case kp => first | assumption | omega)); intro tk hpos9))
local macro_rules | `(tactic| walk_at "forall") => `(tactic| (intro hpos9))
local macro_rules | `(tactic| walk_at "compareOp Eq ref ref") => `(tactic| ((with_reducible show wpAny _ _ (compareOp _ (Value.ref _) (Value.ref _)) _ _ _); refine hold ?_))
local macro_rules | `(tactic| walk_at "call builtin:len") => `(tactic| ((with_reducible show wpAny _ _ (call (Value.builtin "len") [Value.ref _]) _ _ _); refine hold ?_))
local macro_rules | `(tactic| walk_at "subscriptTail Name Name ref int") => `(tactic| ((with_reducible show wpAny _ _ (subscriptTail _ _ (Value.ref _) (Value.int _ _)) _ _ _); refine hold ?_))
local macro_rules | `(tactic| walk_at "subscriptTail Name Call ref int") => `(tactic| ((with_reducible show wpAny _ _ (subscriptTail _ _ (Value.ref _) (Value.int _ _)) _ _ _); refine hold ?_))
local macro_rules | `(tactic| walk_at "subscriptTail Name BinOp ref int") => `(tactic| ((with_reducible show wpAny _ _ (subscriptTail _ _ (Value.ref _) (Value.int _ _)) _ _ _); refine hold ?_))
local macro_rules | `(tactic| walk_at "call ref") => `(tactic| ((with_reducible show wpAny _ _ (call (Value.ref 95) _) _ _ _); refine hold ?_))
local macro_rules | `(tactic| walk_at "call ref") => `(tactic| ((with_reducible show wpAny _ _ (call (Value.ref 53) _) _ _ _); refine hold ?_))
local macro_rules | `(tactic| walk_at "call ref") => `(tactic| ((with_reducible show wpAny _ _ (call (Value.ref 60) _) _ _ _); refine hold ?_))
local macro_rules | `(tactic| walk_at "L95") => `(tactic| (k_dflt (refine' longer_tells ?k1 ?k2 ?k3 ?k4 ?k5 ?k6 _ _ _ _ ?kl ?km ?h1 ?h2 ?h3 ?k7 ?k8 ?k9; (case k2 => k_asm); (case k1 => assumption); (case k3 => k_asm); (case k4 => k_asm); (case k5 => k_asm); (case k6 => exact rfl); (case kl => omega); (case km => omega); (case k7 => ktr_room); (case k8 => ktr_units))))
local macro_rules | `(tactic| walk_at "eval IfExp BoolOp Name Subscript") => `(tactic| ((with_reducible show wpAny _ _ (eval (PySem.Expr.IfExp _ _ _ _) _) _ _ _); refine hold ?_))
local macro_rules | `(tactic| walk_at "eval IfExp Compare") => `(tactic| ((with_reducible show wpAny _ _ (eval (PySem.Expr.IfExp _ _ _ _) _) _ _ _); refine hold ?_))
local macro_rules | `(tactic| walk_at "subscriptTail Name Slice ref ref") => `(tactic| ((with_reducible show wpAny _ _ (subscriptTail _ _ (Value.ref _) (Value.ref _)) _ _ _); refine hold ?_))
local macro_rules | `(tactic| walk_at "call type:list") => `(tactic| ((with_reducible show wpAny _ _ (call (Value.type "list") [Value.ref _]) _ _ _); refine hold ?_))
local macro_rules | `(tactic| walk_at "call builtin:sorted") => `(tactic| ((with_reducible show wpAny _ _ (call (Value.builtin _) [Value.ref _]) _ _ _); refine hold ?_))
local macro_rules | `(tactic| walk_at "compareOp NotEq ref ref") => `(tactic| ((with_reducible show wpAny _ _ (compareOp _ (Value.ref _) (Value.ref _)) _ _ _); refine hold ?_))
local macro_rules | `(tactic| walk_at "compareOp IsNot ref ref") => `(tactic| ((with_reducible show wpAny _ _ (compareOp _ (Value.ref _) (Value.ref _)) _ _ _); refine hold ?_))
local macro_rules | `(tactic| walk_at "call builtin:list.append") => `(tactic| ((with_reducible show wpAny _ _ (call (Value.builtin _) [Value.ref _, _]) _ _ _); refine hold ?_))
local macro_rules | `(tactic| walk_at "call builtin:list.count") => `(tactic| ((with_reducible show wpAny _ _ (call (Value.builtin _) [Value.ref _, _]) _ _ _); refine hold ?_))
local macro_rules | `(tactic| walk_at "exec Assign cons ListComp") => `(tactic| ((with_reducible show wpAny _ _ (exec (Stmt.Assign _ _ _) _) _ _ _); refine hold ?_))
local macro_rules | `(tactic| walk_at "eval ListComp") => `(tactic| ((with_reducible show wpAny _ _ (eval (PySem.Expr.ListComp _ _ _ _) _) _ _ _); refine hold ?_))
local macro_rules | `(tactic| walk_at "binaryOp Mult ref int") => `(tactic| ((with_reducible show wpAny _ _ (binaryOp _ (Value.ref _) (Value.int _ _)) _ _ _); refine hold ?_))
local macro_rules | `(tactic| walk_at "binaryOp Add ref ref") => `(tactic| ((with_reducible show wpAny _ _ (binaryOp _ (Value.ref _) (Value.ref _)) _ _ _); refine hold ?_))
local macro_rules | `(tactic| walk_at "CompSrcT") => `(tactic| refine hold ?_)
local macro_rules | `(tactic| walk_at "CompSrc") => `(tactic| refine hold ?_)
local macro_rules | `(tactic| walk_at "SrcDown") => `(tactic| refine hold ?_)
local macro_rules | `(tactic| walk_at "GotInt") => `(tactic| refine hold ?_)
local macro_rules | `(tactic| walk_at "Turned") => `(tactic| refine hold ?_)
local macro_rules | `(tactic| walk_at "call builtin:sum") => `(tactic| ((with_reducible show wpAny _ _ (call (Value.builtin _) [Value.ref _]) _ _ _); refine hold ?_))
local macro_rules | `(tactic| walk_at "subscriptTail Name UnaryOp ref int") => `(tactic| ((with_reducible show wpAny _ _ (subscriptTail _ _ (Value.ref _) (Value.int _ _)) _ _ _); refine hold ?_))
theorem law_holds : PySem.Challenge.rw_tv0016_01.Holds :=
  hd (by
    w_strict (
      k_go0
      (all_goals try k_fold)
      walk_at "GO"
      unfold Hold
      (with_reducible rename List.map _ _ = _ => hits)
      (with_reducible rename News _ _ _ _ => N1)
      have hits' := by simpa using congrArg List.length hits
      refine PySem.P.eq_list_lengths (N1 _ (.tail _ (.head _))).1 (N1 _ (.head _)).1 (by simp [hits']) (by ktr_units) ?_
      dsimp only
      walk_at "GO"
      unfold Hold
      (with_reducible rename News _ _ _ _ => N2)
      refine len_own N2 (.tail _ (.tail _ (.head _))) (by simpa using hits') (by omega) ?_
      dsimp only
      walk_at "GO"
      unfold Hold
      (with_reducible rename Str => text)
      (with_reducible rename List (Str × Tok) => its)
      (with_reducible rename (_ < _ ∧ _ < _ ∧ _ < _ ∧ _ < _ ∧ _ < _) => lw)
      (with_reducible rename (_ < _ ∧ _ < _ ∧ _ < _ ∧ _ < _) => lt)
      (with_reducible rename (_ < _ ∧ _ < _ ∧ _ < _) => ln)
      (with_reducible rename Fr _ _ _ _ => F1)
      (with_reducible rename News _ _ _ _ => N1)
      (with_reducible rename IsRange _ _ _ _ _ _ _ _ => R1)
      (refine' kst_range (σ := LS) (n := text.length + 1) (fun c => [(_, W.listOf c.vs.toArray c.e), (_, W.listOf #[] 0), (_, W.listOf (its.map fun (p : Str × Tok) => Value.str p.1 p.2).toArray _), (_, _), (_, c.od), (_, _)]) (fun _ => []) (fun c => ∃ v, c.od.data = Data.cell v) [Str.ofString "take", Str.ofString "last", Str.ofString "told", Str.ofString "others", Str.ofString "alone", Str.ofString "gone", Str.ofString "numbers", Str.ofString "number", Str.ofString "k"]
        (fun pre c => ∃ ws, IntsAre c.vs ws ∧ Worth (sg text) pre.length ws) ⟨[], 0, _⟩ rfl R1 ?q1 ?q2 F1 N1 ⟨_, by assumption⟩ (fun _ h => nomatch h) ⟨[], .nil, rfl, fun h => absurd h (by decide)⟩ ?turn ?done)
      case q1 => exact small_one (by omega) (by omega) (by omega) (by omega)
      case q2 => rw [rangeSize_nat]; omega
      case done =>
        clear F1 N1 R1
        (with_reducible rename IntsAre _ _ => hI)
        rintro ⟨vs, ew, od⟩ u h tks ⟨v₀, hod⟩ ⟨ws, hws, hW⟩ F1 N1
        dsimp only [kstB, envOf] at F1 N1 hws hod
        rw [rangeKs_length] at hW
        have hvl := worth_len hW hws
        have hIl := hI.length
        walk_at "GO"
        unfold Hold
        (with_reducible rename Fr _ _ _ _ => F2)
        (with_reducible rename News _ _ _ _ => N2)
        k_dflt (refine' kmk_slice3_lit F2 N2 (Fr.lst F2 (by assumption)) (IsPart.int _ _) IsPart.none (IsPart.int _ _) (by decide) rfl ?zh ?zs ?zt ?zz)
        case zs => with_unfolding_all rfl
        case zt => intro _; with_unfolding_all rfl
        case zz => rw [List.size_toArray, sizeLine_eq]; omega
        case zh =>
          intro D1 h1 F3 N3 l3
          dsimp only
          walk_at "GO"
          unfold Hold
          obtain ⟨ms, hms⟩ := ints_pick hI (some 7) none (some 8)
          refine sumK rfl F3 N3 (News.isList N3 (.head _)) hms fun h2 tk2 t2 F4 N4 => ?_
          obtain ⟨b, hb, hb10⟩ := mod_ten (3 + ms.sum)
          replace N4 := drop1 N4
          clear F3 N3
          dsimp only
          walk_at "GO"
          unfold Hold
          (with_reducible rename (Obj.data _ = Data.cell (some (Value.int _ _))) => db)
          rw [hb] at db
          (with_reducible rename Fr _ _ _ _ => F5)
          k_dflt (refine LCt.ListComp_T (F₀ := F5) (by with_unfolding_all rfl) (by decide) (by rfl) (by decide) (by rfl) ?_)
          walk_at "GO"
          unfold Hold
          (with_reducible rename Fr _ _ _ _ => F6)
          (with_reducible rename News _ _ _ _ => N6)
          k_dflt (refine LCt.CompSrcT.ledger (by rfl) F6 N6 at0 (by rw [List.size_toArray, sizeLine_eq]; omega) ?_)
          intro g
          k_dflt (refine rest_T (n := vs.toArray.size) (fun i ys => IntsAre ys ((ws.take i).filter fun y => decide ((b : Int) ≤ y))) (Or.inr ⟨_, at0, rfl, _, rfl⟩) ?tturn ?tfin _ 0 [] (by omega) .nil)
          case tturn =>
            intro i v Ia oI C oC D m₂ h6 tk6 E' ys hi hys hv hC hx F16 N16
            obtain ⟨e9, te9, rfl, hw9⟩ := ints_get hws (i := i) (v := v) (by simpa using hv)
            dsimp only
            walk_at "GO"
            · exact turned (over_yes hys hw9 (by assumption))
            · exact turned (over_no hys hw9 (by assumption))
          case tfin =>
            intro ys hys
            have hall : ws.take vs.toArray.size = ws := List.take_of_length_le (by rw [List.size_toArray, hws.length]; omega)
            rw [hall] at hys
            have hy1 := hys.length
            have hy2 := List.length_filter_le (fun y => decide ((b : Int) ≤ y)) ws
            have hy3 := hws.length
            walk_at "GO"
            unfold Hold
            (with_reducible rename Fr _ _ _ _ => F7)
            (with_reducible rename News _ _ _ _ => N7)
            refine sorted_own F7 N7 at0 hys (by omega) ?_
            intro A2 ua sa ca h7 F8 N8 l8 ia8 ja8 pa8 oa8
            have hpa := pa8.length_eq
            dsimp only
            walk_at "GO"
            unfold Hold
            (with_reducible rename List.map _ _ = _ => hits)
            (with_reducible rename News _ _ _ _ => N9)
            refine names_last N9 at4 hits (by omega) ?_
            intro yl tl hyl hyb
            dsimp only
            walk_at "GO"
            unfold Hold
            (with_reducible rename Fr _ _ _ _ => F10)
            (with_reducible rename News _ _ _ _ => N10)
            (with_reducible rename IsRange _ _ _ _ _ _ _ _ => R10)
            refine list_rg rfl F10 N10 R10 (i := tk (sg text) text.length + 1) (j := b) (by omega) rfl (by omega) (by omega) ?_
            intro B3 ub cb h8 tk8 F11 N11 l11 ib jb
            clear F10 N10 R10
            dsimp only
            walk_at "GO"
            unfold Hold
            (with_reducible rename Fr _ _ _ _ => F12)
            (with_reducible rename News _ _ _ _ => N12)
            refine sorted_own F12 N12 at3 hws (by omega) ?_
            intro D3 u3 s3 c3 h9 F13 N13 l13 i13 j13 p13 o13
            have hp3 := p13.length_eq
            dsimp only
            walk_at "GO"
            unfold Hold
            (with_reducible rename Fr _ _ _ _ => F14)
            (with_reducible rename News _ _ _ _ => N14)
            (with_reducible rename IsRange _ _ _ _ _ _ _ _ => R14)
            refine list_up rfl F14 N14 R14 rfl (j := b) rfl (by omega) ?_
            intro D4 u4 c4 h10 tk10 F15 N15 l15 i15 j15
            clear F14 N14 R14
            dsimp only
            walk_at "GO"
            unfold Hold
            k_dflt (refine' sorted_tells F15 ?k3 N15 ?k5 ?k6 at1 at0 i13 i15 (call_bound hW p13 o13 pa8 oa8) ?a1 ?a2 ?a3 ?a4 ?k7 ?k8 ?kr)
            case k3 => k_asm
            case k5 => k_asm
            case k6 => exact rfl
            case a1 => omega
            case a2 => rw [up_len]; omega
            case a3 => show sa.length ≤ 200; omega
            case a4 => show (rg _ _).length ≤ 200; rw [rg_len]; omega
            case k7 => ktr_room
            case k8 => ktr_units
            case kr =>
              intro t1 m1 q1 vm1 vu1 nm1 nu1 nt1 h11 tk11 im1 iu1 lm1 lq1 lt1 F16 N16
              replace im1 : IntsAre vm1 sa := im1
              replace iu1 : IntsAre vu1 (rg (tk (sg text) text.length + 1) b) := iu1
              dsimp only
              walk_at "GO"
              unfold Hold
              (with_reducible rename News _ _ _ _ => N17)
              refine ne_pair N17 at1 at0 at3 at2 at7 at6 im1 iu1 ia8 ib (by ke_room) ?_
              replace N17 := drop6 N17
              dsimp only
              walk_at "GO"
              unfold Hold
              (with_reducible rename Fr _ _ _ _ => F18)
              (with_reducible rename News _ _ _ _ => N18)
              (with_reducible rename IsRange _ _ _ _ _ _ _ _ => R18)
              refine list_up rfl F18 N18 R18 rfl (j := b) rfl (by omega) ?_
              intro D5 u5 c5 h12 tk12 F19 N19 l19 i19 j19
              clear F18 N18 R18
              dsimp only
              walk_at "GO"
              unfold Hold
              (with_reducible rename Fr _ _ _ _ => F20)
              (with_reducible rename News _ _ _ _ => N20)
              refine sorted_own F20 N20 at4 hws (by omega) ?_
              intro D6 u6 s6 c6 h13 F21 N21 l21 i21 j21 p21 o21
              have hp6 := p21.length_eq
              dsimp only
              walk_at "GO"
              unfold Hold
              k_dflt (refine' sorted_tells F21 ?k3 N21 ?k5 ?k6 at1 at0 i19 i21 (sd_symm (call_bound hW p21 o21 pa8 oa8)) ?a1 ?a2 ?a3 ?a4 ?k7 ?k8 ?kr)
              case k3 => k_asm
              case k5 => k_asm
              case k6 => exact rfl
              case a1 => rw [up_len]; omega
              case a2 => omega
              case a3 => show (rg _ _).length ≤ 200; rw [rg_len]; omega
              case a4 => show sa.length ≤ 200; omega
              case k7 => ktr_room
              case k8 => ktr_units
              case kr =>
                intro t2 m2 q2 vm2 vu2 nm2 nu2 nt2 h14 tk14 im2 iu2 lm2 lq2 lt2 F22 N22
                replace im2 : IntsAre vm2 (rg (tk (sg text) text.length + 1) b) := im2
                replace iu2 : IntsAre vu2 sa := iu2
                dsimp only
                walk_at "GO"
                unfold Hold
                (with_reducible rename News _ _ _ _ => N23)
                refine eq_pair N23 at1 at0 at3 at2 at6 at7 im2 iu2 ib ia8 (by ke_room) ?_
                dsimp only
                walk_at "GO"
                k_end
                wrow_close
      case turn =>
        rintro ⟨vs, ew, od⟩ pre n tn u h tks own hpk hpre hoff ⟨v₀, hod⟩ ⟨ws, hws, hW⟩ F1 N1
        dsimp only [kstB, envOf] at F1 N1 hws hod
        walk_at "GO"
        unfold Hold
        (with_reducible rename List.map _ _ = _ => hits)
        refine names_at N1 (.tail _ (.tail _ (.head _))) hits (by omega) (k := pre.length) (by omega) (by omega) ?_
        intro y ty hy hyl hyb
        dsimp only
        walk_at "GO"
        unfold Hold
        (with_reducible rename News _ _ _ _ => N2)
        refine names_at N2 (.tail _ (.tail _ (.head _))) hits (by omega) (k := pre.length - 1) (by split <;> omega) (by omega) ?_
        intro z tz hz hzl hzb
        dsimp only
        walk_at "GO"
        unfold Hold
        (with_reducible rename News _ _ _ _ => N3)
        refine names_at N3 (.tail _ (.tail _ (.head _))) hits (by omega) (k := pre.length) (by omega) (by omega) ?_
        intro y2 ty2 hy2 hyl2 hyb2
        dsimp only
        walk_at "GO"
        unfold Hold
        have hlong := longer_ok (names_longer hy2 hz (by omega))
        walk_at "L95"
        case h1 => exact hlong.1
        case h2 => exact hlong.2
        case h3 => exact cmp_big (names_small (by assumption) hy2)
        case k9 =>
          intro h3 tk3 F3 N3
          clear hlong
          dsimp only
          walk_at "GO"
          unfold Hold
          refine got_cut (d := due (sg text) pre.length ws) ?ifexp ?rest
          case ifexp =>
            refine IfExp_ ?_
            walk_at "GO"
            · exact got_yes hyl (.inl (by omega))
            · exact got_yes hyl (.inr (by omega))
            · have hvl := worth_len hW hws
              obtain ⟨g1, g2, g3, g4⟩ := due_item hW hws (by omega) (by omega) (by rw [sg_len]; omega)
              unfold Hold
              refine item_own N3 (by k_mem) (k := pre.length - tk (sg text) pre.length - 1) (by omega) g2 (by omega) ?_
              rw [g4]
              exact ⟨_, _, rfl, rfl⟩
          case rest =>
            have hvl := worth_len hW hws
            have hkl : pre.length ≤ (sg text).length := by rw [sg_len]; omega
            have htl := tk_le (sg text) pre.length
            intro td tkd
            dsimp only
            walk_at "GO"
            unfold Hold
            (with_reducible rename Fr _ _ _ _ => F4)
            (with_reducible rename News _ _ _ _ => N4)
            (with_reducible rename IsRange _ _ _ _ _ _ _ _ => R4)
            refine list_up rfl F4 N4 R4 rfl (j := tk (sg text) pre.length + 1) (by omega) (by omega) ?_
            intro D1 u1 c1 h1 tk1 F5 N5 l5 i5 j5
            dsimp only
            walk_at "GO"
            unfold Hold
            (with_reducible rename Fr _ _ _ _ => F6)
            (with_reducible rename News _ _ _ _ => N6)
            k_dflt (refine' slice_own F6 N6 (by k_mem) hws (j := pre.length - tk (sg text) pre.length) ?zx ?zl ?zh ?zs ?zt)
            case zx => omega
            case zl => omega
            case zs => with_unfolding_all rfl
            case zt => intro _; with_unfolding_all rfl
            case zh =>
              intro D2 u2 h2 F7 N7 l7 i7 j7
              dsimp only
              walk_at "GO"
              unfold Hold
              (with_reducible rename Fr _ _ _ _ => F8)
              (with_reducible rename News _ _ _ _ => N8)
              refine sorted_own F8 N8 (.head _) i7 (by omega) ?_
              intro D3 u3 s3 c3 h3 F9 N9 l9 i9 j9 p9 o9
              dsimp only
              walk_at "GO"
              unfold Hold
              have hs3 := i9.length
              k_dflt (refine' sorted_tells F9 ?k3 N9 ?k5 ?k6 ?hx1 ?hx2 i5 i9 (call_due hW hkl p9 o9) ?a1 ?a2 ?a3 ?a4 ?k7 ?k8 ?kr)
              case k3 => k_asm
              case k5 => k_asm
              case k6 => exact rfl
              case hx1 => exact .tail _ (.tail _ (.head _))
              case hx2 => exact .head _
              case a1 => rw [up_len]; omega
              case a2 => omega
              case a3 => show (1 : Nat) ≤ 200; omega
              case a4 => show (0 : Nat) ≤ 200; omega
              case k7 => ktr_room
              case k8 => ktr_units
              case kr =>
                intro t1 m1 q1 vm1 vu1 nm1 nu1 nt1 h4 tk4 im1 iu1 lm1 lq1 lt1 F10 N10
                replace im1 : IntsAre vm1 [due (sg text) pre.length ws] := im1
                replace iu1 : IntsAre vu1 [] := iu1
                obtain ⟨tm1, rfl⟩ := ints_one im1
                obtain rfl := ints_no iu1
                dsimp only
                walk_at "GO"
                unfold Hold
                (with_reducible rename News _ _ _ _ => N11)
                refine ne_pair N11 (.tail _ (.tail _ (.tail _ (.head _)))) (.head _) (.tail _ (.tail _ (.tail _ (.tail _ (.tail _ (.head _)))))) (.tail _ (.tail _ (.tail _ (.tail _ (.head _))))) (.tail _ (.tail _ (.head _))) (.tail _ (.head _)) (.cons _ _ .nil) .nil (.cons _ _ .nil) .nil (by ke_room) ?_
                dsimp only
                walk_at "GO"
                unfold Hold
                (with_reducible rename Fr _ _ _ _ => F12)
                (with_reducible rename News _ _ _ _ => N12)
                replace N12 : News _ _ _ ((_, W.listOf vs.toArray ew) :: (_, W.listOf #[] 0) :: (_, W.listOf (its.map fun (p : Str × Tok) => Value.str p.1 p.2).toArray _) :: (_, _) :: (_, _) :: (_, _) :: own) := fun p hp => N12 p (.tail _ (.tail _ (.tail _ (.tail _ (.tail _ (.tail _ (.tail _ (.tail _ (.tail _ hp)))))))))
                (with_reducible rename Tok => tw)
                refine append_own (x := Value.int (due (sg text) pre.length ws) tw) F12 N12 (ne_cons (Nat.ne_of_lt lw.1) (ne_cons (Nat.ne_of_lt lw.2.1) (ne_cons (Nat.ne_of_lt lw.2.2.1) (ne_cons (Nat.ne_of_lt lw.2.2.2.1) (ne_cons (Nat.ne_of_lt lw.2.2.2.2) fun p hp => hoff p hp _ (.head _)))))) (by omega) ?_
                intro h5 F13 N13
                have hws2 := hws.append (.cons (due (sg text) pre.length ws) tw .nil)
                dsimp only
                walk_at "GO"
                unfold Hold
                (with_reducible rename Fr _ _ _ _ => F14)
                k_dflt (refine LCt.Assign_ListComp_T (F₀ := F14) (by rfl) (by with_unfolding_all rfl) (by with_unfolding_all rfl) (by decide) (by rfl) (by decide) (by rfl) (by rfl) (by rfl) ?_)
                walk_at "GO"
                unfold Hold
                (with_reducible rename Fr _ _ _ _ => F15)
                (with_reducible rename News _ _ _ _ => N15)
                (with_reducible rename IsRange _ _ _ _ _ _ _ _ => R15)
                k_dflt (refine LCt.CompSrcT.range (n := tk (sg text) pre.length + 1) (by rfl) F15 N15 R15 (small_one (by omega) (by omega) (by omega) (by omega)) (by rw [rangeSize_nat]; omega) (by rw [sizeLine_eq]; omega) ?_)
                intro g
                k_dflt (refine rest_T (n := tk (sg text) pre.length + 1) (fun i ys => IntsAre ys ((up i).filter (· != due (sg text) pre.length ws))) trivial ?tturn ?tfin _ 0 [] (by omega) .nil)
                case tturn =>
                  intro i v Ia oI C oC D m₂ h6 tk6 E' ys hi hys hv hC hx F16 N16
                  obtain ⟨tv, rfl⟩ := hv
                  dsimp only
                  walk_at "GO"
                  · exact turned (filt_yes hys (by assumption))
                  · exact turned (filt_no hys (by assumption))
                case tfin =>
                  intro ys hys
                  walk_at "GO"
                  unfold Hold
                  refine got_cut (d := ((often (sg text) pre.length ws : Nat) : Int)) ?ifexp ?rest
                  case ifexp =>
                    refine IfExp_ ?_
                    walk_at "GO"
                    · exact got_one hyl (by assumption)
                    · unfold Hold
                      (with_reducible rename News _ _ _ _ => N17)
                      refine count_list_ints (News.isList N17 (.tail _ (.tail _ (.head _)))) hws2 ?_
                      exact got_count hyl (by assumption)
                  case rest =>
                    have hof := often_le hW
                    intro to tko
                    dsimp only
                    walk_at "GO"
                    unfold Hold
                    (with_reducible rename Fr _ _ _ _ => F17)
                    (with_reducible rename News _ _ _ _ => N17)
                    refine mul_own F17 N17 (.head _) rfl (by omega) ?_
                    intro A5 zs h7 F18 N18 l18 i18 j18
                    replace N18 := fun p hp => N18 p ((List.Sublist.cons₂ _ (List.sublist_cons_self _ _)).subset hp)
                    dsimp only
                    walk_at "GO"
                    unfold Hold
                    (with_reducible rename Fr _ _ _ _ => F19)
                    (with_reducible rename News _ _ _ _ => N19)
                    refine sorted_own F19 N19 at2 hws2 (by rw [List.length_append, List.length_singleton]; omega) ?_
                    intro D6 u6 s6 c6 h8 F20 N20 l20 i20 j20 p20 o20
                    dsimp only
                    walk_at "GO"
                    unfold Hold
                    have hp6 := p20.length_eq
                    have hw6 := hW.1
                    rw [List.length_append, List.length_singleton] at hp6
                    k_dflt (refine' sorted_tells F20 ?k3 N20 ?k5 ?k6 at0 at2 i20 hys (call_alone hW hkl p20 o20) ?a1 ?a2 ?a3 ?a4 ?k7 ?k8 ?kr)
                    case k3 => k_asm
                    case k5 => k_asm
                    case k6 => exact rfl
                    case a1 => omega
                    case a2 => exact Nat.le_trans (List.length_filter_le _ _) (by rw [up_len]; omega)
                    case a3 => show (List.replicate _ _).length ≤ 200; rw [List.length_replicate]; omega
                    case a4 => show (0 : Nat) ≤ 200; omega
                    case k7 => ktr_room
                    case k8 => ktr_units
                    case kr =>
                      intro t2 m2 q2 vm2 vu2 nm2 nu2 nt2 h9 tk9 im2 iu2 lm2 lq2 lt2 F21 N21
                      replace im2 : IntsAre vm2 (List.replicate (often (sg text) pre.length ws) (due (sg text) pre.length ws)) := im2
                      replace iu2 : IntsAre vu2 [] := iu2
                      dsimp only
                      walk_at "GO"
                      unfold Hold
                      (with_reducible rename News _ _ _ _ => N22)
                      refine ne_pair N22 at2 at0 at4 at3 at6 at1 im2 iu2 i18 .nil (by ke_room) ?_
                      dsimp only
                      walk_at "GO"
                      unfold Hold
                      (with_reducible rename Fr _ _ _ _ => F23)
                      (with_reducible rename News _ _ _ _ => N23)
                      replace N23 := drop6 N23
                      refine sorted_own F23 N23 at2 hws2 (by rw [List.length_append, List.length_singleton]; omega) ?_
                      intro D7 u7 s7 c7 h10 F24 N24 l24 i24 j24 p24 o24
                      dsimp only
                      walk_at "GO"
                      unfold Hold
                      have hp7 := p24.length_eq
                      rw [List.length_append, List.length_singleton] at hp7
                      k_dflt (refine' sorted_tells F24 ?k3 N24 ?k5 ?k6 at2 at0 hys i24 (sd_symm (call_alone hW hkl p24 o24)) ?a1 ?a2 ?a3 ?a4 ?k7 ?k8 ?kr)
                      case k3 => k_asm
                      case k5 => k_asm
                      case k6 => exact rfl
                      case a1 => exact Nat.le_trans (List.length_filter_le _ _) (by rw [up_len]; omega)
                      case a2 => omega
                      case a3 => show (0 : Nat) ≤ 200; omega
                      case a4 => show (List.replicate _ _).length ≤ 200; rw [List.length_replicate]; omega
                      case k7 => ktr_room
                      case k8 => ktr_units
                      case kr =>
                        intro t3 m3 q3 vm3 vu3 nm3 nu3 nt3 h11 tk11 im3 iu3 lm3 lq3 lt3 F25 N25
                        replace iu3 : IntsAre vu3 (List.replicate (often (sg text) pre.length ws) (due (sg text) pre.length ws)) := iu3
                        replace im3 : IntsAre vm3 [] := im3
                        dsimp only
                        walk_at "GO"
                        unfold Hold
                        (with_reducible rename News _ _ _ _ => N26)
                        refine ne_pair N26 at2 at0 at4 at3 at1 at6 im3 iu3 .nil i18 (by ke_room) ?_
                        dsimp only
                        walk_at "GO"
                        unfold Hold
                        (with_reducible rename Fr _ _ _ _ => F27)
                        replace N26 := drop8 N26
                        refine copy_own F27 N26 at0 (by rw [List.length_append, List.length_singleton]; omega) ?_
                        intro G8 c8 h12 F28 N28 l28
                        dsimp only
                        walk_at "GO"
                        unfold Hold
                        (with_reducible rename Fr _ _ _ _ => F29)
                        (with_reducible rename News _ _ _ _ => N29)
                        (with_reducible rename IsRange _ _ _ _ _ _ _ _ => R29)
                        refine list_up rfl F29 N29 R29 rfl (j := tk (sg text) pre.length + 1) (by omega) (by omega) ?_
                        intro D9 u9 c9 h13 tk13 F30 N30 l30 i30 j30
                        dsimp only
                        walk_at "GO"
                        unfold Hold
                        refine add_own F30 N30 at1 at0 (.cons _ _ .nil) i30 (by show (1 : Nat) ≤ 1000; omega) (by omega) ?_
                        intro B1 z1 h14 F31 N31 l31 i31 j31
                        dsimp only
                        walk_at "GO"
                        unfold Hold
                        (with_reducible rename Fr _ _ _ _ => F32)
                        (with_reducible rename News _ _ _ _ => N32)
                        refine add_own F32 N32 at1 at0 i31 (.cons _ _ .nil) (by rw [j31, j30, List.length_singleton]; omega) (by show (1 : Nat) ≤ 1000; omega) ?_
                        intro B2 z2 h15 F33 N33 l33 i33 j33
                        dsimp only
                        walk_at "GO"
                        unfold Hold
                        (with_reducible rename Fr _ _ _ _ => F34)
                        (with_reducible rename News _ _ _ _ => N34)
                        replace N34 := pick60 N34
                        rw [hyl] at i33
                        k_dflt (refine' unord_tells F34 ?k3 N34 ?k5 ?k6 rfl hws2 i33 ?hd ?hr1 ?hr2 ?hle ?hla ?k7 ?k8 ?kr)
                        case k3 => k_asm
                        case k5 => k_asm
                        case k6 => exact rfl
                        case hd => exact Nat.ne_of_lt (l33 _ at4)
                        case hr1 => exact fun p hp => Nat.ne_of_lt (l28 p hp)
                        case hr2 => exact fun p hp => Nat.ne_of_lt (l33 p (.tail _ (.tail _ (.tail _ (.tail _ (.tail _ hp))))))
                        case hle => rw [List.length_append, List.length_singleton]; omega
                        case hla => rw [j33, j31, j30, List.length_singleton, List.length_singleton]; omega
                        case k7 => ktr_room
                        case k8 => ktr_units
                        case kr =>
                          intro t4 m4 vm4 va4 n41 n42 nm4 nt4 h16 tk16 im4 ia4 lm4 lt4 F36 N36
                          rw [call_ul hW hkl] at im4 ia4
                          replace im4 : IntsAre vm4 ((ws ++ [due (sg text) pre.length ws]).take (pre.length - tk (sg text) pre.length)).reverse := im4
                          replace ia4 : IntsAre va4 [((tk (sg text) pre.length : Nat) : Int) + 1, ((tk (sg text) pre.length : Nat) : Int) + 2] := ia4
                          dsimp only
                          walk_at "GO"
                          unfold Hold
                          (with_reducible rename Fr _ _ _ _ => F37)
                          k_dflt (refine comp_down F37 (by with_unfolding_all rfl) (by decide) (by rfl) (by decide) (by rfl) ?_)
                          walk_at "GO"
                          unfold Hold
                          (with_reducible rename Fr _ _ _ _ => F38)
                          (with_reducible rename News _ _ _ _ => N38)
                          (with_reducible rename IsRange _ _ _ _ _ _ _ _ => R38)
                          rw [← hyl] at ia4
                          k_dflt (refine ⟨_, _, _, _, _, _, pre.length - tk (sg text) pre.length, _, rfl, rfl, F38, N38, R38, small_down (by omega) (by omega) (by omega) (by omega), by rw [rangeSize_downNat]; omega, by rw [sizeLine_eq]; omega, ?_⟩)
                          rintro _ ⟨g2, rfl⟩
                          k_dflt (refine rest_U (n := pre.length - tk (sg text) pre.length) (fun i ys => IntsAre ys (((ws ++ [due (sg text) pre.length ws]).take (pre.length - tk (sg text) pre.length)).reverse.take i)) trivial ?dturn ?dfin _ 0 [] (by omega) .nil)
                          case dturn =>
                            intro i v Ia oI C oC D m₂ h17 tk17 E' ys' hi hys' hv hC hx F40 N40
                            obtain ⟨_, tv, rfl⟩ := hv
                            dsimp only
                            walk_at "GO"
                            unfold Hold
                            obtain ⟨b1, e9, t9, b2, b3⟩ := back_item hws2 (n := pre.length - tk (sg text) pre.length) (i := i) hi (by rw [List.length_append, List.length_singleton]; omega)
                            refine item_own N40 at7 (k := pre.length - tk (sg text) pre.length - 1 - i) (by omega) b1 (by rw [List.length_append, List.length_singleton]; omega) ?_
                            rw [b2]
                            exact turned (by rw [b3]; exact hys'.append (.cons _ _ .nil))
                          case dfin =>
                            intro ys' hys'
                            rw [back_all] at hys'
                            walk_at "GO"
                            unfold Hold
                            (with_reducible rename News _ _ _ _ => N41)
                            refine ne_pair N41 at3 at0 at4 at6 at2 at1 im4 ia4 hys' (.cons _ _ (.cons _ _ .nil)) (by ke_room) ?_
                            dsimp only
                            walk_at "GO"
                            unfold Hold
                            (with_reducible rename News _ _ _ _ => N42)
                            refine ne_none N42 at6 at0 (by ke_room) ?_
                            dsimp only
                            walk_at "GO"
                            unfold Hold
                            refine wpAny_isNot_ref_self ?_
                            dsimp only
                            walk_at "GO"
                            unfold Hold
                            (with_reducible rename Fr _ _ _ _ => F50)
                            (with_reducible rename News _ _ _ _ => N50)
                            replace N50 := drop8 N50
                            refine' kst_end (LS.mk (vs ++ [Value.int (due (sg text) pre.length ws) tw]) (ew + 1) _) F50 N50 (fun p hp => List.mem_append_left own hp) (fun p hp => .tail _ (.tail _ (.tail _ (.tail _ (.tail _ (.tail _ hp)))))) rfl ⟨_, by assumption⟩ (fun _ h => nomatch h) ?e3 ⟨ws ++ [due (sg text) pre.length ws], hws2, ?hWn⟩
                            case hWn => rw [List.length_append]; exact worth_next hW hkl
                            case e3 =>
                              intro z h1 h2 h3
                              simp only [List.contains_cons, List.contains_nil, Bool.or_false, Bool.or_eq_false_iff, beq_eq_false_iff_ne, ne_eq] at h3
                              simp [h1, h3]))
end
end
end
end Mine

theorem PySem.Challenge.cw_tv0016_01_holds : PySem.Challenge.rw_tv0016_01.Holds :=
  Mine.law_holds
