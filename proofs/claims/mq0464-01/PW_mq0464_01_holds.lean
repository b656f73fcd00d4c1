import PyProof.Rows.All
import Wide.All
import OpenK.AllK
import Wide.FinOn
import PySem.Challenge.RW_mq0464_01
open PySem PySem.W PyProof.Rows
set_option Elab.async false
set_option maxRecDepth 100000
namespace Mine
/-- one sign, as the law draws it -/
def sg (x : Int) : PySem.Str :=
  if x.fmod 3 = 0 then PySem.Str.ofString "."
  else if x.fmod 3 = 1 then PySem.Txt.item (PySem.Str.ofString "abcdef") ((x.fdiv 3).fmod 6)
  else if (x.fdiv 3).fmod 1112064 < 55296 then PySem.Str.mk #[((x.fdiv 3).fmod 1112064).toNat]
  else PySem.Str.mk #[((x.fdiv 3).fmod 1112064 + 2048).toNat]
theorem sg_dot {x : Int} (h : x.fmod 3 = 0) : sg x = PySem.Str.ofString "." := by
  unfold sg; rw [if_pos h]
theorem sg_letter {x : Int} (h0 : x.fmod 3 ≠ 0) (h : x.fmod 3 = 1) : sg x = PySem.Txt.item (PySem.Str.ofString "abcdef") ((x.fdiv 3).fmod 6) := by
  unfold sg; rw [if_neg h0, if_pos h]
theorem sg_low {x : Int} (h0 : x.fmod 3 ≠ 0) (h1 : x.fmod 3 ≠ 1) (h : (x.fdiv 3).fmod 1112064 < 55296) : sg x = PySem.Str.mk #[((x.fdiv 3).fmod 1112064).toNat] := by
  unfold sg; rw [if_neg h0, if_neg h1, if_pos h]
theorem sg_high {x : Int} (h0 : x.fmod 3 ≠ 0) (h1 : x.fmod 3 ≠ 1) (h : ¬ (x.fdiv 3).fmod 1112064 < 55296) : sg x = PySem.Str.mk #[((x.fdiv 3).fmod 1112064 + 2048).toNat] := by
  unfold sg; rw [if_neg h0, if_neg h1, if_neg h]
theorem sg_len (x : Int) : (sg x).length = 1 := by
  unfold sg
  split
  · decide
  · split
    · rfl
    · split <;> rfl
/-- the joined text: all that is kept of it is its size -/
theorem join_any {prog : Program} {w : World} {A : Around} {E : Value → Shared → Prop} {s : Shared} {t : Tok} {Q : Value → Shared → Prop} {D : Addr} {ys : List Value} {l : List Int} (hl : s.heap.IsList D ys.toArray) (hc : CarriedAll ys (l.map fun a => PyData.str (sg a))) (hn : l.length ≤ 24)
    (h : ∀ (x : PySem.Str) (t' k : Nat), x.length ≤ 24 → Q (.str x t') { s with toks := k }) :
    wpAny (model prog w) A (call (.builtin "str.join") [.str (PySem.Str.ofString "") t, .ref D]) Q E s :=
  KT.join_1 hl hc (fun a _ => sg_len a) (by omega) fun t' k e => h _ t' k (by omega)
/-- the first j signs -/
def front (x : PySem.Str) (j : Nat) : PySem.Str := ⟨(x.cps.toList.take j).toArray⟩
/-- the last j signs -/
def back (x : PySem.Str) (j : Nat) : PySem.Str := ⟨(x.cps.toList.drop (x.length - j)).toArray⟩
/-- what both cram and the law's own shortener compute -/
def cut (x : PySem.Str) (k : Int) : PySem.Str :=
  if k < (x.length : Int) then front x ((k - 3).toNat / 2) ++ PySem.Str.ofString "..." ++ back x (((k - 3).toNat + 1) / 2) else x
/-- between the turns of the law's inner loop -/
def Inv (x : PySem.Str) (row pre : List Int) (word : PySem.Str) (least : Int) : Prop :=
  (pre = [] ∧ word = x ∧ least = row.getD 0 0) ∨ word = cut x least

theorem lenL (x : PySem.Str) : x.cps.toList.length = x.length := Array.length_toList
theorem extL {a b : PySem.Str} (h : a.cps.toList = b.cps.toList) : a = b := PySem.Str.ext' (Array.toList_inj.mp h)
theorem appL (a b : PySem.Str) : (a ++ b).cps.toList = a.cps.toList ++ b.cps.toList := by
  rw [PySem.Str.cps_append, Array.toList_append]
theorem frontL (x : PySem.Str) (j : Nat) : (front x j).cps.toList = x.cps.toList.take j := rfl
theorem backL (x : PySem.Str) (j : Nat) : (back x j).cps.toList = x.cps.toList.drop (x.length - j) := rfl
theorem front_len (x : PySem.Str) (j : Nat) : (front x j).length = min j x.length := by
  rw [← lenL, frontL, List.length_take, lenL]
theorem back_len (x : PySem.Str) (j : Nat) : (back x j).length = min j x.length := by
  rw [← lenL, backL, List.length_drop, lenL]; omega
theorem dots_len : (PySem.Str.ofString "...").length = 3 := by decide
theorem front_zero (x : PySem.Str) : front x 0 = PySem.Str.ofString "" := by
  apply extL; rw [frontL, List.take_zero]; decide
theorem back_zero (x : PySem.Str) : back x 0 = PySem.Str.ofString "" := by
  apply extL; rw [backL, Nat.sub_zero, ← lenL, List.drop_length]; decide

theorem item_list {x : PySem.Str} {i : Int} (j : Nat) (e : i = (j : Int)) (h : j < x.length) : (PySem.Txt.item x i).cps.toList = [x.cps.toList[j]'(by rw [lenL]; exact h)] := by
  subst e
  have h' : j < x.cps.size := h
  have q : PySem.Txt.charAt x (j : Int) = some (x.cps[j]'h') := by
    unfold PySem.Txt.charAt
    exact PySem.StrLaws.at_nonneg (Int.natCast_nonneg j) (by simp [h'])
  unfold PySem.Txt.item
  rw [q]
  simp
theorem front_step {x : PySem.Str} {i : Int} (j : Nat) (e : i = (j : Int)) (h : j < x.length) : front x j ++ PySem.Txt.item x i = front x (j + 1) := by
  apply extL
  have h' : j < x.cps.toList.length := by rw [lenL]; exact h
  rw [appL, frontL, frontL, item_list j e h, List.take_add_one, List.getElem?_eq_getElem h']
  rfl
theorem back_step {x : PySem.Str} {i : Int} (j : Nat) (e : i = (x.length : Int) - 1 - (j : Int)) (h : j < x.length) : PySem.Txt.item x i ++ back x j = back x (j + 1) := by
  apply extL
  have h1 : x.length - (j + 1) < x.length := by omega
  have h' : x.length - (j + 1) < x.cps.toList.length := by rw [lenL]; exact h1
  have e2 : x.length - j = x.length - (j + 1) + 1 := by omega
  rw [appL, backL, backL, item_list (x.length - (j + 1)) (by omega) h1, e2, List.drop_eq_getElem_cons h']
  rfl
theorem slice_front {x : PySem.Str} {i : Int} (j : Nat) (e : i = (j : Int)) (h : j ≤ x.length) : PySem.Txt.slice x none (some i) = front x j := by
  subst e
  refine (beq_iff_eq.mp (slice_closes_toL (Int.natCast_nonneg j) (by omega))).trans ?_
  apply extL
  rw [frontL]
  simp
theorem slice_back {x : PySem.Str} {i : Int} (j : Nat) (e : i = (x.length : Int) - (j : Int)) (h : j ≤ x.length) : PySem.Txt.slice x (some i) none = back x j := by
  refine (slice_from_eq (b := (x.length : Int)) (by omega) (by omega) rfl).trans ?_
  apply extL
  rw [backL]
  have e1 : i.toNat = x.length - j := by omega
  have e2 : ((x.length : Int) - i).toNat = j := by omega
  show ((x.cps.toList.drop i.toNat).take ((x.length : Int) - i).toNat) = _
  rw [e1, e2]
  apply List.take_of_length_le
  rw [List.length_drop, lenL]; omega

theorem front_app {a b : PySem.Str} {j : Nat} (h : j ≤ a.length) : front (a ++ b) j = front a j := by
  apply extL
  rw [frontL, frontL, appL, List.take_append_of_le_length (by rw [lenL]; exact h)]
theorem front_front {x : PySem.Str} {i j : Nat} (h : j ≤ i) : front (front x i) j = front x j := by
  apply extL
  rw [frontL, frontL, frontL, List.take_take, Nat.min_eq_left h]
theorem back_app {a b : PySem.Str} {j : Nat} (h : j ≤ b.length) : back (a ++ b) j = back b j := by
  apply extL
  rw [backL, backL, appL, PySem.Str.length_append]
  have e : a.length + b.length - j = a.cps.toList.length + (b.length - j) := by rw [lenL]; omega
  rw [e, List.drop_append]
  simp
theorem back_back {x : PySem.Str} {i j : Nat} (h : j ≤ i) (hi : i ≤ x.length) : back (back x i) j = back x j := by
  apply extL
  rw [backL, backL, backL, back_len, List.drop_drop]
  congr 1
  omega

theorem cut_long {x : PySem.Str} {k : Int} (h : k < (x.length : Int)) : cut x k = front x ((k - 3).toNat / 2) ++ PySem.Str.ofString "..." ++ back x (((k - 3).toNat + 1) / 2) := if_pos h
theorem cut_short {x : PySem.Str} {k : Int} (h : ¬ k < (x.length : Int)) : cut x k = x := if_neg h
theorem cut_len {x : PySem.Str} {k : Int} (h : k < (x.length : Int)) : (cut x k).length = (k - 3).toNat + 3 := by
  rw [cut_long h, PySem.Str.length_append, PySem.Str.length_append, front_len, back_len, dots_len]
  omega
theorem cut_fits {x : PySem.Str} {k : Int} (h : x.length ≤ 24) : (cut x k).length ≤ 24 := by
  by_cases c : k < (x.length : Int)
  · rw [cut_len c]; omega
  · rw [cut_short c]; exact h

/-- THE LAW: crammed twice is crammed once, into the lesser width -/
theorem cut_cut (x : PySem.Str) (L w : Int) : cut (cut x L) w = cut x (if w < L then w else L) := by
  by_cases c : L < (x.length : Int)
  · have hl := cut_len c
    by_cases d : w < ((cut x L).length : Int)
    · have c2 : (if w < L then w else L) < (x.length : Int) := by split <;> omega
      have e : ((if w < L then w else L) - 3).toNat = (w - 3).toNat := by split <;> omega
      rw [cut_long d, cut_long c2, e]
      have q : (w - 3).toNat ≤ (L - 3).toNat := by omega
      have a1 : front (cut x L) ((w - 3).toNat / 2) = front x ((w - 3).toNat / 2) := by
        have z : (w - 3).toNat / 2 ≤ (front x ((L - 3).toNat / 2)).length := by rw [front_len]; omega
        rw [cut_long c, front_app (by rw [PySem.Str.length_append]; omega), front_app z, front_front (by omega)]
      have a2 : back (cut x L) (((w - 3).toNat + 1) / 2) = back x (((w - 3).toNat + 1) / 2) := by
        have z : ((w - 3).toNat + 1) / 2 ≤ (back x (((L - 3).toNat + 1) / 2)).length := by rw [back_len]; omega
        rw [cut_long c, back_app z, back_back (by omega) (by omega)]
      rw [a1, a2]
    · rw [cut_short d]
      have e : (if w < L then w else L) = L := by split <;> omega
      rw [e]
  · rw [cut_short c]
    by_cases d : w < (x.length : Int)
    · have e : (if w < L then w else L) = w := by split <;> omega
      rw [e]
    · have c2 : ¬ (if w < L then w else L) < (x.length : Int) := by split <;> omega
      rw [cut_short d, cut_short c2]

/-- one turn of the law's inner loop -/
theorem inv_eq {x word : PySem.Str} {row pre post : List Int} {n least : Int} (hI : Inv x row pre word least) (he : row = pre ++ n :: post) : cut word n = cut x (if n < least then n else least) := by
  rcases hI with ⟨rfl, rfl, hl⟩ | hw
  · have e : least = n := by rw [hl, he]; rfl
    rw [e]
    congr 1
    split <;> rfl
  · rw [hw]
    exact cut_cut x least n
theorem inv_start {x : PySem.Str} {row : List Int} (h : x.length ≤ 24) : x.length ≤ 24 ∧ x.length ≤ 24 ∧ Inv x row [] x (row.getD (Int.toNat 0) 0) := ⟨h, h, .inl ⟨rfl, rfl, rfl⟩⟩
theorem inv_next {x word : PySem.Str} {row pre post : List Int} {n least : Int} (hx : x.length ≤ 24) (hw : word.length ≤ 24) (hI : Inv x row pre word least) (he : row = pre ++ n :: post) :
    (cut word n).length ≤ 24 ∧ x.length ≤ 24 ∧ Inv x row (pre ++ [n]) (cut word n) (if n < least then n else least) := ⟨cut_fits hw, hx, .inr (inv_eq hI he)⟩

theorem half (k : Int) : k.fdiv 2 = k / 2 := Int.fdiv_eq_ediv_of_nonneg k (by decide)
theorem rest2 (k : Int) : k.fmod 2 = k % 2 := Int.fmod_eq_emod_of_nonneg k (by decide)
/-- cram's two ways -/
theorem cram_way {x : PySem.Str} {k : Int} (h : (x.length : Int) > k) :
    PySem.Txt.slice x none (some (if (k - 3).fdiv 2 > 0 then (k - 3).fdiv 2 else 0)) ++ PySem.Str.ofString "..." ++
      PySem.Txt.slice x (some ((x.length : Int) - if (k - 3 - if (k - 3).fdiv 2 > 0 then (k - 3).fdiv 2 else 0) > 0 then k - 3 - (if (k - 3).fdiv 2 > 0 then (k - 3).fdiv 2 else 0) else 0)) none = cut x k := by
  have c : k < (x.length : Int) := h
  rw [cut_long c, half]
  rw [slice_front ((k - 3).toNat / 2) (by split <;> omega) (by omega)]
  rw [slice_back (((k - 3).toNat + 1) / 2) (by split <;> split <;> omega) (by omega)]
theorem cram_stay {x : PySem.Str} {k : Int} (h : ¬ (x.length : Int) > k) : x = cut x k := (cut_short h).symm
theorem short_stay {x : PySem.Str} {k : Int} (h : (x.length : Int) ≤ k) : x = cut x k := (cut_short (by omega)).symm
/-- the shortener's loop: start, the two kinds of turn, end -/
theorem turn_start {x : PySem.Str} {k : Int} (hx : x.length ≤ 24) (h : ¬ (x.length : Int) ≤ k) :
    PySem.Str.ofString "" = front x (([] : List Int).length / 2) ∧ PySem.Str.ofString "" = back x ((([] : List Int).length + 1) / 2) ∧ (PySem.Str.ofString "").length ≤ 24 ∧ (PySem.Str.ofString "").length ≤ 24 ∧ x.length ≤ 24 ∧ k < (x.length : Int) :=
  ⟨(front_zero x).symm, (back_zero x).symm, by decide, by decide, hx, by omega⟩
theorem turn_even {x a b : PySem.Str} {k n : Int} {pre : List Int} (hn : n = 0 + (pre.length : Int)) (hlt : pre.length < ((if k - 3 > 0 then k - 3 else 0) - 0).toNat) (he : n.fmod 2 = 0)
    (ha : a = front x (pre.length / 2)) (hb : b = back x ((pre.length + 1) / 2)) (hx : x.length ≤ 24) (hk : k < (x.length : Int)) :
    a = front x ((pre ++ [n]).length / 2) ∧ PySem.Txt.item x ((x.length : Int) - 1 - n.fdiv 2) ++ b = back x (((pre ++ [n]).length + 1) / 2) ∧ a.length ≤ 24 ∧ (PySem.Txt.item x ((x.length : Int) - 1 - n.fdiv 2) ++ b).length ≤ 24 ∧ x.length ≤ 24 ∧ k < (x.length : Int) := by
  rw [rest2] at he
  have hl : (pre ++ [n]).length = pre.length + 1 := by simp
  have hlt' : pre.length + 3 < x.length := by split at hlt <;> omega
  have e : PySem.Txt.item x ((x.length : Int) - 1 - n.fdiv 2) ++ b = back x ((pre.length + 1) / 2 + 1) := by
    rw [hb]
    exact back_step _ (by rw [half]; omega) (by omega)
  have q : (pre.length + 1 + 1) / 2 = (pre.length + 1) / 2 + 1 := by omega
  have q2 : (pre.length + 1) / 2 = pre.length / 2 := by omega
  rw [hl, q, e]
  refine ⟨by rw [q2]; exact ha, rfl, ?_, ?_, hx, hk⟩
  · rw [ha, front_len]; omega
  · rw [back_len]; omega
theorem turn_odd {x a b : PySem.Str} {k n : Int} {pre : List Int} (hn : n = 0 + (pre.length : Int)) (hlt : pre.length < ((if k - 3 > 0 then k - 3 else 0) - 0).toNat) (he : n.fmod 2 ≠ 0)
    (ha : a = front x (pre.length / 2)) (hb : b = back x ((pre.length + 1) / 2)) (hx : x.length ≤ 24) (hk : k < (x.length : Int)) :
    a ++ PySem.Txt.item x (n.fdiv 2) = front x ((pre ++ [n]).length / 2) ∧ b = back x (((pre ++ [n]).length + 1) / 2) ∧ (a ++ PySem.Txt.item x (n.fdiv 2)).length ≤ 24 ∧ b.length ≤ 24 ∧ x.length ≤ 24 ∧ k < (x.length : Int) := by
  rw [rest2] at he
  have hl : (pre ++ [n]).length = pre.length + 1 := by simp
  have hlt' : pre.length + 3 < x.length := by split at hlt <;> omega
  have e : a ++ PySem.Txt.item x (n.fdiv 2) = front x (pre.length / 2 + 1) := by
    rw [ha]
    exact front_step _ (by rw [half]; omega) (by omega)
  have q : (pre.length + 1) / 2 = pre.length / 2 + 1 := by omega
  have q2 : (pre.length + 1 + 1) / 2 = (pre.length + 1) / 2 := by omega
  rw [hl, q2, e]
  refine ⟨by rw [q], hb, ?_, ?_, hx, hk⟩
  · rw [front_len]; omega
  · rw [hb, back_len]; omega
theorem turn_end {x a b : PySem.Str} {k : Int} (ha : a = front x ((rangeKs 0 ((if k - 3 > 0 then k - 3 else 0) - 0).toNat).length / 2)) (hb : b = back x (((rangeKs 0 ((if k - 3 > 0 then k - 3 else 0) - 0).toNat).length + 1) / 2)) (hk : k < (x.length : Int)) :
    a ++ PySem.Str.ofString "..." ++ b = cut x k := by
  rw [rangeKs_length] at ha hb
  have e : ((if k - 3 > 0 then k - 3 else 0) - 0).toNat = (k - 3).toNat := by split <;> omega
  rw [e] at ha hb
  rw [cut_long hk, ha, hb]
/-- the law's own text: its size alone is kept -/
theorem const_any {M : Model} {A : Around} {E : Value → Shared → Prop} {s : Shared} {env : Env} {k : Nat} {pos : Pos} {Q : Value → Shared → Prop} (h : ∀ (x : PySem.Str) (t : Nat), x.length ≤ 24 → Q (.str x t) { s with toks := s.toks + 1 }) :
    wpAny M A (eval (.Constant (.str (PySem.Str.ofString "abc..defgh")) k pos) env) Q E s :=
  Calls.Constant_str (h _ _ (by decide))
/-- the law's own widths: that they are ints is kept -/
theorem nine_any {M : Model} {A : Around} {E : Value → Shared → Prop} {s : Shared} {h₀ : Heap} {L : Addr} {m : Str → Option Value} {news : List (Addr × Obj)} {a b c d e f g i j : Int} {ta tb tc td te tf tg ti tj : Tok} {Q : Value → Shared → Prop} (F : Fr h₀ L s.heap m) (N : News h₀ L s.heap news)
    (h : ∀ (vs : List Value) (ns : List Int), IntsAre vs ns → 0 < ns.length → ns.length ≤ 15 → ∀ l h', Fr h₀ L h' m → News h₀ L h' ((l, listOf vs.toArray 0) :: news) → (∀ p ∈ news, p.1 < l) → Q (.ref l) { s with heap := h' }) :
    wpAny M A (newList [.int a ta, .int b tb, .int c tc, .int d td, .int e te, .int f tf, .int g tg, .int i ti, .int j tj]) Q E s :=
  newList_K F N (h _ [a, b, c, d, e, f, g, i, j] (.cons _ _ (.cons _ _ (.cons _ _ (.cons _ _ (.cons _ _ (.cons _ _ (.cons _ _ (.cons _ _ (.cons _ _ .nil))))))))) (by simp) (by simp)) (by rw [PySem.sizeLine_eq]; simp)
/-- two texts that are shown equal -/
theorem ne_same {prog : Program} {w : World} {A : Around} {E : Value → Shared → Prop} {s : Shared} {x y : PySem.Str} {t u : Tok} {Q : Value → Shared → Prop} (e : x = y) (h : Q (.bool false) s) : wpAny (model prog w) A (compareOp .NotEq (.str x t) (.str y u)) Q E s := by
  subst e
  exact ne_str (by rw [show (x != x) = false by simp]; exact h)

/-- what a call of cram (or of the shortener) hands back, wherever the law calls it: as k_call_by words it, over any ledger -/
def CutClaim (f : Addr) (heap : Params → Frag) (view : Program) (w : World) (s₀ : Shared) (mg mb : Str → Option Value) : Prop :=
  CbC f 0 (∀ (cbNews : CbLed) (cbV0 : CbStr) (cbT0 : CbTok) (cbV1 : Int) (cbT1 : CbTok),
    CbClaim PySem.Challenge.rw_mq0464_01.row.prog w (heap w.params) view (looseW view []) (ExcName.means s₀.heap) mg mb f cbNews [] (cbV0.length ≤ 24) [Value.str cbV0 cbT0, Value.int cbV1 cbT1] (fun t => Value.str (cut cbV0 cbV1) t))
/-- the two claims, ahead of the walk: the head's own words for the written part and the view are read off the goal -/
theorem ahead {view : Program} {loose : List Str} {R : WRecords} {XP : (Str → Option Value) → Heap → Prop} {heap : Params → Frag} {as : List Addr} {hk : ∀ P, as = (heap P).map (·.1)} {Rest : World → Shared → Shared → (Str → Option Value) → (Str → Option Value) → Prop}
    (h1 : ∀ w s₀ mg mb, CutClaim 21 heap view w s₀ mg mb) (h2 : ∀ w s₀ mg mb, CutClaim 35 heap view w s₀ mg mb)
    (h : (∀ w s₀ mg mb, CutClaim 21 heap view w s₀ mg mb) → (∀ w s₀ mg mb, CutClaim 35 heap view w s₀ mg mb) → ∀ (w : World) (s₀ s₁ : Shared) (mg mb : Str → Option Value), Ground view loose R XP w s₀ mg mb s₁.heap → (kHook heap as hk).says w s₁.heap → Rest w s₀ s₁ mg mb) :
    ∀ (w : World) (s₀ s₁ : Shared) (mg mb : Str → Option Value), Ground view loose R XP w s₀ mg mb s₁.heap → (kHook heap as hk).says w s₁.heap → Rest w s₀ s₁ mg mb := h h1 h2
theorem cram_at {view : Program} {heap : Params → Frag} {w : World} {s₀ : Shared} {mg mb : Str → Option Value} {h : Heap} (_ : Top view (looseW view []) (ExcName.means s₀.heap) mg mb h) (_ : (heap w.params).In h) (hC : ∀ w s₀ mg mb, CutClaim 21 heap view w s₀ mg mb) :
    CbC 21 0 (∀ (cbNews : CbLed) (cbV0 : CbStr) (cbT0 : CbTok) (cbV1 : Int) (cbT1 : CbTok),
      CbClaim PySem.Challenge.rw_mq0464_01.row.prog w (heap w.params) view (looseW view []) (ExcName.means s₀.heap) mg mb 21 cbNews [] (cbV0.length ≤ 24) [Value.str cbV0 cbT0, Value.int cbV1 cbT1] (fun t => Value.str (cut cbV0 cbV1) t)) := hC w s₀ mg mb
theorem short_at {view : Program} {heap : Params → Frag} {w : World} {s₀ : Shared} {mg mb : Str → Option Value} {h : Heap} (_ : Top view (looseW view []) (ExcName.means s₀.heap) mg mb h) (_ : (heap w.params).In h) (hC : ∀ w s₀ mg mb, CutClaim 35 heap view w s₀ mg mb) :
    CbC 35 0 (∀ (cbNews : CbLed) (cbV0 : CbStr) (cbT0 : CbTok) (cbV1 : Int) (cbT1 : CbTok),
      CbClaim PySem.Challenge.rw_mq0464_01.row.prog w (heap w.params) view (looseW view []) (ExcName.means s₀.heap) mg mb 35 cbNews [] (cbV0.length ≤ 24) [Value.str cbV0 cbT0, Value.int cbV1 cbT1] (fun t => Value.str (cut cbV0 cbV1) t)) := hC w s₀ mg mb
end Mine
open Mine
local macro_rules | `(tactic| walk_at "CompSrc") => `(tactic| (k_here; kct_src; (try k_fmods); (try kcf_lens); k_dflt (refine LCg.CompSrc.ledger (by rfl) (by k_asm) (by k_asm) (by k_mem) (by kcf_size) ?_; intro g'; (refine' kct_list sg (by first | assumption | l_ints) (fun k' t' I' oI' C' oC' D' m' ys' h' tk' E' hk' hC' hx' F' N' off' ne' => ?_) ?_); (all_goals (try (simp only [LCg.Off3, and_true] at off'))); (all_goals (try ((show KPfMark → _); intro hMark'))); kcf_last)))
local macro_rules | `(tactic| walk_at "call builtin:str.join") => `(tactic| k_extra "call builtin:str.join")
local macro_rules | `(tactic| walk_at "call ref") => `(tactic| k_extra "call ref")
local macro_rules | `(tactic| walk_at "eval Constant str") => `(tactic| k_extra "eval Constant str")
local macro_rules | `(tactic| walk_at "newList") => `(tactic| k_extra "newList")
local macro_rules | `(tactic| walk_at "compareOp NotEq str str") => `(tactic| k_extra "compareOp NotEq str str")
set_option maxRecDepth 100000 in
set_option maxHeartbeats 8000000 in
theorem PySem.Challenge.cw_mq0464_01_holds : PySem.Challenge.rw_mq0464_01.Holds := by
  w_on; o_law; k_head; (case hw => w_witness2)
  refine ahead ?_ ?_ ?_
  -- cram
  · intro w s₀ mg mb
    k_with_none
    k_with "tree" => first | exact cram_way (by assumption) | exact cram_stay (by assumption)
    unfold CutClaim
    k_fill
    w_strict (
      unfold CbC; dsimp only [CbClaim, CbLists, CbRet]; intros; rename_i hret
      have cbI : CbIn 21 := CbIn.mk
      refine wpAny_call ?_
      k_dflt cell_enter
      k_steps
      all_goals cb_end hret)
  -- the shortener
  · intro w s₀ mg mb
    k_with_none
    k_with "tree" => first | exact short_stay (by assumption) | exact turn_end (by assumption) (by assumption) (by assumption)
    k_with "state" => first | exact turn_start (by assumption) (by assumption) | exact turn_even (by assumption) (by assumption) (by assumption) (by assumption) (by assumption) (by assumption) (by assumption) | exact turn_odd (by assumption) (by assumption) (by assumption) (by assumption) (by assumption) (by assumption) (by assumption)
    k_with "pyIter ref" => k_state_given ["text", "width"] (fun text width pre first last => first = Mine.front text (pre.length / 2) ∧ last = Mine.back text ((pre.length + 1) / 2) ∧ first.length ≤ 24 ∧ last.length ≤ 24 ∧ text.length ≤ 24 ∧ (width : Int) < text.length) "first" "last"
    unfold CutClaim
    k_fill
    w_strict (
      unfold CbC; dsimp only [CbClaim, CbLists, CbRet]; intros; rename_i hret
      have cbI : CbIn 35 := CbIn.mk
      refine wpAny_call ?_
      k_dflt cell_enter
      k_steps
      all_goals cb_end hret)
  -- the law
  · intro hC1 hC2
    k_with_none
    k_with "KCtEl" => exact kct_el (by first | exact sg_dot (by assumption) | exact sg_letter (by assumption) (by assumption) | exact sg_low (by assumption) (by assumption) (by assumption) | exact sg_high (by assumption) (by assumption) (by assumption)) (by with_unfolding_all rfl) (by with_unfolding_all rfl)
    k_with "call builtin:str.join" => (k_here; (with_reducible rename CarriedAll _ (List.map _ _) => ktC); refine join_any (by first | assumption | is_list | exact News.isList (by k_asm) (by k_mem)) ktC (by omega) ?_; intro lawText lawT lawK lawLen)
    k_with "eval Constant str" => (k_here; with_reducible refine const_any ?_; intro lawText lawT lawLen)
    k_with "newList" => (k_here; k_dflt (refine' nine_any ?k1 ?k2 ?_; (case k1 => k_asm); (case k2 => k_asm); k_whole); intro nvs nns nI nPos nLen l' h' F' N' l1; (try k_lt l1); (try k_sweep))
    k_with "compareOp NotEq str str" => (refine ne_same (inv_eq (by assumption) (by assumption)) ?_)
    k_with "call ref" => k_call_by "cram" cut (fun x _ => x.length ≤ 24)
    k_with "call ref" => k_call_by "_law_short" cut (fun x _ => x.length ≤ 24)
    k_with "state" => first | exact inv_start (by assumption) | exact inv_next (by assumption) (by assumption) (by assumption) (by assumption)
    k_with "pyIter ref" => (k_of "width" => k_state_given ["row"] (fun row pre word least => word.length ≤ 24 ∧ lawText.length ≤ 24 ∧ Inv lawText row pre word least) "word" "least")
    w_strict (
      k_go0
      all_goals (have cbC1 := cram_at (by assumption) (by assumption) hC1)
      all_goals (have cbC2 := short_at (by assumption) (by assumption) hC2)
      all_goals (clear hC1 hC2)
      all_goals try k_fold
      k_steps
      all_goals w_report)
