import PyProof.Rows.All
import Wide.All
import OpenK.AllK
import Wide.FinOn
import PySem.Challenge.RW_mq0013_01
open PySem PySem.W PyProof.Rows
set_option Elab.async false
namespace Mine

/-- the law's own signs, the letter b, and the text of the solid ones -/
def signText : Str := Str.ofString "a \t#.\n_\u000bZ\u000d\u200b\u00a0\u001f\u2003\u0085\u3000"
def solidText : Str := Str.ofString "a#._Zb\u200b"
def allSigns : List Nat := [97, 32, 9, 35, 46, 10, 95, 11, 90, 13, 8203, 160, 31, 8195, 133, 12288, 98]
def solids : List Nat := [97, 35, 46, 95, 90, 98, 8203]

theorem signText_cps : signText.cps.toList = [97, 32, 9, 35, 46, 10, 95, 11, 90, 13, 8203, 160, 31, 8195, 133, 12288] := by decide +kernel
theorem solidText_cps : solidText.cps.toList = solids := by decide +kernel
theorem space_iff : ∀ c ∈ allSigns, Unicode.isSpace c = !decide (c ∈ solids) := by decide +kernel

def Told (x : Str) : Prop := ∀ c ∈ x.cps.toList, c ∈ allSigns

theorem told_nil : Told (Str.ofString "") := by
  intro c hc
  have e : (Str.ofString "").cps.toList = [] := by decide +kernel
  rw [e] at hc
  exact nomatch hc
theorem told_tail : Told (Str.ofString " b \t") := by
  intro c hc
  have e : (Str.ofString " b \t").cps.toList = [32, 98, 32, 9] := by decide +kernel
  rw [e] at hc
  revert c
  decide +kernel
theorem told_add {x y : Str} (hx : Told x) (hy : Told y) : Told (x ++ y) := by
  intro c hc
  rw [Str.cps_append, Array.toList_append, List.mem_append] at hc
  exact hc.elim (hx c) (hy c)
theorem told_item (k : Int) : Told (Txt.item signText (k.fmod 16)) := by
  have h0 : 0 ≤ k.fmod 16 := Int.fmod_nonneg_of_pos k (by decide)
  have h1 : k.fmod 16 < 16 := Int.fmod_lt_of_pos k (by decide)
  generalize k.fmod 16 = i at h0 h1
  obtain ⟨n, rfl⟩ := Int.eq_ofNat_of_zero_le h0
  have hn : n < 16 := by omega
  have key : ∀ n : Nat, n < 16 → ∀ c ∈ (Txt.item signText (n : Int)).cps.toList, c ∈ allSigns := by decide +kernel
  exact key n hn

/-- what is left of a list of signs when the white ones at its end are cut -/
def cut (l : List Nat) : List Nat := (l.reverse.dropWhile Unicode.isSpace).reverse

theorem cut_snoc (l : List Nat) (c : Nat) : cut (l ++ [c]) = if Unicode.isSpace c = true then cut l else l ++ [c] := by
  unfold cut
  rw [List.reverse_append, List.reverse_singleton, List.singleton_append, List.dropWhile_cons]
  split
  · rfl
  · simp

theorem drop_takeWhile {α : Type} (p : α → Bool) : ∀ l : List α, l.drop (l.takeWhile p).length = l.dropWhile p
  | [] => rfl
  | a :: r => by
    rw [List.takeWhile_cons, List.dropWhile_cons]
    split
    · simpa using drop_takeWhile p r
    · rfl

theorem rstrip_cps (x : Str) : (Txt.rstrip x).cps.toList = cut x.cps.toList := by
  unfold Txt.rstrip
  rw [PyProof.Rows.stripBy_eq]
  show (x.cps.extract 0 (x.length - ((x.cps.toList.drop 0).reverse.takeWhile Unicode.isSpace).length)).toList = _
  rw [Array.toList_extract, List.extract_eq_take_drop, List.drop_zero, Nat.sub_zero]
  unfold cut
  rw [← drop_takeWhile, List.reverse_drop, List.reverse_reverse, List.length_reverse]
  rfl

def hash : Str := Str.ofString "#"
def lead : Str := Str.ofString "# "
theorem hash_cps : hash.cps.toList = [35] := by decide +kernel
theorem lead_cps : lead.cps.toList = [35, 32] := by decide +kernel

def comment (x : Str) : Str := if (Txt.rstrip x).length = 0 then Str.ofString "#" else Str.ofString "# " ++ Txt.rstrip x

/-- the law's own reading, turn by turn -/
def dueAt (front : Str) : Nat → Str
  | 0 => Str.ofString "#"
  | k + 1 => if Txt.contains (Str.ofString "a#._Zb\u200b") (Txt.item front (k : Int)) = true then Str.ofString "# " ++ Txt.slice front none (some ((k : Int) + 1)) else dueAt front k
def due (front : Str) : Str := dueAt front front.length

theorem getD_in {l : List Nat} {k : Nat} (h : k < l.length) : l.getD k 0 = l[k] := by simp [List.getD, h]

theorem str_eq {x y : Str} (h : x.cps.toList = y.cps.toList) : x = y := Str.ext' (Array.ext' h)

theorem slice_cps {x : Str} {j : Int} (h0 : 0 ≤ j) (h1 : j ≤ x.length) : (Txt.slice x none (some j)).cps.toList = x.cps.toList.take j.toNat := by
  have h := eq_of_beq (slice_closes_toL h0 h1)
  rw [h]
  show ((x.cps.toList.drop (0 : Int).toNat).take (j - 0).toNat) = _
  rw [show (0 : Int).toNat = 0 from rfl, List.drop_zero, Int.sub_zero]

theorem told_slice {x : Str} {j : Int} (h : Told x) (h0 : 0 ≤ j) (h1 : j ≤ x.length) : Told (Txt.slice x none (some j)) := by
  intro c hc
  rw [slice_cps h0 h1] at hc
  exact h c (List.mem_of_mem_take hc)

theorem item_at {x : Str} {k : Nat} (h : k < x.length) : Txt.item x (k : Int) = ⟨#[x.cps.toList.getD k 0]⟩ := by
  have hk : k < x.cps.size := h
  unfold Txt.item Txt.charAt
  have e : seqIndex? (k : Int) x.length = some k := by
    unfold seqIndex?
    simp
    omega
  rw [e]
  simp [hk]

theorem comment_cps (x : Str) : (comment x).cps.toList = if cut x.cps.toList = [] then [35] else [35, 32] ++ cut x.cps.toList := by
  unfold comment
  have e : ((Txt.rstrip x).length = 0) ↔ cut x.cps.toList = [] := by
    rw [← rstrip_cps]
    show (Txt.rstrip x).cps.size = 0 ↔ _
    rw [← Array.length_toList, List.length_eq_zero_iff]
  by_cases h : cut x.cps.toList = []
  · rw [if_pos h, if_pos (e.mpr h)]
    exact hash_cps
  · rw [if_neg h, if_neg (fun q => h (e.mp q)), Str.cps_append, Array.toList_append, rstrip_cps]
    show lead.cps.toList ++ _ = _
    rw [lead_cps]

theorem dueAt_cps {x : Str} (hx : Told x) : ∀ k : Nat, k ≤ x.length → (dueAt x k).cps.toList = if cut (x.cps.toList.take k) = [] then [35] else [35, 32] ++ cut (x.cps.toList.take k)
  | 0, _ => by
    show hash.cps.toList = _
    rw [hash_cps]
    rfl
  | k + 1, hk => by
    have hk' : k < x.cps.toList.length := by rw [Array.length_toList]; exact hk
    have ih := dueAt_cps hx k (by omega)
    have hs : x.cps.toList.take (k + 1) = x.cps.toList.take k ++ [x.cps.toList.getD k 0] := by
      rw [List.take_add_one, List.getElem?_eq_getElem hk', getD_in hk']
      rfl
    have hm : x.cps.toList.getD k 0 ∈ allSigns := by
      rw [getD_in hk']
      exact hx _ (List.getElem_mem hk')
    have hc : Txt.contains (Str.ofString "a#._Zb\u200b") (Txt.item x (k : Int)) = decide (x.cps.toList.getD k 0 ∈ solids) := by
      rw [item_at hk]
      unfold Txt.contains
      rw [StrLaws.found_one]
      show decide (_ ∈ solidText.cps.toList) = _
      rw [solidText_cps]
    rw [hs, cut_snoc, space_iff _ hm]
    unfold dueAt
    rw [hc]
    by_cases hq : x.cps.toList.getD k 0 ∈ solids
    · rw [if_pos (decide_eq_true hq), decide_eq_true hq, Bool.not_true, if_neg Bool.false_ne_true, if_neg (by simp), Str.cps_append, Array.toList_append, slice_cps (by omega) (by omega)]
      show lead.cps.toList ++ _ = _
      rw [lead_cps, ← hs]
      rfl
    · rw [if_neg (by simpa using hq), ih, decide_eq_false hq, Bool.not_false, if_pos rfl]

theorem comment_due {x : Str} (hx : Told x) : comment x = due x := by
  refine str_eq ?_
  rw [comment_cps, due, dueAt_cps hx _ (Nat.le_refl _), List.take_of_length_le]
  rw [Array.length_toList]
  exact Nat.le_refl _

theorem cut_end (l : List Nat) : cut l = [] ∨ ∃ r c, cut l = r ++ [c] ∧ Unicode.isSpace c = false := by
  unfold cut
  cases h : l.reverse.dropWhile Unicode.isSpace with
  | nil => exact .inl rfl
  | cons c r =>
    refine .inr ⟨r.reverse, c, by simp, ?_⟩
    have q := List.head?_dropWhile_not Unicode.isSpace l.reverse
    rw [h] at q
    simpa using q

theorem cut_keep {r : List Nat} {c : Nat} (h : Unicode.isSpace c = false) : cut (r ++ [c]) = r ++ [c] := by
  rw [cut_snoc, if_neg (by simp [h])]

theorem line_start : Told (Str.ofString "") ∧ (Str.ofString "").length = ([] : List Int).length := ⟨told_nil, by decide +kernel⟩
theorem line_turn {line : Str} {pre : List Int} {n : Int} (h : Told line) (hl : line.length = pre.length) :
    Told (line ++ Txt.item (Str.ofString "a \t#.\n_\u000bZ\u000d\u200b\u00a0\u001f\u2003\u0085\u3000") (n.fmod 16)) ∧ (line ++ Txt.item (Str.ofString "a \t#.\n_\u000bZ\u000d\u200b\u00a0\u001f\u2003\u0085\u3000") (n.fmod 16)).length = (pre ++ [n]).length :=
  ⟨told_add h (told_item n), by rw [Str.length_append, hl, List.length_append]; rfl⟩
theorem tail_len : (Str.ofString " b \t").length = 4 := by decide +kernel
theorem lead_len : (Str.ofString "# ").length = 2 := by decide +kernel
theorem due_start (front : Str) : Str.ofString "#" = dueAt front ([] : List Int).length := rfl
theorem due_hit {front : Str} {pre : List Int} {k : Int} (hc : (Builtin.Str.occurrences (Str.ofString "a#._Zb\u200b") (Txt.item front k) 0 (Str.ofString "a#._Zb\u200b").length 1).isEmpty = false) (hk : k = 0 + (pre.length : Int)) :
    Str.ofString "# " ++ Txt.slice front none (some (k + 1)) = dueAt front (pre ++ [k]).length := by
  rw [Int.zero_add] at hk
  have hc' : Txt.contains (Str.ofString "a#._Zb\u200b") (Txt.item front k) = true := by unfold Txt.contains; rw [hc]; rfl
  rw [List.length_append, List.length_singleton]
  show _ = if _ then _ else _
  rw [← hk, if_pos hc']
theorem due_miss {front told : Str} {pre : List Int} {k : Int} (hc : (Builtin.Str.occurrences (Str.ofString "a#._Zb\u200b") (Txt.item front k) 0 (Str.ofString "a#._Zb\u200b").length 1).isEmpty = true) (hk : k = 0 + (pre.length : Int)) (h : told = dueAt front pre.length) :
    told = dueAt front (pre ++ [k]).length := by
  rw [Int.zero_add] at hk
  have hc' : Txt.contains (Str.ofString "a#._Zb\u200b") (Txt.item front k) = false := by unfold Txt.contains; rw [hc]; rfl
  rw [List.length_append, List.length_singleton]
  show _ = if _ then _ else _
  rw [← hk, if_neg (by rw [hc']; decide)]
  exact h

theorem told_front {l : Str} {k : Int} {pre : List Int} (hT : Told l) (hk : k = 0 + (pre.length : Int)) (hlt : pre.length < (((l.length + (Str.ofString " b \t").length : Nat) : Int) + 1 - 0).toNat) : Told (Txt.slice (l ++ Str.ofString " b \t") none (some k)) :=
  told_slice (told_add hT told_tail) (by omega) (by rw [Str.length_append]; omega)
theorem due_whole {x f : Str} (h : f = dueAt x (rangeKs 0 ((x.length : Int) - 0).toNat).length) : f = due x := by
  rw [h, rangeKs_length, Int.sub_zero, Int.toNat_natCast]
  rfl
theorem comment_some {x : Str} (h : ((Txt.rstrip x).length : Int) ≠ 0) : comment x = Str.ofString "# " ++ Txt.rstrip x := by
  unfold comment
  rw [if_neg (by omega)]
theorem comment_none {x : Str} (h : ((Txt.rstrip x).length : Int) = 0) : comment x = Str.ofString "#" := by
  unfold comment
  rw [if_pos (by omega)]
theorem eq_some {l f : Str} {k : Int} {pre : List Int} (hf : f = dueAt (Txt.slice (l ++ Str.ofString " b \t") none (some k)) (rangeKs 0 (((Txt.slice (l ++ Str.ofString " b \t") none (some k)).length : Int) - 0).toNat).length)
    (h0 : ((Txt.rstrip (Txt.slice (l ++ Str.ofString " b \t") none (some k))).length : Int) ≠ 0) (hT : Told l) (hk : k = 0 + (pre.length : Int)) (hlt : pre.length < (((l.length + (Str.ofString " b \t").length : Nat) : Int) + 1 - 0).toNat) :
    Str.ofString "# " ++ Txt.rstrip (Txt.slice (l ++ Str.ofString " b \t") none (some k)) = f := by
  rw [due_whole hf, ← comment_due (told_front hT hk hlt), comment_some h0]
theorem eq_none {l f : Str} {k : Int} {pre : List Int} (hf : f = dueAt (Txt.slice (l ++ Str.ofString " b \t") none (some k)) (rangeKs 0 (((Txt.slice (l ++ Str.ofString " b \t") none (some k)).length : Int) - 0).toNat).length)
    (h0 : ((Txt.rstrip (Txt.slice (l ++ Str.ofString " b \t") none (some k))).length : Int) = 0) (hT : Told l) (hk : k = 0 + (pre.length : Int)) (hlt : pre.length < (((l.length + (Str.ofString " b \t").length : Nat) : Int) + 1 - 0).toNat) :
    Str.ofString "#" = f := by
  rw [due_whole hf, ← comment_due (told_front hT hk hlt), comment_none h0]
theorem again_some {x : Str} (h : ((Txt.rstrip x).length : Int) ≠ 0) : Txt.rstrip (Str.ofString "# " ++ Txt.rstrip x) = Str.ofString "# " ++ Txt.rstrip x := by
  refine str_eq ?_
  rw [rstrip_cps, Str.cps_append, Array.toList_append, rstrip_cps]
  rcases cut_end x.cps.toList with q | ⟨r, c, q, hc⟩
  · refine absurd ?_ h
    have e : (Txt.rstrip x).cps.toList.length = 0 := by rw [rstrip_cps, q]; rfl
    rw [Array.length_toList] at e
    exact congrArg Int.ofNat e
  · rw [q, ← List.append_assoc]
    exact cut_keep hc
theorem eq_again {x : Str} (h : ((Txt.rstrip x).length : Int) ≠ 0) : Str.ofString "# " ++ Txt.rstrip (Str.ofString "# " ++ Txt.rstrip x) = Str.ofString "# " ++ (Str.ofString "# " ++ Txt.rstrip x) := by
  rw [again_some h]
theorem end_lost {x : Str} (h1 : ((Txt.rstrip (Str.ofString "# " ++ Txt.rstrip x)).length : Int) = 0) (h : ((Txt.rstrip x).length : Int) ≠ 0) : False := by
  rw [again_some h, Str.length_append, lead_len] at h1
  omega

/-- «!=» of two texts that are shown to be one: the way of False is not walked -/
theorem same_ne {prog : Program} {w : World} {A : Around} {E : Value → Shared → Prop} {s : Shared} {x y : Str} {t u : Tok} {Q : Value → Shared → Prop} (e : x = y) (h : Q (.bool false) s) :
    wpAny (model prog w) A (compareOp .NotEq (.str x t) (.str y u)) Q E s := by
  refine PySem.P.ne_str ?_
  subst e
  simpa using h
end Mine

set_option maxRecDepth 100000 in
set_option maxHeartbeats 8000000 in
theorem PySem.Challenge.cw_mq0013_01_holds : PySem.Challenge.rw_mq0013_01.Holds := by
  k_with "state" => (first | exact Mine.line_start | exact Mine.line_turn (by assumption) (by assumption) | exact Mine.due_start _ | exact Mine.due_hit (by assumption) (by assumption) | exact Mine.due_miss (by assumption) (by assumption) (by assumption))
  k_with "pyIter ref" => (k_of "x" => k_state (fun pre line => Mine.Told line ∧ line.length = pre.length) "line")
  k_with "pyIter ref" => (k_of "size" => (have mineQ := Mine.tail_len; have mineL := Mine.lead_len; k_search (fun _ => True)))
  k_with "pyIter ref" => (k_of "k" => k_state_given ["front"] (fun front pre told => told = Mine.dueAt front pre.length) "told")
  k_with "compareOp NotEq str str" => (refine Mine.same_ne ?mineE ?_; (case mineE => first | exact Mine.eq_some (by assumption) (by assumption) (by assumption) (by assumption) (by assumption) | exact Mine.eq_none (by assumption) (by assumption) (by assumption) (by assumption) (by assumption) | exact Mine.eq_again (by assumption) | exact (Mine.end_lost (by assumption) (by assumption)).elim))
  open_k
