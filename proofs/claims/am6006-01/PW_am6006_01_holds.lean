import PyProof.Rows.All
import Wide.All
import OpenK.AllK
import Wide.FinOn
import PySem.Challenge.RW_am6006_01
set_option Elab.async false
set_option maxRecDepth 100000
set_option maxHeartbeats 8000000
section
open PySem PySem.W PyProof.Rows
namespace Mine
open_top hd for PySem.Challenge.rw_am6006_01
end Mine
end

section
open PySem PySem.W PyProof.Rows PySem.Spec PySem.Calls
namespace Mine
def bsN (x : Str) : Nat → Nat
  | 0 => 0
  | i + 1 => if (Txt.item x (i : Int) == Str.ofString "\\") = true then bsN x i + 1 else 0
def bs (x : Str) (i : Int) : Int := (bsN x i.toNat : Int)
theorem bs_zero (x : Str) {i : Int} (h : i ≤ 0) : bs x i = 0 := by
  unfold bs
  rw [Int.toNat_eq_zero.mpr h]
  rfl
theorem bs_in {x : Str} {i : Int} (h0 : 0 ≤ i) (h : (Txt.item x i == Str.ofString "\\") = true) : bs x (i + 1) = bs x i + 1 := by
  unfold bs
  have e : (i + 1).toNat = i.toNat + 1 := by omega
  rw [e, bsN, Int.toNat_of_nonneg h0, if_pos h]
  omega
theorem bs_out {x : Str} {i : Int} (h0 : 0 ≤ i) (h : (Txt.item x i == Str.ofString "\\") = false) : bs x (i + 1) = 0 := by
  unfold bs
  have e : (i + 1).toNat = i.toNat + 1 := by omega
  rw [e, bsN, Int.toNat_of_nonneg h0, if_neg (by rw [h]; decide)]
  rfl
def blk (x : Str) (st : Int) (mk : Str) : Bool := decide (st + mk.length < x.length) && (Txt.item x (st + mk.length) == Txt.item mk 0) && !Txt.startswith3 x mk (st + mk.length)
def fcB (x : Str) (st : Int) (mk : Str) : Bool :=
  if blk x st mk = true then false
  else if st = 0 then false
  else if (Txt.item x (st - 1) != Txt.item mk 0) = true then !Txt.isspace (Txt.item x (st - 1))
  else (bs x (st - 1)).fmod 2 == 1
section
variable {x mk : Str} {st p b : Int}
theorem blk1 (h : ¬ st + (mk.length : Int) < x.length) : blk x st mk = false := by unfold blk; rw [decide_eq_false h]; rfl
theorem blk2 (h : (Txt.item x (st + mk.length) == Txt.item mk 0) = false) : blk x st mk = false := by unfold blk; rw [h, Bool.and_false]; rfl
theorem blk3 (h : Txt.startswith3 x mk (st + mk.length) = true) : blk x st mk = false := by unfold blk; rw [h]; exact Bool.and_false _
theorem fc_blk (h1 : st + (mk.length : Int) < x.length) (h2 : (Txt.item x (st + mk.length) == Txt.item mk 0) = true) (h3 : Txt.startswith3 x mk (st + mk.length) = false) : false = fcB x st mk := by
  unfold fcB blk; rw [decide_eq_true h1, h2, h3]; rfl
theorem fc_st0 (h : st = 0) : false = fcB x st mk := by
  unfold fcB
  rw [if_pos h]
  split <;> rfl
theorem fc_sp (hb : blk x st mk = false) (h0 : st ≠ 0) (h : (Txt.item x (st - 1) != Txt.item mk 0) = true) : (!Txt.isspace (Txt.item x (st - 1))) = fcB x st mk := by
  unfold fcB; rw [if_neg (by rw [hb]; decide), if_neg h0, if_pos h]
theorem fc_cnt (hb : blk x st mk = false) (h0 : st ≠ 0) (h : (Txt.item x (st - 1) != Txt.item mk 0) = false) (e : b = bs x (st - 1)) : (b.fmod 2 == 1) = fcB x st mk := by
  unfold fcB; rw [if_neg (by rw [hb]; decide), if_neg h0, if_neg (by rw [h]; decide), e]
theorem fc_cnt0 (hb : blk x st mk = false) (h0 : st ≠ 0) (h : (Txt.item x (st - 1) != Txt.item mk 0) = false) (e : 0 = bs x (st - 1)) : false = fcB x st mk := by
  rw [← fc_cnt hb h0 h e]; rfl
theorem bne_not {a c : Str} (h : (a != c) = true) : (a == c) = false := by simpa [bne] using h
theorem bs_lt2 (h1 : 0 ≤ st) (h2 : st < 2) : 0 = bs x (st - 1) := (bs_zero x (by omega)).symm
theorem bs_no (h2 : ¬ st < 2) (h : (Txt.item x (st - 2) != Str.ofString "\\") = true) : 0 = bs x (st - 1) := by
  have := bs_out (x := x) (i := st - 2) (by omega) (bne_not h)
  rw [← this]; congr 1; omega
theorem bs_end1 (e : b + bs x (p + 1) = bs x (st - 1)) (h : ¬ 0 ≤ p) : b = bs x (st - 1) := by
  rw [← e, bs_zero x (by omega)]; omega
theorem bs_end2 (e : b + bs x (p + 1) = bs x (st - 1)) (h0 : 0 ≤ p) (h : (Txt.item x p == Str.ofString "\\") = false) : b = bs x (st - 1) := by
  rw [← e, bs_out h0 h]; omega
theorem bs_start (st : Int) : 0 + bs x (st - 2 + 1) = bs x (st - 1) ∧ True := by
  refine ⟨?_, trivial⟩
  rw [Int.zero_add]; congr 1; omega
theorem bs_turn (e : b + bs x (p + 1) = bs x (st - 1)) (h0 : 0 ≤ p) (h : (Txt.item x p == Str.ofString "\\") = true) : b + 1 + bs x (p - 1 + 1) = bs x (st - 1) := by
  rw [← e, bs_in h0 h, Int.sub_add_cancel]; omega
theorem inv_start (h : ¬ st < 2) : 0 + bs x (st - 2 + 1) = bs x (st - 1) ∧ -1 ≤ st - 2 ∧ st - 2 ≤ st - 2 := ⟨(bs_start st).1, by omega, by omega⟩
theorem inv_turn (e : b + bs x (p + 1) = bs x (st - 1)) (h2 : p ≤ st - 2) (h0 : 0 ≤ p) (h : (Txt.item x p == Str.ofString "\\") = true) : b + 1 + bs x (p - 1 + 1) = bs x (st - 1) ∧ -1 ≤ p - 1 ∧ p - 1 ≤ st - 2 := ⟨bs_turn e h0 h, by omega, by omega⟩
end
theorem retB {h₀ h' : Heap} {L : Addr} {m : Str → Option Value} {news : List (Addr × Obj)} {s : Shared} {Q : Value → Shared → Prop} {tk' : Nat} {x y : Bool}
    (hret : ∀ (h' : Heap) (tk' : Nat), Fr h₀ L h' m → News h₀ L h' news → Q (.bool x) { s with heap := h', toks := tk' }) (e : y = x) (F : Fr h₀ L h' m) (N : News h₀ L h' news) : Q (.bool y) { s with heap := h', toks := tk' } := by
  subst e
  exact hret h' tk' F N
end Mine
end

section
open PySem PySem.W PyProof.Rows PySem.Spec PySem.Calls PySem.Builtin PySem.Builtin.Str
namespace Mine
theorem idx_hi_beyond (lo : Option Int) (len : Nat) {j : Int} (h : (len : Int) ≤ j) : strSliceIndices lo (some j) 1 len = strSliceIndices lo (some (len : Int)) 1 len := by
  have a : ¬ j < 0 := by omega
  have b : ¬ (len : Int) < 0 := by omega
  have c : min j (len : Int) = len := by omega
  simp [strSliceIndices, a, b, c]
theorem slice_is {x : Str} {i j : Int} (h0 : 0 ≤ i) (h1 : i ≤ x.length) (h2 : i ≤ j) : Txt.slice x (some i) (some j) = ⟨((x.cps.toList.drop i.toNat).take (j - i).toNat).toArray⟩ := by
  have hl : x.cps.toList.length = x.length := by simp [Str.length]
  by_cases hj : j ≤ x.length
  · exact StrLaws.sliceText_plain ⟨h0, h2, by omega⟩
  · have e : Txt.slice x (some i) (some j) = Txt.slice x (some i) (some (x.length : Int)) := by
      unfold Txt.slice; rw [idx_hi_beyond _ _ (by omega)]
    rw [e]
    have := StrLaws.sliceText_plain (x := x) (i := i) (j := (x.length : Int)) ⟨h0, h1, by omega⟩
    refine Eq.trans this ?_
    congr 2
    rw [List.take_of_length_le (by rw [List.length_drop]; omega), List.take_of_length_le (by rw [List.length_drop]; omega)]
theorem str_beq_eq {a b : Str} : ((a == b) = true) ↔ a = b := by simp
theorem sg_eq {x : Str} {e : Int} (h0 : 0 ≤ e) (h1 : e < x.length) : Txt.slice x (some e) (some (e + 1)) = Txt.item x e := by
  obtain ⟨n, hn⟩ := StrLaws.some_at (x := x) h0 h1
  rw [slice_is h0 (by omega) (by omega), item_meets h0 hn]
  have e1 : (e + 1 - e).toNat = 1 := by omega
  rw [e1]
  congr 1
  apply Array.ext'
  have hl : x.cps.toList[e.toNat]? = some n := by simpa using hn
  have hlt : e.toNat < x.cps.toList.length := (List.getElem?_eq_some_iff.mp hl).1
  rw [List.drop_eq_getElem_cons hlt]
  have : x.cps.toList[e.toNat] = n := (List.getElem?_eq_some_iff.mp hl).2
  simp [this]
theorem sg_out {x y : Str} {e : Int} (h0 : 0 ≤ e) (h1 : ¬ e < x.length) (h2 : e ≤ x.length) (hy : y.length = 1) : (Txt.slice x (some e) (some (e + 1)) == y) = false := by
  rw [slice_is h0 h2 (by omega)]
  have hl : x.cps.toList.length = x.length := by simp [Str.length]
  rw [List.drop_eq_nil_of_le (by omega)]
  cases hq : ((⟨(List.take (e + 1 - e).toNat ([] : List Nat)).toArray⟩ : Str) == y) with
  | false => rfl
  | true =>
    rw [str_beq_eq] at hq
    subst hq
    simp [Str.length] at hy
theorem sw_eq {x mk : Str} {e : Int} (h0 : 0 ≤ e) (h1 : e ≤ x.length) : Txt.startswith3 x mk e = (Txt.slice x (some e) (some (e + mk.length)) == mk) := by
  have hl : x.cps.toList.length = x.length := by simp [Str.length]
  have hm : mk.cps.toList.length = mk.length := by simp [Str.length]
  rw [slice_is h0 h1 (by omega)]
  unfold Txt.startswith3
  have e1 : fromIndex x.length e = e.toNat := by unfold fromIndex; rw [if_neg (by omega)]; omega
  have e2 : (e + mk.length - e).toNat = mk.length := by omega
  rw [e1, e2, StrLaws.subAt_eq]
  have e3 : ((⟨((x.cps.toList.drop e.toNat).take mk.length).toArray⟩ : Str) == mk) = ((x.cps.toList.drop e.toNat).take mk.length == mk.cps.toList) := by
    rw [Bool.eq_iff_iff, str_beq_eq, beq_iff_eq]
    constructor
    · intro h; exact congrArg (fun z : Str => z.cps.toList) h
    · intro h; apply Str.ext'; show _ = mk.cps; rw [h]
  rw [e3]
  by_cases hle : e.toNat + mk.length ≤ x.length
  · rw [decide_eq_true hle]; rfl
  · rw [decide_eq_false hle, Bool.false_and]
    symm
    rw [beq_eq_false_iff_ne]
    intro h
    have := congrArg List.length h
    rw [List.length_take, List.length_drop] at this
    omega
def alphaL : List Nat := [42, 95, 126, 92, 32, 9, 10, 8195, 97, 98]
def Alpha (x : Str) : Prop := ∀ c ∈ x.cps.toList, c ∈ alphaL
theorem white_eq {x : Str} {i : Int} (hw : Alpha x) (h0 : 0 ≤ i) (h1 : i < x.length) :
    (!!(occurrences (Str.ofString " \t\n\u2003") (Txt.item x i) 0 (Str.ofString " \t\n\u2003").length 1).isEmpty) = !Txt.isspace (Txt.item x i) := by
  obtain ⟨n, hn⟩ := StrLaws.some_at (x := x) h0 h1
  rw [item_meets h0 hn]
  have hm : n ∈ alphaL := hw n (List.mem_of_getElem? (by simpa using hn))
  rw [StrLaws.found_one]
  have key : ∀ n ∈ alphaL, (!decide (n ∈ (Str.ofString " \t\n\u2003").cps.toList)) = !Txt.isspace ⟨#[n]⟩ := by decide +kernel
  exact key n hm
section
variable {x mk : Str} {st p b : Int}
theorem gblk1 (h0 : 0 ≤ st) (hm0 : 0 < mk.length) (h1 : st + (mk.length : Int) ≤ x.length) (ha : (Txt.slice x (some (st + mk.length)) (some (st + mk.length + 1)) == Txt.item mk 0) = true)
    (hb : (Txt.slice x (some (st + mk.length)) (some (st + mk.length + mk.length)) != mk) = true) : false = fcB x st mk := by
  by_cases h : st + (mk.length : Int) < x.length
  · rw [sg_eq (by omega) h] at ha
    refine fc_blk h ha ?_
    rw [sw_eq (by omega) h1]
    exact bne_not hb
  · rw [sg_out (by omega) h h1 rfl] at ha
    cases ha
theorem gblk2 (h0 : 0 ≤ st) (h1 : st + (mk.length : Int) ≤ x.length) (ha : (Txt.slice x (some (st + mk.length)) (some (st + mk.length + 1)) == Txt.item mk 0) = false) : blk x st mk = false := by
  by_cases h : st + (mk.length : Int) < x.length
  · rw [sg_eq (by omega) h] at ha
    exact blk2 ha
  · exact blk1 h
theorem gblk3 (h0 : 0 ≤ st) (h1 : st + (mk.length : Int) ≤ x.length) (hb : (Txt.slice x (some (st + mk.length)) (some (st + mk.length + mk.length)) != mk) = false) : blk x st mk = false := by
  refine blk3 ?_
  rw [sw_eq (by omega) h1]
  simpa [bne] using hb
theorem gc_sp (hb : blk x st mk = false) (h0 : st ≠ 0) (h : (Txt.item x (st - 1) != Txt.item mk 0) = true) (hw : Alpha x) (hs0 : 0 ≤ st) (hs1 : st + (mk.length : Int) ≤ x.length) :
    (!!(occurrences (Str.ofString " \t\n\u2003") (Txt.item x (st - 1)) 0 (Str.ofString " \t\n\u2003").length 1).isEmpty) = fcB x st mk := by
  rw [white_eq hw (by omega) (by omega)]
  exact fc_sp hb h0 h
theorem gs_start (h : st ≠ 0) (h0 : 0 ≤ st) : 0 + bs x (st - 1 - 0) = bs x (st - 1) ∧ (0 : Int) ≤ 0 ∧ 0 ≤ st - 1 := ⟨by rw [Int.zero_add, Int.sub_zero], Int.le_refl _, by omega⟩
theorem gs_turn (e : b + bs x (st - 1 - b) = bs x (st - 1)) (h0 : 0 ≤ b) (h1 : b + 2 ≤ st) (h : (Txt.item x (st - 2 - b) == Str.ofString "\\") = true) : b + 1 + bs x (st - 1 - (b + 1)) = bs x (st - 1) ∧ 0 ≤ b + 1 ∧ b + 1 ≤ st - 1 := by
  refine ⟨?_, by omega, by omega⟩
  rw [← e]
  have := bs_in (x := x) (i := st - 2 - b) (by omega) h
  have e1 : st - 2 - b + 1 = st - 1 - b := by omega
  have e2 : st - 1 - (b + 1) = st - 2 - b := by omega
  rw [e1] at this
  rw [e2, this]; omega
theorem gs_end1 (e : b + bs x (st - 1 - b) = bs x (st - 1)) (h : ¬ b + 2 ≤ st) : b = bs x (st - 1) := by
  rw [← e, bs_zero x (by omega)]; omega
theorem gs_end2 (e : b + bs x (st - 1 - b) = bs x (st - 1)) (h0 : b + 2 ≤ st) (h : (Txt.item x (st - 2 - b) == Str.ofString "\\") = false) : b = bs x (st - 1) := by
  have := bs_out (x := x) (i := st - 2 - b) (by omega) h
  have e1 : st - 2 - b + 1 = st - 1 - b := by omega
  rw [e1] at this
  rw [← e, this]; omega
end
end Mine
end

section
open PySem PySem.W PyProof.Rows PySem.Spec PySem.Calls
namespace Mine
/-- super(D, x), the class and the object said: the object that the call makes stands in the ledger -/
theorem super2 {prog : Program} {w : World} {A : Around} {E : Value → Shared → Prop} {s : Shared} {h₀ : Heap} {L : Addr} {m : Str → Option Value} {news : List (Addr × Obj)} {K : Frag} {x C D : Addr} {ox : Obj} {odx : Option Obj} {cdD : ClassData} {Q : Value → Shared → Prop}
    (F : Fr h₀ L s.heap m) (X₀ : K.In h₀) (N : News h₀ L s.heap news) (I : InstAt s.heap x ox C odx) (hD : clsIn K D = some cdD) (hsub : mroIn K C (.ref D) = some true)
    (h : ∀ so h', Fr h₀ L h' m → News h₀ L h' ((so, ks_superObj D x C) :: news) → (∀ p ∈ news, p.1 < so) → Q (.ref so) { s with heap := h' }) :
    wpAny (model prog w) A (call (.type "super") [.ref D, .ref x]) Q E s := by
  have X : K.In s.heap := X₀.keeps F.keep
  obtain ⟨oD, hD1, hD2⟩ : ∃ oD, s.heap.get? D = some oD ∧ oD.data = .cls cdD := by
    unfold clsIn at hD
    split at hD
    · rename_i ho
      cases hD
      exact ⟨_, X _ _ ho, rfl⟩
    · cases hD
  have hx : ∀ c, ox.data ≠ .cls c := by
    intro c e
    have := I.no
    unfold notCls at this
    rw [e] at this
    exact Bool.noConfusion this
  refine ks_wpAny_call_super hD1 hD2 I.at_ I.cls hx (looks_mroIn X hsub) fun h' e k => ?_
  obtain ⟨F', N', l'⟩ := ks_newsPush (s := s) F N rfl e k
  exact h _ _ F' N' l'
end Mine
end

section
open PySem PySem.W PyProof.Rows PySem.Spec PySem.Calls PySem.Builtin PySem.Builtin.Str
namespace Mine
section
variable {prog : Program} {w : World} {A : Around} {E : Value → Shared → Prop} {s : Shared} {x y z r : Str} {t u v : Tok} {Q : Value → Shared → Prop}
/-- a replace that finds nothing: the very text, nothing else turned -/
theorem repl_none (hc : (occurrences x y 0 x.length (x.length + 1)).isEmpty = true) (h : Q (.str x t) s) : wpAny (model prog w) A (call (.builtin "str.replace") [.str x t, .str y u, .str z v]) Q E s := by
  refine call_gives F.slot_str_replace (typeIs_str _ _ _) F.entry_str_replace (F.args_str_replace_3 _ _ _)
    (gives_str_replace x y z t u v fun e => ?_) ?_
  · rw [hc] at e; cases e
  · rw [hc]; exact h
theorem repl_some (hu : u ≠ (0 : Nat)) (hv : v ≠ (0 : Nat)) (huv : u ≠ v) (hyz : (y == z) = false) (hb : x.length + (x.length + 1) * z.length ≤ 16777216) (hr : Txt.replace x y z = r)
    (h : ∀ t' k, Q (.str r t') { s with toks := k }) : wpAny (model prog w) A (call (.builtin "str.replace") [.str x t, .str y u, .str z v]) Q E s :=
  SC.replace hu hv huv hyz hb (by rw [hr]; exact h)
end
end Mine
end

section
open PySem PySem.W PyProof.Rows PySem.Spec PySem.Calls
namespace Mine

abbrev boxO (l : Addr) (p : Int) (t : Tok) (q : Int) (u : Tok) (n : Nat) : Obj := listOf [Value.ref l, Value.int p t, Value.int q u].toArray n
theorem fm0 {x k : Int} (h : 0 < k) : 0 ≤ x.fmod k := Int.fmod_nonneg_of_pos x h
theorem fm1 {x k : Int} (h : 0 < k) : x.fmod k < k := Int.fmod_lt_of_pos x h
local macro_rules | `(tactic| k_all) => `(tactic| with_reducible assumption)
theorem draw_ok {w : World} {p₀ : Program} {loose : List Str} {mean : ExcName → Option Value} {mg mb : Str → Option Value}
    {dp un : Nat} {gd : Option (List Code)} {cn : Str} {cs : Scope} {a : Addr} {ccd : Value} {cl : List (Str × Addr)} {outer : List Env} {A₀ : Around} {base h₀ : Heap} {L : Addr} {m : Str → Option Value} {s : Shared} {Q E : Value → Shared → Prop}
    {b l : Addr} {vs : List Value} {ns : List Int} {p q size : Int} {t u ts : Tok} {n : Nat} {rest : List (Addr × Obj)}
    (B : Below A₀ base outer h₀) (F : Fr h₀ L s.heap m) (X : (hd.heap_39 w.params).In h₀) (T : Top p₀ loose mean mg mb h₀) (hk : cs.kind = .function) (hdp : dp + 1 < recursionLimit) (_hu : un + 8 < cLine) (N : News h₀ L s.heap ((b, boxO l p t q u n) :: rest)) (hb : ∀ x ∈ rest, x.1 ≠ b)
    (hl : base.IsList l vs.toArray) (hi : IntsAre vs ns) (hlen : ns.length ≤ 63) (hs0 : 0 < size) (hs1 : size < 1000)
    (hret : ∀ (r p' q' : Int) (t' u' v' : Tok) (n' : Nat) (h' : Heap) (tk' : Nat), 0 ≤ r → r < size → Fr h₀ L h' m → News h₀ L h' ((b, boxO l p' t' q' u' n') :: rest) → Q (.int r v') { s with heap := h', toks := tk' }) :
    wpAny (model PySem.Challenge.rw_am6006_01.row.prog w) (ktrTop dp un gd cn cs L a ccd cl outer) (call (.ref 447) [.ref b, .int size ts]) Q E s := by
  revert X; k_fill; intro X
  w_top off
  refine wpAny_call ?_
  k_dflt cell_enter
  k_steps
  all_goals refine hret _ _ _ _ _ _ _ _ _ ?_ ?_ (by assumption) (by assumption)
  all_goals first | exact fm0 (by omega) | exact fm1 (by omega)
local macro_rules | `(tactic| walk_at "call ref") => `(tactic| (k_here; (with_reducible show wpAny _ _ (call (Value.ref 447) _) _ _ _); k_dflt (
  refine' draw_ok ?dB ?dF ?dX ?dT ?dk ?dd ?du ?dN ?db ?dl ?di ?dn ?d0 ?d1 ?_;
  (case dB => k_asm); (case dF => k_asm); (case dX => k_asm); (case dT => k_asm); (case dk => first | exact rfl | assumption); (case dd => ktr_room); (case du => ktr_units);
  (case dN => k_asm); (case db => k_all); (case dl => k_asm); (case di => l_ints); (case dn => first | assumption | omega); (case d0 => decide); (case d1 => decide);
  intro r9 p9 q9 t9 u9 v9 n9 h9 tk9 hr0 hr1 F9 N9; (try dsimp only); (try k_fold))))
theorem getD_mem {l : List Str} {i : Nat} {d : Str} (h : i < l.length) : l.getD i d ∈ l := by
  rw [List.getD_eq_getElem?_getD, List.getElem?_eq_getElem h]
  exact List.getElem_mem h
def piecesL : List Str := [Str.ofString "*", Str.ofString "**", Str.ofString "***", Str.ofString "_", Str.ofString "~", Str.ofString "~~", Str.ofString "\\", Str.ofString "\\\\", Str.ofString "\\\\\\", Str.ofString " ", Str.ofString "\t", Str.ofString "\n", Str.ofString "\u2003", Str.ofString "a", Str.ofString "b"]
def markersL : List Str := [Str.ofString "*", Str.ofString "**", Str.ofString "_", Str.ofString "~", Str.ofString "~~", Str.ofString "***", Str.ofString "__"]
def PieceOk (r : Str) : Prop := Alpha r ∧ r.length ≤ 3
def MarkOk (r : Str) : Prop := 0 < r.length ∧ r.length ≤ 10
theorem pieces_ok : ∀ r ∈ piecesL, (∀ c ∈ r.cps.toList, c ∈ alphaL) ∧ r.length ≤ 3 := by decide +kernel
theorem markers_ok : ∀ r ∈ markersL, 0 < PySem.Str.length r ∧ r.length ≤ 10 := by decide +kernel
theorem piece_at {i : Int} (h0 : 0 ≤ i) (h1 : i < 15) : PieceOk (piecesL.getD i.toNat Str.empty) := pieces_ok _ (getD_mem (by show i.toNat < 15; omega))
theorem marker_at {i : Int} (h0 : 0 ≤ i) (h1 : i < 7) : MarkOk (markersL.getD i.toNat Str.empty) := markers_ok _ (getD_mem (by show i.toNat < 7; omega))
theorem pick1_ok {w : World} {p₀ : Program} {loose : List Str} {mean : ExcName → Option Value} {mg mb : Str → Option Value}
    {dp un : Nat} {gd : Option (List Code)} {cn : Str} {cs : Scope} {a : Addr} {ccd : Value} {cl : List (Str × Addr)} {outer : List Env} {A₀ : Around} {base h₀ : Heap} {L : Addr} {m : Str → Option Value} {s : Shared} {Q E : Value → Shared → Prop}
    {b l : Addr} {vs : List Value} {ns : List Int} {p q : Int} {t u : Tok} {n : Nat} {rest : List (Addr × Obj)}
    (B : Below A₀ base outer h₀) (F : Fr h₀ L s.heap m) (X : (hd.heap_39 w.params).In h₀) (T : Top p₀ loose mean mg mb h₀) (hk : cs.kind = .function) (hdp : dp + 2 < recursionLimit) (_hu : un + 16 < cLine) (N : News h₀ L s.heap ((b, boxO l p t q u n) :: rest)) (hb : ∀ x ∈ rest, x.1 ≠ b)
    (hl : base.IsList l vs.toArray) (hi : IntsAre vs ns) (hlen : ns.length ≤ 63)
    (hret : ∀ (r : Str) (p' q' : Int) (t' u' v' : Tok) (n' : Nat) (h' : Heap) (tk' : Nat), PieceOk r → Fr h₀ L h' m → News h₀ L h' ((b, boxO l p' t' q' u' n') :: rest) → Q (.str r v') { s with heap := h', toks := tk' }) :
    wpAny (model PySem.Challenge.rw_am6006_01.row.prog w) (ktrTop dp un gd cn cs L a ccd cl outer) (call (.ref 454) [.ref b, .ref 439]) Q E s := by
  revert X; k_fill; intro X
  w_top off
  refine wpAny_call ?_
  k_dflt cell_enter
  k_steps
  all_goals exact hret _ _ _ _ _ _ _ _ _ (piece_at (by assumption) (by assumption)) (by assumption) (by assumption)
theorem pick2_ok {w : World} {p₀ : Program} {loose : List Str} {mean : ExcName → Option Value} {mg mb : Str → Option Value}
    {dp un : Nat} {gd : Option (List Code)} {cn : Str} {cs : Scope} {a : Addr} {ccd : Value} {cl : List (Str × Addr)} {outer : List Env} {A₀ : Around} {base h₀ : Heap} {L : Addr} {m : Str → Option Value} {s : Shared} {Q E : Value → Shared → Prop}
    {b l : Addr} {vs : List Value} {ns : List Int} {p q : Int} {t u : Tok} {n : Nat} {rest : List (Addr × Obj)}
    (B : Below A₀ base outer h₀) (F : Fr h₀ L s.heap m) (X : (hd.heap_39 w.params).In h₀) (T : Top p₀ loose mean mg mb h₀) (hk : cs.kind = .function) (hdp : dp + 2 < recursionLimit) (_hu : un + 16 < cLine) (N : News h₀ L s.heap ((b, boxO l p t q u n) :: rest)) (hb : ∀ x ∈ rest, x.1 ≠ b)
    (hl : base.IsList l vs.toArray) (hi : IntsAre vs ns) (hlen : ns.length ≤ 63)
    (hret : ∀ (r : Str) (p' q' : Int) (t' u' v' : Tok) (n' : Nat) (h' : Heap) (tk' : Nat), MarkOk r → Fr h₀ L h' m → News h₀ L h' ((b, boxO l p' t' q' u' n') :: rest) → Q (.str r v') { s with heap := h', toks := tk' }) :
    wpAny (model PySem.Challenge.rw_am6006_01.row.prog w) (ktrTop dp un gd cn cs L a ccd cl outer) (call (.ref 454) [.ref b, .ref 440]) Q E s := by
  revert X; k_fill; intro X
  w_top off
  refine wpAny_call ?_
  k_dflt cell_enter
  k_steps
  all_goals exact hret _ _ _ _ _ _ _ _ _ ⟨by decide +kernel, by decide +kernel⟩ (by assumption) (by assumption)
end Mine
end

section
open PySem PySem.W PyProof.Rows PySem.Spec PySem.Calls
namespace Mine

local macro_rules | `(tactic| k_all) => `(tactic| with_reducible assumption)
theorem fc_ok {w : World} {p₀ : Program} {loose : List Str} {mean : ExcName → Option Value} {mg mb : Str → Option Value}
    {dp un : Nat} {gd : Option (List Code)} {cn : Str} {cs : Scope} {a : Addr} {ccd : Value} {cl : List (Str × Addr)} {outer : List Env} {A₀ : Around} {base h₀ : Heap} {L : Addr} {m : Str → Option Value} {s : Shared} {Q E : Value → Shared → Prop}
    {x mk : Str} {st : Int} {t1 t2 t3 : Tok} {news : List (Addr × Obj)}
    (B : Below A₀ base outer h₀) (F : Fr h₀ L s.heap m) (X : (hd.heap_39 w.params).In h₀) (T : Top p₀ loose mean mg mb h₀) (hk : cs.kind = .function) (hdp : dp + 1 < recursionLimit) (_hu : un + 8 < cLine) (N : News h₀ L s.heap news) (hx : x.length ≤ 1000) (hm0 : 0 < mk.length) (hm : mk.length ≤ 10) (hs0 : 0 ≤ st) (hs1 : st + mk.length ≤ x.length)
    (hret : ∀ (h' : Heap) (tk' : Nat), Fr h₀ L h' m → News h₀ L h' news → Q (.bool (fcB x st mk)) { s with heap := h', toks := tk' }) :
    wpAny (model PySem.Challenge.rw_am6006_01.row.prog w) (ktrTop dp un gd cn cs L a ccd cl outer) (call (.ref 52) [.str x t1, .int st t2, .str mk t3]) Q E s := by
  revert X; k_fill; intro X
  w_top off
  refine wpAny_call ?_
  k_dflt cell_enter
  (k_with "state" => with_reducible first | exact inv_start (by assumption) | exact inv_turn (by assumption) (by assumption) (by assumption) (by assumption))
  (k_with "exec While BoolOp cons nil" => k_while (fun _ p b => b + bs x (p + 1) = bs x (st - 1) ∧ -1 ≤ p ∧ p ≤ st - 2) (fun _ p _ => (p + 1).toNat) "pos" "backslashes")
  k_steps
  all_goals refine retB hret ?_ (by assumption) (by assumption)
  all_goals with_reducible first
    | exact fc_blk (by assumption) (by assumption) (by assumption)
    | exact fc_st0 (by first | assumption | omega)
    | exact fc_sp (by first | exact blk1 (by assumption) | exact blk2 (by assumption) | exact blk3 (by assumption)) (by assumption) (by assumption)
    | exact fc_cnt0 (by first | exact blk1 (by assumption) | exact blk2 (by assumption) | exact blk3 (by assumption)) (by assumption) (by assumption) (by first | exact bs_lt2 (by assumption) (by assumption) | exact bs_no (by assumption) (by assumption))
    | exact fc_cnt (by first | exact blk1 (by assumption) | exact blk2 (by assumption) | exact blk3 (by assumption)) (by assumption) (by assumption) (by first | exact bs_end1 (by assumption) (by assumption) | exact bs_end2 (by assumption) (by assumption) (by assumption))
end Mine
end

section
open PySem PySem.W PyProof.Rows PySem.Spec PySem.Calls
namespace Mine

local macro_rules | `(tactic| k_all) => `(tactic| with_reducible assumption)
theorem gc_ok {w : World} {p₀ : Program} {loose : List Str} {mean : ExcName → Option Value} {mg mb : Str → Option Value}
    {dp un : Nat} {gd : Option (List Code)} {cn : Str} {cs : Scope} {a : Addr} {ccd : Value} {cl : List (Str × Addr)} {outer : List Env} {A₀ : Around} {base h₀ : Heap} {L : Addr} {m : Str → Option Value} {s : Shared} {Q E : Value → Shared → Prop}
    {x mk : Str} {st : Int} {t1 t2 t3 : Tok} {news : List (Addr × Obj)}
    (B : Below A₀ base outer h₀) (F : Fr h₀ L s.heap m) (X : (hd.heap_39 w.params).In h₀) (T : Top p₀ loose mean mg mb h₀) (hk : cs.kind = .function) (hdp : dp + 1 < recursionLimit) (_hu : un + 8 < cLine) (N : News h₀ L s.heap news) (hw : Alpha x) (hx : x.length ≤ 1000) (hm0 : 0 < mk.length) (hm : mk.length ≤ 10) (hs0 : 0 ≤ st) (hs1 : st + mk.length ≤ x.length)
    (hret : ∀ (h' : Heap) (tk' : Nat), Fr h₀ L h' m → News h₀ L h' news → Q (.bool (fcB x st mk)) { s with heap := h', toks := tk' }) :
    wpAny (model PySem.Challenge.rw_am6006_01.row.prog w) (ktrTop dp un gd cn cs L a ccd cl outer) (call (.ref 475) [.str x t1, .int st t2, .str mk t3]) Q E s := by
  revert X; k_fill; intro X
  w_top off
  refine wpAny_call ?_
  k_dflt cell_enter
  (k_with "state" => with_reducible first | exact gs_start (by assumption) (by assumption) | exact gs_turn (by assumption) (by assumption) (by assumption) (by assumption))
  (k_with "exec While BoolOp cons nil" => k_while (fun _ c => c + bs x (st - 1 - c) = bs x (st - 1) ∧ 0 ≤ c ∧ (c ≤ st - 1)) (fun _ c => (st - c).toNat) "count")
  k_steps
  all_goals refine retB hret ?_ (by assumption) (by assumption)
  all_goals with_reducible first
    | exact gblk1 hs0 hm0 hs1 (by assumption) (by assumption)
    | exact fc_st0 (by assumption)
    | exact gc_sp (by first | exact gblk2 hs0 hs1 (by assumption) | exact gblk3 hs0 hs1 (by assumption)) (by assumption) (by assumption) hw hs0 hs1
    | exact fc_cnt (by first | exact gblk2 hs0 hs1 (by assumption) | exact gblk3 hs0 hs1 (by assumption)) (by assumption) (by assumption) (by first | exact gs_end1 (by assumption) (by assumption) | exact gs_end2 (by assumption) (by assumption) (by assumption))
end Mine
end

section
open PySem PySem.W PyProof.Rows PySem.Spec PySem.Calls
namespace Mine

local macro_rules | `(tactic| walk_at "callWith ref") => `(tactic| (k_here; k_dflt (first
  | refine' callWith_K ?k1 ?k2 ?_; (case k1 => k_asm); (case k2 => k_is); k_whole
  | refine' callWith_K0 ?k1 ?k2 ?_; (case k1 => k_in); (case k2 => k_is); k_whole
  | (refine' callWith_M0 ?k1 ?k2 ?_; (case k1 => k_meth); (case k2 => k_is); k_whole; try dsimp only [List.nil_append, List.cons_append])
  | refine' callWith_M ?k1 ?k2 ?k3 ?k4 ?_; (case k1 => k_asm); (case k2 => k_asm); (case k3 => k_mem); (case k4 => k_is); k_whole)))
local macro_rules | `(tactic| walk_at "call ref") => `(tactic| (k_here; k_dflt (first
  | (refine' call_cls0 ?k1 ?k2 ?k3 ?k4 ?k5 ?_; (case k1 => k_asm); (case k2 => k_asm); (case k3 => k_asm); (case k4 => k_is); (case k5 => k_is); k_whole; intro x' d' h' F' N' l1 l2; (try k_lt l1); (try k_lt2 l2); (try k_sweep))
  | (refine' call_cls ?k1 ?k2 ?k3 ?k4 ?k5 ?k6 ?_; (case k1 => k_asm); (case k2 => k_asm); (case k3 => k_asm); (case k4 => k_is); (case k5 => k_is); (case k6 => k_is); k_whole; intro x' d' h' F' N' l1 l2; (try k_lt l1); (try k_lt2 l2); (try k_sweep); k_enter)
  | (refine' call_meth ?k1 ?k2 ?_; (case k1 => k_asm); (case k2 => k_mem); k_whole; k_enter)
  | (refine wpAny_call ?_; k_enter))))
local macro_rules | `(tactic| walk_at "eval Name") => `(tactic| (k_here; k_dflt (first
  | (refine' nameX_L ?mF ?mV ?_ ?mA ?mB; (case mF => k_asm); (case mA => rfl); (case mB => rfl); (case mV => rfl); k_whole)
  | (refine' nameX_K ?mF ?mX ?mT ?mE ?_ ?mA ?mB; (case mF => k_asm); (case mX => k_asm); (case mT => k_asm); (case mA => rfl); (case mB => rfl); (case mE => k_is); k_whole)
  | (refine' nameX_B ?mF ?mX ?mT ?mE ?mV ?mN ?_ ?mA ?mB; (case mF => k_asm); (case mX => k_asm); (case mT => k_asm); (case mA => rfl); (case mB => rfl); (case mE => k_is); (case mV => boot_fast); (case mN => decide); k_whole)
  | (refine' nameX_C ?mN ?mc ?mm ?md ?_ ?mA ?mB; (case mA => rfl); (case mB => rfl); (case mN => k_asm); (case mc => rfl); (case mm => k_mem); (case md => k_asm); k_whole))))

local macro_rules | `(tactic| walk_at "call ref") => `(tactic| (k_here; (with_reducible show wpAny _ _ (call (Value.ref 422) _) _ _ _); k_dflt (refine' call_cls ?k1 ?k2 ?k3 ?k4 ?k5 ?k6 ?_; (case k1 => k_asm); (case k2 => k_asm); (case k3 => k_asm); (case k4 => k_is); (case k5 => k_is); (case k6 => k_is); k_whole; intro x' d' h' F' N' l1 l2; (try k_lt l1); (try k_lt2 l2); (try k_sweep); kc_enter)))
local macro_rules | `(tactic| walk_at "call type:super") => `(tactic| (k_here; k_dflt (refine' Mine.super2 ?k1 ?k2 ?k3 ?k4 ?k5 ?k6 ?_; (case k1 => k_asm); (case k2 => k_asm); (case k3 => k_asm); (case k4 => k_inst); (case k5 => k_is); (case k6 => k_is); k_whole); intro so' h' F' N' l1; (try k_lt l1); (try k_sweep)))
local macro_rules | `(tactic| walk_at "eval Name") => `(tactic| (k_here; (with_reducible show wpAny _ _ (eval (Expr.Name (Str.ofString "super") _) _) _ _ _); k_dflt (refine' nameX_B ?mF ?mX ?mT ?mE ?mV ?mN ?_ ?mA ?mB; (case mF => k_asm); (case mX => k_asm); (case mT => k_asm); (case mA => rfl); (case mB => rfl); (case mE => k_is); (case mV => first | boot_by_name | kernel_rfl); (case mN => decide); k_whole)))
local macro_rules | `(tactic| walk_at "execs cons") => `(tactic| ((with_reducible show wpAny _ _ (execs (Stmt.Assign [Expr.Name (Str.ofString "s") _] _ _ :: _) _) _ _ _); refine wpAny_execs_cons ?_))
local macro_rules | `(tactic| walk_at "call builtin:str.replace") => `(tactic| (k_here; first
  | (refine Mine.repl_none (by decide +kernel) ?_)
  | (refine Mine.repl_some (Nat.succ_ne_zero _) (Nat.succ_ne_zero _) (Nat.ne_of_lt (Nat.lt_succ_self _)) (by decide) (by decide) (by decide +kernel : Txt.replace _ _ _ = Str.ofString "&lt;") ?_; intro _ _)))

theorem esc_ok {w : World} {p₀ : Program} {loose : List Str} {mean : ExcName → Option Value} {mg mb : Str → Option Value}
    {dp un : Nat} {gd : Option (List Code)} {cn : Str} {cs : Scope} {a : Addr} {ccd : Value} {cl : List (Str × Addr)} {outer : List Env} {A₀ : Around} {base h₀ : Heap} {L : Addr} {m : Str → Option Value} {s : Shared} {Q E : Value → Shared → Prop}
    {t1 : Tok} {news : List (Addr × Obj)}
    (B : Below A₀ base outer h₀) (F : Fr h₀ L s.heap m) (X : (hd.heap_39 w.params).In h₀) (T : Top p₀ loose mean mg mb h₀) (hk : cs.kind = .function) (hdp : dp + 1 < recursionLimit) (_hu : un + 8 < cLine) (N : News h₀ L s.heap news)
    (hret : ∀ (t' : Tok) (h' : Heap) (tk' : Nat), Fr h₀ L h' m → News h₀ L h' news → Q (.str (Str.ofString "&lt;") t') { s with heap := h', toks := tk' }) :
    wpAny (model PySem.Challenge.rw_am6006_01.row.prog w) (ktrTop dp un gd cn cs L a ccd cl outer) (call (.ref 173) [.str (Str.ofString "<") t1]) Q E s := by
  revert X; k_fill; intro X
  w_top off
  refine wpAny_call ?_
  k_dflt (refine' code_def ?k1 ?k2 ?k3 ?k4 ?k5 ?kA ?kF ?kK ?k6 ?k7 ?k8 ?k9 ?kB ?_ ?c2 ?c3 ?c4 ?c5; (case kA => exact rfl); (case kF => exact rfl); (case kK => assumption); (case k1 => k_asm); (case k2 => k_asm); (case k3 => k_asm); (case k4 => k_asm); (case k5 => k_asm); (case k6 => k_is); (case k7 => k_is); (case k8 => ktr_room); (case k9 => exact binds_K (by k_in) rfl (by k_is) rfl rfl rfl); (case c5 => decide); (case kB => exact locs rfl); (case c2 => exact rfl); (case c3 => exact rfl); (case c4 => exact rfl); k_whole; intro g' L' h' FG' F' N' B' X' T'; (try dsimp only); (try k_lift B'); (try k_fold))
  k_steps
  all_goals exact hret _ _ _ (by assumption) (by assumption)
end Mine
end

section
open PySem PySem.W PyProof.Rows PySem.Spec PySem.Calls PySem.Builtin PySem.Builtin.ObjectAttr
namespace Mine
section
variable {prog : Program} {w : World} {A : Around} {E : Value → Shared → Prop} {s : Shared} {K : Frag} {x C L : Addr} {ox od : Obj} {name : Str} {expr : Bool} {Q : Value → Shared → Prop} {t : Tok} {cdC : ClassData}
theorem note_done {h : Heap} {g : Array GenState} {d : Drawn} {tk : Nat} {os : OsState} {A : Around} {e : Addr} {o nv : Value} {a0 : Value} {u : Tok} {Q' : Unit → Shared → Prop}
    (he : h.get? e = some { cls := .type "AttributeError", data := .fields #[a0, .none, .none, .none, .bool false, .none, .str name u, o] }) (hq : Q' () ⟨h, g, d, tk, os⟩) :
    wpAny (model prog w) A (noteIf true o nv (.ref e)) Q' E ⟨h, g, d, tk, os⟩ := by
  have f1 := sub_AttributeError
  have hT : (⟨h, g, d, tk, os⟩ : Shared).TypeIs (.ref e) "AttributeError" := ⟨_, he, rfl⟩
  unfold noteIf
  rw [if_pos rfl]
  unfold noteAttr
  refine wpAny_bind ?_
  unfold lacksNameAndObj
  refine wpAny_bind ?_
  unfold isInstance
  refine wpAny_bind (wpAny_typeOf hT ?_)
  refine wpAny_of_eq f1 ?_
  refine wpAny_bind (wpAny_load he ?_)
  exact wpAny_pure (wpAny_pure hq)
theorem attr_miss (X : K.In s.heap) (I : InstAt s.heap x ox C (some od)) (hga : findIn K (.ref C) "__getattribute__" = some (some (.builtin "object.__getattribute__")))
    (hf : findObj K C (some od) name = some .missing) (hk : findIn K (.ref C) "__getattr__" = some none) (hc : clsIn K C = some cdC) (hnm : cdC.name.cps.foldl (fun k c => k + (Str.utf8Of c).length) 0 ≤ 100)
    (hln : cdC.name.toString.length ≤ 100) (hA : A.handled = none) (hn : name.length ≤ 1000)
    (h : ∀ h' tk e, Heap.NewAttrErr s.heap h' e (.ref x) name → E (.ref e) { s with heap := h', toks := tk }) : wpAny (model prog w) A (getAttrBy (.ref x) (.str name t) true expr) Q E s := by
  refine kbm_open X I hga ?_
  obtain ⟨hh', g, d, tk, os⟩ := s
  have L0 := I.type (M := model prog w)
  have L1 := looks_find (M := model prog w) X I hf
  have L2 := looks_findIn (M := model prog w) X hk
  have L3 := looks_clsIn (M := model prog w) X hc
  refine wpAny_bind (wpAny_pure (wpAny_bind (L0.at (wpAny_bind (L1.at (wpAny_bind (L2.at ?_)))))))
  show wpAny _ _ (noSuchAttribute _ _) _ _ _
  unfold noSuchAttribute
  refine wpAny_bind ?_
  unfold typeNameOfCut shownTypeOf
  refine wpAny_bind (wpAny_bind (L0.at ?_))
  rw [if_neg (by simp)]
  refine wpAny_pure ?_
  unfold typeNameCut
  refine wpAny_bind (L3.at ?_)
  rw [if_pos hnm]
  refine wpAny_pure ?_
  refine wpAny_raiseAttrError hA (fun h' tk' e hx => ?_) ?_
  · obtain ⟨a0, u, he⟩ := hx.there
    exact note_done he (h h' tk' e hx)
  · have e1 : ∀ a b : Str, (a ++ b).length = a.length + b.length := Str.length_append
    rw [e1, e1, PySem.ofString_length, PySem.ofString_length, PySem.sizeLine_eq]
    rw [String.length_append, String.length_append]
    have a1 : (toString "'").length = 1 := by decide
    have a2 : (toString "' object has no attribute '").length = 27 := by decide
    have a3 : (toString cdC.name.toString).length = cdC.name.toString.length := rfl
    have a4 : "'".length = 1 := by decide
    omega
end
end Mine
end

section
open PySem PySem.W PyProof.Rows PySem.Spec PySem.Calls
namespace Mine
/-- e is held as the object oe, its traceback's mark is fl -/
structure Aloft (base : Heap) (l : List Env) (e : Addr) (oe : Obj) (fl : Value) (h : Heap) : Prop where
  stays : base.StaysIn h
  frames : h.FunFrames base l
  at_ : h.get? e = some oe
  traced : ∃ vs T oT ts, oe.data = .fields vs ∧ vs[1]? = some (.ref T) ∧ base.get? T = none ∧ T ≠ e ∧ h.get? T = some oT ∧ oT.data = .fields ts ∧ ts[3]? = some fl
section
variable {M : Model} {A : Around} {E : Value → Shared → Prop} {s : Shared} {base : Heap} {env : Env} {outer l : List Env} {L e : Addr} {oe : Obj} {Q : Unit → Shared → Prop}
theorem aloft_note {vs : Array Value} (hfr : A.frames = some (env :: outer)) (hl : s.heap.FunFrames base (env :: outer)) (hf : env.frame = some L)
    (he : s.heap.get? e = some oe) (hkb : base.StaysIn s.heap) (hen : base.get? e = none) (hd : oe.data = .fields vs) (h1 : vs[1]? = some .none)
    (h : ∀ h' T, Aloft base (env :: outer) e (oe.mapFields (·.setIfInBounds 1 (.ref T))) (rawInt L) h' → s.heap.UpToSlots h' → Q () { s with heap := h' }) :
    wpAny M A (noteFrame (.ref e) env) Q E s := by
  have hsz : 1 < vs.size := (Array.getElem?_eq_some_iff.mp h1).1
  have noRec : ∀ b o, s.heap.get? b = some o → (∀ ws, o.data ≠ .fields ws) → b ≠ e := fun b o hb hnf q => by
    rw [q, he] at hb; injection hb with hb; subst hb; exact hnf vs hd
  have hene : e ∉ (env :: outer).filterMap (·.frame) := fun hm => by
    obtain ⟨_, o, ho, hnf⟩ := hl.mem hm
    rw [he] at ho; injection ho with ho; subst ho; exact hnf vs hd
  unfold noteFrame
  simp only [hf]
  refine wpAny_bind (wpAny_field he hd h1 ?_)
  rw [if_neg (by decide)]
  refine wpAny_bind (wpAny_frameOf_fun hfr hl hf fun h₁ S => wpAny_bind (wpAny_entryPlaceOf fun pl hpl => ?_))
  have e₁ : h₁.get? e = some oe := (S.2.1 e hene).trans he
  have st₁ : base.StaysIn h₁ := fun b o hb => (S.2.1 b fun hm => by rw [(hl.mem hm).1] at hb; cases hb).trans (hkb b o hb)
  unfold EntryCells.newEntry newFields
  refine wpAny_bind (wpAny_newObj_type ?_ (hpl.sizeOk5 _ _ _ _ _))
  generalize hoT : ({ cls := .type "traceback", dict := none, data := .fields ([Value.none, .ref L, .none, rawInt L, .none] ++ (if pl.isEmpty then List.replicate 6 Value.none else pl)).toArray } : Obj) = oT
  have e₂ : (h₁.push oT).get? e = some oe := Heap.get?_push_of_some oT e₁
  have Tne : h₁.objs.size ≠ e := Nat.ne_of_gt (Heap.lt_size e₁)
  refine wpAny_setField e₂ hd hsz (h _ h₁.objs.size ⟨?_, ?_, ?_, ?_⟩ ?_)
  · intro b o hb
    rw [Heap.get?_update_other _ _ (fun q : e = b => by rw [← q, hen] at hb; cases hb)]
    exact Heap.get?_push_of_some _ (st₁ b o hb)
  · refine hl.of_keeps fun b o hb hnf => ?_
    obtain ⟨sl, q⟩ := S.2.2 b o hb
    refine ⟨{ o with slots := sl }, ?_, rfl⟩
    rw [Heap.get?_update_other _ _ (Ne.symm (noRec b o hb hnf))]
    exact Heap.get?_push_of_some _ q
  · exact Heap.get?_update_self _ e₂ (Obj.isFreed_of_fields (Obj.data_mapFields hd _))
  · refine ⟨_, h₁.objs.size, oT, _, Obj.data_mapFields hd _, by simp [hsz], st₁.fresh, Tne, ?_, by rw [← hoT], ?_⟩
    · rw [Heap.get?_update_other _ _ (Ne.symm Tne)]
      exact Heap.get?_push_size h₁ (by rw [← hoT]; rfl)
    · rcases hpl with rfl | ⟨_, _, _, _, _, _, _, rfl⟩ <;> simp
  · intro b o hb hnf
    obtain ⟨sl, q⟩ := S.2.2 b o hb
    refine ⟨sl, ?_⟩
    rw [Heap.get?_update_other _ _ (Ne.symm (noRec b o hb hnf))]
    exact Heap.get?_push_of_some _ q
theorem aloft_land {fl : Value} (H : Aloft base l e oe fl s.heap) (h : ∀ h', Aloft base l e oe .none h' → s.heap.UpToSlots h' → Q () { s with heap := h' }) :
    wpAny M A (setFlight (.ref e) none) Q E s := by
  obtain ⟨st, fr, he, vs, T, oT, ts, hd, h1, nT, Tne, hT, hdT, h3⟩ := H
  have hsz : 3 < ts.size := (Array.getElem?_eq_some_iff.mp h3).1
  have other : ∀ b, b ≠ T → (s.heap.update T (Obj.mapFields (·.setIfInBounds 3 Value.none))).get? b = s.heap.get? b := fun b q => Heap.get?_update_other _ _ (Ne.symm q)
  have noRec : ∀ b o, s.heap.get? b = some o → (∀ ws, o.data ≠ .fields ws) → b ≠ T := fun b o hb hnf q => by
    rw [q, hT] at hb; injection hb with hb; subst hb; exact hnf ts hdT
  refine wpAny_setFlight_none he hd h1 hT hdT hsz (h _ ⟨fun b o hb => (other b fun q => by rw [q, nT] at hb; cases hb).trans (st b o hb), fr.of_keeps fun b o hb hnf => ⟨o, (other b (noRec b o hb hnf)).trans hb, rfl⟩,
    (other e (Ne.symm Tne)).trans he, vs, T, _, _, hd, h1, nT, Tne, Heap.get?_update_self _ hT (Obj.isFreed_of_fields (Obj.data_mapFields hdT _)), Obj.data_mapFields hdT _, by simp [hsz]⟩ fun b o hb hnf => ⟨o.slots, (other b (noRec b o hb hnf)).trans hb⟩)
end
theorem isExc_Attr : isSubtype (.type "AttributeError") (.type "BaseException") = pure true := by rw [isSubtype_type]; kernel_rfl
theorem notTuple_Attr : isSubtype (.type ((Manifest.find? "AttributeError").elim "type" fun x => x.metatype)) (.type "tuple") = pure false := by
  rw [show ((Manifest.find? "AttributeError").elim "type" fun x => x.metatype) = "type" from by kernel_rfl, isSubtype_type]; kernel_rfl
def attrErr (a0 : Value) (T : Addr) (nm : Str) (u : Tok) (o : Value) : Obj := { cls := .type "AttributeError", data := .fields #[a0, .ref T, .none, .none, .bool false, .none, .str nm u, o] }
section
variable {prog : Program} {w : World} {A₀ : Around} {E : Value → Shared → Prop} {s' : Shared} {base g g₀ h : Heap} {outer : List Env} {L a e : Addr} {m : Str → Option Value} {name nm : Str} {scope : Scope} {cd o : Value}
  {b₀ : Stmt} {suite : List Stmt} {pos np : Pos} {rest : List ExceptHandler} {Q : Flow → Shared → Prop} {news : List (Addr × Obj)} {KF : Frag}
  {p : Program} {loose : List Str} {mean : ExcName → Option Value} {mg mb : Str → Option Value}
theorem caught_own (hx : Heap.NewAttrErr h s'.heap e o nm) (F : Fr g L h m) (K : Below A₀ base outer g) (N : News g L h news) (XB : KF.In base) (TB : Top p loose mean mg mb base)
    (D : KtsDicts (outer.filterMap (·.frame)) g) (T0 : KtsTurn (outer.filterMap (·.frame)) g₀ g) (ex : nsIn KF mainGlobals (Str.ofString "AttributeError") = some none)
    (k : ∀ h' g' a0 T u, KtsTurn (outer.filterMap (·.frame)) g₀ g' → Fr g' L h' m → News g' L h' ((e, attrErr a0 T nm u o) :: news) → Below A₀ base outer g' → KF.In g' → Top p loose mean mg mb g' → KtsDicts (outer.filterMap (·.frame)) g' →
      wpAny (model prog w) ((A₀.deeper (envOf name scope L a cd)).mark (some (.ref e))) (execs (b₀ :: suite) (envOf name scope L a cd)) Q E { s' with heap := h' })
    (hk : scope.kind = .function := by rfl) (hx' : (envOf name scope L a cd).kindOf (Str.ofString "AttributeError") = some .globalImplicit := by rfl)
    (hE : PassesOwnAt (model prog w) ((A₀.deeper (envOf name scope L a cd)).mark (some (.ref e))) (A₀.deeper (envOf name scope L a cd)) (envOf name scope L a cd) E := by passes_own) :
    wpAny (model prog w) (A₀.deeper (envOf name scope L a cd)) (noteFrame (.ref e) (envOf name scope L a cd))
      (fun _ s₂ => wpAny (model prog w) (A₀.deeper (envOf name scope L a cd)) (setFlight (.ref e) none) (fun _ s₃ =>
        wpAny (model prog w) (A₀.deeper (envOf name scope L a cd)) (handleBy (.ref e) (envOf name scope L a cd) (.ExceptHandler (some (.Name (Str.ofString "AttributeError") np)) none (b₀ :: suite) pos :: rest)) Q E s₃) E s₂) E s' := by
  have K' := K.push (name := name) (a := a) (cd := cd) F hk
  generalize hfs : (envOf name scope L a cd :: outer).filterMap (·.frame) = fs at *
  have inFs : ∀ b, b ∈ fs → b = L ∨ b ∈ outer.filterMap (·.frame) := fun b hb => by rw [← hfs] at hb; exact kts_mem hb
  have hin : ∀ env ∈ (envOf name scope L a cd :: outer), ∀ b, env.frame = some b → b ∈ fs := fun env he b hb => by rw [← hfs]; exact List.mem_filterMap.mpr ⟨env, he, hb⟩
  have gfr : ∀ b, b ∈ outer.filterMap (·.frame) → ∃ ob, g.get? b = some ob := fun b hb => by obtain ⟨_, ob, ho, _⟩ := K.frames.mem hb; exact ⟨ob, ho⟩
  have bfr : ∀ b, b ∈ outer.filterMap (·.frame) → base.get? b = none := fun b hb => (K.frames.mem hb).1
  have gL : g.get? L = none := kts_self F
  have bL : base.get? L = none := by
    cases q : base.get? L with
    | none => rfl
    | some ob => have := K.stays L ob q; rw [gL] at this; cases this
  have hBG : ∀ b ob, h.get? b = some ob → b ∉ fs → (hideAll h fs).get? b = some ob := fun b ob q nq => hideAll_get _ q nq
  have hgB : ∀ b ob, g.get? b = some ob → b ∉ outer.filterMap (·.frame) → (hideAll h fs).get? b = some ob := fun b ob q nq => hBG b ob (F.keep b ob q) fun hm => by
    rcases inFs b hm with z | z
    · rw [z, gL] at q; cases q
    · exact nq z
  have st : base.StaysIn (hideAll h fs) := fun b ob q => hBG b ob (K'.stays b ob q) fun hm => by
    rcases inFs b hm with z | z
    · rw [z, bL] at q; cases q
    · rw [bfr b z] at q; cases q
  have hen : (hideAll h fs).get? e = none := by
    cases q : (hideAll h fs).get? e with
    | none => rfl
    | some ob => have := of_hideAll _ q; rw [hx.new] at this; cases this
  have eL : e ≠ L := fun q => by
    obtain ⟨oL, _, _, hL, _⟩ := F.ns
    have := hx.new; rw [q, hL] at this; cases this
  have ge : g.get? e = none := kts_none F.keep hx.new
  obtain ⟨a0, u, he⟩ := hx.there
  refine aloft_note (base := hideAll h fs) K'.stack ((funFrames_hide K'.frames hin).of_keeps fun b ob hb _ => ⟨ob, hx.keeps b ob hb, rfl⟩) rfl he (fun b ob hb => hx.keeps b ob (of_hideAll _ hb)) hen rfl rfl fun h₄ T H₄ u₄ => ?_
  refine aloft_land H₄ fun h₅ H₅ u₅ => ?_
  have hsm₅ : h.UpToSlots h₅ := ((Heap.UpToSlots.of_keeps hx.keeps).trans u₄).trans u₅
  obtain ⟨g₅, T₅, F₅, K₅⟩ := kts_ground K F (by rw [hfs]; exact hBG) H₅.stays hsm₅
  have X₅ : KF.In g₅ := XB.keeps K₅.stays
  have P₅ : TopRead p loose mg mb g₅ := topRead_of (TB.keeps K₅.stays)
  refine wpAny_handleBy_builtin (X := "AttributeError") (T := "AttributeError") (b := true) isExc_Attr notTuple_Attr sub_AttributeError
    (name_B F₅ X₅ P₅ ex PyProof.Rows.Boot.«AttributeError» (by decide) ⟨rfl, ⟨_, H₅.at_, rfl⟩, ?_⟩ hk hx' (by decide))
  refine aloft_land H₅ fun h₆ H₆ u₆ => ?_
  obtain ⟨g₆, T₆, F₆, K₆⟩ := kts_ground K F (by rw [hfs]; exact hBG) H₆.stays (hsm₅.trans u₆)
  have Nl : News g₆ L h₆ ((e, attrErr a0 T nm u o) :: news) := fun q hq => by
    rcases List.mem_cons.mp hq with rfl | hq
    · exact ⟨H₆.at_, eL, T₆.none_ _ ge⟩
    · obtain ⟨n1, n2, n3⟩ := N q hq
      refine ⟨H₆.stays _ _ (hBG _ _ n1 fun hm => ?_), n2, T₆.none_ _ n3⟩
      rcases inFs _ hm with z | z
      · exact n2 z
      · obtain ⟨ob, ho⟩ := gfr _ z; rw [n3] at ho; cases ho
  have X₆ : KF.In g₆ := XB.keeps K₆.stays
  have P₆ : Top p loose mean mg mb g₆ := TB.keeps K₆.stays
  exact wpAny_passesOwnAt hE (k h₆ g₆ a0 T u (T0.trans T₆) F₆ Nl K₆ X₆ P₆ (D.turn T₆))
end
end Mine
end

section
open PySem PySem.W PyProof.Rows PySem.Spec PySem.Calls
namespace Mine
theorem unchain_entry : entryFor table "proto.unchain" = some Builtin.«proto.unchain» := entryFor_of_tree (by kernel_rfl)
theorem meta_Attr : (Value.type ((Manifest.find? "AttributeError").elim "type" fun x => x.metatype) == Value.type "type") = true := by kernel_rfl
section
variable {prog : Program} {w : World} {A : Around} {E : Value → Shared → Prop} {s : Shared} {env : Env}
/-- a raise within a handler: the exception at hand becomes the new one's context -/
theorem raise_within {x : Expr} {pos : Pos} {Q : Flow → Shared → Prop} {e₁ : Addr} (hh : A.handled = some (.ref e₁))
    (h : wpAny (model prog w) A (eval x env) (fun v s₁ => ∃ e oe vs o₁ vs₁, v = .ref e ∧ s₁.heap.get? e = some oe ∧ oe.cls = .type "AttributeError" ∧ oe.data = .fields vs ∧ vs[1]? = some .none ∧ 2 < vs.size ∧ e ≠ e₁ ∧
      s₁.heap.get? e₁ = some o₁ ∧ o₁.data = .fields vs₁ ∧ vs₁[2]? = some .none ∧ E (.ref e) { s₁ with heap := s₁.heap.update e (Obj.mapFields (·.setIfInBounds 2 (.ref e₁))) }) E s) :
    wpAny (model prog w) A (exec (.Raise (some x) none pos) env) Q E s := by
  show wpAny (model prog w) A (do standAt pos; raiseStmt env (some (do let v ← eval x env; standAt pos; pure v)) none) Q E s
  refine wpAny_bind (wpAny_standAt ?_)
  unfold raiseStmt
  dsimp only
  refine wpAny_bind (wpAny_bind (wpAny_mono h (fun v s₁ h₁ => wpAny_bind (wpAny_standAt (wpAny_pure ?_))) fun _ _ x => x))
  obtain ⟨e, oe, vs, o₁, vs₁, rfl, he, hc, hd, h1, hsz, hne, hO, hdO, h2, hE⟩ := h₁
  have hT : s₁.TypeIs (.ref e) "AttributeError" := ⟨oe, he, hc⟩
  have nt : ∀ {Q' : Bool → Shared → Prop}, Q' false s₁ → wpAny (model prog w) A (isType (.ref e)) Q' E s₁ := by
    intro Q' hq
    simp only [isType, loadHead]
    refine wpAny_bind (wpAny_loadPart he ?_)
    rw [hd]; exact wpAny_pure hq
  refine wpAny_bind (wpAny_pure ?_)
  dsimp only
  refine wpAny_bind (wpAny_holding ?_)
  unfold excFromValue isExcClass
  refine wpAny_bind (wpAny_bind (nt ?_))
  simp only [Bool.false_eq_true, if_false]
  refine wpAny_pure ?_
  simp only [Bool.false_eq_true, if_false]
  refine wpAny_bind (wpAny_isInstance hT isExc_Attr ?_)
  simp only [if_true]
  refine wpAny_pure ?_
  refine wpAny_bind (nt ?_)
  simp only [Bool.false_eq_true, if_false]
  unfold raisedInstance
  refine wpAny_bind (wpAny_bind (wpAny_typeOf hT (wpAny_bind (m := typeOf (.type "AttributeError")) (wpAny_pure ?_))))
  rw [if_pos meta_Attr]
  refine wpAny_pure ?_
  unfold setFlight raiseNew
  refine wpAny_bind (wpAny_bind (wpAny_field he hd h1 ?_))
  rw [if_neg (by decide)]
  refine wpAny_pure (wpAny_bind (wpAny_handled ?_))
  rw [hh]
  dsimp only
  have ne' : (Value.ref e₁ != Value.ref e) = true := by
    rw [bne_iff_ne]; intro q; injection q with q; exact hne q.symm
  rw [if_pos ne']
  refine wpAny_bind (wpAny_holding (wpAny_runValue (codeAny_builtin unchain_entry ?_)))
  unfold Builtin.«proto.unchain»
  dsimp only
  refine wpAny_bind (wpAny_field hO hdO h2 ?_)
  rw [if_pos (by decide)]
  refine wpAny_pure ?_
  dsimp only
  unfold updateField
  refine wpAny_bind (wpAny_bind (wpAny_load he ?_))
  rw [hd]
  dsimp only
  rw [if_pos hsz]
  exact wpAny_update he (wpAny_throw hE)
end
end Mine
end

section
open PySem PySem.W PyProof.Rows PySem.Spec PySem.Calls
namespace Mine
theorem at_newEntry : entryFor table "Exception.__new__" = some Builtin.«BaseException.__new__» := entryFor_alias (id' := "BaseException.__new__") (by rw [fastTable_eq_tree]; kernel_rfl) (by first | rfl | decide +kernel) (by decide +kernel) (by rw [fastTable_eq_tree]; kernel_rfl)
theorem at_initEntry : entryFor table "AttributeError.__init__" = some Builtin.«AttributeError.__init__» := by first | exact entryFor_of_fast (by kernel_rfl) | exact entryFor_of_tree (by kernel_rfl)
theorem at_sub : isSubtype (.type "AttributeError") (.type "Exception") = pure true := by rw [isSubtype_type]; kernel_rfl
theorem at_notName : isSubtype (.type "AttributeError") (.type "NameError") = pure false := by rw [isSubtype_type]; kernel_rfl
theorem at_made : Bind.madeHere "BaseException.__new__" (.type "AttributeError") = pure () := by kernel_rfl
theorem at_notType : (Value.type "AttributeError" == Value.type "type") = false := by decide +kernel
theorem at_canNew : (((Manifest.find? "AttributeError").bind (·.mro.findSome? fun (t : String) => (Manifest.find? t).bind fun b => if b.noNew then some true else if b.attrs.any (·.1 == "__new__") then some false else none)).getD false) = false := by kernel_rfl
theorem at_mro : ∃ m, mroOf (.type "AttributeError") = pure m ∧ m.isEmpty = false := ⟨[.type "AttributeError", .type "Exception", .type "BaseException", .type "object"], by rw [mroOf_type]; kernel_rfl, rfl⟩
theorem at_madeBy : Bind.madeBy (.type "AttributeError") = pure (some "Exception.__new__") := by kernel_rfl
theorem at_typeCall (rest : List Value) : checkTypeCall "AttributeError" ⟨rest, []⟩ = pure () := by kernel_rfl
theorem at_newCheck (rest : List Value) : checkBuiltinCall "Exception.__new__" ⟨.type "AttributeError" :: rest, []⟩ = pure () := by kernel_rfl
theorem at_init : Slot "AttributeError" "__init__" "AttributeError.__init__" := .of (owner := "AttributeError") (n := "__init__") (by rw [typeLookup_type, builtinLookup_eq_fast]; kernel_rfl) (by decide +kernel) (by decide +kernel) (by decide +kernel)
    (by first | exact .inl (by decide +kernel) | exact .inr (by decide +kernel)) (by rw [isSubtype_type]; kernel_rfl)
theorem at_initSig : Manifest.signature? "AttributeError.__init__" = some ⟨.hand, "wrapper __init__", "", .self, []⟩ := by kernel_rfl
theorem at_initKind : builtinKind "AttributeError.__init__" = some .slot := by kernel_rfl
theorem at_initSplit : splitId "AttributeError.__init__" = some ("AttributeError", "__init__") := by kernel_rfl
end Mine
end

section
open PySem PySem.W PyProof.Rows PySem.Spec PySem.Calls
namespace Mine
/-- e is a fresh AttributeError -/
structure FreshAttr (h h' : Heap) (e : Addr) : Prop where
  keeps : ∀ b o, h.get? b = some o → h'.get? b = some o
  new : h.get? e = none
  there : ∃ t x y, h'.get? e = some { cls := .type "AttributeError", data := .fields #[.ref t, .none, .none, .none, .bool false, .none, x, y] }
section
variable {prog : Program} {w : World} {A : Around} {E : Value → Shared → Prop} {s : Shared}
theorem at_new {v : Value} {Q : Value → Shared → Prop}
    (h : Q (.ref (s.heap.push { cls := .type "tuple", data := .seq [v].toArray }).objs.size) { s with heap := (s.heap.push { cls := .type "tuple", data := .seq [v].toArray }).push { cls := .type "AttributeError", data := .fields #[.ref s.heap.objs.size, .none, .none, .none, .bool false, .none, rawInt 0, rawInt 0] } }) :
    wpAny (model prog w) A (call (.builtin "Exception.__new__") [.type "AttributeError", v]) Q E s := by
  refine call_builtin_at (by decide +kernel) at_newEntry (at_newCheck [v]) ?_
  unfold Builtin.«BaseException.__new__»
  refine PyProof.Rows.wpAt_bind (wpAt_owner rfl (by decide +kernel) (wpAt_of_any ?_))
  dsimp only
  refine wpAny_bind (m := isType _) (wpAny_of_eq (a := true) rfl ?_)
  simp only [Bool.not_true, Bool.false_eq_true, if_false]
  refine wpAny_bind (wpAny_of_eq (show isSubtype (.type "AttributeError") (.type ("Exception.__new__".dropRight 8)) = pure true from (by rw [show "Exception.__new__".dropRight 8 = "Exception" from by decide +kernel]; exact at_sub)) ?_)
  simp only [Bool.not_true, Bool.false_eq_true, if_false]
  refine wpAny_bind (wpAny_of_eq at_made ?_)
  refine wpAny_bind (wpAny_of_eq (a := 2) ?own ?_)
  case own =>
    show (do
      if ← isSubtype (.type "AttributeError") (.type "AttributeError") then return 2
      if ← isSubtype (.type "AttributeError") (.type "NameError") then return 1
      return 0 : Sem Nat) = pure 2
    simp only [sub_AttributeError, pure_bind, if_true]
  unfold newTuple
  refine wpAny_bind (wpAny_newObj_type (wpAny_bind (wpAny_newObj_type (wpAny_pure ⟨_, rfl, ?_⟩) (by size_fits))) (by size_fits))
  exact h
theorem at_check {M : Model} {self v : Value} {Q : Unit → Shared → Prop} (hT : s.TypeIs self "AttributeError") (hQ : Q () s) : wpAny M A (checkBuiltinCall "AttributeError.__init__" ⟨[self, v], []⟩) Q E s := by
  have hs := sub_AttributeError
  simp only [checkBuiltinCall, at_initKind, at_initSplit, at_initSig]
  refine wpAny_bind (wpAny_isInstance hT hs ?_)
  simp only [Bool.not_true, Bool.false_eq_true, if_false]
  obtain ⟨hp, g, d, tk, os⟩ := s
  unfold Bind.checkArgs
  wp_walk
  exact hQ
def attrNew (t : Addr) : Obj := { cls := .type "AttributeError", data := .fields #[.ref t, .none, .none, .none, .bool false, .none, rawInt 0, rawInt 0] }
theorem at_put {M : Model} {e t : Addr} {i : Nat} {Q : Unit → Shared → Prop} (he : s.heap.get? e = some (attrNew t)) (hi : i = 6 ∨ i = 7)
    (h : ∀ h', (∀ b o, b ≠ e → s.heap.get? b = some o → h'.get? b = some o) → h'.get? e = some (attrNew t) → Q () { s with heap := h' }) : wpAny M A (Builtin.Exceptions.excPut (.ref e) i Builtin.Exceptions.excUnset) Q E s := by
  unfold Builtin.Exceptions.excPut
  have k : ∀ b o, b ≠ e → s.heap.get? b = some o → (s.heap.update e (Obj.mapFields (·.setIfInBounds i Builtin.Exceptions.excUnset))).get? b = some o := fun b o q ho => (Heap.get?_update_other _ _ (Ne.symm q)).trans ho
  have f := Heap.get?_update_self (Obj.mapFields (·.setIfInBounds i Builtin.Exceptions.excUnset)) he rfl
  rcases hi with rfl | rfl
  · exact wpAny_bind (wpAny_field he rfl rfl (wpAny_bind (wpAny_setField he rfl (by show 6 < 8; decide) (wpAny_pure (h _ k f)))))
  · exact wpAny_bind (wpAny_field he rfl rfl (wpAny_bind (wpAny_setField he rfl (by show 7 < 8; decide) (wpAny_pure (h _ k f)))))
theorem at_init_run {e t0 : Addr} {v : Value} {Q : Value → Shared → Prop} (he : s.heap.get? e = some (attrNew t0))
    (h : ∀ h', (∀ b o, b ≠ e → s.heap.get? b = some o → h'.get? b = some o) → (∃ t x y, h'.get? e = some { cls := .type "AttributeError", data := .fields #[.ref t, .none, .none, .none, .bool false, .none, x, y] }) → Q .none { s with heap := h' }) :
    wpAny (model prog w) A (call (.builtin "AttributeError.__init__") [.ref e, v]) Q E s := by
  have hT : s.TypeIs (.ref e) "AttributeError" := ⟨_, he, rfl⟩
  refine wpAny_call (codeAny_call_builtin at_init.plain at_initEntry (at_check hT ?_))
  have lt := Heap.lt_size he
  unfold Builtin.«AttributeError.__init__» Builtin.Exceptions.excInitWithMembers
  dsimp only
  unfold newTuple
  refine wpAny_bind (wpAny_newObj_type ?_ (by size_fits))
  have e1 := Heap.get?_push_of_some (h := s.heap) { cls := .type "tuple", data := .seq [v].toArray } he
  have e2 := Heap.get?_update_self (Obj.mapFields (·.setIfInBounds 0 (.ref s.heap.objs.size))) e1 rfl
  refine wpAny_bind ?_
  rw [Builtin.Exceptions.excPut]
  refine wpAny_bind (wpAny_field e1 rfl rfl (wpAny_bind (wpAny_setField e1 rfl (by show 0 < 8; decide) ?_)))
  refine wpAny_letGo ?_
  unfold Builtin.Exceptions.excOwnKeywords Builtin.Exceptions.excSetOwn
  simp only [List.length_nil, List.length_cons, gt_iff_lt, Nat.not_lt_zero, if_false, List.map_cons, List.map_nil, List.lookup_nil, Option.getD_none, List.forIn_nil, pure_bind, List.zipIdx_cons, List.zipIdx_nil, List.forIn_cons]
  refine wpAny_bind (wpAny_bind (wpAny_fieldsOf e2 rfl ?_))
  rw [if_neg (by simp)]
  simp only [bind_assoc, pure_bind, Nat.zero_add]
  refine wpAny_bind (at_put (t := s.heap.objs.size) e2 (.inl rfl) fun h₁ k₁ f₁ => ?_)
  refine wpAny_bind (at_put (t := s.heap.objs.size) f₁ (.inr rfl) fun h₂ k₂ f₂ => ?_)
  refine wpAny_pure (wpAny_pure ?_)
  refine h h₂ (fun b o hb ho => ?_) ⟨_, _, _, f₂⟩
  refine k₂ b o hb (k₁ b o hb ?_)
  rw [Heap.get?_update_other _ _ (Ne.symm hb)]
  exact Heap.get?_push_of_some _ ho
theorem at_call {v : Value} {Q : Value → Shared → Prop} (h : ∀ h' e, FreshAttr s.heap h' e → Q (.ref e) { s with heap := h' }) :
    wpAny (model prog w) A (call (.type "AttributeError") [v]) Q E s := by
  refine wpAny_call (codeAny_of_tree ?_)
  show wpAny _ _ (callAny (.type "AttributeError") ⟨[v], []⟩) _ _ s
  simp only [callAny]
  refine wpAny_pure ⟨Code.quiet_builtin _ (by decide +kernel), codeAny_builtin entry_type_call ?_⟩
  rw [Around.under_plain (weight_type_call "AttributeError" _ _) (by first | rfl | kernel_rfl | decide +kernel)]
  unfold Builtin.«type.__call__»
  dsimp only
  rw [if_neg (by rw [at_notType]; exact Bool.false_ne_true), if_neg (by rw [at_canNew]; exact Bool.false_ne_true)]
  obtain ⟨l, hl, hle⟩ := at_mro
  refine wpAny_bind (wpAny_of_eq (at_typeCall [v]) (wpAny_bind (wpAny_of_eq hl ?_)))
  rw [if_neg (by rw [hle]; exact Bool.false_ne_true)]
  refine wpAny_bind (wpAny_of_eq at_madeBy ?_)
  dsimp only
  refine wpAny_bind (wpAny_pure (wpAny_bind (wpAny_holding (at_new ?_))))
  generalize ht : (s.heap.push { cls := .type "tuple", data := .seq [v].toArray }) = h₁
  have ne : s.heap.get? h₁.objs.size = none := Heap.get?_none_of_le (by rw [← ht]; simp)
  have he : (h₁.push { cls := .type "AttributeError", data := .fields #[.ref s.heap.objs.size, .none, .none, .none, .bool false, .none, rawInt 0, rawInt 0] }).get? h₁.objs.size = some (attrNew s.heap.objs.size) := Heap.get?_push_size _ rfl
  refine wpAny_bind (wpAny_isInstance (T := "AttributeError") ⟨_, he, rfl⟩ sub_AttributeError ?_)
  simp only [Bool.not_true, Bool.false_eq_true, if_false]
  refine wpAny_bind (wpAny_holding (wpAny_callSpecial?_slot (name := Str.ofString "__init__") (T := "AttributeError") ⟨_, he, rfl⟩ at_init (at_init_run he fun h' k f => ?_)))
  dsimp only
  rw [if_neg (by simp)]
  refine wpAny_pure (h _ _ ⟨fun b o hb => ?_, ne, f⟩)
  refine k b o (fun q => by rw [q, ne] at hb; cases hb) (Heap.get?_push_of_some _ ?_)
  rw [← ht]
  exact Heap.get?_push_of_some _ hb
end
end Mine
end

section
open PySem PySem.W PyProof.Rows PySem.Spec PySem.Calls PySem.Builtin PySem.Builtin.ObjectAttr
namespace Mine
theorem findObj_miss {K : Frag} {C : Addr} {od : Obj} {name : Str} (hh : hasDictIn K C = true) (ha : findIn K (.ref C) name = some none) (hc : copiedNames.contains name = false) (hl : lookIn name od = some none) : findObj K C (some od) name = some .missing := by
  obtain ⟨cd, hc', hd⟩ := any_some hh
  unfold findObj
  have ho : W.ownOf cd (some od) name = some none := by unfold W.ownOf; rw [if_pos hd]; exact hl
  rw [hc', Option.bind_some, ha, Option.bind_some]
  simp only [Option.bind_some, ho, hc, Bool.false_and, Bool.false_eq_true, if_false]
section
variable {prog : Program} {w : World} {A : Around} {E : Value → Shared → Prop} {s : Shared} {K : Frag} {x C L : Addr} {ox : Obj} {name : Str} {expr : Bool} {Q : Value → Shared → Prop} {t : Tok} {h₀ : Heap} {m : Str → Option Value} {es : List DictEntry} {n : Nat}
theorem attr_missK (F : Fr h₀ L s.heap m) (X₀ : K.In h₀) (I : InstAt s.heap x ox C (some (dictOf es n))) (hg : plainGet K C name = true) (hh : hasDictIn K C = true) (ha : findIn K (.ref C) name = some none)
    (hc : copiedNames.contains name = false) (hl : getL name es = some none) {cd : ClassData} (hcd : clsIn K C = some cd) (b1 : cd.name.cps.foldl (fun k c => k + (Str.utf8Of c).length) 0 ≤ 100) (b2 : cd.name.toString.length ≤ 100) (hA : A.handled = none) (hn : name.length ≤ 1000)
    (h : ∀ h' tk e, Heap.NewAttrErr s.heap h' e (.ref x) name → E (.ref e) { s with heap := h', toks := tk }) : wpAny (model prog w) A (getAttrBy (.ref x) (.str name t) true expr) Q E s := by
  exact attr_miss (X₀.keeps F.keep) I (plainGet_of hg).1 (findObj_miss hh ha hc (by show lookIn name (dictOf es n) = _; rw [lookIn_dict, hl])) (plainGet_of hg).2 hcd b1 b2 hA hn h
end
/-- what a raise within the handler of e₁ has to show -/
def RaiseW (E : Value → Shared → Prop) (e₁ : Addr) (v : Value) (s₁ : Shared) : Prop := ∃ e oe vs o₁ vs₁, v = .ref e ∧ s₁.heap.get? e = some oe ∧ oe.cls = .type "AttributeError" ∧ oe.data = .fields vs ∧ vs[1]? = some .none ∧ 2 < vs.size ∧ e ≠ e₁ ∧
      s₁.heap.get? e₁ = some o₁ ∧ o₁.data = .fields vs₁ ∧ vs₁[2]? = some .none ∧ E (.ref e) { s₁ with heap := s₁.heap.update e (Obj.mapFields (·.setIfInBounds 2 (.ref e₁))) }
section
variable {prog : Program} {w : World} {A : Around} {E : Value → Shared → Prop} {s : Shared} {env : Env}
theorem raise_withinW {x : Expr} {pos : Pos} {Q : Flow → Shared → Prop} {e₁ : Addr} (hh : A.handled = some (.ref e₁)) (h : wpAny (model prog w) A (eval x env) (RaiseW E e₁) E s) : wpAny (model prog w) A (exec (.Raise (some x) none pos) env) Q E s := raise_within hh h
theorem raiseW_of {g h : Heap} {L e e₁ T : Addr} {nm : Str} {u : Tok} {o a0 : Value} {news : List (Addr × Obj)} (X : FreshAttr h s.heap e) (N : News g L h news) (hm : (e₁, attrErr a0 T nm u o) ∈ news)
    (k : ∀ h'', Heap.NewExcOf h h'' e "AttributeError" → E (.ref e) { s with heap := h'' }) : RaiseW E e₁ (.ref e) s := by
  obtain ⟨kp, nw, t, x, y, he⟩ := X
  have h1 := (N _ hm).1
  have ne : e ≠ e₁ := fun q => by rw [q] at nw; rw [h1] at nw; cases nw
  refine ⟨e, _, _, _, _, rfl, he, rfl, rfl, rfl, by show 2 < 8; decide, ne, kp _ _ h1, rfl, rfl, k _ ⟨fun b ob hb => ?_, nw, ?_⟩⟩
  · rw [Heap.get?_update_other _ _ (fun q => by rw [← q, nw] at hb; cases hb)]
    exact kp b ob hb
  · exact ⟨_, _, Heap.get?_update_self _ he rfl, rfl, rfl, rfl⟩
end
section
variable {M : Model} {A : Around} {E : Value → Shared → Prop} {s' : Shared} {base g h : Heap} {outer : List Env} {L a e : Addr} {m : Str → Option Value} {name : Str} {scope : Scope} {cd : Value} {Q : Unit → Shared → Prop} {news : List (Addr × Obj)}
theorem leave_of {cls : String} (K : Below A base outer g) (hx : Heap.NewExcOf h s'.heap e cls) (F : Fr g L h m) (N : News g L h news)
    (hQ : ∀ h', RaisedSN base g outer e (.type cls) news h' → RaisedN base outer e (.type cls) news h' → g.UpToSlots h' → Q () { s' with heap := h' }) (hk : scope.kind = .function := by rfl) :
    wpAny M (A.deeper (envOf name scope L a cd)) (leaving (envOf name scope L a cd) (.ref e)) Q E s' := by
  have K' := K.push (name := name) (a := a) (cd := cd) F hk
  generalize hfs : (envOf name scope L a cd :: outer).filterMap (·.frame) = fs at *
  have inFs : ∀ b, b ∈ fs → b = L ∨ b ∈ outer.filterMap (·.frame) := fun b hb => by rw [← hfs] at hb; exact kts_mem hb
  have hin : ∀ env ∈ (envOf name scope L a cd :: outer), ∀ b, env.frame = some b → b ∈ fs := fun env he b hb => by rw [← hfs]; exact List.mem_filterMap.mpr ⟨env, he, hb⟩
  have gL : g.get? L = none := kts_self F
  have gfr : ∀ b, b ∈ outer.filterMap (·.frame) → base.get? b = none ∧ ∃ ob, g.get? b = some ob := fun b hb => by obtain ⟨z, ob, ho, _⟩ := K.frames.mem hb; exact ⟨z, ob, ho⟩
  have hBG : ∀ b ob, g.get? b = some ob → b ∉ outer.filterMap (·.frame) → (hideAll h fs).get? b = some ob := fun b ob q nq => hideAll_get _ (F.keep b ob q) fun hm => by
    rcases inFs b hm with z | z
    · rw [z, gL] at q; cases q
    · exact nq z
  have st : base.StaysIn (hideAll h fs) := fun b ob q => hBG b ob (K.stays b ob q) fun hm => by rw [(gfr b hm).1] at q; cases q
  have hl : ∀ q ∈ news, (hideAll h fs).get? q.1 = some q.2 ∧ g.get? q.1 = none ∧ base.get? q.1 = none := fun q hq => by
    obtain ⟨n1, n2, n3⟩ := N q hq
    refine ⟨hideAll_get _ n1 fun hm => ?_, n3, fresh_of_stays K.stays n3⟩
    rcases inFs _ hm with z | z
    · exact n2 z
    · obtain ⟨_, ob, ho⟩ := gfr _ z; rw [n3] at ho; cases ho
  have hen : (hideAll h fs).get? e = none := by
    cases q : (hideAll h fs).get? e with
    | none => rfl
    | some ob => have := of_hideAll _ q; rw [hx.new] at this; cases this
  obtain ⟨ob, vs, he, hcls, hd, h1⟩ := hx.there
  obtain ⟨a0, ha0⟩ : ∃ a0, vs[0]? = some a0 := ⟨vs[0]'(Nat.lt_of_le_of_lt (Nat.zero_le 1) (Array.getElem?_eq_some_iff.mp h1).1), Array.getElem?_eq_some_iff.mpr ⟨_, rfl⟩⟩
  refine wpAny_leaving_firstW (a0 := a0) K'.stack ((funFrames_hide K'.frames hin).of_keeps fun b ob hb _ => ⟨ob, hx.keeps b ob hb, rfl⟩) rfl he (fun b ob hb => hx.keeps b ob (of_hideAll _ hb)) hen hd h1 ha0 fun h' hL => ?_
  obtain ⟨k1, ⟨_, _, k2⟩, k3, k4⟩ := hL
  have R : RaisedSN base g outer e (.type cls) news h' := ⟨hideAll h fs, a0, st, hBG, hl, k1, hen, k2, by rw [← hcls]; exact k3⟩
  exact hQ h' R R.toN (((Heap.UpToSlots.of_keeps F.keep).trans (Heap.UpToSlots.of_keeps hx.keeps)).trans k4)
end
end Mine
end

section
open PySem PySem.W PyProof.Rows PySem.Spec PySem.Calls
namespace Mine
theorem fn_noBool : typeLookup (.type "function") (Str.ofString "__bool__") = pure none := am_miss_of_fast (by kernel_rfl)
theorem fn_noLen : typeLookup (.type "function") (Str.ofString "__len__") = pure none := am_miss_of_fast (by kernel_rfl)
theorem truthy_func {M : Model} {A : Around} {E : Value → Shared → Prop} {s : Shared} {h₀ : Heap} {L x : Addr} {news : List (Addr × Obj)} {o : Obj} {Q : Bool → Shared → Prop} (N : News h₀ L s.heap news) (hm : (x, o) ∈ news) (hc : o.cls = .type "function") (h : Q true s) : wpAny M A (PySem.truthy (.ref x)) Q E s := by
  have hT : s.TypeIs (.ref x) "function" := ⟨o, (N _ hm).1, hc⟩
  unfold PySem.truthy
  refine wpAny_bind (wpAny_callSpecial?_none (name := Str.ofString "__bool__") hT fn_noBool ?_)
  refine wpAny_bind (wpAny_specialOf (name := Str.ofString "__len__") hT fn_noLen ?_)
  exact wpAny_pure h
end Mine
end

section
open PySem PySem.W PyProof.Rows PySem.Spec PySem.Calls
namespace Mine
def tup1 (v : Value) : Obj := { cls := .type "tuple", data := .seq [v].toArray }
def dict0 : Obj := { cls := .type "dict", data := .dict #[] }
section
variable {M : Model} {A : Around} {E : Value → Shared → Prop} {s : Shared}
theorem bind_lam {name qual : Str} {p1 p2 : Pos} {body : Expr} {scope : Scope} {cl : List (Str × Addr)} {pm cdv ct v : Value} {an kn : Str} {Q : List (Str × Value) → Shared → Prop}
    (h : Q [(an, .ref s.heap.objs.size), (kn, .ref (s.heap.push (tup1 v)).objs.size)] { s with heap := (s.heap.push (tup1 v)).push dict0 }) :
    wpAny M A (bindArgs (kla_fn name qual ⟨[], [], some ⟨an, none, p1⟩, [], [], some ⟨kn, none, p2⟩, []⟩ body scope cl pm cdv ct) ⟨[v], []⟩) Q E s := by
  unfold bindArgs
  dsimp only
  simp only [List.map_nil, List.append_nil, List.zip_nil_left, List.forIn_nil, pure_bind, List.length_nil, List.drop_zero, List.take_nil, List.filter_nil, List.filterMap_nil, List.nil_append, List.isEmpty_nil, Bool.not_true, Bool.false_eq_true, if_false, Option.isNone_some, Bool.and_false, List.drop_nil]
  refine wpAny_bind ?_
  unfold newTuple
  refine wpAny_pure (wpAny_bind (wpAny_newObj_type ?_ (by size_fits)))
  rw [if_neg (Nat.not_lt_zero _)]
  exact wpAny_bind (wpAny_alloc (wpAny_pure h))
end
section
variable {prog : Program} {w : World} {A A₀ : Around} {s : Shared} {K : Frag} {L : Addr} {h₀ base : Heap} {m mg mb : Str → Option Value} {news : List (Addr × Obj)} {p : Program} {loose : List Str} {mean : ExcName → Option Value}
theorem lam_code {env : Env} {outer : List Env} {R : Result → Shared → Prop} {name qual : Str} {p1 p2 : Pos} {body : Expr} {scope : Scope} {cl : List (Str × Addr)} {pm ctv v : Value} {an kn : Str} {c' : Addr} {f : Addr}
    (B : Below A₀ base outer h₀) (F : Fr h₀ L s.heap m) (X₀ : K.In h₀) (N : News h₀ L s.heap news) (T : Top p loose mean mg mb h₀) (hA : A.frames = some (env :: outer)) (hf : env.frame = some L) (hke : env.scope.kind = .function)
    (ho : (f, kla_obj name qual ⟨[], [], some ⟨an, none, p1⟩, [], [], some ⟨kn, none, p2⟩, []⟩ body scope cl pm c' ctv) ∈ news) (hcd : s.heap.CodeRec (.ref c') qual) (hroom : A.depth < recursionLimit)
    (hloc : scope.names.lookup an = some .local) (hloc' : scope.names.lookup kn = some .local)
    (h : ∀ g L' h₁ t d, Fr h₀ L g m → Fr g L' h₁ (fun y => [(an, Value.ref t), (kn, Value.ref d)].reverse.lookup y) → News g L' h₁ ((d, dict0) :: (t, tup1 v) :: news) → (∀ q ∈ news, q.1 < t) → t < d → (d == sysModules) = false →
      Below A base (env :: outer) g → K.In g → Top p loose mean mg mb g →
      wpAny (model prog w) (A.deeper (envX qual scope L' f (.ref c') cl)) (eval body (envX qual scope L' f (.ref c') cl))
        (fun v s' => LeaveK h₀ L m g R v s')
        (fun e s' => wpAny (model prog w) (A.deeper (envX qual scope L' f (.ref c') cl)) (leaving (envX qual scope L' f (.ref c') cl) e) (fun _ s'' => R (.error e) s'') (fun e' s'' => R (.error e') s'') s')
        { s with heap := h₁, toks := s.toks + 2 })
    (hco : scope.isCoroutine = false) (hgen : scope.isGenerator = false) (hk : scope.kind = .function)
    (hcell : ∀ x ∈ scope.names, x.2 ≠ .cell) : codeAny (model prog w) A (.call (.ref f) ⟨[v], []⟩) R s := by
  refine kla_callFunE hroom (N _ ho).1 rfl hco hgen rfl hcd (bind_lam ?_)
  have lt : ∀ q ∈ news, q.1 < s.heap.objs.size := fun q hq => Heap.lt_size (N q hq).1
  have F2 : Fr h₀ L ((s.heap.push (tup1 v)).push dict0) m := (F.push _).push _
  have N2 : News h₀ L ((s.heap.push (tup1 v)).push dict0) (((s.heap.push (tup1 v)).objs.size, dict0) :: (s.heap.objs.size, tup1 v) :: news) := (N.push F _).push (F.push _) _
  have low : sysModules < h₀.objs.size := modules_low T.nolimit
  have hd : ((s.heap.push (tup1 v)).objs.size == sysModules) = false := by
    rw [beq_eq_false_iff_ne]
    have l1 : h₀.objs.size ≤ s.heap.objs.size := Nat.le_trans F.above (Nat.le_of_lt F.ns.lt)
    rw [Heap.size_push]
    exact Nat.ne_of_gt (Nat.lt_of_lt_of_le low (Nat.le_trans l1 (Nat.le_succ _)))
  have td : s.heap.objs.size < (s.heap.push (tup1 v)).objs.size := by rw [Heap.size_push]; exact Nat.lt_succ_self _
  generalize hS : ({ s with heap := (s.heap.push (tup1 v)).push dict0 } : Shared) = s₂
  have hh : s₂.heap = (s.heap.push (tup1 v)).push dict0 := by rw [← hS]
  generalize hnn : (((s.heap.push (tup1 v)).objs.size, dict0) :: (s.heap.objs.size, tup1 v) :: news) = nn at N2
  rw [← hh] at F2 N2
  obtain ⟨FG, BG, st, lv⟩ := groundX (R := R) B F2 N2 hA hf hke
  refine wpAny_newFunctionEnv hcell (fun y hy => ?_) (fun h₁ hns hsb => ⟨((T.nolimit).keeps F2.keep).fresh _ hsb, ?_⟩) hk
  · rcases List.mem_cons.mp hy with rfl | hy
    · exact hloc
    · rcases List.mem_cons.mp hy with rfl | hy
      · exact hloc'
      · cases hy
  show codeAny _ _ (.expr body (envX qual scope s₂.heap.objs.size f (.ref c') cl)) _ _
  have hk₁ : ∀ b o, s₂.heap.get? b = some o → h₁.get? b = some o := fun b o e => hsb.extBut b o (Nat.ne_of_lt (Heap.lt_size e)) (Heap.get?_push_of_some _ e)
  have ofH : ∀ b o, (hideAll s₂.heap (nn.map (·.1))).get? b = some o → s₂.heap.get? b = some o := fun b o e => of_hideAll _ e
  have hsz : (hideAll s₂.heap (nn.map (·.1))).objs.size ≤ s₂.heap.objs.size := Nat.le_of_eq (hideAll_size _ _)
  have Nn : News (hideAll s₂.heap (nn.map (·.1))) s₂.heap.objs.size h₁ nn := fun p hp => ⟨hk₁ _ _ (N2 p hp).1, Nat.ne_of_lt (Heap.lt_size (N2 p hp).1), hideAll_none _ (List.mem_map_of_mem hp)⟩
  generalize hideAll s₂.heap (nn.map (·.1)) = gg at *
  subst hnn
  have z := h _ s₂.heap.objs.size h₁ _ _ FG ⟨hns, fun b o e => hk₁ b o (ofH b o e), hsz⟩ Nn lt td hd BG (X₀.keeps st) (T.keeps st)
  subst hS
  exact kla_codeExpr (wpAny_mono z (fun v s' hl => lv _ _ hl) fun _ _ y => y)
end
theorem dict_iter : typeLookup (.type "dict") (Str.ofString "__iter__") = pure (some (.builtin "dict.__iter__")) := by rw [typeLookup_type, builtinLookup_eq_fast]; kernel_rfl
theorem dict_sub : isSubtype (.type "dict") (.type "dict") = pure true := by rw [isSubtype_type]; kernel_rfl
section
variable {M : Model} {A : Around} {E : Value → Shared → Prop} {s : Shared} {h₀ : Heap} {L : Addr} {m : Str → Option Value} {news : List (Addr × Obj)}
theorem merge_map {q d : Addr} {Q : Unit → Shared → Prop} (g1 : s.heap.get? q = some dict0) (g2 : s.heap.get? d = some dict0) (lo : (d == sysModules) = false) (h : Q () s) : wpAny M A (mergeMapping q (.ref d) true) Q E s := by
  have hT : s.TypeIs (.ref d) "dict" := ⟨_, g2, rfl⟩
  unfold mergeMapping
  refine wpAny_bind (wpAny_isInstance hT dict_sub ?_)
  rw [if_pos rfl]
  refine wpAny_bind (wpAny_specialOf (name := Str.ofString "__iter__") hT dict_iter (wpAny_bind (wpAny_pure ?_)))
  rw [show ((some (Value.builtin "dict.__iter__") == some (Value.builtin "dict.__iter__")) : Bool) = true from by decide]
  dsimp only
  rw [if_neg (by rw [lo]; exact Bool.false_ne_true)]
  refine wpAny_bind (wpAny_dictEntries g1 rfl ?_)
  rw [if_pos (show (#[] : Array DictEntry).isEmpty = true from rfl)]
  refine wpAny_bind (wpAny_dictEntries g2 rfl ?_)
  refine wpAny_bind ?_
  rw [← Array.forIn_toList]
  show wpAny M A (forIn ([] : List DictEntry) _ _) _ _ _
  rw [List.forIn_nil]
  refine wpAny_pure ?_
  refine wpAny_bind (wpAny_dictEntries g2 rfl (wpAny_bind (wpAny_dictEpoch g2 rfl ?_)))
  show wpAny M A (forIn ([] : List Nat) _ _ >>= _) _ _ _
  rw [List.forIn_nil]
  exact wpAny_bind (wpAny_pure (wpAny_pure h))
theorem merge_none {d : Addr} {Q : Addr → Shared → Prop} {f : Value} {x : Sem Value} (F : Fr h₀ L s.heap m) (N : News h₀ L s.heap news) (hd : (d, dict0) ∈ news) (lo : (d == sysModules) = false)
    (hx : ∀ (s₁ : Shared) (Q' : Value → Shared → Prop) (E' : Value → Shared → Prop), Fr h₀ L s₁.heap m → Q' (.ref d) s₁ → wpAny M A x Q' E' s₁)
    (h : Fr h₀ L (s.heap.push dict0) m → News h₀ L (s.heap.push dict0) ((s.heap.objs.size, dict0) :: news) → Q s.heap.objs.size { s with heap := s.heap.push dict0 }) :
    wpAny M A (mergedKeywords f [(none, x)]) Q E s := by
  have F1 := F.push dict0
  have N1 := N.push F dict0
  have g1 := (N1 _ (.head _)).1
  have g2 := (N1 _ (.tail _ hd)).1
  unfold mergedKeywords
  refine wpAny_bind (wpAny_alloc (wpAny_bind (wpAny_holding ?_)))
  refine wpAny_bind ?_
  rw [List.forIn_cons]
  refine wpAny_bind (wpAny_bind ?_)
  show wpAny M A (if ([] : List (Str × Sem Value)).isEmpty = true then pure () else _) _ _ _
  rw [if_pos (show ([] : List (Str × Sem Value)).isEmpty = true from rfl)]
  refine wpAny_pure (wpAny_bind (hx _ _ _ F1 ?_))
  refine wpAny_bind (wpAny_onRaise (wpAny_holding (wpAny_tryCatch (wpAny_onRaise (merge_map g1 g2 lo ?_)))))
  refine wpAny_pure ?_
  dsimp only
  rw [List.forIn_nil]
  refine wpAny_pure ?_
  show wpAny M A (if ([] : List (Str × Sem Value)).isEmpty = true then pure () else _) _ _ _
  rw [if_pos (show ([] : List (Str × Sem Value)).isEmpty = true from rfl)]
  exact wpAny_pure (wpAny_pure (h F1 N1))
theorem keywords_none {d : Addr} {Q : List (Str × Value) → Shared → Prop} {f : Value} (g1 : s.heap.get? d = some dict0) (h : Q [] s) : wpAny M A (keywordsIn f d) Q E s := by
  unfold keywordsIn
  refine wpAny_bind (wpAny_dictEntries g1 rfl ?_)
  rw [← Array.forIn_toList]
  show wpAny M A (forIn ([] : List DictEntry) _ _ >>= _) _ _ _
  rw [List.forIn_nil]
  exact wpAny_bind (wpAny_pure (wpAny_pure h))
end
section
variable {M : Model} {A : Around} {E : Value → Shared → Prop} {s : Shared}
theorem args_dstar {f : Value} {x₀ : Sem Value} {a₁ : Bool × Sem Value} {r : List (Bool × Sem Value)} {kws : List (Option Str × Sem Value)} {Q : Args → Shared → Prop} (hk : kws.all (·.1.isSome) = false)
    (h : wpAny M A (spliced ((false, x₀) :: a₁ :: r)) (fun vs s₁ => wpAny M A (mergedKeywords f kws) (fun d s₂ => wpAny M A (keywordsIn f d) (fun kw s₃ => Q ⟨vs, kw⟩ s₃) E s₂) E s₁) E s) :
    wpAny M A (evalArgs f true ((false, x₀) :: a₁ :: r) kws) Q E s := by
  unfold evalArgs
  dsimp only
  refine wpAny_bind (m := spliced ((false, x₀) :: a₁ :: r)) (wpAny_mono h (fun vs s₁ h₁ => ?_) fun _ _ x => x)
  refine wpAny_bind (wpAny_pure (wpAny_holding ?_))
  rw [hk, if_neg Bool.false_ne_true]
  refine wpAny_bind (wpAny_mono h₁ (fun d s₂ h₂ => ?_) fun _ _ x => x)
  dsimp only
  refine wpAny_bind (wpAny_pure (wpAny_bind (wpAny_holding (wpAny_mono h₂ (fun kw s₃ h₃ => wpAny_pure h₃) fun _ _ x => x))))
theorem dstar_call {f : Value} {first : List Value} {pos : Pos} {Q : Value → Shared → Prop} {P : Heap → Prop} {args : List (Bool × Sem Value)} {kws : List (Option Str × Sem Value)} (hst : args.any (·.1) = true)
    (hk : ∀ h, P h → ∃ k, (k = Keeper.frame ∨ k = Keeper.machine ∨ k = Keeper.boundFrame) ∧ Looks M h (keeperOf f) k)
    (h : wpAny M A (evalArgs f true args kws) (fun a s₁ => P s₁.heap ∧ wpAny M A (call f (first ++ a.pos) a.kw) Q E s₁) E s) : wpAny M A (callWith pos f first args kws) Q E s := by
  unfold callWith
  refine wpAny_bind (wpAny_holding (wpAny_mono h (fun a s₁ h₁ => wpAny_bind (wpAny_standAt ?_)) fun _ _ x => x))
  obtain ⟨k, hk', L⟩ := hk _ h₁.1
  simp only [hst, Bool.true_or]
  refine wpAny_bind (L.here ?_)
  have go : ∀ {t : Sem Value}, wpAny M A t Q E s₁ → wpAny M A (t >>= fun r => holding [r] point >>= fun _ => pure r) Q E s₁ :=
    fun ht => wpAny_bind (wpAny_mono ht (fun r s₂ hr => wpAny_bind (wpAny_holding (wpAny_point (wpAny_pure hr)))) fun _ _ x => x)
  rcases hk' with rfl | rfl | rfl <;> dsimp only <;> first | exact go (by unfold callMarked; exact Calls.wpAny_keep h₁.2) | exact go (wpAny_operating h₁.2)
end
section
variable {prog : Program} {w : World} {A : Around} {E : Value → Shared → Prop} {s : Shared} {K : Frag} {h₀ : Heap} {L a : Addr} {m : Str → Option Value} {cn : Str} {cs : Scope} {ccd : Value} {cl : List (Str × Addr)} {news : List (Addr × Obj)}
/-- f(self, *arg, **kwargs) within the lambda that holds self -/
theorem lam_callWith {f t d c : Addr} {x v : Value} {o : Obj} {sn an kn : Str} {pos p1 p2 p3 p4 p5 : Pos} {Q : Value → Shared → Prop} (F : Fr h₀ L s.heap m) (X₀ : K.In h₀) (N : News h₀ L s.heap news)
    (ht : (t, tup1 v) ∈ news) (hd : (d, dict0) ∈ news) (lo : (d == sysModules) = false) (m1 : m an = some (.ref t)) (m2 : m kn = some (.ref d)) (hc : cl.lookup sn = some c) (hm : (c, o) ∈ news) (ho : o.data = .cell (some x)) (hk : keepIn K (.ref f) = true)
    (h : ∀ h' q, Fr h₀ L h' m → News h₀ L h' ((q, dict0) :: news) → (∀ p ∈ news, p.1 < q) → wpAny (model prog w) A (call (.ref f) [x, v]) Q E { s with heap := h' })
    (k0 : cs.kind = .function := by rfl) (k1 : (envX cn cs L a ccd cl).kindOf sn = some .free := by rfl) (k2 : (sn == ("__debug__" : Str)) = false := by decide) (k3 : (sn == ("__classdict__" : Str)) = false := by decide)
    (k4 : (envX cn cs L a ccd cl).kindOf an = some .local := by rfl) (k5 : (an == ("__debug__" : Str)) = false := by decide) (k6 : (envX cn cs L a ccd cl).kindOf kn = some .local := by rfl) (k7 : (kn == ("__debug__" : Str)) = false := by decide) :
    wpAny (model prog w) A (callWith pos (.ref f) [] (backTo pos (starEach [.Name sn p1, .Starred (.Name an p2) p3] (envX cn cs L a ccd cl))) (backToKw pos (keywordEach [⟨none, .Name kn p4, p5⟩] (envX cn cs L a ccd cl)))) Q E s := by
  refine dstar_call (P := fun h => K.In h) rfl (keeps_K hk) (args_dstar rfl ?_)
  show wpAny _ _ (spliced (backTo pos (starEach (.Name sn p1 :: [.Starred (.Name an p2) p3]) (envX cn cs L a ccd cl)))) _ _ _
  refine spliced_more (nameX_F N hc hm ho ?_ k0 k1 k2 k3)
  refine items_star (nameX_L F m1 ?_ k0 k4 k5)
  refine star_seq (T := "tuple") F N ht rfl rfl (.inr rfl) rfl (by size_fits) fun h₁ F1 N1 => ?_
  refine spliced_none ?_
  refine merge_none F1 N1 hd lo (fun s₁ Q' E' F' hq => wpAny_bind (nameX_L F' m2 (wpAny_bind (wpAny_standAt (wpAny_pure hq))) k0 k6 k7)) fun F2 N2 => ?_
  refine keywords_none ((N2 _ (.head _)).1) ?_
  refine ⟨X₀.keeps F2.keep, ?_⟩
  exact h _ _ F2 N2 fun p hp => Heap.lt_size (N1 p hp).1
end
end Mine
end

section
open PySem PySem.W PyProof.Rows PySem.Spec PySem.Calls
namespace Mine
section
variable {prog : Program} {w : World} {A : Around} {E : Value → Shared → Prop} {s : Shared}
theorem word_fmt {t u : Tok} {Q : Value → Shared → Prop} (h : ∀ x t' k, Q (.str x t') { s with toks := k }) :
    wpAny (model prog w) A (call (.builtin "str.format") [.str (Str.ofString "No renderer \"{!r}\"") t, .str (Str.ofString "word") u]) Q E s := by
  refine' KFm.call_k ?kfmF ?kfmg ?kfmm ?kq
  case kfmF => kfm_eq
  case kfmg => kfm_args
  case kfmm =>
    apply KPc.meets_of
    intro _ _ _ _ _ _ _
    unfold Builtin.«str.format»
    refine wpAny_bind (wpAny_of_eq (a := (_, _, _)) rfl ?_)
    refine wpAny_bind ?_
    unfold Builtin.Str.buildString
    refine wpAny_bind ?_
    rw [KPc.range_list]
    refine KFm.start ?_
    intro _ _
    refine KPc.turn ?_
    kpc_if
    kpc_check
    refine wpAny_bind (KFm.field_auto (by kfm_num) (by rfl) ?_)
    refine wpAny_bind (wpAny_holding (pyReprObj_str ?_ (by decide +kernel)))
    kpc_if
    refine wpAny_bind (wpAny_pure ?_)
    refine wpAny_bind (wpAny_holding (wpAny_of_eq (KFm.formatOf_str _ _) ?_))
    refine wpAny_bind (wpAny_of_eq (a := some _) rfl ?_)
    refine wpAny_pure ?_
    refine KFm.after_field (by kpc_g) (by kpc_text) (by kpc_obj) (by kfm_len) (by kpc_obj) (by kfm_cat2) (by kfm_rest) ?_
    intro _ _
    kfm_turns
  case kq => exact fun t' k => h _ t' k
end
end Mine
end

section
open PySem PySem.W PyProof.Rows PySem.Spec PySem.Calls
namespace Mine
theorem keepX {G h : Heap} {L : Addr} {m : Str → Option Value} {K : Frag} (_ : Fr G L h m) (X : K.In G) : K.In G := X
theorem keepL {G h : Heap} {L l : Addr} {m : Str → Option Value} {xs : Array Value} (_ : Fr G L h m) (X : G.IsList l xs) : G.IsList l xs := X
theorem up_turn {fs : List Addr} {g g' h : Heap} (T : KtsTurn fs g g') (U : g'.UpToSlots h) : g.UpToSlots h := fun b o e hn => by
  obtain ⟨sl, e1⟩ := T.up e
  obtain ⟨sl2, e2⟩ := U b _ e1 hn
  exact ⟨sl2, e2⟩
end Mine
end

section
open PySem PySem.W PyProof.Rows PySem.Spec PySem.Calls PyProof.V
namespace Mine
section
variable {prog : Program} {w : World} {K : Type} [DecidableEq K] {knd : KeyKind prog w K} {A : Around} {E : Value → Shared → Prop} {s : Shared} {h₀ : Heap} {L d : Addr} {m : Str → Option Value} {news : List (Addr × Obj)} {o : Obj} {kvs : List (K × Value)} {k : K} {key v dflt : Value}
/-- d.copy(): a new dict of the same pairs -/
theorem kob_copy {Q : Value → Shared → Prop} (F : Fr h₀ L s.heap m) (N : News h₀ L s.heap news) (hp : (d, o) ∈ news) (hd : o.IsDictOf knd kvs) (lo : (d == sysModules) = false) (hbig : sysModules < h₀.objs.size) (hsz : kvs.length ≤ sizeLine)
    (h : ∀ h' d' o', Fr h₀ L h' m → News h₀ L h' ((d', o') :: news) → (∀ p ∈ news, p.1 < d') → (d' == sysModules) = false → o'.IsDictOf knd kvs → Q (.ref d') { s with heap := h' }) :
    wpAny (model prog w) A (call (.builtin "dict.copy") [.ref d]) Q E s := by
  have hD : s.heap.DictOf knd d kvs := Heap.dictOf_iff.mpr ⟨o, (N _ hp).1, hd⟩
  refine call_meetsIn PySem.F.slot_dict_copy hD.typeIs PySem.F.entry_dict_copy (PySem.F.args_dict_copy_1 _) (meets_dict_copy knd d lo) ⟨kvs, hD, hsz, fun h' hm' _ hk => ?_⟩
  obtain ⟨o', ho', hd'⟩ := Heap.dictOf_iff.mp hm'
  obtain ⟨oL, a1, a2, hL, a3⟩ := F.ns
  have F' : Fr h₀ L h' m := ⟨⟨oL, a1, a2, hk _ _ hL, a3⟩, fun b o e => hk b o (F.keep b o e), F.above⟩
  refine h h' _ o' F' ?_ (fun p hp => Heap.lt_size (N p hp).1) (F.notModules hbig) hd'
  intro p hp
  rcases List.mem_cons.mp hp with rfl | hp
  · refine ⟨ho', Nat.ne_of_gt (Heap.lt_size hL), ?_⟩
    cases hq : h₀.get? s.heap.objs.size with
    | none => rfl
    | some o' => exact absurd (Heap.lt_size (F.keep _ _ hq)) (Nat.lt_irrefl _)
  · exact ⟨hk _ _ (N p hp).1, (N p hp).2.1, (N p hp).2.2⟩
/-- d.pop(k, x), the key missing -/
theorem kob_pop_none {Q : Value → Shared → Prop} (N : News h₀ L s.heap news) (hp : (d, o) ∈ news) (hd : o.IsDictOf knd kvs) (lo : (d == sysModules) = false) (hkey : knd.is k key = true) (hpart : (keyPart key).isSome = true)
    (hargs : argsOk "dict.pop" ⟨[.ref d, key, dflt], []⟩) (hl : valueAt kvs k = none) (h : Q dflt { s with toks := s.toks + 1 }) :
    wpAny (model prog w) A (call (.builtin "dict.pop") [.ref d, key, dflt]) Q E s :=
  have hD : s.heap.DictOf knd d kvs := Heap.dictOf_iff.mpr ⟨o, (N _ hp).1, hd⟩
  call_meetsIn PySem.F.slot_dict_pop hD.typeIs PySem.F.entry_dict_pop hargs (meets_dict_pop_default knd d hkey lo hpart dflt) ⟨kvs, hD, hl, h⟩
theorem kob_notin {Q : Value → Shared → Prop} (N : News h₀ L s.heap news) (hp : (d, o) ∈ news) (hd : o.IsDictOf knd kvs) (lo : (d == sysModules) = false) (hkey : knd.is k key = true) (b : Bool) (hb : (valueAt kvs k).isSome = b) (h : Q (.bool (!b)) { s with toks := s.toks + 1 }) :
    wpAny (model prog w) A (compareOp .NotIn key (.ref d)) Q E s :=
  have hD : s.heap.DictOf knd d kvs := Heap.dictOf_iff.mpr ⟨o, (N _ hp).1, hd⟩
  wpAny_notIn_of hkey lo hD.mapOf (by rw [hb]; exact h)
theorem is_dict {x y : Addr} {ox oy : Obj} {Q : Value → Shared → Prop} (N : News h₀ L s.heap news) (hx : (x, ox) ∈ news) (hy : (y, oy) ∈ news) (hd : ox.IsDictOf knd kvs) (hxy : x ≠ y) (h : Q (.bool false) s) :
    wpAny (model prog w) A (compareOp .Is (.ref x) (.ref y)) Q E s := by
  refine wpAny_is_ref_other hxy (N _ hx).1 (N _ hy).1 ?_ h
  obtain ⟨es, ep, hc, _⟩ := hd
  show ox.cls ≠ .type "tuple"
  have hcc : ox.cls = .type "dict" := by first | exact hc.1 | exact hc.2.1 | exact hc.2.2
  rw [hcc]
  decide
end
end Mine
end

section
open PySem PySem.W PyProof.Rows PySem.Spec PySem.Calls PyProof.V
namespace Mine
/-- an item of a list of the ledger at a place known to lie in it -/
theorem item_made {prog : Program} {w : World} {A : Around} {E : Value → Shared → Prop} {s : Shared} {h₀ : Heap} {L l : Addr} {news : List (Addr × Obj)} {value slice : PySem.Expr} {vs : List Value} {n : Nat} {k : Int} {u : Tok} {v : Value} {Q : Value → Shared → Prop}
    (N : News h₀ L s.heap news) (hp : (l, listOf vs.toArray n) ∈ news) (h0 : 0 ≤ k) (hhi : k < 2 ^ 63) (hx : vs[k.toNat]? = some v)
    (hs : subscripted slice false (.ref l) (.int k u) = operate [.ref l, .int k u] (getItem (.ref l) (.int k u))) (h : Q v s) :
    wpAny (model prog w) A (subscriptTail value slice (.ref l) (.int k u)) Q E s :=
  have hl := N.isList hp
  tail_any hl.typeIs slot_list_getitem.lookup (wpAny_getItem_list hl h0 hhi (by simpa using hx) h) hs
end Mine
end

section
open PySem PySem.W PyProof.Rows PySem.Spec PySem.Calls PyProof.V
namespace Mine
/-- a turn's end, the iterator I kept -/
def LEnd (h₀ : Heap) (L : Addr) (J : (Str → Option Value) → List (Addr × Obj) → Prop) (I : Addr) (it : Obj) (s₁ s₂ : Shared) : Prop :=
  ∃ h' tk m' nx, s₂ = { s₁ with heap := h', toks := tk } ∧ Fr h₀ L h' m' ∧ News h₀ L h' ((I, it) :: nx) ∧ (∀ p ∈ nx, p.1 ≠ I) ∧ J m' nx
def LPost (h₀ : Heap) (L : Addr) (J : (Str → Option Value) → List (Addr × Obj) → Prop) (I : Addr) (it : Obj) (s₁ : Shared) (Q : Flow → Shared → Prop) (f : Flow) (s₂ : Shared) : Prop :=
  match f with
  | .ret v => Q (.ret v) s₂
  | .brk => Q .next s₂
  | _ => LEnd h₀ L J I it s₁ s₂
theorem lend {h₀ : Heap} {L : Addr} {J : (Str → Option Value) → List (Addr × Obj) → Prop} {I : Addr} {it : Obj} {s₁ : Shared} {h' : Heap} {tk : Nat} {m' : Str → Option Value} {news nx : List (Addr × Obj)} (F : Fr h₀ L h' m') (N : News h₀ L h' news)
    (hs : ∀ p ∈ (I, it) :: nx, p ∈ news) (ho : ∀ p ∈ nx, p.1 ≠ I) (hj : J m' nx) : LEnd h₀ L J I it s₁ { s₁ with heap := h', toks := tk } := ⟨h', tk, m', nx, rfl, F, fun p hp => N p (hs p hp), ho, hj⟩
/-- a while's turn's end -/
def WEnd (h₀ : Heap) (L : Addr) (J : (Str → Option Value) → List (Addr × Obj) → Prop) (s₁ s₂ : Shared) : Prop :=
  ∃ h' tk m' nx, s₂ = { s₁ with heap := h', toks := tk } ∧ Fr h₀ L h' m' ∧ News h₀ L h' nx ∧ J m' nx
def WPost (h₀ : Heap) (L : Addr) (J : (Str → Option Value) → List (Addr × Obj) → Prop) (s₁ : Shared) (Q : Flow → Shared → Prop) (f : Flow) (s₂ : Shared) : Prop :=
  match f with
  | .ret v => Q (.ret v) s₂
  | .brk => Q .next s₂
  | _ => WEnd h₀ L J s₁ s₂
theorem wend {h₀ : Heap} {L : Addr} {J : (Str → Option Value) → List (Addr × Obj) → Prop} {s₁ : Shared} {h' : Heap} {tk : Nat} {m' : Str → Option Value} {news nx : List (Addr × Obj)} (F : Fr h₀ L h' m') (N : News h₀ L h' news)
    (hs : ∀ p ∈ nx, p ∈ news) (hj : J m' nx) : WEnd h₀ L J s₁ { s₁ with heap := h', toks := tk } := ⟨h', tk, m', nx, rfl, F, fun p hp => N p (hs p hp), hj⟩
section
variable {prog : Program} {w : World} {A : Around} {E : Value → Shared → Prop} {s : Shared} {env : Env} {h₀ : Heap} {x : Str} {body : List Stmt} {Q : Flow → Shared → Prop}
theorem rng_loop {r : Addr} {a₀ b₀ : Int} {t₀ u₀ v₀ : Tok} {n : Nat} {m₀ : Str → Option Value} {news : List (Addr × Obj)} (J : Nat → (Str → Option Value) → List (Addr × Obj) → Prop)
    (hh : A.handled = none) (hr : IsRange s.heap r a₀ b₀ 1 t₀ u₀ v₀) (hsmall : Builtin.Range.small a₀ b₀ 1 = true) (hn : Builtin.Range.rangeSize a₀ b₀ 1 = (n : Int)) (F : Fr h₀ env.locals s.heap m₀) (N : News h₀ env.locals s.heap news) (hj : J 0 m₀ news)
    (turn : ∀ i t m₁ nx h tk I it, i < n → J i m₁ nx → (∀ p ∈ nx, p.1 ≠ I) → Fr h₀ env.locals h (fun y => if y = x then some (.int (a₀ + (i : Int)) t) else m₁ y) → News h₀ env.locals h ((I, it) :: nx) →
      wpAny (model prog w) A (execs body env) (LPost h₀ env.locals (J (i + 1)) I it s Q) E { s with heap := h, toks := tk })
    (done : ∀ m₁ nx h tk, J n m₁ nx → Fr h₀ env.locals h m₁ → News h₀ env.locals h nx → Q .next { s with heap := h, toks := tk }) :
    wpAny (model prog w) A (pyIter (.ref r)) (fun it s₂ => LoopAtV prog w A h₀ env x body Q E it s₂) E s := by
  refine iter_rangeUnr hh hr hsmall hn F N fun I hI => ?_
  have all : ∀ k i m₁ nx, i + k = n → J i m₁ nx → (∀ p ∈ nx, p.1 ≠ I) → RangeRest prog w A E h₀ env x body Q s I a₀ n k i m₁ nx := by
    intro k
    induction k with
    | zero =>
      intro i m₁ nx hi hJ _
      have e : i = n := hi
      subst e
      exact RangeRest.zero fun h tk F' N' => done m₁ nx h tk hJ F' N'
    | succ k ih =>
      intro i m₁ nx hi hJ ho
      refine RangeRest.succ fun t h tk F' N' => ?_
      refine wpAny_mono (turn i t m₁ nx h tk I _ (by omega) hJ ho F' N') (fun f s₂ p => ?_) fun _ _ e => e
      have fin : LEnd h₀ env.locals (J (i + 1)) I (itR (a₀ + ((i + 1 : Nat) : Int)) ((n : Int) - ((i + 1 : Nat) : Int))) s s₂ →
          UnrEnd h₀ env.locals { s with heap := h, toks := tk } I (itR (a₀ + ((i + 1 : Nat) : Int)) ((n : Int) - ((i + 1 : Nat) : Int))) (RangeRest prog w A E h₀ env x body Q s I a₀ n k (i + 1)) s₂ := by
        rintro ⟨h', tk', m', nx', rfl, F2, N2, o2, j2⟩
        exact ⟨h', tk', m', nx', rfl, F2, N2, o2, ih (i + 1) m' nx' (by omega) j2 o2⟩
      cases f with
      | ret v => exact p
      | brk => exact p
      | next => exact fin p
      | cont => exact fin p
  exact all n 0 m₀ news (by omega) hj fun p hp => Nat.ne_of_lt (hI p hp)
theorem lst_loop {ax : Addr} {vs : List Value} {nn : Nat} {m₀ : Str → Option Value} {news : List (Addr × Obj)} (J : List Value → (Str → Option Value) → List (Addr × Obj) → Prop)
    (hh : A.handled = none) (F : Fr h₀ env.locals s.heap m₀) (N : News h₀ env.locals s.heap news) (hj : J [] m₀ news) (hk : ∀ pre m₁ nx, J pre m₁ nx → (ax, listOf vs.toArray nn) ∈ nx)
    (turn : ∀ pre v post m₁ nx h tk I it, vs = pre ++ v :: post → J pre m₁ nx → (∀ p ∈ nx, p.1 ≠ I) → Fr h₀ env.locals h (fun y => if y = x then some v else m₁ y) → News h₀ env.locals h ((I, it) :: nx) →
      wpAny (model prog w) A (execs body env) (LPost h₀ env.locals (J (pre ++ [v])) I it s Q) E { s with heap := h, toks := tk })
    (done : ∀ m₁ nx h tk, J vs m₁ nx → Fr h₀ env.locals h m₁ → News h₀ env.locals h nx → Q .next { s with heap := h, toks := tk }) :
    wpAny (model prog w) A (pyIter (.ref ax)) (fun it s₂ => LoopAtV prog w A h₀ env x body Q E it s₂) E s := by
  refine iter_listUnr hh F N (hk [] m₀ news hj) rfl rfl fun I hI => ?_
  have all : ∀ post pre m₁ nx, vs = pre ++ post → J pre m₁ nx → (∀ p ∈ nx, p.1 ≠ I) → ListRest prog w A E h₀ env x body Q s I (ax, listOf vs.toArray nn) post m₁ nx := by
    intro post
    induction post with
    | nil =>
      intro pre m₁ nx hi hJ _
      rw [List.append_nil] at hi
      subst hi
      exact ListRest.zero fun h tk F' N' => done m₁ nx h tk hJ F' N'
    | cons v r ih =>
      intro pre m₁ nx hi hJ ho
      refine ListRest.succ fun it h tk _ F' N' => ?_
      refine wpAny_mono (turn pre v r m₁ nx h tk I it hi hJ ho F' N') (fun f s₂ p => ?_) fun _ _ e => e
      have fin : LEnd h₀ env.locals (J (pre ++ [v])) I it s s₂ →
          UnrEnd h₀ env.locals { s with heap := h, toks := tk } I it (fun m' n' => (ax, listOf vs.toArray nn) ∈ n' ∧ ListRest prog w A E h₀ env x body Q s I (ax, listOf vs.toArray nn) r m' n') s₂ := by
        rintro ⟨h', tk', m', nx', rfl, F2, N2, o2, j2⟩
        exact ⟨h', tk', m', nx', rfl, F2, N2, o2, hk _ _ _ j2, ih (pre ++ [v]) m' nx' (by rw [hi]; simp) j2 o2⟩
      cases f with
      | ret v => exact p
      | brk => exact p
      | next => exact fin p
      | cont => exact fin p
  exact all vs [] m₀ news rfl hj fun p hp => Nat.ne_of_lt (hI p hp)
theorem wh_loop {L : Addr} {test : PySem.Expr} {pos : Pos} {m₀ : Str → Option Value} {news : List (Addr × Obj)} (J : Nat → (Str → Option Value) → List (Addr × Obj) → Prop) (n₀ : Nat)
    (F : Fr h₀ L s.heap m₀) (N : News h₀ L s.heap news) (hj : J n₀ m₀ news)
    (turn : ∀ n m₁ nx h tk, J n m₁ nx → Fr h₀ L h m₁ → News h₀ L h nx → wpAny (model prog w) A (isTrue test env (eval test env)) (fun b s₂ =>
        if b = true then wpAny (model prog w) A (execs body env) (WPost h₀ L (fun m' nx' => ∃ n', n' < n ∧ J n' m' nx') s Q) E s₂ else Q .next s₂) E { s with heap := h, toks := tk })
    (hE : PassesOwn (model prog w) A env E) :
    wpAny (model prog w) A (exec (.While test body [] pos) env) Q E s := by
  refine While_inv2 J F N hj ?_ hE
  intro n m₁ nx h tk F₁ N₁ hJ
  refine wpAny_mono (turn n m₁ nx h tk hJ F₁ N₁) (fun b s₂ p => ?_) fun _ _ x => x
  cases b with
  | false => simpa using p
  | true =>
    simp only [if_true] at p ⊢
    refine wpAny_mono p (fun f s₃ q => ?_) fun _ _ x => x
    cases f with
    | ret v => exact q
    | brk => exact q
    | next =>
      obtain ⟨h', tk', m', nx', rfl, F', N', n', hn, hJ'⟩ := q
      exact ⟨h', tk', m', nx', n', rfl, F', N', hn, hJ'⟩
    | cont =>
      obtain ⟨h', tk', m', nx', rfl, F', N', n', hn, hJ'⟩ := q
      exact ⟨h', tk', m', nx', n', rfl, F', N', hn, hJ'⟩
end
end Mine
end

section
open PySem PySem.W PyProof.Rows PySem.Spec PySem.Calls
namespace Mine
def lawB : List Stmt := match PySem.Challenge.rw_am6006_01.prog.main.body.getLast? with | some (.FunctionDef _ _ b _ _ _ _ _ _ _) => b | _ => []
def lawSc : Scope := match PySem.Challenge.rw_am6006_01.prog.main.body.getLast? with | some (.FunctionDef _ _ _ _ _ _ sc _ _ _) => sc | _ => default
def lawFrom (n : Nat) : List Stmt := lawB.drop n
@[irreducible] def lawCut (n : Nat) : List Stmt := lawB.drop n
theorem lawCut_eq (n : Nat) : lawCut n = lawFrom n := by unfold lawCut lawFrom; rfl
theorem frB {h₀ h : Heap} {L : Addr} {m : Str → Option Value} {ps : List (Str × Value)} (hk : ∀ p ∈ ps, m p.1 = some p.2) (F : Fr h₀ L h m) : Fr h₀ L h (kstB m ps) := by
  have e : kstB m ps = m := by
    funext z
    exact kstB_eq hk fun _ => rfl
  rw [e]
  exact F
theorem seg_use {M : Model} {A : Around} {α : Type} {t : Sem α} {Q : α → Shared → Prop} {E : Value → Shared → Prop} {s₀ : Shared} {h₀ h : Heap} {L : Addr} {m : Str → Option Value} {news news' : List (Addr × Obj)} {tk : Nat}
    (n : ∀ (h' : Heap) (tk' : Nat) (r' : Str → Option Value), Fr h₀ L h' r' → News h₀ L h' news' → wpAny M A t Q E { s₀ with heap := h', toks := tk' }) (F : Fr h₀ L h m) (N : News h₀ L h news) (hs : ∀ p ∈ news', p ∈ news) :
    wpAny M A t Q E { s₀ with heap := h, toks := tk } := n h tk m F fun p hp => N p (hs p hp)
theorem seg_useF {M : Model} {A : Around} {α : Type} {t : Sem α} {Q : α → Shared → Prop} {E : Value → Shared → Prop} {s₀ : Shared} {h₀ h : Heap} {L : Addr} {m : Str → Option Value} {ps : List (Str × Value)} {news news' : List (Addr × Obj)} {tk : Nat}
    (n : ∀ (h' : Heap) (tk' : Nat) (r' : Str → Option Value), Fr h₀ L h' (kstB r' ps) → News h₀ L h' news' → wpAny M A t Q E { s₀ with heap := h', toks := tk' }) (F : Fr h₀ L h m) (hk : ∀ p ∈ ps, m p.1 = some p.2) (N : News h₀ L h news) (hs : ∀ p ∈ news', p ∈ news) :
    wpAny M A t Q E { s₀ with heap := h, toks := tk } := n h tk m (frB hk F) fun p hp => N p (hs p hp)
def Stopped (P : Prop) : Prop := P
theorem of_stopped {P : Prop} (h : Stopped P) : P := h
theorem frB1 {h₀ h : Heap} {L : Addr} {m : Str → Option Value} {ps : List (Str × Value)} {x : Str} {v : Option Value} (hk : ∀ p ∈ ps, m p.1 = some p.2) (F : Fr h₀ L h (fun y => if y = x then v else m y)) : Fr h₀ L h (fun y => if y = x then v else kstB m ps y) := by
  have e : kstB m ps = m := by
    funext z
    exact kstB_eq hk fun _ => rfl
  rw [e]
  exact F
theorem news_swap {h₀ h : Heap} {L : Addr} {a b : Addr × Obj} {r : List (Addr × Obj)} (N : News h₀ L h (a :: b :: r)) : News h₀ L h (b :: a :: r) := fun p hp => N p (by
  rcases List.mem_cons.mp hp with rfl | hp
  · exact .tail _ (.head _)
  · rcases List.mem_cons.mp hp with rfl | hp
    · exact .head _
    · exact .tail _ (.tail _ hp))
theorem sub_swap {a b : Addr × Obj} {r : List (Addr × Obj)} : ∀ p ∈ a :: b :: r, p ∈ b :: a :: r := fun p hp => by
  rcases List.mem_cons.mp hp with rfl | hp
  · exact .tail _ (.head _)
  · rcases List.mem_cons.mp hp with rfl | hp
    · exact .head _
    · exact .tail _ (.tail _ hp)
abbrev baseL : List (Addr × Obj) := [(204, tabObj #[]), (103, tabObj #[])]
end Mine
end

section
open PySem PySem.W PyProof.Rows PySem.Spec PySem.Calls PySem.Builtin PySem.Builtin.Str PySem.StrLaws
namespace Mine
theorem occ_in (s sub : Str) (lo hi limit : Nat) : ∀ (l : List Nat) (st : Array Nat × Nat), (∀ i ∈ l, lo ≤ i) → (∀ k ∈ st.fst.toList, lo ≤ k ∧ k + sub.length ≤ hi) → ∀ k ∈ (forIn l st (occBody s sub hi limit)).run.fst.toList, lo ≤ k ∧ k + sub.length ≤ hi
  | [], st, _, h => h
  | a :: l, st, hl, h => by
    rw [List.forIn_cons]
    unfold occBody
    split
    · rename_i hc
      refine occ_in s sub lo hi limit l _ (fun i hi => hl i (List.mem_cons_of_mem _ hi)) ?_
      intro k hk
      rw [Array.toList_push] at hk
      rcases List.mem_append.mp hk with hk | hk
      · exact h k hk
      · obtain rfl := List.mem_singleton.mp hk
        exact ⟨hl _ (List.mem_cons_self ..), hc.1.2⟩
    · exact occ_in s sub lo hi limit l _ (fun i hi => hl i (List.mem_cons_of_mem _ hi)) h
theorem occ_bound {s sub : Str} {lo hi limit k : Nat} (h : k ∈ occurrences s sub lo hi limit) : lo ≤ k ∧ k + sub.length ≤ hi := by
  rw [occ_eq] at h
  refine occ_in s sub lo hi limit _ _ (fun i hi => ?_) (fun k hk => by simp at hk) k h
  have := List.mem_range'_1.mp hi
  omega
def fBd (x mk : Str) (r lo : Int) : Prop := r = -1 ∨ (lo ≤ r ∧ r + mk.length ≤ x.length)
theorem find_bd (x mk : Str) : fBd x mk (Txt.find x mk) 0 := by
  unfold Txt.find
  cases h : occurrences x mk 0 x.length 1 with
  | nil => exact .inl rfl
  | cons k r =>
    have := occ_bound (h ▸ List.mem_cons_self .. : k ∈ occurrences x mk 0 x.length 1)
    refine .inr ⟨?_, ?_⟩ <;> show _ ≤ _ <;> dsimp only <;> omega
theorem find3_bd (x mk : Str) {i : Int} (h0 : 0 ≤ i) (h1 : i ≤ x.length) : fBd x mk (Txt.find3 x mk i) i := by
  unfold Txt.find3
  have e1 : fromIndex x.length i = i.toNat := by unfold fromIndex; rw [if_neg (by omega)]; omega
  rw [e1]
  cases h : occurrences x mk i.toNat x.length 1 with
  | nil => exact .inl rfl
  | cons k r =>
    have := occ_bound (h ▸ List.mem_cons_self .. : k ∈ occurrences x mk i.toNat x.length 1)
    refine .inr ⟨?_, ?_⟩ <;> show _ ≤ _ <;> dsimp only <;> omega
end Mine
end

section
open PySem PySem.W PyProof.Rows PySem.Spec PySem.Calls
namespace Mine
def mea (x : Str) (st : Int) : Nat := if st < 0 then 0 else ((x.length : Int) + 1 - st).toNat
abbrev fsL (x mk : Str) (t1 t2 : Tok) (vK vM : Value) : List (Str × Value) := [(Str.ofString "text", .str x t1), (Str.ofString "marker", .str mk t2), (Str.ofString "kinds", vK), (Str.ofString "mark", vM)]
def SJ (x mk : Str) (t1 t2 : Tok) (vK vM : Value) (n : Nat) (m : Str → Option Value) : Prop :=
  ∃ (st : Int) (t : Tok), (∀ p ∈ (Str.ofString "start", Value.int st t) :: fsL x mk t1 t2 vK vM, m p.1 = some p.2) ∧ -1 ≤ st ∧ (0 ≤ st → st + mk.length ≤ x.length) ∧ n = mea x st
section
variable {x mk : Str} {t1 t2 : Tok} {vK vM : Value} {m : Str → Option Value}
theorem sj_start {t : Tok} (hps : ∀ p ∈ (Str.ofString "start", .int (Txt.find x mk) t) :: fsL x mk t1 t2 vK vM, m p.1 = some p.2) : SJ x mk t1 t2 vK vM (mea x (Txt.find x mk)) m := by
  have hb := find_bd x mk
  unfold fBd at hb
  exact ⟨_, t, hps, by omega, by omega, rfl⟩
theorem sj_turn {st : Int} {t : Tok} {n : Nat} (h0 : 0 ≤ st) (h1 : st + mk.length ≤ x.length) (hm : 0 < mk.length) (hn : n = mea x st) (hps : ∀ p ∈ (Str.ofString "start", .int (Txt.find3 x mk (st + 1)) t) :: fsL x mk t1 t2 vK vM, m p.1 = some p.2) :
    ∃ n', n' < n ∧ SJ x mk t1 t2 vK vM n' m := by
  have hb := find3_bd x mk (i := st + 1) (by omega) (by omega)
  unfold fBd at hb
  refine ⟨_, ?_, _, t, hps, by omega, by omega, rfl⟩
  subst hn
  unfold mea
  rw [if_neg (show ¬ st < 0 by omega)]
  rcases hb with e | ⟨e1, e2⟩
  · rw [e, if_pos (by decide)]; omega
  · rw [if_neg (by omega)]; omega
theorem sj_turn2 {α : Type} {a : α} {st : Int} {t : Tok} {n : Nat} (h0 : 0 ≤ st) (h1 : st + mk.length ≤ x.length) (hm : 0 < mk.length) (hn : n = mea x st) (hps : ∀ p ∈ (Str.ofString "start", .int (Txt.find3 x mk (st + 1)) t) :: fsL x mk t1 t2 vK vM, m p.1 = some p.2) :
    ∃ n', n' < n ∧ (a = a ∧ SJ x mk t1 t2 vK vM n' m) :=
  let ⟨n', h1, h2⟩ := sj_turn h0 h1 hm hn hps
  ⟨n', h1, rfl, h2⟩
end
theorem bne_ne {b : Bool} : ¬ ((b != b) = true) := by simp
end Mine
end

section
open PySem PySem.W PyProof.Rows PySem.Spec PySem.Calls
namespace Mine
theorem alpha_nil : Alpha (Str.ofString "") := by unfold Alpha; decide +kernel
theorem alpha_app {x y : Str} (hx : Alpha x) (hy : Alpha y) : Alpha (x ++ y) := by
  intro c hc
  have e : (x ++ y).cps.toList = x.cps.toList ++ y.cps.toList := by
    show (x.cps ++ y.cps).toList = _
    simp
  rw [e] at hc
  rcases List.mem_append.mp hc with h | h
  · exact hx c h
  · exact hy c h
theorem len_app (x y : Str) : (x ++ y).length = x.length + y.length := by
  show (x.cps ++ y.cps).size = _
  simp [Str.length]
theorem add_piece {prog : Program} {w : World} {A : Around} {E : Value → Shared → Prop} {s : Shared} {x y : Str} {t u : Tok} {Q : Value → Shared → Prop} (hx : x.length ≤ 48) (hy : PieceOk y) (h : ∀ t' tk, Q (.str (x ++ y) t') { s with toks := tk }) :
    wpAny (model prog w) A (binaryOp .Add (.str x t) (.str y u)) Q E s := add_str h (by have := hy.2; rw [sizeLine_eq]; omega)
abbrev LtB (b : Nat) : Prop := 204 < b ∧ 103 < b
abbrev LtK (b K : Nat) : Prop := b < K ∧ 204 < K ∧ 103 < K
/-- the loop that builds the text -/
def TJ (l : Addr) (i : Nat) (m : Str → Option Value) (nx : List (Addr × Obj)) : Prop :=
  ∃ (b : Addr) (p q : Int) (t u tx : Tok) (n : Nat) (x : Str), nx = (b, boxO l p t q u n) :: baseL ∧ LtB b ∧ Alpha x ∧ x.length ≤ 3 * i ∧ ∀ y ∈ [(Str.ofString "box", Value.ref b), (Str.ofString "text", Value.str x tx)], m y.1 = some y.2
theorem tj_start {l b : Addr} {p q : Int} {t u tx : Tok} {n : Nat} {m : Str → Option Value} (hb : LtB b) (hm : ∀ y ∈ [(Str.ofString "box", Value.ref b), (Str.ofString "text", Value.str (Str.ofString "") tx)], m y.1 = some y.2) :
    TJ l 0 m ((b, boxO l p t q u n) :: baseL) := ⟨b, p, q, t, u, tx, n, _, rfl, hb, alpha_nil, Nat.le_of_eq (by decide +kernel), hm⟩
theorem tj_turn {l b : Addr} {p q : Int} {t u tx : Tok} {n i : Nat} {x y : Str} {m : Str → Option Value} (hb : LtB b) (hx : Alpha x) (hl : x.length ≤ 3 * i) (hy : PieceOk y) (hm : ∀ z ∈ [(Str.ofString "box", Value.ref b), (Str.ofString "text", Value.str (x ++ y) tx)], m z.1 = some z.2) :
    TJ l (i + 1) m ((b, boxO l p t q u n) :: baseL) := ⟨b, p, q, t, u, tx, n, _, rfl, hb, alpha_app hx hy.1, by have := hy.2; rw [len_app]; omega, hm⟩
/-- the loop that draws the kinds -/
def KJ (l : Addr) (vx vm : Value) (i : Nat) (m : Str → Option Value) (nx : List (Addr × Obj)) : Prop :=
  ∃ (b K : Addr) (p q : Int) (t u : Tok) (n kn : Nat) (kvs : List Value) (ks : List Int), nx = (b, boxO l p t q u n) :: (K, listOf kvs.toArray kn) :: baseL ∧ LtB b ∧ LtK b K ∧ IntsAre kvs ks ∧ ks.length = i ∧ (∀ k ∈ ks, 0 ≤ k ∧ k < 7) ∧
    ∀ y ∈ [(Str.ofString "box", Value.ref b), (Str.ofString "text", vx), (Str.ofString "marker", vm), (Str.ofString "kinds", Value.ref K)], m y.1 = some y.2
theorem kj_start {l b K : Addr} {vx vm : Value} {p q : Int} {t u : Tok} {n : Nat} {m : Str → Option Value} (hb : LtB b) (hK : LtK b K)
    (hm : ∀ y ∈ [(Str.ofString "box", Value.ref b), (Str.ofString "text", vx), (Str.ofString "marker", vm), (Str.ofString "kinds", Value.ref K)], m y.1 = some y.2) :
    KJ l vx vm 0 m ((b, boxO l p t q u n) :: (K, listOf ([] : List Value).toArray 0) :: baseL) := ⟨b, K, p, q, t, u, n, 0, [], [], rfl, hb, hK, .nil, rfl, (fun _ h => nomatch h), hm⟩
theorem kj_turn {l b K : Addr} {vx vm : Value} {p q k : Int} {t u tk : Tok} {n kn i : Nat} {kvs : List Value} {ks : List Int} {m : Str → Option Value} (hb : LtB b) (hK : LtK b K) (hi : IntsAre kvs ks) (hl : ks.length = i) (hk : ∀ k ∈ ks, 0 ≤ k ∧ k < 7) (h0 : 0 ≤ k) (h7 : k < 7)
    (hm : ∀ y ∈ [(Str.ofString "box", Value.ref b), (Str.ofString "text", vx), (Str.ofString "marker", vm), (Str.ofString "kinds", Value.ref K)], m y.1 = some y.2) :
    KJ l vx vm (i + 1) m ((b, boxO l p t q u n) :: (K, listOf (kvs.toArray.push (.int k tk)) (kn + 1)) :: baseL) := by
  refine ⟨b, K, p, q, t, u, n, kn + 1, kvs ++ [.int k tk], ks ++ [k], by simp, hb, hK, hi.append (.cons _ _ .nil), by simp [hl], ?_, hm⟩
  intro z hz
  rcases List.mem_append.mp hz with h | h
  · exact hk z h
  · rw [List.mem_singleton.mp h]; exact ⟨h0, h7⟩
end Mine
end

section
open PySem PySem.W PyProof.Rows PySem.Spec PySem.Calls PyProof.V
namespace Mine
def rawOf (k : Int) : Str := if k < 4 then Txt.slice (Str.ofString "abc") none (some k) else Str.ofString ""
def heldOf (k : Int) : Int := if k < 4 then k else 0
/-- what a part of the kind k is -/
def PartIs (prog : Program) (w : World) (k : Int) (o : Obj) : Prop :=
  ∃ (kvs : List (Str × Value)) (y : Str) (t t' : Tok), o.IsDictOf (PySem.strKind prog w) kvs ∧ valueAt kvs (Str.ofString "type") = some (.str y t) ∧
    ((k < 4 ∧ y = Str.ofString "text" ∧ valueAt kvs (Str.ofString "raw") = some (.str (rawOf k) t')) ∨ (¬ k < 4 ∧ (y == Str.ofString "text") = false))
theorem part_text {prog : Program} {w : World} {k : Int} {o : Obj} {kvs : List (Str × Value)} {t t' : Tok} (hk : k < 4) (hd : o.IsDictOf (PySem.strKind prog w) kvs) (h1 : valueAt kvs (Str.ofString "type") = some (.str (Str.ofString "text") t)) (h2 : valueAt kvs (Str.ofString "raw") = some (.str (Txt.slice (Str.ofString "abc") none (some k)) t')) : PartIs prog w k o :=
  ⟨kvs, _, t, t', hd, h1, .inl ⟨hk, rfl, by unfold rawOf; rw [if_pos hk]; exact h2⟩⟩
theorem part_other {prog : Program} {w : World} {k : Int} {o : Obj} {kvs : List (Str × Value)} {y : Str} {t : Tok} (hk : ¬ k < 4) (hd : o.IsDictOf (PySem.strKind prog w) kvs) (h1 : valueAt kvs (Str.ofString "type") = some (.str y t)) (h2 : (y == Str.ofString "text") = false) : PartIs prog w k o :=
  ⟨kvs, _, t, t, hd, h1, .inr ⟨hk, h2⟩⟩
theorem allLt_mem {d : Addr} : ∀ {l : List (Addr × Obj)}, AllLt d l → ∀ p ∈ l, p.1 < d
  | [], _, _, h => nomatch h
  | _ :: _, x, p, h => by
    rcases List.mem_cons.mp h with rfl | h
    · exact x.1
    · exact allLt_mem x.2 p h
theorem rawOf_no {k : Int} (h : ¬ k < 4) : rawOf k = Str.ofString "" := by unfold rawOf; rw [if_neg h]
theorem news_tail {h₀ h : Heap} {L : Addr} {a : Addr × Obj} {r : List (Addr × Obj)} (N : News h₀ L h (a :: r)) : News h₀ L h r := fun p hp => N p (.tail _ hp)
/-- the row of parts -/
def PartsRel (prog : Program) (w : World) (rest : List (Addr × Obj)) (pvs : List Value) (ks : List Int) : Prop :=
  pvs.length = ks.length ∧ ∀ (i : Nat) (k : Int), ks[i]? = some k → ∃ p o, pvs[i]? = some (.ref p) ∧ (p, o) ∈ rest ∧ PartIs prog w k o
theorem partsRel_nil {prog : Program} {w : World} {rest : List (Addr × Obj)} : PartsRel prog w rest [] [] := ⟨rfl, fun i k h => by simp at h⟩
theorem partsRel_mono {prog : Program} {w : World} {rest rest' : List (Addr × Obj)} {pvs : List Value} {ks : List Int} (R : PartsRel prog w rest pvs ks) (h : ∀ p ∈ rest, p ∈ rest') : PartsRel prog w rest' pvs ks :=
  ⟨R.1, fun i k e => let ⟨p, o, a, b, c⟩ := R.2 i k e; ⟨p, o, a, h _ b, c⟩⟩
theorem partsRel_snoc {prog : Program} {w : World} {rest : List (Addr × Obj)} {pvs : List Value} {ks : List Int} {d : Addr} {o : Obj} {k : Int} (R : PartsRel prog w rest pvs ks) (hp : PartIs prog w k o) : PartsRel prog w ((d, o) :: rest) (pvs ++ [.ref d]) (ks ++ [k]) := by
  refine ⟨by simp [R.1], fun i k' e => ?_⟩
  by_cases hi : i < ks.length
  · rw [List.getElem?_append_left hi] at e
    obtain ⟨p, o', a, b, c⟩ := R.2 i k' e
    refine ⟨p, o', ?_, .tail _ b, c⟩
    rw [List.getElem?_append_left (by rw [R.1]; exact hi)]
    exact a
  · rw [List.getElem?_append_right (Nat.le_of_not_lt hi)] at e
    have hz : i - ks.length = 0 := by
      rcases Nat.eq_zero_or_pos (i - ks.length) with h | h
      · exact h
      · rw [List.getElem?_eq_none (show 1 ≤ _ from h)] at e; cases e
    rw [hz] at e
    obtain rfl : k = k' := by simpa using e
    refine ⟨d, o, ?_, .head _, hp⟩
    rw [List.getElem?_append_right (by rw [R.1]; exact Nat.le_of_not_lt hi), R.1, hz]
    rfl
section
variable {prog : Program} {w : World} {A : Around} {E : Value → Shared → Prop} {s : Shared} {h₀ : Heap} {L P : Addr} {news rest : List (Addr × Obj)} {value slice : PySem.Expr} {pvs kvs : List Value} {ks : List Int} {pn : Nat} {a k : Int} {u : Tok} {Q : Value → Shared → Prop}
theorem item_part (N : News h₀ L s.heap news) (hp : (P, listOf pvs.toArray pn) ∈ news) (R : PartsRel prog w rest pvs ks) (h0 : 0 ≤ a) (hhi : a < 2 ^ 63) (hk : ks[a.toNat]? = some k)
    (hs' : subscripted slice false (.ref P) (.int a u) = operate [.ref P, .int a u] (getItem (.ref P) (.int a u)))
    (h : ∀ p o, (p, o) ∈ rest → PartIs prog w k o → Q (.ref p) s) :
    wpAny (model prog w) A (subscriptTail value slice (.ref P) (.int a u)) Q E s := by
  obtain ⟨p, o, e, hm, hi⟩ := R.2 _ _ hk
  exact item_made N hp h0 hhi e hs' (h p o hm hi)
theorem ints_at {vs : List Value} {ns : List Int} (h : IntsAre vs ns) {i : Nat} {k : Int} (hk : ns[i]? = some k) : ∃ t, vs[i]? = some (.int k t) := by
  exact h.get i k hk
theorem item_kind (N : News h₀ L s.heap news) (hp : (P, listOf kvs.toArray pn) ∈ news) (R : IntsAre kvs ks) (h0 : 0 ≤ a) (hhi : a < 2 ^ 63) (hk : ks[a.toNat]? = some k)
    (hs' : subscripted slice false (.ref P) (.int a u) = operate [.ref P, .int a u] (getItem (.ref P) (.int a u)))
    (h : ∀ t, Q (.int k t) s) :
    wpAny (model prog w) A (subscriptTail value slice (.ref P) (.int a u)) Q E s := by
  obtain ⟨t, e⟩ := ints_at R hk
  exact item_made N hp h0 hhi e hs' (h t)
end
end Mine
end

section
open PySem PySem.W PyProof.Rows PySem.Spec PySem.Calls
namespace Mine
section

local macro_rules | `(tactic| walk_at "callWith ref") => `(tactic| (k_here; k_dflt (first
  | refine' callWith_K ?k1 ?k2 ?_; (case k1 => k_asm); (case k2 => k_is); k_whole
  | refine' callWith_K0 ?k1 ?k2 ?_; (case k1 => k_in); (case k2 => k_is); k_whole
  | (refine' callWith_M0 ?k1 ?k2 ?_; (case k1 => k_meth); (case k2 => k_is); k_whole; try dsimp only [List.nil_append, List.cons_append])
  | refine' callWith_M ?k1 ?k2 ?k3 ?k4 ?_; (case k1 => k_asm); (case k2 => k_asm); (case k3 => k_mem); (case k4 => k_is); k_whole)))
local macro_rules | `(tactic| walk_at "call ref") => `(tactic| (k_here; k_dflt (first
  | (refine' call_cls0 ?k1 ?k2 ?k3 ?k4 ?k5 ?_; (case k1 => k_asm); (case k2 => k_asm); (case k3 => k_asm); (case k4 => k_is); (case k5 => k_is); k_whole; intro x' d' h' F' N' l1 l2; (try k_lt l1); (try k_lt2 l2); (try k_sweep))
  | (refine' call_cls ?k1 ?k2 ?k3 ?k4 ?k5 ?k6 ?_; (case k1 => k_asm); (case k2 => k_asm); (case k3 => k_asm); (case k4 => k_is); (case k5 => k_is); (case k6 => k_is); k_whole; intro x' d' h' F' N' l1 l2; (try k_lt l1); (try k_lt2 l2); (try k_sweep); k_enter)
  | (refine' call_meth ?k1 ?k2 ?_; (case k1 => k_asm); (case k2 => k_mem); k_whole; k_enter)
  | (refine wpAny_call ?_; k_enter))))
local macro_rules | `(tactic| walk_at "eval Name") => `(tactic| (k_here; k_dflt (first
  | (refine' nameX_L ?mF ?mV ?_ ?mA ?mB; (case mF => k_asm); (case mA => rfl); (case mB => rfl); (case mV => rfl); k_whole)
  | (refine' nameX_K ?mF ?mX ?mT ?mE ?_ ?mA ?mB; (case mF => k_asm); (case mX => k_asm); (case mT => k_asm); (case mA => rfl); (case mB => rfl); (case mE => k_is); k_whole)
  | (refine' nameX_B ?mF ?mX ?mT ?mE ?mV ?mN ?_ ?mA ?mB; (case mF => k_asm); (case mX => k_asm); (case mT => k_asm); (case mA => rfl); (case mB => rfl); (case mE => k_is); (case mV => boot_fast); (case mN => decide); k_whole)
  | (refine' nameX_C ?mN ?mc ?mm ?md ?_ ?mA ?mB; (case mA => rfl); (case mB => rfl); (case mN => k_asm); (case mc => rfl); (case mm => k_mem); (case md => k_asm); k_whole))))

local macro_rules | `(tactic| kts_go) => `(tactic| (refine' code_defS0 ?k1 ?k2 ?k3 ?k4 ?k5 ?kA ?k6 ?k7 ?k8 ?k9 ?kB ?_ ?cK ?c2 ?c3 ?c4 ?c5; (case kA => exact rfl); (case k1 => k_asm); (case k2 => k_asm); (case k3 => k_asm); (case k4 => k_asm); (case k5 => k_asm); (case k6 => k_is); (case k7 => k_is); (case k8 => k_room); (case k9 => exact BindsTo.of_eq rfl); (case kB => exact locs rfl); (case cK => exact rfl); (case c2 => exact rfl); (case c3 => exact rfl); (case c4 => exact rfl); (case c5 => decide); k_whole; intro g' L' h' FG' F' N' B' X' T' D'; (try dsimp only); (try k_lift B'); (try k_fold)))
local macro_rules | `(tactic| kc_enter) => `(tactic| (refine' code_clos ?k1 ?k2 ?k3 ?k4 ?k5 ?kA ?kF ?kK ?k6 ?k7 ?k8 ?k9 ?kB ?_ ?c2 ?c3 ?c4 ?c5; (case kA => exact rfl); (case kF => exact rfl); (case kK => exact rfl); (case k1 => k_asm); (case k2 => k_asm); (case k3 => k_asm); (case k4 => k_asm); (case k5 => k_asm); (case k6 => k_is); (case k7 => k_is); (case k8 => k_room); (case k9 => exact BindsTo.of_eq rfl); (case c5 => decide); (case kB => exact locs rfl); (case c2 => exact rfl); (case c3 => exact rfl); (case c4 => exact rfl); k_whole; intro g' L' h' FG' F' N' B' X' T'; (try dsimp only); (try k_lift B'); (try k_fold)))

local macro_rules | `(tactic| k_all) => `(tactic| with_reducible assumption)
theorem part_ok {w : World} {p₀ : Program} {loose : List Str} {mean : ExcName → Option Value} {mg mb : Str → Option Value}
    {dp un : Nat} {gd : Option (List Code)} {cn : Str} {cs : Scope} {a : Addr} {ccd : Value} {cl : List (Str × Addr)} {outer : List Env} {A₀ : Around} {base h₀ : Heap} {L : Addr} {m : Str → Option Value} {s : Shared} {Q E : Value → Shared → Prop}
    {k : Int} {t1 : Tok} {news : List (Addr × Obj)}
    (B : Below A₀ base outer h₀) (F : Fr h₀ L s.heap m) (X : (hd.heap_39 w.params).In h₀) (T : Top p₀ loose mean mg mb h₀) (hk : cs.kind = .function) (hdp : dp + 1 < recursionLimit) (_hu : un + 8 < cLine) (N : News h₀ L s.heap news) (hk0 : 0 ≤ k) (hk1 : k < 7)
    (hret : ∀ (d : Addr) (o : Obj) (h' : Heap) (tk' : Nat), Fr h₀ L h' m → News h₀ L h' ((d, o) :: news) → (∀ p ∈ news, p.1 < d) → PartIs PySem.Challenge.rw_am6006_01.row.prog w k o → Q (.ref d) { s with heap := h', toks := tk' }) :
    wpAny (model PySem.Challenge.rw_am6006_01.row.prog w) (ktrTop dp un gd cn cs L a ccd cl outer) (call (.ref 461) [.int k t1]) Q E s := by
  revert X; k_fill; intro X
  w_top off
  refine wpAny_call ?_
  k_dflt cell_enter
  k_steps
  all_goals (try k_data)
  all_goals refine' hret _ _ _ _ ?_ ?_ ?_ ?_
  all_goals first
    | assumption
    | exact news_tail (by assumption)
    | exact allLt_mem (by assumption)
    | exact part_text (by omega) (by assumption) rfl rfl
    | exact part_other (by omega) (by assumption) rfl (by decide +kernel)
end
section

local macro_rules | `(tactic| walk_at "callWith ref") => `(tactic| (k_here; k_dflt (first
  | refine' callWith_K ?k1 ?k2 ?_; (case k1 => k_asm); (case k2 => k_is); k_whole
  | refine' callWith_K0 ?k1 ?k2 ?_; (case k1 => k_in); (case k2 => k_is); k_whole
  | (refine' callWith_M0 ?k1 ?k2 ?_; (case k1 => k_meth); (case k2 => k_is); k_whole; try dsimp only [List.nil_append, List.cons_append])
  | refine' callWith_M ?k1 ?k2 ?k3 ?k4 ?_; (case k1 => k_asm); (case k2 => k_asm); (case k3 => k_mem); (case k4 => k_is); k_whole)))
local macro_rules | `(tactic| walk_at "call ref") => `(tactic| (k_here; k_dflt (first
  | (refine' call_cls0 ?k1 ?k2 ?k3 ?k4 ?k5 ?_; (case k1 => k_asm); (case k2 => k_asm); (case k3 => k_asm); (case k4 => k_is); (case k5 => k_is); k_whole; intro x' d' h' F' N' l1 l2; (try k_lt l1); (try k_lt2 l2); (try k_sweep))
  | (refine' call_cls ?k1 ?k2 ?k3 ?k4 ?k5 ?k6 ?_; (case k1 => k_asm); (case k2 => k_asm); (case k3 => k_asm); (case k4 => k_is); (case k5 => k_is); (case k6 => k_is); k_whole; intro x' d' h' F' N' l1 l2; (try k_lt l1); (try k_lt2 l2); (try k_sweep); k_enter)
  | (refine' call_meth ?k1 ?k2 ?_; (case k1 => k_asm); (case k2 => k_mem); k_whole; k_enter)
  | (refine wpAny_call ?_; k_enter))))
local macro_rules | `(tactic| walk_at "eval Name") => `(tactic| (k_here; k_dflt (first
  | (refine' nameX_L ?mF ?mV ?_ ?mA ?mB; (case mF => k_asm); (case mA => rfl); (case mB => rfl); (case mV => rfl); k_whole)
  | (refine' nameX_K ?mF ?mX ?mT ?mE ?_ ?mA ?mB; (case mF => k_asm); (case mX => k_asm); (case mT => k_asm); (case mA => rfl); (case mB => rfl); (case mE => k_is); k_whole)
  | (refine' nameX_B ?mF ?mX ?mT ?mE ?mV ?mN ?_ ?mA ?mB; (case mF => k_asm); (case mX => k_asm); (case mT => k_asm); (case mA => rfl); (case mB => rfl); (case mE => k_is); (case mV => boot_fast); (case mN => decide); k_whole)
  | (refine' nameX_C ?mN ?mc ?mm ?md ?_ ?mA ?mB; (case mA => rfl); (case mB => rfl); (case mN => k_asm); (case mc => rfl); (case mm => k_mem); (case md => k_asm); k_whole))))

local macro_rules | `(tactic| kts_go) => `(tactic| (refine' code_defS0 ?k1 ?k2 ?k3 ?k4 ?k5 ?kA ?k6 ?k7 ?k8 ?k9 ?kB ?_ ?cK ?c2 ?c3 ?c4 ?c5; (case kA => exact rfl); (case k1 => k_asm); (case k2 => k_asm); (case k3 => k_asm); (case k4 => k_asm); (case k5 => k_asm); (case k6 => k_is); (case k7 => k_is); (case k8 => k_room); (case k9 => exact BindsTo.of_eq rfl); (case kB => exact locs rfl); (case cK => exact rfl); (case c2 => exact rfl); (case c3 => exact rfl); (case c4 => exact rfl); (case c5 => decide); k_whole; intro g' L' h' FG' F' N' B' X' T' D'; (try dsimp only); (try k_lift B'); (try k_fold)))
local macro_rules | `(tactic| kc_enter) => `(tactic| (refine' code_clos ?k1 ?k2 ?k3 ?k4 ?k5 ?kA ?kF ?kK ?k6 ?k7 ?k8 ?k9 ?kB ?_ ?c2 ?c3 ?c4 ?c5; (case kA => exact rfl); (case kF => exact rfl); (case kK => exact rfl); (case k1 => k_asm); (case k2 => k_asm); (case k3 => k_asm); (case k4 => k_asm); (case k5 => k_asm); (case k6 => k_is); (case k7 => k_is); (case k8 => k_room); (case k9 => exact BindsTo.of_eq rfl); (case c5 => decide); (case kB => exact locs rfl); (case c2 => exact rfl); (case c3 => exact rfl); (case c4 => exact rfl); k_whole; intro g' L' h' FG' F' N' B' X' T'; (try dsimp only); (try k_lift B'); (try k_fold)))

local macro_rules | `(tactic| walk_at "ite") => `(tactic| (k_closed; k_dflt (first | (refine ite_pos ?hc ?_; (case hc => decide)) | (refine ite_neg ?hc ?_; (case hc => decide)))))

local macro_rules | `(tactic| walk_at "subscriptTail") => `(tactic| (k_here; (with_reducible show wpAny _ _ (subscriptTail _ _ (Value.ref _) (Value.str _ _)) _ _ _); k_dflt (refine' kda_item (knd := PySem.strKind _ _) ?N ?p ?d (strKind_is _ _ _ _) ?l ?_ ?s ?g; (case N => k_asm); (case p => k_mem); (case d => k_asm); (case l => assumption); (case s => with_unfolding_all rfl); (case g => intro _; with_unfolding_all rfl))))
local macro_rules | `(tactic| walk_at "ite") => `(tactic| (k_dflt (refine ite_neg ?h ?_; (case h => (intro h9; (with_reducible rename (_ == _) = false => hz9); rw [hz9] at h9; exact Bool.noConfusion h9)))))
theorem text_raw_ok {w : World} {p₀ : Program} {loose : List Str} {mean : ExcName → Option Value} {mg mb : Str → Option Value}
    {dp un : Nat} {gd : Option (List Code)} {cn : Str} {cs : Scope} {a : Addr} {ccd : Value} {cl : List (Str × Addr)} {outer : List Env} {A₀ : Around} {base h₀ : Heap} {L : Addr} {m : Str → Option Value} {s : Shared} {Q E : Value → Shared → Prop}
    {k : Int} {d : Addr} {o : Obj} {news : List (Addr × Obj)}
    (B : Below A₀ base outer h₀) (F : Fr h₀ L s.heap m) (X : (hd.heap_39 w.params).In h₀) (T : Top p₀ loose mean mg mb h₀) (hk : cs.kind = .function) (hdp : dp + 1 < recursionLimit) (_hu : un + 8 < cLine) (N : News h₀ L s.heap news) (hm : (d, o) ∈ news) (hp : PartIs PySem.Challenge.rw_am6006_01.row.prog w k o)
    (hret : ∀ (t' : Tok) (h' : Heap) (tk' : Nat), Fr h₀ L h' m → News h₀ L h' news → Q (.str (rawOf k) t') { s with heap := h', toks := tk' }) :
    wpAny (model PySem.Challenge.rw_am6006_01.row.prog w) (ktrTop dp un gd cn cs L a ccd cl outer) (call (.ref 80) [.ref d]) Q E s := by
  revert X; k_fill; intro X
  w_top off
  obtain ⟨kvs, y, t, t', hd, h1, ⟨hk, rfl, h2⟩ | ⟨hk, hy⟩⟩ := hp
  · refine wpAny_call ?_
    k_dflt cell_enter
    k_steps
    all_goals (try k_data)
    exact hret _ _ _ (by assumption) (by assumption)
  · refine wpAny_call ?_
    k_dflt cell_enter
    k_steps
    all_goals (try k_data)
    rw [rawOf_no hk] at hret
    exact hret _ _ _ (by assumption) (by assumption)
end
end Mine
end

section
open PySem PySem.W PyProof.Rows PySem.Spec PySem.Calls PyProof.V
namespace Mine
def sliceK {α : Type} (l : List α) (a b : Int) : List α := (l.drop a.toNat).take (b.toNat - a.toNat)
section
variable {prog : Program} {w : World} {A : Around} {E : Value → Shared → Prop} {s : Shared} {h₀ : Heap} {L P : Addr} {m : Str → Option Value} {news : List (Addr × Obj)} {value slice : PySem.Expr} {pvs : List Value} {pn : Nat} {a b : Int} {ta tb : Tok} {Q : Value → Shared → Prop}
theorem part_slice (F : Fr h₀ L s.heap m) (N : News h₀ L s.heap news) (hp : (P, listOf pvs.toArray pn) ∈ news) (h0 : 0 ≤ a) (h1 : a ≤ b) (h2 : b ≤ pvs.length) (hz : pvs.length ≤ 100)
    (hs : subscripted slice false (.ref P) (.ref s.heap.objs.size) = operate [.ref s.heap.objs.size, .ref P] (getItem (.ref P) (.ref s.heap.objs.size))) (ht : ∀ r, letTemporaryGo value (.ref P) r = pure ())
    (h : ∀ D h', Fr h₀ L h' m → News h₀ L h' ((D, listOf (sliceK pvs a b).toArray 0) :: news) → (∀ p ∈ news, p.1 < D) → Q (.ref D) { s with heap := h' }) :
    wpAny (model prog w) A (subscriptTail value slice (.ref P) (.ref s.heap.objs.size)) Q E { s with heap := s.heap.push { cls := .type "slice", data := .fields #[.int a ta, .int b tb, .none] } } := by
  have e : sliceBounds (some a) (some b) none pvs.toArray.size = ((a.toNat : Int), (b.toNat : Int), 1) := by
    rw [List.size_toArray]
    simp only [sliceBounds, Option.getD_none, show (1 : Int) > 0 by decide, if_true, if_neg (show ¬ (a < 0) by omega), if_neg (show ¬ (b < 0) by omega)]
    congr 1
    · omega
    · congr 1
      omega
  refine kmk_slice F N (N.isList hp) (IsPart.int a ta) (IsPart.int b tb) (fun D h' F' N' l1 => h D h' F' ?_ l1) hs ht (by rw [List.size_toArray, sizeLine_eq]; omega)
  rw [kmk_pick_nat _ e] at N'
  exact N'
end
theorem get_sliceK {α : Type} {l : List α} {a b : Int} {i : Nat} {x : α} (h : (sliceK l a b)[i]? = some x) : l[a.toNat + i]? = some x ∧ i < b.toNat - a.toNat := by
  unfold sliceK at h
  rw [List.getElem?_take] at h
  split at h
  · rename_i hi
    rw [List.getElem?_drop] at h
    exact ⟨h, hi⟩
  · cases h
theorem partsRel_slice {prog : Program} {w : World} {rest : List (Addr × Obj)} {pvs : List Value} {ks : List Int} {a b : Int} (R : PartsRel prog w rest pvs ks) : PartsRel prog w rest (sliceK pvs a b) (sliceK ks a b) := by
  refine ⟨?_, fun i k e => ?_⟩
  · unfold sliceK
    rw [List.length_take, List.length_take, List.length_drop, List.length_drop, R.1]
  · obtain ⟨e1, hi⟩ := get_sliceK e
    obtain ⟨p, o, h1, h2, h3⟩ := R.2 _ _ e1
    refine ⟨p, o, ?_, h2, h3⟩
    unfold sliceK
    rw [List.getElem?_take, if_pos hi, List.getElem?_drop]
    exact h1
/-- the loop over the slice: all that is behind us is of the kind 0 -/
def CJ (news : List (Addr × Obj)) (D : Addr) (sl : List Value) (kl : List Int) (pre : List Value) (_ : Str → Option Value) (nx : List (Addr × Obj)) : Prop :=
  nx = (D, listOf sl.toArray 0) :: news ∧ (kl.take pre.length).any (· != 0) = false
theorem cj_turn {news : List (Addr × Obj)} {D : Addr} {sl : List Value} {kl : List Int} {pre : List Value} {m m' : Str → Option Value} {nx : List (Addr × Obj)} {v : Value} {k : Int} (h : CJ news D sl kl pre m nx) (hk : kl[pre.length]? = some k) (h0 : k = 0) : CJ news D sl kl (pre ++ [v]) m' nx := by
  refine ⟨h.1, ?_⟩
  rw [List.length_append, List.length_singleton, List.take_add_one, hk, List.any_append, h.2, h0]
  rfl
theorem any_yes {kl : List Int} {i : Nat} {k : Int} (hk : kl[i]? = some k) (h0 : k ≠ 0) : kl.any (· != 0) = true := by
  rw [List.any_eq_true]
  exact ⟨k, List.mem_of_getElem? hk, by simpa using h0⟩
theorem any_no {news : List (Addr × Obj)} {D : Addr} {sl : List Value} {kl : List Int} {m : Str → Option Value} {nx : List (Addr × Obj)} (hl : sl.length = kl.length) (h : CJ news D sl kl sl m nx) : kl.any (· != 0) = false := by
  have := h.2
  rw [hl, List.take_length] at this
  exact this
theorem raw_len {k : Int} (h0 : 0 ≤ k) : ((rawOf k).length : Int) = heldOf k := by
  unfold rawOf heldOf
  by_cases h : k < 4
  · rw [if_pos h, if_pos h]
    have hk : k = 0 ∨ k = 1 ∨ k = 2 ∨ k = 3 := by omega
    rcases hk with rfl | rfl | rfl | rfl <;> decide +kernel
  · rw [if_neg h, if_neg h]
    decide +kernel
theorem held_bd {k : Int} (h0 : 0 ≤ k) : 0 ≤ heldOf k ∧ heldOf k ≤ 3 := by
  unfold heldOf
  split <;> omega
theorem raw_nil {k : Int} (h0 : 0 ≤ k) (h4 : k < 4) : (rawOf k == Str.ofString "") = decide (k = 0) := by
  unfold rawOf
  rw [if_pos h4]
  have hk : k = 0 ∨ k = 1 ∨ k = 2 ∨ k = 3 := by omega
  rcases hk with rfl | rfl | rfl | rfl <;> decide +kernel
theorem raw_slice {k : Int} (h0 : 0 ≤ k) (h7 : k < 7) : Txt.slice (Str.ofString "abc") none (some (heldOf k)) = rawOf k := by
  unfold rawOf heldOf
  have hk : k = 0 ∨ k = 1 ∨ k = 2 ∨ k = 3 ∨ k = 4 ∨ k = 5 ∨ k = 6 := by omega
  rcases hk with rfl | rfl | rfl | rfl | rfl | rfl | rfl <;> decide +kernel
theorem held_lt {k : Int} (h : k < 4) : heldOf k = k := by unfold heldOf; rw [if_pos h]
theorem held_ge {k : Int} (h : ¬ k < 4) : heldOf k = 0 := by unfold heldOf; rw [if_neg h]
theorem nz_dec (n : Nat) : ((n : Int) != 0) = decide (1 ≤ (n : Int)) := by
  cases n with
  | zero => rfl
  | succ n =>
    rw [decide_eq_true (show 1 ≤ ((n + 1 : Nat) : Int) by omega)]
    exact bne_iff_ne.mpr (by omega)
theorem cj_item {prog : Program} {w : World} {rest : List (Addr × Obj)} {sl : List Value} {kl : List Int} {pre post : List Value} {v : Value} (R : PartsRel prog w rest sl kl) (e : sl = pre ++ v :: post) :
    ∃ k p o, kl[pre.length]? = some k ∧ v = .ref p ∧ (p, o) ∈ rest ∧ PartIs prog w k o := by
  have hv : sl[pre.length]? = some v := by rw [e]; simp
  have hlt : pre.length < kl.length := by rw [← R.1, e]; simp
  obtain ⟨p, o, e1, hm, hp⟩ := R.2 pre.length kl[pre.length] (by rw [List.getElem?_eq_getElem hlt])
  rw [hv] at e1
  exact ⟨_, p, o, List.getElem?_eq_getElem hlt, Option.some.inj e1, hm, hp⟩
theorem mem_sliceK {ks : List Int} {a b k : Int} {i : Nat} (h : (sliceK ks a b)[i]? = some k) : k ∈ ks := List.mem_of_getElem? (get_sliceK h).1
theorem cj_loop {prog : Program} {w : World} {A : Around} {E : Value → Shared → Prop} {s : Shared} {env : Env} {h₀ : Heap} {x : Str} {body : List Stmt} {Q : Flow → Shared → Prop} {m₀ : Str → Option Value} {news : List (Addr × Obj)} {D : Addr} {sl : List Value} {kl : List Int}
    (hh : A.handled = none) (F : Fr h₀ env.locals s.heap m₀) (N : News h₀ env.locals s.heap ((D, listOf sl.toArray 0) :: news))
    (turn : ∀ pre v post m₁ nx h tk I it, sl = pre ++ v :: post → CJ news D sl kl pre m₁ nx → (∀ p ∈ nx, p.1 ≠ I) → Fr h₀ env.locals h (fun y => if y = x then some v else m₁ y) → News h₀ env.locals h ((I, it) :: nx) →
      wpAny (model prog w) A (execs body env) (LPost h₀ env.locals (CJ news D sl kl (pre ++ [v])) I it s Q) E { s with heap := h, toks := tk })
    (done : ∀ m₁ nx h tk, CJ news D sl kl sl m₁ nx → Fr h₀ env.locals h m₁ → News h₀ env.locals h nx → Q .next { s with heap := h, toks := tk }) :
    wpAny (model prog w) A (pyIter (.ref D)) (fun it s₂ => LoopAtV prog w A h₀ env x body Q E it s₂) E s :=
  lst_loop (vs := sl) (nn := 0) (CJ news D sl kl) hh F N ⟨rfl, by rw [List.length_nil, List.take_zero]; rfl⟩ (fun _ _ _ h => h.1 ▸ List.Mem.head _) turn done
theorem raw_ne {k : Int} (hr : (rawOf k == Str.ofString "") = decide (k = 0)) (h : (rawOf k != Str.ofString "") = true) : k ≠ 0 := by
  intro e
  rw [bne, hr, decide_eq_true e] at h
  exact Bool.noConfusion h
theorem raw_eq {k : Int} (hr : (rawOf k == Str.ofString "") = decide (k = 0)) (h : (rawOf k != Str.ofString "") = false) : k = 0 := by
  rw [bne, hr] at h
  by_cases e : k = 0
  · exact e
  · rw [decide_eq_false e] at h
    exact Bool.noConfusion h
end Mine
end

section
open PySem PySem.W PyProof.Rows PySem.Spec PySem.Calls
namespace Mine
section

local macro_rules | `(tactic| walk_at "callWith ref") => `(tactic| (k_here; k_dflt (first
  | refine' callWith_K ?k1 ?k2 ?_; (case k1 => k_asm); (case k2 => k_is); k_whole
  | refine' callWith_K0 ?k1 ?k2 ?_; (case k1 => k_in); (case k2 => k_is); k_whole
  | (refine' callWith_M0 ?k1 ?k2 ?_; (case k1 => k_meth); (case k2 => k_is); k_whole; try dsimp only [List.nil_append, List.cons_append])
  | refine' callWith_M ?k1 ?k2 ?k3 ?k4 ?_; (case k1 => k_asm); (case k2 => k_asm); (case k3 => k_mem); (case k4 => k_is); k_whole)))
local macro_rules | `(tactic| walk_at "call ref") => `(tactic| (k_here; k_dflt (first
  | (refine' call_cls0 ?k1 ?k2 ?k3 ?k4 ?k5 ?_; (case k1 => k_asm); (case k2 => k_asm); (case k3 => k_asm); (case k4 => k_is); (case k5 => k_is); k_whole; intro x' d' h' F' N' l1 l2; (try k_lt l1); (try k_lt2 l2); (try k_sweep))
  | (refine' call_cls ?k1 ?k2 ?k3 ?k4 ?k5 ?k6 ?_; (case k1 => k_asm); (case k2 => k_asm); (case k3 => k_asm); (case k4 => k_is); (case k5 => k_is); (case k6 => k_is); k_whole; intro x' d' h' F' N' l1 l2; (try k_lt l1); (try k_lt2 l2); (try k_sweep); k_enter)
  | (refine' call_meth ?k1 ?k2 ?_; (case k1 => k_asm); (case k2 => k_mem); k_whole; k_enter)
  | (refine wpAny_call ?_; k_enter))))
local macro_rules | `(tactic| walk_at "eval Name") => `(tactic| (k_here; k_dflt (first
  | (refine' nameX_L ?mF ?mV ?_ ?mA ?mB; (case mF => k_asm); (case mA => rfl); (case mB => rfl); (case mV => rfl); k_whole)
  | (refine' nameX_K ?mF ?mX ?mT ?mE ?_ ?mA ?mB; (case mF => k_asm); (case mX => k_asm); (case mT => k_asm); (case mA => rfl); (case mB => rfl); (case mE => k_is); k_whole)
  | (refine' nameX_B ?mF ?mX ?mT ?mE ?mV ?mN ?_ ?mA ?mB; (case mF => k_asm); (case mX => k_asm); (case mT => k_asm); (case mA => rfl); (case mB => rfl); (case mE => k_is); (case mV => boot_fast); (case mN => decide); k_whole)
  | (refine' nameX_C ?mN ?mc ?mm ?md ?_ ?mA ?mB; (case mA => rfl); (case mB => rfl); (case mN => k_asm); (case mc => rfl); (case mm => k_mem); (case md => k_asm); k_whole))))

local macro_rules | `(tactic| kts_go) => `(tactic| (refine' code_defS0 ?k1 ?k2 ?k3 ?k4 ?k5 ?kA ?k6 ?k7 ?k8 ?k9 ?kB ?_ ?cK ?c2 ?c3 ?c4 ?c5; (case kA => exact rfl); (case k1 => k_asm); (case k2 => k_asm); (case k3 => k_asm); (case k4 => k_asm); (case k5 => k_asm); (case k6 => k_is); (case k7 => k_is); (case k8 => k_room); (case k9 => exact BindsTo.of_eq rfl); (case kB => exact locs rfl); (case cK => exact rfl); (case c2 => exact rfl); (case c3 => exact rfl); (case c4 => exact rfl); (case c5 => decide); k_whole; intro g' L' h' FG' F' N' B' X' T' D'; (try dsimp only); (try k_lift B'); (try k_fold)))
local macro_rules | `(tactic| kc_enter) => `(tactic| (refine' code_clos ?k1 ?k2 ?k3 ?k4 ?k5 ?kA ?kF ?kK ?k6 ?k7 ?k8 ?k9 ?kB ?_ ?c2 ?c3 ?c4 ?c5; (case kA => exact rfl); (case kF => exact rfl); (case kK => exact rfl); (case k1 => k_asm); (case k2 => k_asm); (case k3 => k_asm); (case k4 => k_asm); (case k5 => k_asm); (case k6 => k_is); (case k7 => k_is); (case k8 => k_room); (case k9 => exact BindsTo.of_eq rfl); (case c5 => decide); (case kB => exact locs rfl); (case c2 => exact rfl); (case c3 => exact rfl); (case c4 => exact rfl); k_whole; intro g' L' h' FG' F' N' B' X' T'; (try dsimp only); (try k_lift B'); (try k_fold)))

local macro_rules | `(tactic| k_all) => `(tactic| with_reducible assumption)
theorem held_ok {w : World} {p₀ : Program} {loose : List Str} {mean : ExcName → Option Value} {mg mb : Str → Option Value}
    {dp un : Nat} {gd : Option (List Code)} {cn : Str} {cs : Scope} {a : Addr} {ccd : Value} {cl : List (Str × Addr)} {outer : List Env} {A₀ : Around} {base h₀ : Heap} {L : Addr} {m : Str → Option Value} {s : Shared} {Q E : Value → Shared → Prop}
    {k : Int} {t1 : Tok} {news : List (Addr × Obj)}
    (B : Below A₀ base outer h₀) (F : Fr h₀ L s.heap m) (X : (hd.heap_39 w.params).In h₀) (T : Top p₀ loose mean mg mb h₀) (hk : cs.kind = .function) (hdp : dp + 1 < recursionLimit) (_hu : un + 8 < cLine) (N : News h₀ L s.heap news)
    (hret : ∀ (t' : Tok) (h' : Heap) (tk' : Nat), Fr h₀ L h' m → News h₀ L h' news → Q (.int (heldOf k) t') { s with heap := h', toks := tk' }) :
    wpAny (model PySem.Challenge.rw_am6006_01.row.prog w) (ktrTop dp un gd cn cs L a ccd cl outer) (call (.ref 468) [.int k t1]) Q E s := by
  revert X; k_fill; intro X
  w_top off
  refine wpAny_call ?_
  k_dflt cell_enter
  k_steps
  all_goals (try k_data)
  all_goals first
    | (rw [held_lt (by assumption)] at hret; exact hret _ _ _ (by assumption) (by assumption))
    | (rw [held_ge (by assumption)] at hret; exact hret _ _ _ (by assumption) (by assumption))
end
section

local macro_rules | `(tactic| walk_at "callWith ref") => `(tactic| (k_here; k_dflt (first
  | refine' callWith_K ?k1 ?k2 ?_; (case k1 => k_asm); (case k2 => k_is); k_whole
  | refine' callWith_K0 ?k1 ?k2 ?_; (case k1 => k_in); (case k2 => k_is); k_whole
  | (refine' callWith_M0 ?k1 ?k2 ?_; (case k1 => k_meth); (case k2 => k_is); k_whole; try dsimp only [List.nil_append, List.cons_append])
  | refine' callWith_M ?k1 ?k2 ?k3 ?k4 ?_; (case k1 => k_asm); (case k2 => k_asm); (case k3 => k_mem); (case k4 => k_is); k_whole)))
local macro_rules | `(tactic| walk_at "call ref") => `(tactic| (k_here; k_dflt (first
  | (refine' call_cls0 ?k1 ?k2 ?k3 ?k4 ?k5 ?_; (case k1 => k_asm); (case k2 => k_asm); (case k3 => k_asm); (case k4 => k_is); (case k5 => k_is); k_whole; intro x' d' h' F' N' l1 l2; (try k_lt l1); (try k_lt2 l2); (try k_sweep))
  | (refine' call_cls ?k1 ?k2 ?k3 ?k4 ?k5 ?k6 ?_; (case k1 => k_asm); (case k2 => k_asm); (case k3 => k_asm); (case k4 => k_is); (case k5 => k_is); (case k6 => k_is); k_whole; intro x' d' h' F' N' l1 l2; (try k_lt l1); (try k_lt2 l2); (try k_sweep); k_enter)
  | (refine' call_meth ?k1 ?k2 ?_; (case k1 => k_asm); (case k2 => k_mem); k_whole; k_enter)
  | (refine wpAny_call ?_; k_enter))))
local macro_rules | `(tactic| walk_at "eval Name") => `(tactic| (k_here; k_dflt (first
  | (refine' nameX_L ?mF ?mV ?_ ?mA ?mB; (case mF => k_asm); (case mA => rfl); (case mB => rfl); (case mV => rfl); k_whole)
  | (refine' nameX_K ?mF ?mX ?mT ?mE ?_ ?mA ?mB; (case mF => k_asm); (case mX => k_asm); (case mT => k_asm); (case mA => rfl); (case mB => rfl); (case mE => k_is); k_whole)
  | (refine' nameX_B ?mF ?mX ?mT ?mE ?mV ?mN ?_ ?mA ?mB; (case mF => k_asm); (case mX => k_asm); (case mT => k_asm); (case mA => rfl); (case mB => rfl); (case mE => k_is); (case mV => boot_fast); (case mN => decide); k_whole)
  | (refine' nameX_C ?mN ?mc ?mm ?md ?_ ?mA ?mB; (case mA => rfl); (case mB => rfl); (case mN => k_asm); (case mc => rfl); (case mm => k_mem); (case md => k_asm); k_whole))))

local macro_rules | `(tactic| kts_go) => `(tactic| (refine' code_defS0 ?k1 ?k2 ?k3 ?k4 ?k5 ?kA ?k6 ?k7 ?k8 ?k9 ?kB ?_ ?cK ?c2 ?c3 ?c4 ?c5; (case kA => exact rfl); (case k1 => k_asm); (case k2 => k_asm); (case k3 => k_asm); (case k4 => k_asm); (case k5 => k_asm); (case k6 => k_is); (case k7 => k_is); (case k8 => k_room); (case k9 => exact BindsTo.of_eq rfl); (case kB => exact locs rfl); (case cK => exact rfl); (case c2 => exact rfl); (case c3 => exact rfl); (case c4 => exact rfl); (case c5 => decide); k_whole; intro g' L' h' FG' F' N' B' X' T' D'; (try dsimp only); (try k_lift B'); (try k_fold)))
local macro_rules | `(tactic| kc_enter) => `(tactic| (refine' code_clos ?k1 ?k2 ?k3 ?k4 ?k5 ?kA ?kF ?kK ?k6 ?k7 ?k8 ?k9 ?kB ?_ ?c2 ?c3 ?c4 ?c5; (case kA => exact rfl); (case kF => exact rfl); (case kK => exact rfl); (case k1 => k_asm); (case k2 => k_asm); (case k3 => k_asm); (case k4 => k_asm); (case k5 => k_asm); (case k6 => k_is); (case k7 => k_is); (case k8 => k_room); (case k9 => exact BindsTo.of_eq rfl); (case c5 => decide); (case kB => exact locs rfl); (case c2 => exact rfl); (case c3 => exact rfl); (case c4 => exact rfl); k_whole; intro g' L' h' FG' F' N' B' X' T'; (try dsimp only); (try k_lift B'); (try k_fold)))
local macro_rules | `(tactic| walk_at "call ref") => `(tactic| (k_here; (with_reducible show wpAny _ _ (call (Value.ref 80) _) _ _ _); k_dflt (
  refine' text_raw_ok ?dB ?dF ?dX ?dT ?dk ?dd ?du ?dN ?hm ?hp ?_;
  (case dB => k_asm); (case dF => k_asm); (case dX => k_asm); (case dT => k_asm); (case dk => first | exact rfl | assumption); (case dd => ktr_room); (case du => ktr_units); (case dN => k_asm);
  (case hm => assumption); (case hp => assumption); intro t9 h9 tk9 F9 N9; (try dsimp only); (try k_fold))))
local macro_rules | `(tactic| walk_at "subscriptTail Name Name ref int") => `(tactic| (k_here; (with_reducible show wpAny _ _ (subscriptTail _ _ (Value.ref _) (Value.int _ _)) _ _ _); k_dflt (refine' item_part ?N ?p ?R ?a ?b ?k ?s ?_; (case N => k_asm); (case p => k_mem); (case R => assumption); (case k => assumption); (case a => assumption); (case b => omega); (case s => with_unfolding_all rfl); k_whole); intro p' o' hm' hi'))

theorem strong_ok {w : World} {p₀ : Program} {loose : List Str} {mean : ExcName → Option Value} {mg mb : Str → Option Value}
    {dp un : Nat} {gd : Option (List Code)} {cn : Str} {cs : Scope} {a : Addr} {ccd : Value} {cl : List (Str × Addr)} {outer : List Env} {A₀ : Around} {base h₀ : Heap} {L : Addr} {m : Str → Option Value} {s : Shared} {Q E : Value → Shared → Prop}
    {P : Addr} {pvs : List Value} {ks : List Int} {pn : Nat} {i j ka kb : Int} {t1 t2 : Tok} {news : List (Addr × Obj)}
    (B : Below A₀ base outer h₀) (F : Fr h₀ L s.heap m) (X : (hd.heap_39 w.params).In h₀) (T : Top p₀ loose mean mg mb h₀) (hk : cs.kind = .function) (hdp : dp + 2 < recursionLimit) (_hu : un + 16 < cLine) (N : News h₀ L s.heap news) (hP : (P, listOf pvs.toArray pn) ∈ news) (R : PartsRel PySem.Challenge.rw_am6006_01.row.prog w news pvs ks) (hi0 : 0 ≤ i) (hj0 : 0 ≤ j) (hi1 : i < 100) (hj1 : j < 100) (hka : ks[i.toNat]? = some ka) (hkb : ks[j.toNat]? = some kb) (ha0 : 0 ≤ ka) (hb0 : 0 ≤ kb)
    (hret : ∀ (h' : Heap) (tk' : Nat), Fr h₀ L h' m → News h₀ L h' news → Q (.bool (decide (2 ≤ heldOf ka) && decide (2 ≤ heldOf kb))) { s with heap := h', toks := tk' }) :
    wpAny (model PySem.Challenge.rw_am6006_01.row.prog w) (ktrTop dp un gd cn cs L a ccd cl outer) (call (.ref 66) [.ref P, .int i t1, .int j t2]) Q E s := by
  revert X; k_fill; intro X
  w_top off
  have la := raw_len ha0
  have lb := raw_len hb0
  have la3 := held_bd ha0
  have lb3 := held_bd hb0
  refine wpAny_call ?_
  k_dflt cell_enter
  k_steps
  all_goals (try k_data)
  all_goals refine retB hret ?_ (by assumption) (by assumption)
  all_goals first
    | rw [← la, ← lb, decide_eq_true (show 2 ≤ ((rawOf ka).length : Int) by assumption), Bool.true_and]
    | (rw [← la, decide_eq_false (show ¬ 2 ≤ ((rawOf ka).length : Int) by assumption)]; rfl)
theorem emph_ok {w : World} {p₀ : Program} {loose : List Str} {mean : ExcName → Option Value} {mg mb : Str → Option Value}
    {dp un : Nat} {gd : Option (List Code)} {cn : Str} {cs : Scope} {a : Addr} {ccd : Value} {cl : List (Str × Addr)} {outer : List Env} {A₀ : Around} {base h₀ : Heap} {L : Addr} {m : Str → Option Value} {s : Shared} {Q E : Value → Shared → Prop}
    {P : Addr} {pvs : List Value} {ks : List Int} {pn : Nat} {i j ka kb : Int} {t1 t2 : Tok} {news : List (Addr × Obj)}
    (B : Below A₀ base outer h₀) (F : Fr h₀ L s.heap m) (X : (hd.heap_39 w.params).In h₀) (T : Top p₀ loose mean mg mb h₀) (hk : cs.kind = .function) (hdp : dp + 2 < recursionLimit) (_hu : un + 16 < cLine) (N : News h₀ L s.heap news) (hP : (P, listOf pvs.toArray pn) ∈ news) (R : PartsRel PySem.Challenge.rw_am6006_01.row.prog w news pvs ks) (hi0 : 0 ≤ i) (hj0 : 0 ≤ j) (hi1 : i < 100) (hj1 : j < 100) (hka : ks[i.toNat]? = some ka) (hkb : ks[j.toNat]? = some kb) (ha0 : 0 ≤ ka) (hb0 : 0 ≤ kb)
    (hret : ∀ (h' : Heap) (tk' : Nat), Fr h₀ L h' m → News h₀ L h' news → Q (.bool (decide (1 ≤ heldOf ka) && decide (1 ≤ heldOf kb))) { s with heap := h', toks := tk' }) :
    wpAny (model PySem.Challenge.rw_am6006_01.row.prog w) (ktrTop dp un gd cn cs L a ccd cl outer) (call (.ref 73) [.ref P, .int i t1, .int j t2]) Q E s := by
  revert X; k_fill; intro X
  w_top off
  have la := raw_len ha0
  have lb := raw_len hb0
  have la3 := held_bd ha0
  have lb3 := held_bd hb0
  refine wpAny_call ?_
  k_dflt cell_enter
  k_steps
  all_goals (try k_data)
  all_goals refine retB hret ?_ (by assumption) (by assumption)
  all_goals first
    | rw [← la, ← lb, decide_eq_true (show 1 ≤ ((rawOf ka).length : Int) by omega), Bool.true_and, nz_dec]
    | (rw [← la, decide_eq_false (show ¬ 1 ≤ ((rawOf ka).length : Int) by omega), nz_dec, decide_eq_false (show ¬ 1 ≤ ((rawOf ka).length : Int) by omega)]; rfl)
end
section

local macro_rules | `(tactic| walk_at "callWith ref") => `(tactic| (k_here; k_dflt (first
  | refine' callWith_K ?k1 ?k2 ?_; (case k1 => k_asm); (case k2 => k_is); k_whole
  | refine' callWith_K0 ?k1 ?k2 ?_; (case k1 => k_in); (case k2 => k_is); k_whole
  | (refine' callWith_M0 ?k1 ?k2 ?_; (case k1 => k_meth); (case k2 => k_is); k_whole; try dsimp only [List.nil_append, List.cons_append])
  | refine' callWith_M ?k1 ?k2 ?k3 ?k4 ?_; (case k1 => k_asm); (case k2 => k_asm); (case k3 => k_mem); (case k4 => k_is); k_whole)))
local macro_rules | `(tactic| walk_at "call ref") => `(tactic| (k_here; k_dflt (first
  | (refine' call_cls0 ?k1 ?k2 ?k3 ?k4 ?k5 ?_; (case k1 => k_asm); (case k2 => k_asm); (case k3 => k_asm); (case k4 => k_is); (case k5 => k_is); k_whole; intro x' d' h' F' N' l1 l2; (try k_lt l1); (try k_lt2 l2); (try k_sweep))
  | (refine' call_cls ?k1 ?k2 ?k3 ?k4 ?k5 ?k6 ?_; (case k1 => k_asm); (case k2 => k_asm); (case k3 => k_asm); (case k4 => k_is); (case k5 => k_is); (case k6 => k_is); k_whole; intro x' d' h' F' N' l1 l2; (try k_lt l1); (try k_lt2 l2); (try k_sweep); k_enter)
  | (refine' call_meth ?k1 ?k2 ?_; (case k1 => k_asm); (case k2 => k_mem); k_whole; k_enter)
  | (refine wpAny_call ?_; k_enter))))
local macro_rules | `(tactic| walk_at "eval Name") => `(tactic| (k_here; k_dflt (first
  | (refine' nameX_L ?mF ?mV ?_ ?mA ?mB; (case mF => k_asm); (case mA => rfl); (case mB => rfl); (case mV => rfl); k_whole)
  | (refine' nameX_K ?mF ?mX ?mT ?mE ?_ ?mA ?mB; (case mF => k_asm); (case mX => k_asm); (case mT => k_asm); (case mA => rfl); (case mB => rfl); (case mE => k_is); k_whole)
  | (refine' nameX_B ?mF ?mX ?mT ?mE ?mV ?mN ?_ ?mA ?mB; (case mF => k_asm); (case mX => k_asm); (case mT => k_asm); (case mA => rfl); (case mB => rfl); (case mE => k_is); (case mV => boot_fast); (case mN => decide); k_whole)
  | (refine' nameX_C ?mN ?mc ?mm ?md ?_ ?mA ?mB; (case mA => rfl); (case mB => rfl); (case mN => k_asm); (case mc => rfl); (case mm => k_mem); (case md => k_asm); k_whole))))

local macro_rules | `(tactic| kts_go) => `(tactic| (refine' code_defS0 ?k1 ?k2 ?k3 ?k4 ?k5 ?kA ?k6 ?k7 ?k8 ?k9 ?kB ?_ ?cK ?c2 ?c3 ?c4 ?c5; (case kA => exact rfl); (case k1 => k_asm); (case k2 => k_asm); (case k3 => k_asm); (case k4 => k_asm); (case k5 => k_asm); (case k6 => k_is); (case k7 => k_is); (case k8 => k_room); (case k9 => exact BindsTo.of_eq rfl); (case kB => exact locs rfl); (case cK => exact rfl); (case c2 => exact rfl); (case c3 => exact rfl); (case c4 => exact rfl); (case c5 => decide); k_whole; intro g' L' h' FG' F' N' B' X' T' D'; (try dsimp only); (try k_lift B'); (try k_fold)))
local macro_rules | `(tactic| kc_enter) => `(tactic| (refine' code_clos ?k1 ?k2 ?k3 ?k4 ?k5 ?kA ?kF ?kK ?k6 ?k7 ?k8 ?k9 ?kB ?_ ?c2 ?c3 ?c4 ?c5; (case kA => exact rfl); (case kF => exact rfl); (case kK => exact rfl); (case k1 => k_asm); (case k2 => k_asm); (case k3 => k_asm); (case k4 => k_asm); (case k5 => k_asm); (case k6 => k_is); (case k7 => k_is); (case k8 => k_room); (case k9 => exact BindsTo.of_eq rfl); (case c5 => decide); (case kB => exact locs rfl); (case c2 => exact rfl); (case c3 => exact rfl); (case c4 => exact rfl); k_whole; intro g' L' h' FG' F' N' B' X' T'; (try dsimp only); (try k_lift B'); (try k_fold)))
local macro_rules | `(tactic| walk_at "subscriptTail Name Slice ref ref") => `(tactic| (k_here; k_dflt (refine' part_slice ?F ?N ?p ?a ?b ?c ?d ?s ?t ?_; (case F => k_asm); (case N => k_asm); (case p => k_mem); (case a => assumption); (case b => assumption); (case c => assumption); (case d => assumption); (case s => with_unfolding_all rfl); (case t => intro _; with_unfolding_all rfl); k_whole); intro D' h' F' N' l1))
local macro_rules | `(tactic| walk_at "exec For Name Subscript cons nil") => `(tactic| (k_here; (rename Fr _ _ _ _ => lF'); k_dflt (refine' For_invVF ?kF ?k1 ?k2 ?_ ?k3 ?k4; (case kF => exact lF'); (case k1 => exact rfl); (case k2 => exact rfl); (case k3 => intro _; exact rfl); (case k4 => passes_own); k_whole)))
local macro_rules | `(tactic| walk_at "pyIter ref") => `(tactic| ((try dsimp only); (with_reducible show wpAny _ _ (pyIter (Value.ref _)) _ _ _); k_dflt (refine of_stopped ?_)))
local macro_rules | `(tactic| walk_at "LPost") => `(tactic| (dsimp only [LPost]))
local macro_rules | `(tactic| walk_at "ite") => `(tactic| (k_closed; k_dflt (first | (refine ite_pos ?hc ?_; (case hc => decide)) | (refine ite_neg ?hc ?_; (case hc => decide)))))
local macro_rules | `(tactic| walk_at "ite") => `(tactic| (k_dflt (refine ite_pos ?h ?_; (case h => ((with_reducible rename (_ == _) = false => hz9); rw [bne, hz9]; exact rfl)))))
local macro_rules | `(tactic| walk_at "subscriptTail") => `(tactic| (k_here; (with_reducible show wpAny _ _ (subscriptTail _ _ (Value.ref _) (Value.str _ _)) _ _ _); k_dflt (refine' kda_item (knd := PySem.strKind _ _) ?N ?p ?d (strKind_is _ _ _ _) ?l ?_ ?s ?g; (case N => k_asm); (case p => first | assumption | exact .tail _ (by assumption) | exact .tail _ (.tail _ (by assumption))); (case d => k_asm); (case l => assumption); (case s => with_unfolding_all rfl); (case g => intro _; with_unfolding_all rfl))))

local macro_rules | `(tactic| k_all) => `(tactic| with_reducible assumption)
theorem content_ok {w : World} {p₀ : Program} {loose : List Str} {mean : ExcName → Option Value} {mg mb : Str → Option Value}
    {dp un : Nat} {gd : Option (List Code)} {cn : Str} {cs : Scope} {a : Addr} {ccd : Value} {cl : List (Str × Addr)} {outer : List Env} {A₀ : Around} {base h₀ : Heap} {L : Addr} {m : Str → Option Value} {s : Shared} {Q E : Value → Shared → Prop}
    {P : Addr} {pvs : List Value} {ks : List Int} {pn : Nat} {i j : Int} {t1 t2 : Tok} {news : List (Addr × Obj)}
    (B : Below A₀ base outer h₀) (F : Fr h₀ L s.heap m) (X : (hd.heap_39 w.params).In h₀) (T : Top p₀ loose mean mg mb h₀) (hk : cs.kind = .function) (hdp : dp + 2 < recursionLimit) (_hu : un + 16 < cLine) (N : News h₀ L s.heap news) (hP : (P, listOf pvs.toArray pn) ∈ news) (R : PartsRel PySem.Challenge.rw_am6006_01.row.prog w news pvs ks) (hi0 : 0 ≤ i) (hij : i ≤ j) (hj1 : j ≤ pvs.length) (hp1 : pvs.length ≤ 100) (hks : ∀ k ∈ ks, 0 ≤ k ∧ k < 7)
    (hret : ∀ (h' : Heap) (tk' : Nat), Fr h₀ L h' m → News h₀ L h' news → Q (.bool ((sliceK ks i j).any (· != 0))) { s with heap := h', toks := tk' }) :
    wpAny (model PySem.Challenge.rw_am6006_01.row.prog w) (ktrTop dp un gd cn cs L a ccd cl outer) (call (.ref 87) [.ref P, .int i t1, .int j t2]) Q E s := by
  revert X; k_fill; intro X
  w_top off
  refine wpAny_call ?_
  k_dflt cell_enter
  k_steps
  all_goals (try k_data)
  unfold Stopped
  have RS := partsRel_slice (a := i) (b := j) R
  (with_reducible rename Fr _ _ _ _ => zF)
  (with_reducible rename News _ _ _ _ => zN)
  k_dflt (refine' cj_loop (kl := sliceK ks i j) ?hh zF zN ?turn ?done)
  case hh => exact rfl
  case turn =>
    intro pre v post m₁ nx h tk I it hv hJ ho F₁ N₁
    obtain ⟨k, p, o, hk, rfl, hm, hp⟩ := cj_item RS hv
    have hkb := hks k (mem_sliceK hk)
    have hJ2 := hJ
    obtain ⟨rfl, _⟩ := hJ
    clear zF zN
    obtain ⟨kvs, y, t, t', hd, h1, ⟨hk4, rfl, h2⟩ | ⟨hk4, hy⟩⟩ := hp
    · have hr := raw_nil hkb.1 hk4
      k_steps
      all_goals (try k_data)
      · refine retB hret (any_yes hk (raw_ne hr (by assumption))).symm (by assumption) (news_tail (news_tail (by assumption)))
      · exact lend (by assumption) (by assumption) (fun _ h => h) (by assumption) (cj_turn hJ2 hk (raw_eq hr (by assumption)))
    · k_steps
      all_goals (try k_data)
      refine retB hret (any_yes hk (by omega)).symm (by assumption) (news_tail (news_tail (by assumption)))
  case done =>
    intro m₁ nx h tk hJ F₁ N₁
    have hz := any_no RS.1 hJ
    obtain ⟨rfl, _⟩ := hJ
    clear zF zN
    k_steps
    all_goals (try k_data)
    refine retB hret hz.symm (by assumption) (news_tail (by assumption))
end
end Mine
end

section
open PySem PySem.W PyProof.Rows PySem.Spec PySem.Calls PyProof.V
namespace Mine
abbrev psL (P K : Addr) (vM : Value) : List (Str × Value) := [(Str.ofString "parts", .ref P), (Str.ofString "kinds", .ref K), (Str.ofString "mark", vM)]
/-- the loop that builds the parts -/
def PJ (prog : Program) (w : World) (K : Addr) (kvs : List Value) (kn : Nat) (ks : List Int) (vM : Value) (pre : List Value) (m : Str → Option Value) (nx : List (Addr × Obj)) : Prop :=
  ∃ (P : Addr) (its : Array Value) (pvs : List Value) (pn : Nat) (rest : List (Addr × Obj)), nx = (P, listOf its pn) :: (K, listOf kvs.toArray kn) :: rest ∧ its = pvs.toArray ∧ @Ne Nat K P ∧ (∀ p ∈ rest, @Ne Nat p.1 P) ∧ (∀ p ∈ baseL, p ∈ rest) ∧
    PartsRel prog w rest pvs (ks.take pre.length) ∧ ∀ y ∈ psL P K vM, m y.1 = some y.2
section
variable {prog : Program} {w : World} {h₀ h' : Heap} {L P K d I : Addr} {m m' : Str → Option Value} {kvs pvs pre post : List Value} {kn pn : Nat} {ks : List Int} {vM v : Value} {rest : List (Addr × Obj)} {o it : Obj} {k : Int} {s₁ : Shared} {tk : Nat}
theorem pj_start (hK : @LT.lt Nat _ K P) (h1 : @LT.lt Nat _ 204 P) (h2 : @LT.lt Nat _ 103 P) (hm : ∀ y ∈ psL P K vM, m y.1 = some y.2) : PJ prog w K kvs kn ks vM [] m ((P, listOf ([] : List Value).toArray 0) :: (K, listOf kvs.toArray kn) :: baseL) := by
  refine ⟨P, _, [], 0, baseL, rfl, rfl, Nat.ne_of_lt hK, ?_, fun _ h => h, ?_, hm⟩
  · intro p hp
    rcases List.mem_cons.mp hp with rfl | hp
    · exact Nat.ne_of_lt h1
    · rw [List.mem_singleton.mp hp]; exact Nat.ne_of_lt h2
  · rw [List.length_nil, List.take_zero]; exact partsRel_nil
theorem pj_keep {nx : List (Addr × Obj)} (h : PJ prog w K kvs kn ks vM pre m nx) : (K, listOf kvs.toArray kn) ∈ nx := by
  obtain ⟨P, its, pvs, pn, rest, rfl, _⟩ := h
  exact .tail _ (.head _)
theorem pj_end (F : Fr h₀ L h' m') (N : News h₀ L h' ((d, o) :: (I, it) :: (P, listOf (pvs.toArray.push (.ref d)) (pn + 1)) :: (K, listOf kvs.toArray kn) :: rest)) (lI : @LT.lt Nat _ I d) (lP : @LT.lt Nat _ P d) (hKP : @Ne Nat K P) (hr : ∀ p ∈ rest, @Ne Nat p.1 P)
    (ho : ∀ p ∈ (P, listOf pvs.toArray pn) :: (K, listOf kvs.toArray kn) :: rest, p.1 ≠ I) (hb : ∀ p ∈ baseL, p ∈ rest) (R : PartsRel prog w rest pvs (ks.take pre.length)) (hk : ks[pre.length]? = some k) (hp : PartIs prog w k o) (hm : ∀ y ∈ psL P K vM, m' y.1 = some y.2) :
    LEnd h₀ L (PJ prog w K kvs kn ks vM (pre ++ [v])) I it s₁ { s₁ with heap := h', toks := tk } := by
  refine lend (nx := (P, listOf (pvs.toArray.push (.ref d)) (pn + 1)) :: (K, listOf kvs.toArray kn) :: (d, o) :: rest) F N ?_ ?_ ⟨P, _, pvs ++ [.ref d], pn + 1, (d, o) :: rest, rfl, by simp, hKP, ?_, fun p h => .tail _ (hb p h), ?_, hm⟩
  · intro p hp
    rcases List.mem_cons.mp hp with rfl | hp
    · exact .tail _ (.head _)
    · rcases List.mem_cons.mp hp with rfl | hp
      · exact .tail _ (.tail _ (.head _))
      · rcases List.mem_cons.mp hp with rfl | hp
        · exact .tail _ (.tail _ (.tail _ (.head _)))
        · rcases List.mem_cons.mp hp with rfl | hp
          · exact .head _
          · exact .tail _ (.tail _ (.tail _ (.tail _ hp)))
  · intro p hp
    rcases List.mem_cons.mp hp with rfl | hp
    · exact ho (P, listOf pvs.toArray pn) (.head _)
    · rcases List.mem_cons.mp hp with rfl | hp
      · exact ho _ (.tail _ (.head _))
      · rcases List.mem_cons.mp hp with rfl | hp
        · exact Nat.ne_of_gt lI
        · exact ho _ (.tail _ (.tail _ hp))
  · intro p hp
    rcases List.mem_cons.mp hp with rfl | hp
    · exact Nat.ne_of_gt lP
    · exact hr p hp
  · rw [List.length_append, List.length_singleton, List.take_add_one, hk]
    exact partsRel_snoc R hp
theorem ints_item (h : IntsAre kvs ks) (e : kvs = pre ++ v :: post) : ∃ k t, v = .int k t ∧ ks[pre.length]? = some k := by
  have hv : kvs[pre.length]? = some v := by rw [e]; simp
  have hlt : pre.length < ks.length := by rw [← h.length, e]; simp
  obtain ⟨t, e1⟩ := h.get pre.length ks[pre.length] (by rw [List.getElem?_eq_getElem hlt])
  rw [hv] at e1
  exact ⟨_, t, Option.some.inj e1, List.getElem?_eq_getElem hlt⟩
/-- the loops over the places: nothing turns -/
def AJ (led : List (Addr × Obj)) (ps : List (Str × Value)) (_ : Nat) (m : Str → Option Value) (nx : List (Addr × Obj)) : Prop := nx = led ∧ ∀ y ∈ ps, m y.1 = some y.2
/-- the loop that asks whether a kind is not 0 -/
def SJk (led : List (Addr × Obj)) (ps : List (Str × Value)) (ks : List Int) (a : Int) (i : Nat) (m : Str → Option Value) (nx : List (Addr × Obj)) : Prop :=
  nx = led ∧ ∀ y ∈ (Str.ofString "some", Value.bool ((sliceK ks a (a + i)).any (· != 0))) :: ps, m y.1 = some y.2
theorem sliceK_nil (ks : List Int) (a : Int) : (sliceK ks a (a + (0 : Nat))).any (· != 0) = false := by
  have e : (a + ((0 : Nat) : Int)).toNat - a.toNat = 0 := by omega
  unfold sliceK
  rw [e, List.take_zero]
  rfl
theorem sliceK_snoc {ks : List Int} {a : Int} {i : Nat} {k : Int} (h0 : 0 ≤ a) (hk : ks[(a + (i : Int)).toNat]? = some k) : (sliceK ks a (a + ((i + 1 : Nat) : Int))).any (· != 0) = ((sliceK ks a (a + (i : Int))).any (· != 0) || (k != 0)) := by
  have e1 : (a + ((i + 1 : Nat) : Int)).toNat - a.toNat = i + 1 := by omega
  have e2 : (a + (i : Int)).toNat - a.toNat = i := by omega
  have e3 : (a + (i : Int)).toNat = a.toNat + i := by omega
  unfold sliceK
  rw [e1, e2, List.take_add_one, List.any_append]
  rw [e3] at hk
  rw [List.getElem?_drop, hk]
  simp
theorem get_some {ks : List Int} {a : Int} (h0 : 0 ≤ a) (h1 : a < ks.length) : ∃ k, ks[a.toNat]? = some k := ⟨ks[a.toNat]'(by omega), List.getElem?_eq_getElem _⟩
theorem bne_self_no {b : Bool} : ¬ ((b != b) = true) := by simp
theorem and_bne1 {p : Prop} [Decidable p] {x : Bool} (h : p) : ¬ (((decide p && x) != x) = true) := by simp [h]
theorem and_bne2 {p : Prop} [Decidable p] {x : Bool} (h : ¬ p) : ¬ (((decide p && x) != decide p) = true) := by simp [h]
theorem sl_bne {k : Int} (h : Txt.slice (Str.ofString "abc") none (some (heldOf k)) = rawOf k) : ¬ ((rawOf k != Txt.slice (Str.ofString "abc") none (some (heldOf k))) = true) := by rw [h]; simp
theorem or_1 {x c : Bool} (h : x = true) : (x || c) = x := by rw [h]; rfl
theorem or_2 {x c : Bool} (h : x = false) : (x || c) = c := by rw [h]; rfl
end
end Mine
end

section
open PySem PySem.W PyProof.Rows PySem.Spec PySem.Calls
namespace Mine
theorem good_true {cl : Str → Option Addr} {mean : ExcName → Option Value} {l : List Int} {s₁ s' : Shared} {L : Addr} {m : Str → Option Value} (F : Fr s₁.heap L s'.heap m) (hg : s'.gens = #[]) (hos : s'.os = s₁.os) :
    GoodW PySem.Challenge.rw_am6006_01.row.claim cl mean [ofPy (.list (l.map .int))] s₁ (.ok (.ret (.bool true))) s' :=
  goodW_bool F hg (raisesW_false (by wrow_none_raised)) (by wrow_post) hos
end Mine
end

section
open PySem PySem.W PyProof.Rows PySem.Spec PySem.Calls
namespace Mine

local macro_rules | `(tactic| walk_at "callWith ref") => `(tactic| (k_here; k_dflt (first
  | refine' callWith_K ?k1 ?k2 ?_; (case k1 => k_asm); (case k2 => k_is); k_whole
  | refine' callWith_K0 ?k1 ?k2 ?_; (case k1 => k_in); (case k2 => k_is); k_whole
  | (refine' callWith_M0 ?k1 ?k2 ?_; (case k1 => k_meth); (case k2 => k_is); k_whole; try dsimp only [List.nil_append, List.cons_append])
  | refine' callWith_M ?k1 ?k2 ?k3 ?k4 ?_; (case k1 => k_asm); (case k2 => k_asm); (case k3 => k_mem); (case k4 => k_is); k_whole)))
local macro_rules | `(tactic| walk_at "call ref") => `(tactic| (k_here; k_dflt (first
  | (refine' call_cls0 ?k1 ?k2 ?k3 ?k4 ?k5 ?_; (case k1 => k_asm); (case k2 => k_asm); (case k3 => k_asm); (case k4 => k_is); (case k5 => k_is); k_whole; intro x' d' h' F' N' l1 l2; (try k_lt l1); (try k_lt2 l2); (try k_sweep))
  | (refine' call_cls ?k1 ?k2 ?k3 ?k4 ?k5 ?k6 ?_; (case k1 => k_asm); (case k2 => k_asm); (case k3 => k_asm); (case k4 => k_is); (case k5 => k_is); (case k6 => k_is); k_whole; intro x' d' h' F' N' l1 l2; (try k_lt l1); (try k_lt2 l2); (try k_sweep); k_enter)
  | (refine' call_meth ?k1 ?k2 ?_; (case k1 => k_asm); (case k2 => k_mem); k_whole; k_enter)
  | (refine wpAny_call ?_; k_enter))))
local macro_rules | `(tactic| walk_at "eval Name") => `(tactic| (k_here; k_dflt (first
  | (refine' nameX_L ?mF ?mV ?_ ?mA ?mB; (case mF => k_asm); (case mA => rfl); (case mB => rfl); (case mV => rfl); k_whole)
  | (refine' nameX_K ?mF ?mX ?mT ?mE ?_ ?mA ?mB; (case mF => k_asm); (case mX => k_asm); (case mT => k_asm); (case mA => rfl); (case mB => rfl); (case mE => k_is); k_whole)
  | (refine' nameX_B ?mF ?mX ?mT ?mE ?mV ?mN ?_ ?mA ?mB; (case mF => k_asm); (case mX => k_asm); (case mT => k_asm); (case mA => rfl); (case mB => rfl); (case mE => k_is); (case mV => boot_fast); (case mN => decide); k_whole)
  | (refine' nameX_C ?mN ?mc ?mm ?md ?_ ?mA ?mB; (case mA => rfl); (case mB => rfl); (case mN => k_asm); (case mc => rfl); (case mm => k_mem); (case md => k_asm); k_whole))))

local macro_rules | `(tactic| kts_go) => `(tactic| (refine' code_defS0 ?k1 ?k2 ?k3 ?k4 ?k5 ?kA ?k6 ?k7 ?k8 ?k9 ?kB ?_ ?cK ?c2 ?c3 ?c4 ?c5; (case kA => exact rfl); (case k1 => k_asm); (case k2 => k_asm); (case k3 => k_asm); (case k4 => k_asm); (case k5 => k_asm); (case k6 => k_is); (case k7 => k_is); (case k8 => k_room); (case k9 => exact BindsTo.of_eq rfl); (case kB => exact locs rfl); (case cK => exact rfl); (case c2 => exact rfl); (case c3 => exact rfl); (case c4 => exact rfl); (case c5 => decide); k_whole; intro g' L' h' FG' F' N' B' X' T' D'; (try dsimp only); (try k_lift B'); (try k_fold)))
local macro_rules | `(tactic| kc_enter) => `(tactic| (refine' code_clos ?k1 ?k2 ?k3 ?k4 ?k5 ?kA ?kF ?kK ?k6 ?k7 ?k8 ?k9 ?kB ?_ ?c2 ?c3 ?c4 ?c5; (case kA => exact rfl); (case kF => exact rfl); (case kK => exact rfl); (case k1 => k_asm); (case k2 => k_asm); (case k3 => k_asm); (case k4 => k_asm); (case k5 => k_asm); (case k6 => k_is); (case k7 => k_is); (case k8 => k_room); (case k9 => exact BindsTo.of_eq rfl); (case c5 => decide); (case kB => exact locs rfl); (case c2 => exact rfl); (case c3 => exact rfl); (case c4 => exact rfl); k_whole; intro g' L' h' FG' F' N' B' X' T'; (try dsimp only); (try k_lift B'); (try k_fold)))

local macro_rules | `(tactic| walk_at "exec For Name Call cons nil") => `(tactic| (k_here; (rename Fr _ _ _ _ => lF'); k_dflt (refine' For_invVF ?kF ?k1 ?k2 ?_ ?k3 ?k4; (case kF => exact lF'); (case k1 => exact rfl); (case k2 => exact rfl); (case k3 => intro _; exact rfl); (case k4 => passes_own); k_whole)))
local macro_rules | `(tactic| walk_at "exec For Name Name cons nil") => `(tactic| (k_here; (rename Fr _ _ _ _ => lF'); k_dflt (refine' For_invVF ?kF ?k1 ?k2 ?_ ?k3 ?k4; (case kF => exact lF'); (case k1 => exact rfl); (case k2 => exact rfl); (case k3 => intro _; exact rfl); (case k4 => passes_own); k_whole)))
local macro_rules | `(tactic| walk_at "pyIter ref") => `(tactic| ((try dsimp only); (with_reducible show wpAny _ _ (pyIter (Value.ref _)) _ _ _); k_dflt (refine of_stopped ?_)))
local macro_rules | `(tactic| walk_at "call type:range") => `(tactic| (k_here; (with_reducible rename Fr _ _ _ _ => F'); (with_reducible rename News _ _ _ _ => N'); k_dflt (first
  | (refine' range1_rows F' N' ?_; intro h' tk' t1' u1' v1' R' F' N' U')
  | (refine' range2_rows F' N' ?_; intro h' tk' t1' u1' v1' R' F' N' U'))))
local macro_rules | `(tactic| walk_at "binaryOp Add str str") => `(tactic| (k_here; k_dflt (refine' add_piece ?hx ?hy ?_; (case hx => assumption); (case hy => assumption)); intro t' k'))
local macro_rules | `(tactic| walk_at "call ref") => `(tactic| (k_here; (with_reducible show wpAny _ _ (call (Value.ref 447) _) _ _ _); k_dflt (
  refine' draw_ok ?dB ?dF ?dX ?dT ?dk ?dd ?du ?dN ?db ?dl ?di ?dn ?d0 ?d1 ?_;
  (case dB => k_asm); (case dF => k_asm); (case dX => k_asm); (case dT => k_asm); (case dk => first | exact rfl | assumption); (case dd => ktr_room); (case du => ktr_units); (case dN => first | k_asm | exact news_swap (by k_asm));
  (case db => k_all); (case dl => k_asm); (case di => l_ints); (case dn => first | assumption | omega); (case d0 => decide); (case d1 => decide); intro r9 p9 q9 t9 u9 v9 n9 h9 tk9 hr0 hr1 F9 N9; (try dsimp only); (try k_fold))))
local macro_rules | `(tactic| walk_at "call ref") => `(tactic| (k_here; (with_reducible show wpAny _ _ (call (Value.ref 454) [_, Value.ref 439]) _ _ _); k_dflt (
  refine' pick1_ok ?dB ?dF ?dX ?dT ?dk ?dd ?du ?dN ?db ?dl ?di ?dn ?_;
  (case dB => k_asm); (case dF => k_asm); (case dX => k_asm); (case dT => k_asm); (case dk => first | exact rfl | assumption); (case dd => ktr_room); (case du => ktr_units); (case dN => first | k_asm | exact news_swap (by k_asm));
  (case db => k_all); (case dl => k_asm); (case di => l_ints); (case dn => first | assumption | omega); intro r9 p9 q9 t9 u9 v9 n9 h9 tk9 hr0 F9 N9; (try dsimp only); (try k_fold))))
local macro_rules | `(tactic| walk_at "call ref") => `(tactic| (k_here; (with_reducible show wpAny _ _ (call (Value.ref 454) [_, Value.ref 440]) _ _ _); k_dflt (
  refine' pick2_ok ?dB ?dF ?dX ?dT ?dk ?dd ?du ?dN ?db ?dl ?di ?dn ?_;
  (case dB => k_asm); (case dF => k_asm); (case dX => k_asm); (case dT => k_asm); (case dk => first | exact rfl | assumption); (case dd => ktr_room); (case du => ktr_units); (case dN => first | k_asm | exact news_swap (by k_asm));
  (case db => k_all); (case dl => k_asm); (case di => l_ints); (case dn => first | assumption | omega); intro r9 p9 q9 t9 u9 v9 n9 h9 tk9 hr0 F9 N9; (try dsimp only); (try k_fold))))
local macro_rules | `(tactic| walk_at "execs cons") => `(tactic| ((try dsimp only); (with_reducible show wpAny _ _ (execs (Stmt.Assign [Expr.Name (Str.ofString "start") _] _ _ :: _) _) _ _ _); k_dflt (refine of_stopped ?_)))
local macro_rules | `(tactic| walk_at "execs cons Assign cons") => `(tactic| ((try dsimp only); (with_reducible show wpAny _ _ (execs (Stmt.Assign [Expr.Name (Str.ofString "start") _] _ _ :: _) _) _ _ _); k_dflt (refine of_stopped ?_)))

theorem seg0 {w : World} {p₀ : Program} {loose : List Str} {mean : ExcName → Option Value} {mg mb : Str → Option Value} {h₀ : Heap} {L a : Addr} {ccd : Value} {r : Str → Option Value} {s : Shared} {Q : Flow → Shared → Prop} {l : Addr} {vs : List Value} {ns : List Int}
    (B : Below callerA h₀ [] h₀) (X : (hd.heap_39 w.params).In h₀) (T : Top p₀ loose mean mg mb h₀) (F : Fr h₀ L s.heap (kstB r [(Str.ofString "script", .ref l)])) (N : News h₀ L s.heap (baseL)) (hl : h₀.IsList l vs.toArray) (hi : IntsAre vs ns) (hlen : ns.length ≤ 63) (hl0 : 204 < L ∧ 103 < L)
    (next : ∀ (h' : Heap) (tk' : Nat) (r' : Str → Option Value) (x mk : Str) (t1 t2 t : Tok) (K : Addr) (kvs : List Value) (ks : List Int) (kn : Nat) (k : Int), Alpha x → x.length ≤ 1000 → MarkOk mk → IntsAre kvs ks → 1 ≤ ks.length → ks.length ≤ 8 → (∀ k ∈ ks, 0 ≤ k ∧ k < 7) → 0 ≤ k → k < 4 → Fr h₀ L h' (kstB r' [(Str.ofString "text", .str x t1), (Str.ofString "marker", .str mk t2), (Str.ofString "kinds", .ref K), (Str.ofString "mark", .int k t)]) → News h₀ L h' ((K, listOf kvs.toArray kn) :: baseL) →
      wpAny (model PySem.Challenge.rw_am6006_01.row.prog w) (callerA.deeper (envOf (Str.ofString "law") lawSc L a ccd)) (execs (lawCut 7) (envOf (Str.ofString "law") lawSc L a ccd)) Q (fun _ _ => False) { s with heap := h', toks := tk' }) :
    wpAny (model PySem.Challenge.rw_am6006_01.row.prog w) (callerA.deeper (envOf (Str.ofString "law") lawSc L a ccd)) (execs (lawCut 0) (envOf (Str.ofString "law") lawSc L a ccd)) Q (fun _ _ => False) s := by
  revert X; k_fill; intro X
  w_top off
  simp only [lawCut_eq] at next ⊢
  conv in (execs (lawFrom _) _) => arg 1; whnf
  conv in (occs := *) lawSc => all_goals (whnf; dsimp only)

  k_steps
  all_goals (try k_data)
  unfold Stopped
  (with_reducible rename Fr _ _ _ _ => zF)
  (with_reducible rename News _ _ _ _ => zN)
  (with_reducible rename IsRange _ _ _ _ _ _ _ _ => zR)
  k_dflt (refine' rng_loop (TJ l) ?hh ?hr ?hs ?hn zF zN ?hj ?turn ?done)
  case hh => exact rfl
  case hr => exact zR
  case hs => exact small_one (by omega) (by omega) (by omega) (by omega)
  case hn => exact rangeSize_nat _ _
  case hj => exact tj_start (by omega) (by kst_all)
  case turn =>
    intro i t m₁ nx h tk I it hin hJ ho F₁ N₁
    obtain ⟨b, p, q, t', u, tx, n, x, rfl, hb, hA, hx, hps⟩ := hJ
    have hI1 := neN (ho _ (.head _))
    have hI2 := neN (ho _ (.tail _ (.head _)))
    have hI3 := neN (ho _ (.tail _ (.tail _ (.head _))))
    dsimp only at hI1 hI2 hI3
    dsimp only [LtB] at hb
    have F2 := frB1 hps F₁
    have hx2 : x.length ≤ 48 := by omega
    clear F₁ zF zN zR
    (try k_fold)
    k_steps
    all_goals (try k_data)
    show LEnd _ _ _ _ _ _ _
    refine' lend (nx := (b, boxO l _ _ _ _ _) :: baseL) ?wF ?wN ?wS ?wO ?wJ
    case wF => assumption
    case wN => assumption
    case wS => exact sub_swap
    case wO => exact List.forall_mem_cons.mpr ⟨hI1, List.forall_mem_cons.mpr ⟨hI2, List.forall_mem_cons.mpr ⟨hI3, fun _ h => nomatch h⟩⟩⟩
    case wJ => exact tj_turn hb hA hx (by assumption) (by kst_all)
  case done =>
    intro m₁ nx h tk hJ F₁ N₁
    obtain ⟨b, p, q, t', u, tx, n, x, rfl, hb, hA, hx, hps⟩ := hJ
    have F2 := frB hps F₁
    have hx2 : x.length ≤ 1000 := by omega
    dsimp only [LtB] at hb
    clear F₁ zF zN zR hx
    k_steps
    all_goals (try k_data)
    unfold Stopped
    (with_reducible rename Fr _ _ _ _ => zF)
    (with_reducible rename News _ _ _ _ => zN)
    (with_reducible rename IsRange _ _ _ _ _ _ _ _ => zR)
    k_dflt (refine' rng_loop (KJ l _ _) ?hh ?hr ?hs ?hn zF zN ?hj ?turn ?done)
    case hj =>
      refine' kj_start ?ha ?hb ?hc
      case hc => kst_all
      case ha => omega
      case hb => omega
    case hh => exact rfl
    case hr => exact zR
    case hs => exact small_one (by omega) (by omega) (by omega) (by omega)
    case hn => exact rangeSize_nat _ _
    case turn =>
      intro i t m₁ nx h tk I it hin hJ ho F₁ N₁
      obtain ⟨b, K, p, q, t', u, n, kn, kvs, ks, rfl, hb, hK, hks, hkl, hk7, hps⟩ := hJ
      have hI1 := neN (ho _ (.head _))
      have hI2 := neN (ho _ (.tail _ (.head _)))
      have hI3 := neN (ho _ (.tail _ (.tail _ (.head _))))
      have hI4 := neN (ho _ (.tail _ (.tail _ (.tail _ (.head _)))))
      dsimp only at hI1 hI2 hI3 hI4
      dsimp only [LtB, LtK] at hb hK
      have hz : kvs.length ≤ 8 := by rw [hks.length]; omega
      have F2 := frB1 hps F₁
      clear F₁ zF zN zR
      (try k_fold)
      k_steps
      all_goals (try k_data)
      show LEnd _ _ _ _ _ _ _
      refine' lend (nx := (b, boxO l _ _ _ _ _) :: (K, listOf _ _) :: baseL) ?wF ?wN ?wS ?wO ?wJ
      case wF => assumption
      case wN => assumption
      case wS => exact sub_swap
      case wO => exact List.forall_mem_cons.mpr ⟨hI1, List.forall_mem_cons.mpr ⟨hI2, List.forall_mem_cons.mpr ⟨hI3, List.forall_mem_cons.mpr ⟨hI4, fun _ h => nomatch h⟩⟩⟩⟩
      case wJ => exact kj_turn hb hK hks hkl hk7 (by assumption) (by assumption) (by kst_all)
    case done =>
      intro m₁ nx h tk hJ F₁ N₁
      obtain ⟨b, K, p, q, t', u, n, kn, kvs, ks, rfl, hb, hK, hks, hkl, hk7, hps⟩ := hJ
      dsimp only [LtB, LtK] at hb hK
      have F2 := frB hps F₁
      clear F₁ zF zN zR
      k_steps
      all_goals (try k_data)
      unfold Stopped
      refine' next _ _ _ x _ _ _ _ K kvs ks kn _ hA hx2 ?hmk hks ?l1 ?l2 hk7 ?k0 ?k1 (frB ?hk ?hF) (kst_newsOf ?hN ?hS)
      case hF => assumption
      case hN => assumption
      case hS => exact fun _ h => .tail _ h
      case hmk => assumption
      case hk => kst_all
      case l1 => omega
      case l2 => omega
      case k0 => assumption
      case k1 => assumption
end Mine
end

section
open PySem PySem.W PyProof.Rows PySem.Spec PySem.Calls
namespace Mine

local macro_rules | `(tactic| walk_at "callWith ref") => `(tactic| (k_here; k_dflt (first
  | refine' callWith_K ?k1 ?k2 ?_; (case k1 => k_asm); (case k2 => k_is); k_whole
  | refine' callWith_K0 ?k1 ?k2 ?_; (case k1 => k_in); (case k2 => k_is); k_whole
  | (refine' callWith_M0 ?k1 ?k2 ?_; (case k1 => k_meth); (case k2 => k_is); k_whole; try dsimp only [List.nil_append, List.cons_append])
  | refine' callWith_M ?k1 ?k2 ?k3 ?k4 ?_; (case k1 => k_asm); (case k2 => k_asm); (case k3 => k_mem); (case k4 => k_is); k_whole)))
local macro_rules | `(tactic| walk_at "call ref") => `(tactic| (k_here; k_dflt (first
  | (refine' call_cls0 ?k1 ?k2 ?k3 ?k4 ?k5 ?_; (case k1 => k_asm); (case k2 => k_asm); (case k3 => k_asm); (case k4 => k_is); (case k5 => k_is); k_whole; intro x' d' h' F' N' l1 l2; (try k_lt l1); (try k_lt2 l2); (try k_sweep))
  | (refine' call_cls ?k1 ?k2 ?k3 ?k4 ?k5 ?k6 ?_; (case k1 => k_asm); (case k2 => k_asm); (case k3 => k_asm); (case k4 => k_is); (case k5 => k_is); (case k6 => k_is); k_whole; intro x' d' h' F' N' l1 l2; (try k_lt l1); (try k_lt2 l2); (try k_sweep); k_enter)
  | (refine' call_meth ?k1 ?k2 ?_; (case k1 => k_asm); (case k2 => k_mem); k_whole; k_enter)
  | (refine wpAny_call ?_; k_enter))))
local macro_rules | `(tactic| walk_at "eval Name") => `(tactic| (k_here; k_dflt (first
  | (refine' nameX_L ?mF ?mV ?_ ?mA ?mB; (case mF => k_asm); (case mA => rfl); (case mB => rfl); (case mV => rfl); k_whole)
  | (refine' nameX_K ?mF ?mX ?mT ?mE ?_ ?mA ?mB; (case mF => k_asm); (case mX => k_asm); (case mT => k_asm); (case mA => rfl); (case mB => rfl); (case mE => k_is); k_whole)
  | (refine' nameX_B ?mF ?mX ?mT ?mE ?mV ?mN ?_ ?mA ?mB; (case mF => k_asm); (case mX => k_asm); (case mT => k_asm); (case mA => rfl); (case mB => rfl); (case mE => k_is); (case mV => boot_fast); (case mN => decide); k_whole)
  | (refine' nameX_C ?mN ?mc ?mm ?md ?_ ?mA ?mB; (case mA => rfl); (case mB => rfl); (case mN => k_asm); (case mc => rfl); (case mm => k_mem); (case md => k_asm); k_whole))))

local macro_rules | `(tactic| kts_go) => `(tactic| (refine' code_defS0 ?k1 ?k2 ?k3 ?k4 ?k5 ?kA ?k6 ?k7 ?k8 ?k9 ?kB ?_ ?cK ?c2 ?c3 ?c4 ?c5; (case kA => exact rfl); (case k1 => k_asm); (case k2 => k_asm); (case k3 => k_asm); (case k4 => k_asm); (case k5 => k_asm); (case k6 => k_is); (case k7 => k_is); (case k8 => k_room); (case k9 => exact BindsTo.of_eq rfl); (case kB => exact locs rfl); (case cK => exact rfl); (case c2 => exact rfl); (case c3 => exact rfl); (case c4 => exact rfl); (case c5 => decide); k_whole; intro g' L' h' FG' F' N' B' X' T' D'; (try dsimp only); (try k_lift B'); (try k_fold)))
local macro_rules | `(tactic| kc_enter) => `(tactic| (refine' code_clos ?k1 ?k2 ?k3 ?k4 ?k5 ?kA ?kF ?kK ?k6 ?k7 ?k8 ?k9 ?kB ?_ ?c2 ?c3 ?c4 ?c5; (case kA => exact rfl); (case kF => exact rfl); (case kK => exact rfl); (case k1 => k_asm); (case k2 => k_asm); (case k3 => k_asm); (case k4 => k_asm); (case k5 => k_asm); (case k6 => k_is); (case k7 => k_is); (case k8 => k_room); (case k9 => exact BindsTo.of_eq rfl); (case c5 => decide); (case kB => exact locs rfl); (case c2 => exact rfl); (case c3 => exact rfl); (case c4 => exact rfl); k_whole; intro g' L' h' FG' F' N' B' X' T'; (try dsimp only); (try k_lift B'); (try k_fold)))
local macro_rules | `(tactic| walk_at "call ref") => `(tactic| (k_here; (with_reducible show wpAny _ _ (call (Value.ref 52) _) _ _ _); k_dflt (
  refine' fc_ok ?dB ?dF ?dX ?dT ?dk ?dd ?du ?dN ?hx ?h0 ?h1 ?s0 ?s1 ?_;
  (case dB => k_asm); (case dF => k_asm); (case dX => k_asm); (case dT => k_asm); (case dk => first | exact rfl | assumption); (case dd => ktr_room); (case du => ktr_units); (case dN => k_asm);
  (case hx => assumption); (case h0 => assumption); (case h1 => assumption); (case s0 => omega); (case s1 => omega); intro h9 tk9 F9 N9; (try dsimp only); (try k_fold))))
local macro_rules | `(tactic| walk_at "call ref") => `(tactic| (k_here; (with_reducible show wpAny _ _ (call (Value.ref 475) _) _ _ _); k_dflt (
  refine' gc_ok ?dB ?dF ?dX ?dT ?dk ?dd ?du ?dN ?ha ?hx ?h0 ?h1 ?s0 ?s1 ?_;
  (case dB => k_asm); (case dF => k_asm); (case dX => k_asm); (case dT => k_asm); (case dk => first | exact rfl | assumption); (case dd => ktr_room); (case du => ktr_units); (case dN => k_asm);
  (case ha => assumption); (case hx => assumption); (case h0 => assumption); (case h1 => assumption); (case s0 => omega); (case s1 => omega); intro h9 tk9 F9 N9; (try dsimp only); (try k_fold))))
local macro_rules | `(tactic| walk_at "ite") => `(tactic| (k_dflt (refine ite_neg bne_ne ?_)))
local macro_rules | `(tactic| walk_at "execs cons") => `(tactic| ((try dsimp only); (with_reducible show wpAny _ _ (execs (Stmt.For (Expr.Name (Str.ofString "pair") _) _ _ _ _ :: _) _) _ _ _); k_dflt (refine' seg_useF ?n ?F ?K ?N ?S; (case n => assumption); (case F => assumption); (case K => kst_all); (case N => assumption); (case S => kst_allIn))))
local macro_rules | `(tactic| walk_at "execs cons For cons") => `(tactic| ((try dsimp only); (with_reducible show wpAny _ _ (execs (Stmt.For (Expr.Name (Str.ofString "pair") _) _ _ _ _ :: _) _) _ _ _); k_dflt (refine' seg_useF ?n ?F ?K ?N ?S; (case n => assumption); (case F => assumption); (case K => kst_all); (case N => assumption); (case S => kst_allIn))))

theorem seg7 {w : World} {p₀ : Program} {loose : List Str} {mean : ExcName → Option Value} {mg mb : Str → Option Value} {h₀ : Heap} {L a : Addr} {ccd : Value} {r : Str → Option Value} {s : Shared} {Q : Flow → Shared → Prop} {x mk : Str} {t1 t2 : Tok} {vK vM : Value} {rest : List (Addr × Obj)}
    (B : Below callerA h₀ [] h₀) (X : (hd.heap_39 w.params).In h₀) (T : Top p₀ loose mean mg mb h₀) (F : Fr h₀ L s.heap (kstB r [(Str.ofString "text", .str x t1), (Str.ofString "marker", .str mk t2), (Str.ofString "kinds", vK), (Str.ofString "mark", vM)])) (N : News h₀ L s.heap (rest)) (hA : Alpha x) (hx : x.length ≤ 1000) (h0 : 0 < mk.length) (h1 : mk.length ≤ 10)
    (next : ∀ (h' : Heap) (tk' : Nat) (r' : Str → Option Value) , Fr h₀ L h' (kstB r' [(Str.ofString "kinds", vK), (Str.ofString "mark", vM)]) → News h₀ L h' (rest) →
      wpAny (model PySem.Challenge.rw_am6006_01.row.prog w) (callerA.deeper (envOf (Str.ofString "law") lawSc L a ccd)) (execs (lawCut 9) (envOf (Str.ofString "law") lawSc L a ccd)) Q (fun _ _ => False) { s with heap := h', toks := tk' }) :
    wpAny (model PySem.Challenge.rw_am6006_01.row.prog w) (callerA.deeper (envOf (Str.ofString "law") lawSc L a ccd)) (execs (lawCut 7) (envOf (Str.ofString "law") lawSc L a ccd)) Q (fun _ _ => False) s := by
  revert X; k_fill; intro X
  w_top off
  simp only [lawCut_eq] at next ⊢
  conv in (execs (lawFrom _) _) => arg 1; whnf
  conv in (occs := *) lawSc => all_goals (whnf; dsimp only)

  iterate 13 (first | (k_unfold; (try dsimp only)) | walk1 | (dsimp only; walk1))
  (with_reducible rename Fr _ _ _ _ => zF)
  (with_reducible rename News _ _ _ _ => zN)
  k_dflt (refine' wh_loop (fun n m nx => nx = rest ∧ SJ x mk t1 t2 vK vM n m) (mea x (Txt.find x mk)) zF zN ?kj ?kt ?kE)
  case kE => passes_own
  case kj => exact ⟨rfl, sj_start (by kst_all)⟩
  case kt =>
    intro n m₁ nx h tk hJ F₁ N₁
    obtain ⟨rfl, st, t, hps, hb1, hb2, hn⟩ := hJ
    have F2 := frB hps F₁
    clear F₁ zF zN
    (try k_fold)
    k_steps
    all_goals (try k_data)
    all_goals (show WEnd _ _ _ _ _)
    all_goals (refine' wend ?wF ?wN ?wS ?wJ)
    case wF => assumption
    case wN => assumption
    case wS => exact fun _ h => h
    case wJ => exact sj_turn2 (by assumption) (by omega) h0 hn (by kst_all)
end Mine
end

section
open PySem PySem.W PyProof.Rows PySem.Spec PySem.Calls
namespace Mine
theorem fc_lit {w : World} {p₀ : Program} {loose : List Str} {mean : ExcName → Option Value} {mg mb : Str → Option Value}
    {dp un : Nat} {gd : Option (List Code)} {cn : Str} {cs : Scope} {a : Addr} {ccd : Value} {cl : List (Str × Addr)} {outer : List Env} {A₀ : Around} {base h₀ : Heap} {L : Addr} {m : Str → Option Value} {s : Shared} {Q E : Value → Shared → Prop}
    {x mk : Str} {st : Int} {t1 t2 t3 : Tok} {news : List (Addr × Obj)} {b : Bool}
    (B : Below A₀ base outer h₀) (F : Fr h₀ L s.heap m) (X : (hd.heap_39 w.params).In h₀) (T : Top p₀ loose mean mg mb h₀) (hk : cs.kind = .function) (hdp : dp + 1 < recursionLimit) (_hu : un + 8 < cLine) (N : News h₀ L s.heap news) (hx : x.length ≤ 1000) (hm0 : 0 < mk.length) (hm : mk.length ≤ 10) (hs0 : 0 ≤ st) (hs1 : st + mk.length ≤ x.length) (hr : fcB x st mk = b)
    (hret : ∀ (h' : Heap) (tk' : Nat), Fr h₀ L h' m → News h₀ L h' news → Q (.bool b) { s with heap := h', toks := tk' }) :
    wpAny (model PySem.Challenge.rw_am6006_01.row.prog w) (ktrTop dp un gd cn cs L a ccd cl outer) (call (.ref 52) [.str x t1, .int st t2, .str mk t3]) Q E s := fc_ok B F X T hk hdp _hu N hx hm0 hm hs0 hs1 (by rw [hr]; exact hret)

local macro_rules | `(tactic| walk_at "callWith ref") => `(tactic| (k_here; k_dflt (first
  | refine' callWith_K ?k1 ?k2 ?_; (case k1 => k_asm); (case k2 => k_is); k_whole
  | refine' callWith_K0 ?k1 ?k2 ?_; (case k1 => k_in); (case k2 => k_is); k_whole
  | (refine' callWith_M0 ?k1 ?k2 ?_; (case k1 => k_meth); (case k2 => k_is); k_whole; try dsimp only [List.nil_append, List.cons_append])
  | refine' callWith_M ?k1 ?k2 ?k3 ?k4 ?_; (case k1 => k_asm); (case k2 => k_asm); (case k3 => k_mem); (case k4 => k_is); k_whole)))
local macro_rules | `(tactic| walk_at "call ref") => `(tactic| (k_here; k_dflt (first
  | (refine' call_cls0 ?k1 ?k2 ?k3 ?k4 ?k5 ?_; (case k1 => k_asm); (case k2 => k_asm); (case k3 => k_asm); (case k4 => k_is); (case k5 => k_is); k_whole; intro x' d' h' F' N' l1 l2; (try k_lt l1); (try k_lt2 l2); (try k_sweep))
  | (refine' call_cls ?k1 ?k2 ?k3 ?k4 ?k5 ?k6 ?_; (case k1 => k_asm); (case k2 => k_asm); (case k3 => k_asm); (case k4 => k_is); (case k5 => k_is); (case k6 => k_is); k_whole; intro x' d' h' F' N' l1 l2; (try k_lt l1); (try k_lt2 l2); (try k_sweep); k_enter)
  | (refine' call_meth ?k1 ?k2 ?_; (case k1 => k_asm); (case k2 => k_mem); k_whole; k_enter)
  | (refine wpAny_call ?_; k_enter))))
local macro_rules | `(tactic| walk_at "eval Name") => `(tactic| (k_here; k_dflt (first
  | (refine' nameX_L ?mF ?mV ?_ ?mA ?mB; (case mF => k_asm); (case mA => rfl); (case mB => rfl); (case mV => rfl); k_whole)
  | (refine' nameX_K ?mF ?mX ?mT ?mE ?_ ?mA ?mB; (case mF => k_asm); (case mX => k_asm); (case mT => k_asm); (case mA => rfl); (case mB => rfl); (case mE => k_is); k_whole)
  | (refine' nameX_B ?mF ?mX ?mT ?mE ?mV ?mN ?_ ?mA ?mB; (case mF => k_asm); (case mX => k_asm); (case mT => k_asm); (case mA => rfl); (case mB => rfl); (case mE => k_is); (case mV => boot_fast); (case mN => decide); k_whole)
  | (refine' nameX_C ?mN ?mc ?mm ?md ?_ ?mA ?mB; (case mA => rfl); (case mB => rfl); (case mN => k_asm); (case mc => rfl); (case mm => k_mem); (case md => k_asm); k_whole))))

local macro_rules | `(tactic| kts_go) => `(tactic| (refine' code_defS0 ?k1 ?k2 ?k3 ?k4 ?k5 ?kA ?k6 ?k7 ?k8 ?k9 ?kB ?_ ?cK ?c2 ?c3 ?c4 ?c5; (case kA => exact rfl); (case k1 => k_asm); (case k2 => k_asm); (case k3 => k_asm); (case k4 => k_asm); (case k5 => k_asm); (case k6 => k_is); (case k7 => k_is); (case k8 => k_room); (case k9 => exact BindsTo.of_eq rfl); (case kB => exact locs rfl); (case cK => exact rfl); (case c2 => exact rfl); (case c3 => exact rfl); (case c4 => exact rfl); (case c5 => decide); k_whole; intro g' L' h' FG' F' N' B' X' T' D'; (try dsimp only); (try k_lift B'); (try k_fold)))
local macro_rules | `(tactic| kc_enter) => `(tactic| (refine' code_clos ?k1 ?k2 ?k3 ?k4 ?k5 ?kA ?kF ?kK ?k6 ?k7 ?k8 ?k9 ?kB ?_ ?c2 ?c3 ?c4 ?c5; (case kA => exact rfl); (case kF => exact rfl); (case kK => exact rfl); (case k1 => k_asm); (case k2 => k_asm); (case k3 => k_asm); (case k4 => k_asm); (case k5 => k_asm); (case k6 => k_is); (case k7 => k_is); (case k8 => k_room); (case k9 => exact BindsTo.of_eq rfl); (case c5 => decide); (case kB => exact locs rfl); (case c2 => exact rfl); (case c3 => exact rfl); (case c4 => exact rfl); k_whole; intro g' L' h' FG' F' N' B' X' T'; (try dsimp only); (try k_lift B'); (try k_fold)))

local macro_rules | `(tactic| walk_at "exec For Name List cons nil") => `(tactic| (k_here; (rename Fr _ _ _ _ => lF'); k_dflt (refine' For_invVF ?kF ?k1 ?k2 ?_ ?k3 ?k4; (case kF => exact lF'); (case k1 => exact rfl); (case k2 => exact rfl); (case k3 => intro _; exact rfl); (case k4 => passes_own); k_whole)))
local macro_rules | `(tactic| walk_at "ite") => `(tactic| (k_closed; k_dflt (first | (refine ite_pos ?hc ?_; (case hc => decide)) | (refine ite_neg ?hc ?_; (case hc => decide)))))
local macro_rules | `(tactic| walk_at "call ref") => `(tactic| (k_here; (with_reducible show wpAny _ _ (call (Value.ref 52) _) _ _ _); k_dflt (first
  | (refine' fc_lit (b := true) ?dB ?dF ?dX ?dT ?dk ?dd ?du ?dN ?d1 ?d2 ?d3 ?d4 ?d5 ?d6 ?_; (case d6 => decide +kernel); (case d1 => decide +kernel); (case d2 => decide +kernel); (case d3 => decide +kernel); (case d4 => decide +kernel); (case d5 => decide +kernel); (case dB => k_asm); (case dF => k_asm); (case dX => k_asm); (case dT => k_asm); (case dk => first | exact rfl | assumption); (case dd => ktr_room); (case du => ktr_units); (case dN => k_asm); k_whole; intro h9 tk9 F9 N9; (try dsimp only); (try k_fold))
  | (refine' fc_lit (b := false) ?dB ?dF ?dX ?dT ?dk ?dd ?du ?dN ?d1 ?d2 ?d3 ?d4 ?d5 ?d6 ?_; (case d6 => decide +kernel); (case d1 => decide +kernel); (case d2 => decide +kernel); (case d3 => decide +kernel); (case d4 => decide +kernel); (case d5 => decide +kernel); (case dB => k_asm); (case dF => k_asm); (case dX => k_asm); (case dT => k_asm); (case dk => first | exact rfl | assumption); (case dd => ktr_room); (case du => ktr_units); (case dN => k_asm); k_whole; intro h9 tk9 F9 N9; (try dsimp only); (try k_fold)))))

local macro_rules | `(tactic| walk_at "execs cons") => `(tactic| ((with_reducible show wpAny _ (Around.deeper callerA _) _ _ _ _); first | (with_reducible rename Below (Around.deeper _ _) _ _ _ => zz; clear zz) | (with_reducible rename Below (Around.under _ _) _ _ _ => zz; clear zz) | (with_reducible rename Below (Around.in1 _) _ _ _ => zz; clear zz); (with_reducible rename Fr _ _ _ _ => zF); (with_reducible rename News _ _ _ _ => zN); (have zX := Mine.keepX zF (by assumption)); revert zF zN zX; (repeat (with_reducible rename Fr _ _ _ _ => zz; clear zz)); (repeat (with_reducible rename News _ _ _ _ => zz; clear zz)); (repeat (with_reducible rename KtsDicts _ _ => zz; clear zz)); (repeat (with_reducible rename KtsTurn _ _ _ => zz; clear zz)); (repeat (with_reducible rename Below (Around.deeper _ _) _ _ _ => zz; clear zz)); (repeat (with_reducible rename Below (Around.under _ _) _ _ _ => zz; clear zz)); (repeat (with_reducible rename Below (Around.in1 _) _ _ _ => zz; clear zz)); (repeat (with_reducible rename Frag.In _ _ => zz; clear zz)); (repeat (with_reducible rename Heap.IsList _ _ _ => zz; clear zz)); (repeat (with_reducible rename Heap.NewAttrErr _ _ _ _ _ => zz; clear zz)); (repeat (with_reducible rename Mine.FreshAttr _ _ _ => zz; clear zz)); intro zF zN zX))
local macro_rules | `(tactic| walk_at "eval Name") => `(tactic| ((with_reducible show wpAny _ (Around.deeper callerA _) _ _ _ _); first | (with_reducible rename Below (Around.deeper _ _) _ _ _ => zz; clear zz) | (with_reducible rename Below (Around.under _ _) _ _ _ => zz; clear zz) | (with_reducible rename Below (Around.in1 _) _ _ _ => zz; clear zz); (with_reducible rename Fr _ _ _ _ => zF); (with_reducible rename News _ _ _ _ => zN); (have zX := Mine.keepX zF (by assumption)); revert zF zN zX; (repeat (with_reducible rename Fr _ _ _ _ => zz; clear zz)); (repeat (with_reducible rename News _ _ _ _ => zz; clear zz)); (repeat (with_reducible rename KtsDicts _ _ => zz; clear zz)); (repeat (with_reducible rename KtsTurn _ _ _ => zz; clear zz)); (repeat (with_reducible rename Below (Around.deeper _ _) _ _ _ => zz; clear zz)); (repeat (with_reducible rename Below (Around.under _ _) _ _ _ => zz; clear zz)); (repeat (with_reducible rename Below (Around.in1 _) _ _ _ => zz; clear zz)); (repeat (with_reducible rename Frag.In _ _ => zz; clear zz)); (repeat (with_reducible rename Heap.IsList _ _ _ => zz; clear zz)); (repeat (with_reducible rename Heap.NewAttrErr _ _ _ _ _ => zz; clear zz)); (repeat (with_reducible rename Mine.FreshAttr _ _ _ => zz; clear zz)); intro zF zN zX))
local macro_rules | `(tactic| walk_at "eval Call") => `(tactic| ((with_reducible show wpAny _ (Around.deeper callerA _) _ _ _ _); first | (with_reducible rename Below (Around.deeper _ _) _ _ _ => zz; clear zz) | (with_reducible rename Below (Around.under _ _) _ _ _ => zz; clear zz) | (with_reducible rename Below (Around.in1 _) _ _ _ => zz; clear zz); (with_reducible rename Fr _ _ _ _ => zF); (with_reducible rename News _ _ _ _ => zN); (have zX := Mine.keepX zF (by assumption)); revert zF zN zX; (repeat (with_reducible rename Fr _ _ _ _ => zz; clear zz)); (repeat (with_reducible rename News _ _ _ _ => zz; clear zz)); (repeat (with_reducible rename KtsDicts _ _ => zz; clear zz)); (repeat (with_reducible rename KtsTurn _ _ _ => zz; clear zz)); (repeat (with_reducible rename Below (Around.deeper _ _) _ _ _ => zz; clear zz)); (repeat (with_reducible rename Below (Around.under _ _) _ _ _ => zz; clear zz)); (repeat (with_reducible rename Below (Around.in1 _) _ _ _ => zz; clear zz)); (repeat (with_reducible rename Frag.In _ _ => zz; clear zz)); (repeat (with_reducible rename Heap.IsList _ _ _ => zz; clear zz)); (repeat (with_reducible rename Heap.NewAttrErr _ _ _ _ _ => zz; clear zz)); (repeat (with_reducible rename Mine.FreshAttr _ _ _ => zz; clear zz)); intro zF zN zX))
local macro_rules | `(tactic| walk_at "eval Call Attribute") => `(tactic| ((with_reducible show wpAny _ (Around.deeper callerA _) _ _ _ _); first | (with_reducible rename Below (Around.deeper _ _) _ _ _ => zz; clear zz) | (with_reducible rename Below (Around.under _ _) _ _ _ => zz; clear zz) | (with_reducible rename Below (Around.in1 _) _ _ _ => zz; clear zz); (with_reducible rename Fr _ _ _ _ => zF); (with_reducible rename News _ _ _ _ => zN); (have zX := Mine.keepX zF (by assumption)); revert zF zN zX; (repeat (with_reducible rename Fr _ _ _ _ => zz; clear zz)); (repeat (with_reducible rename News _ _ _ _ => zz; clear zz)); (repeat (with_reducible rename KtsDicts _ _ => zz; clear zz)); (repeat (with_reducible rename KtsTurn _ _ _ => zz; clear zz)); (repeat (with_reducible rename Below (Around.deeper _ _) _ _ _ => zz; clear zz)); (repeat (with_reducible rename Below (Around.under _ _) _ _ _ => zz; clear zz)); (repeat (with_reducible rename Below (Around.in1 _) _ _ _ => zz; clear zz)); (repeat (with_reducible rename Frag.In _ _ => zz; clear zz)); (repeat (with_reducible rename Heap.IsList _ _ _ => zz; clear zz)); (repeat (with_reducible rename Heap.NewAttrErr _ _ _ _ _ => zz; clear zz)); (repeat (with_reducible rename Mine.FreshAttr _ _ _ => zz; clear zz)); intro zF zN zX))

local macro_rules | `(tactic| walk_at "subscriptTail Name Constant ref int") => `(tactic| (k_here; (with_reducible show wpAny _ _ (subscriptTail _ _ (Value.ref _) (Value.int _ _)) _ _ _); k_dflt (refine' item_made ?N ?p ?a ?b ?x ?s ?_; (case N => k_asm); (case p => k_mem); (case a => decide); (case b => decide); (case x => exact rfl); (case s => with_unfolding_all rfl); k_whole)))
local macro_rules | `(tactic| walk_at "execs cons") => `(tactic| ((try dsimp only); (with_reducible show wpAny _ _ (execs (Stmt.Assign [Expr.Name (Str.ofString "parts") _] _ _ :: _) _) _ _ _); k_dflt (refine' seg_useF ?n ?F ?K ?N ?S; (case n => assumption); (case F => assumption); (case K => kst_all); (case N => assumption); (case S => kst_allIn))))
local macro_rules | `(tactic| walk_at "execs cons Assign cons") => `(tactic| ((try dsimp only); (with_reducible show wpAny _ _ (execs (Stmt.Assign [Expr.Name (Str.ofString "parts") _] _ _ :: _) _) _ _ _); k_dflt (refine' seg_useF ?n ?F ?K ?N ?S; (case n => assumption); (case F => assumption); (case K => kst_all); (case N => assumption); (case S => kst_allIn))))

theorem seg9 {w : World} {p₀ : Program} {loose : List Str} {mean : ExcName → Option Value} {mg mb : Str → Option Value} {h₀ : Heap} {L a : Addr} {ccd : Value} {r : Str → Option Value} {s : Shared} {Q : Flow → Shared → Prop} {K : Addr} {O : Obj} {vK vM : Value}
    (B : Below callerA h₀ [] h₀) (X : (hd.heap_39 w.params).In h₀) (T : Top p₀ loose mean mg mb h₀) (F : Fr h₀ L s.heap (kstB r [(Str.ofString "kinds", vK), (Str.ofString "mark", vM)])) (N : News h₀ L s.heap ([(K, O), (204, tabObj #[]), (103, tabObj #[])])) 
    (next : ∀ (h' : Heap) (tk' : Nat) (r' : Str → Option Value) , Fr h₀ L h' (kstB r' [(Str.ofString "kinds", vK), (Str.ofString "mark", vM)]) → News h₀ L h' ([(K, O), (204, tabObj #[]), (103, tabObj #[])]) →
      wpAny (model PySem.Challenge.rw_am6006_01.row.prog w) (callerA.deeper (envOf (Str.ofString "law") lawSc L a ccd)) (execs (lawCut 10) (envOf (Str.ofString "law") lawSc L a ccd)) Q (fun _ _ => False) { s with heap := h', toks := tk' }) :
    wpAny (model PySem.Challenge.rw_am6006_01.row.prog w) (callerA.deeper (envOf (Str.ofString "law") lawSc L a ccd)) (execs (lawCut 9) (envOf (Str.ofString "law") lawSc L a ccd)) Q (fun _ _ => False) s := by
  revert X; k_fill; intro X
  w_top off
  simp only [lawCut_eq] at next ⊢
  conv in (execs (lawFrom _) _) => arg 1; whnf
  conv in (occs := *) lawSc => all_goals (whnf; dsimp only)

  k_steps
  all_goals (try k_data)
end Mine
end

section
open PySem PySem.W PyProof.Rows PySem.Spec PySem.Calls
namespace Mine

local macro_rules | `(tactic| walk_at "callWith ref") => `(tactic| (k_here; k_dflt (first
  | refine' callWith_K ?k1 ?k2 ?_; (case k1 => k_asm); (case k2 => k_is); k_whole
  | refine' callWith_K0 ?k1 ?k2 ?_; (case k1 => k_in); (case k2 => k_is); k_whole
  | (refine' callWith_M0 ?k1 ?k2 ?_; (case k1 => k_meth); (case k2 => k_is); k_whole; try dsimp only [List.nil_append, List.cons_append])
  | refine' callWith_M ?k1 ?k2 ?k3 ?k4 ?_; (case k1 => k_asm); (case k2 => k_asm); (case k3 => k_mem); (case k4 => k_is); k_whole)))
local macro_rules | `(tactic| walk_at "call ref") => `(tactic| (k_here; k_dflt (first
  | (refine' call_cls0 ?k1 ?k2 ?k3 ?k4 ?k5 ?_; (case k1 => k_asm); (case k2 => k_asm); (case k3 => k_asm); (case k4 => k_is); (case k5 => k_is); k_whole; intro x' d' h' F' N' l1 l2; (try k_lt l1); (try k_lt2 l2); (try k_sweep))
  | (refine' call_cls ?k1 ?k2 ?k3 ?k4 ?k5 ?k6 ?_; (case k1 => k_asm); (case k2 => k_asm); (case k3 => k_asm); (case k4 => k_is); (case k5 => k_is); (case k6 => k_is); k_whole; intro x' d' h' F' N' l1 l2; (try k_lt l1); (try k_lt2 l2); (try k_sweep); k_enter)
  | (refine' call_meth ?k1 ?k2 ?_; (case k1 => k_asm); (case k2 => k_mem); k_whole; k_enter)
  | (refine wpAny_call ?_; k_enter))))
local macro_rules | `(tactic| walk_at "eval Name") => `(tactic| (k_here; k_dflt (first
  | (refine' nameX_L ?mF ?mV ?_ ?mA ?mB; (case mF => k_asm); (case mA => rfl); (case mB => rfl); (case mV => rfl); k_whole)
  | (refine' nameX_K ?mF ?mX ?mT ?mE ?_ ?mA ?mB; (case mF => k_asm); (case mX => k_asm); (case mT => k_asm); (case mA => rfl); (case mB => rfl); (case mE => k_is); k_whole)
  | (refine' nameX_B ?mF ?mX ?mT ?mE ?mV ?mN ?_ ?mA ?mB; (case mF => k_asm); (case mX => k_asm); (case mT => k_asm); (case mA => rfl); (case mB => rfl); (case mE => k_is); (case mV => boot_fast); (case mN => decide); k_whole)
  | (refine' nameX_C ?mN ?mc ?mm ?md ?_ ?mA ?mB; (case mA => rfl); (case mB => rfl); (case mN => k_asm); (case mc => rfl); (case mm => k_mem); (case md => k_asm); k_whole))))

local macro_rules | `(tactic| kts_go) => `(tactic| (refine' code_defS0 ?k1 ?k2 ?k3 ?k4 ?k5 ?kA ?k6 ?k7 ?k8 ?k9 ?kB ?_ ?cK ?c2 ?c3 ?c4 ?c5; (case kA => exact rfl); (case k1 => k_asm); (case k2 => k_asm); (case k3 => k_asm); (case k4 => k_asm); (case k5 => k_asm); (case k6 => k_is); (case k7 => k_is); (case k8 => k_room); (case k9 => exact BindsTo.of_eq rfl); (case kB => exact locs rfl); (case cK => exact rfl); (case c2 => exact rfl); (case c3 => exact rfl); (case c4 => exact rfl); (case c5 => decide); k_whole; intro g' L' h' FG' F' N' B' X' T' D'; (try dsimp only); (try k_lift B'); (try k_fold)))
local macro_rules | `(tactic| kc_enter) => `(tactic| (refine' code_clos ?k1 ?k2 ?k3 ?k4 ?k5 ?kA ?kF ?kK ?k6 ?k7 ?k8 ?k9 ?kB ?_ ?c2 ?c3 ?c4 ?c5; (case kA => exact rfl); (case kF => exact rfl); (case kK => exact rfl); (case k1 => k_asm); (case k2 => k_asm); (case k3 => k_asm); (case k4 => k_asm); (case k5 => k_asm); (case k6 => k_is); (case k7 => k_is); (case k8 => k_room); (case k9 => exact BindsTo.of_eq rfl); (case c5 => decide); (case kB => exact locs rfl); (case c2 => exact rfl); (case c3 => exact rfl); (case c4 => exact rfl); k_whole; intro g' L' h' FG' F' N' B' X' T'; (try dsimp only); (try k_lift B'); (try k_fold)))

local macro_rules | `(tactic| walk_at "exec For Name Call cons nil") => `(tactic| (k_here; (rename Fr _ _ _ _ => lF'); k_dflt (refine' For_invVF ?kF ?k1 ?k2 ?_ ?k3 ?k4; (case kF => exact lF'); (case k1 => exact rfl); (case k2 => exact rfl); (case k3 => intro _; exact rfl); (case k4 => passes_own); k_whole)))
local macro_rules | `(tactic| walk_at "exec For Name Name cons nil") => `(tactic| (k_here; (rename Fr _ _ _ _ => lF'); k_dflt (refine' For_invVF ?kF ?k1 ?k2 ?_ ?k3 ?k4; (case kF => exact lF'); (case k1 => exact rfl); (case k2 => exact rfl); (case k3 => intro _; exact rfl); (case k4 => passes_own); k_whole)))
local macro_rules | `(tactic| walk_at "pyIter ref") => `(tactic| ((try dsimp only); (with_reducible show wpAny _ _ (pyIter (Value.ref _)) _ _ _); k_dflt (refine of_stopped ?_)))
local macro_rules | `(tactic| walk_at "call type:range") => `(tactic| (k_here; (with_reducible rename Fr _ _ _ _ => F'); (with_reducible rename News _ _ _ _ => N'); k_dflt (first
  | (refine' range1_rows F' N' ?_; intro h' tk' t1' u1' v1' R' F' N' U')
  | (refine' range2_rows F' N' ?_; intro h' tk' t1' u1' v1' R' F' N' U'))))
local macro_rules | `(tactic| walk_at "LPost") => `(tactic| (dsimp only [LPost]))
local macro_rules | `(tactic| k_all) => `(tactic| with_reducible assumption)
local macro_rules | `(tactic| walk_at "subscriptTail Name Name ref int") => `(tactic| (k_here; (with_reducible show wpAny _ _ (subscriptTail (Expr.Name (Str.ofString "parts") _) _ (Value.ref _) (Value.int _ _)) _ _ _); k_dflt (refine' item_part ?N ?p ?R ?a ?b ?k ?s ?_; (case N => k_asm); (case p => k_mem); (case R => assumption); (case k => assumption); (case a => omega); (case b => omega); (case s => with_unfolding_all rfl); k_whole); intro p' o' hm' hi'))
local macro_rules | `(tactic| walk_at "subscriptTail Name Name ref int") => `(tactic| (k_here; (with_reducible show wpAny _ _ (subscriptTail (Expr.Name (Str.ofString "kinds") _) _ (Value.ref _) (Value.int _ _)) _ _ _); k_dflt (refine' item_kind ?N ?p ?R ?a ?b ?k ?s ?_; (case N => k_asm); (case p => k_mem); (case R => assumption); (case k => assumption); (case a => omega); (case b => omega); (case s => with_unfolding_all rfl); k_whole); intro t'))
local macro_rules | `(tactic| walk_at "call ref") => `(tactic| (k_here; (with_reducible show wpAny _ _ (call (Value.ref 461) _) _ _ _); k_dflt (
  refine' part_ok ?dB ?dF ?dX ?dT ?dk ?dd ?du ?dN ?k0 ?k1 ?_;
  (case dB => k_asm); (case dF => k_asm); (case dX => k_asm); (case dT => k_asm); (case dk => first | exact rfl | assumption); (case dd => ktr_room); (case du => ktr_units); (case dN => k_asm);
  (case k0 => assumption); (case k1 => assumption); intro d9 o9 h9 tk9 F9 N9 l9 hp9; (try k_lt l9); (try dsimp only); (try k_fold))))
local macro_rules | `(tactic| walk_at "call ref") => `(tactic| (k_here; (with_reducible show wpAny _ _ (call (Value.ref 80) _) _ _ _); k_dflt (
  refine' text_raw_ok ?dB ?dF ?dX ?dT ?dk ?dd ?du ?dN ?hm ?hp ?_;
  (case dB => k_asm); (case dF => k_asm); (case dX => k_asm); (case dT => k_asm); (case dk => first | exact rfl | assumption); (case dd => ktr_room); (case du => ktr_units); (case dN => k_asm);
  (case hm => first | assumption | exact .tail _ (by assumption) | exact .tail _ (.tail _ (by assumption)) | exact .tail _ (.tail _ (.tail _ (by assumption))) | exact .tail _ (.tail _ (.tail _ (.tail _ (by assumption))))); (case hp => assumption); intro t9 h9 tk9 F9 N9; (try dsimp only); (try k_fold))))
local macro_rules | `(tactic| walk_at "call ref") => `(tactic| (k_here; (with_reducible show wpAny _ _ (call (Value.ref 468) _) _ _ _); k_dflt (
  refine' held_ok ?dB ?dF ?dX ?dT ?dk ?dd ?du ?dN  ?_;
  (case dB => k_asm); (case dF => k_asm); (case dX => k_asm); (case dT => k_asm); (case dk => first | exact rfl | assumption); (case dd => ktr_room); (case du => ktr_units); (case dN => k_asm);
  intro t9 h9 tk9 F9 N9; (try dsimp only); (try k_fold))))
local macro_rules | `(tactic| walk_at "call ref") => `(tactic| (k_here; (with_reducible show wpAny _ _ (call (Value.ref 66) _) _ _ _); k_dflt (
  refine' strong_ok ?dB ?dF ?dX ?dT ?dk ?dd ?du ?dN ?hP ?hR ?i0 ?j0 ?i1 ?j1 ?ka ?kb ?a0 ?b0 ?_;
  (case dB => k_asm); (case dF => k_asm); (case dX => k_asm); (case dT => k_asm); (case dk => first | exact rfl | assumption); (case dd => ktr_room); (case du => ktr_units); (case dN => k_asm);
  (case hP => k_mem); (case hR => exact partsRel_mono (by assumption) (by first | exact fun _ h => .tail _ (.tail _ (.tail _ h)) | exact fun _ h => .tail _ (.tail _ (.tail _ (.tail _ h))) | exact fun _ h => .tail _ (.tail _ h))); (case i0 => omega); (case j0 => omega); (case i1 => omega); (case j1 => omega); (case ka => assumption); (case kb => assumption); (case a0 => assumption); (case b0 => assumption); intro h9 tk9 F9 N9; (try dsimp only); (try k_fold))))
local macro_rules | `(tactic| walk_at "call ref") => `(tactic| (k_here; (with_reducible show wpAny _ _ (call (Value.ref 73) _) _ _ _); k_dflt (
  refine' emph_ok ?dB ?dF ?dX ?dT ?dk ?dd ?du ?dN ?hP ?hR ?i0 ?j0 ?i1 ?j1 ?ka ?kb ?a0 ?b0 ?_;
  (case dB => k_asm); (case dF => k_asm); (case dX => k_asm); (case dT => k_asm); (case dk => first | exact rfl | assumption); (case dd => ktr_room); (case du => ktr_units); (case dN => k_asm);
  (case hP => k_mem); (case hR => exact partsRel_mono (by assumption) (by first | exact fun _ h => .tail _ (.tail _ (.tail _ h)) | exact fun _ h => .tail _ (.tail _ (.tail _ (.tail _ h))) | exact fun _ h => .tail _ (.tail _ h))); (case i0 => omega); (case j0 => omega); (case i1 => omega); (case j1 => omega); (case ka => assumption); (case kb => assumption); (case a0 => assumption); (case b0 => assumption); intro h9 tk9 F9 N9; (try dsimp only); (try k_fold))))
local macro_rules | `(tactic| walk_at "call ref") => `(tactic| (k_here; (with_reducible show wpAny _ _ (call (Value.ref 87) _) _ _ _); k_dflt (
  refine' content_ok ?dB ?dF ?dX ?dT ?dk ?dd ?du ?dN ?hP ?hR ?i0 ?ij ?j1 ?p1 ?hk ?_;
  (case dB => k_asm); (case dF => k_asm); (case dX => k_asm); (case dT => k_asm); (case dk => first | exact rfl | assumption); (case dd => ktr_room); (case du => ktr_units); (case dN => k_asm);
  (case hP => k_mem); (case hR => exact partsRel_mono (by assumption) (by first | exact fun _ h => .tail _ (.tail _ (.tail _ h)) | exact fun _ h => .tail _ (.tail _ (.tail _ (.tail _ h))) | exact fun _ h => .tail _ (.tail _ h))); (case i0 => omega); (case ij => omega); (case j1 => omega); (case p1 => omega); (case hk => assumption); intro h9 tk9 F9 N9; (try dsimp only); (try k_fold))))
local macro_rules | `(tactic| walk_at "execs cons") => `(tactic| ((try dsimp only); (with_reducible show wpAny _ _ (execs (Stmt.Assign [Expr.Name (Str.ofString "token") _] _ _ :: _) _) _ _ _); k_dflt (refine of_stopped ?_)))
local macro_rules | `(tactic| walk_at "execs cons Assign cons") => `(tactic| ((try dsimp only); (with_reducible show wpAny _ _ (execs (Stmt.Assign [Expr.Name (Str.ofString "token") _] _ _ :: _) _) _ _ _); k_dflt (refine of_stopped ?_)))
local macro_rules | `(tactic| walk_at "ite") => `(tactic| (k_dflt (refine ite_neg ?hc ?_; (case hc => first | with_reducible exact bne_self_no | with_reducible exact sl_bne (by assumption) | ((with_reducible refine and_bne1 ?_); omega) | ((with_reducible refine and_bne2 ?_); omega)))))

theorem seg10 {w : World} {p₀ : Program} {loose : List Str} {mean : ExcName → Option Value} {mg mb : Str → Option Value} {h₀ : Heap} {L a : Addr} {ccd : Value} {r : Str → Option Value} {s : Shared} {Q : Flow → Shared → Prop} {K : Addr} {kvs : List Value} {ks : List Int} {kn : Nat} {vM : Value}
    (B : Below callerA h₀ [] h₀) (X : (hd.heap_39 w.params).In h₀) (T : Top p₀ loose mean mg mb h₀) (F : Fr h₀ L s.heap (kstB r [(Str.ofString "kinds", .ref K), (Str.ofString "mark", vM)])) (N : News h₀ L s.heap ((K, listOf kvs.toArray kn) :: baseL)) (hl0 : 204 < L ∧ 103 < L) (hki : IntsAre kvs ks) (hk1 : 1 ≤ ks.length) (hk8 : ks.length ≤ 8) (hks : ∀ k ∈ ks, 0 ≤ k ∧ k < 7)
    (next : ∀ (h' : Heap) (tk' : Nat) (r' : Str → Option Value) , Fr h₀ L h' (kstB r' [(Str.ofString "mark", vM)]) → News h₀ L h' (baseL) →
      wpAny (model PySem.Challenge.rw_am6006_01.row.prog w) (callerA.deeper (envOf (Str.ofString "law") lawSc L a ccd)) (execs (lawCut 13) (envOf (Str.ofString "law") lawSc L a ccd)) Q (fun _ _ => False) { s with heap := h', toks := tk' }) :
    wpAny (model PySem.Challenge.rw_am6006_01.row.prog w) (callerA.deeper (envOf (Str.ofString "law") lawSc L a ccd)) (execs (lawCut 10) (envOf (Str.ofString "law") lawSc L a ccd)) Q (fun _ _ => False) s := by
  revert X; k_fill; intro X
  w_top off
  simp only [lawCut_eq] at next ⊢
  conv in (execs (lawFrom _) _) => arg 1; whnf
  conv in (occs := *) lawSc => all_goals (whnf; dsimp only)

  k_steps
  all_goals (try k_data)
  unfold Stopped
  (with_reducible rename Fr _ _ _ _ => zF)
  (with_reducible rename News _ _ _ _ => zN)
  k_dflt (refine' lst_loop (vs := kvs) (nn := kn) (PJ PySem.Challenge.rw_am6006_01.row.prog w K kvs kn ks vM) ?hh zF zN ?hj ?hk ?turn ?done)
  case hh => exact rfl
  case hj => exact pj_start (by omega) (by omega) (by omega) (by kst_all)
  case hk => exact fun _ _ _ h => pj_keep h
  case turn =>
    intro pre v post m₁ nx h tk I it hv hJ ho F₁ N₁
    obtain ⟨k, t, rfl, hk⟩ := ints_item hki hv
    obtain ⟨hk0, hk7⟩ := hks k (List.mem_of_getElem? hk)
    obtain ⟨P, its, pvs, pn, rest, rfl, rfl, hKP, hr, hb, R, hps⟩ := hJ
    have hI1 := neN (ho _ (.head _))
    have hI2 := neN (ho _ (.tail _ (.head _)))
    dsimp only at hI1 hI2
    have F2 := frB1 hps F₁
    have hz : pvs.length ≤ 8 := by rw [R.1, List.length_take]; omega
    clear F₁ zF
    k_steps
    all_goals (try k_data)
    exact pj_end (by assumption) (by assumption) (by omega) (by omega) hKP hr ho hb R hk (by assumption) (by kst_all)
  case done =>
    intro m₁ nx h tk hJ F₁ N₁
    obtain ⟨P, its, pvs, pn, rest, rfl, rfl, hKP, hr, hb, R, hps⟩ := hJ
    rw [hki.length, List.take_length] at R
    have F2 := frB hps F₁
    clear F₁ zF zN hps
    have hz : pvs.length ≤ 8 := by rw [R.1]; exact hk8
    have hpl : (pvs.length : Int) = ks.length := by rw [R.1]
    have hkl := hki.length
    k_steps
    all_goals (try k_data)
    unfold Stopped
    (with_reducible rename Fr _ _ _ _ => zF)
    (with_reducible rename News _ _ _ _ => zN)
    (with_reducible rename IsRange _ _ _ _ _ _ _ _ => zR)
    k_dflt (refine' rng_loop (AJ ((P, listOf pvs.toArray pn) :: (K, listOf kvs.toArray kn) :: rest) (psL P K vM)) ?hh ?hr ?hs ?hn zF zN ?hj ?turn ?done)
    case hh => exact rfl
    case hr => exact zR
    case hs => exact small_one (by omega) (by omega) (by omega) (by omega)
    case hn => exact rangeSize_nat _ _
    case hj => exact ⟨rfl, by kst_all⟩
    case turn =>
      intro i ti m₁ nx h tk I it hin hJ ho F₁ N₁
      obtain ⟨rfl, hps⟩ := hJ
      have F2 := frB1 hps F₁
      generalize hA : 0 + (i : Int) = A at *
      have hA0 : 0 ≤ A := by omega
      obtain ⟨ka, hka⟩ := get_some (ks := ks) (a := A) (by omega) (by omega)
      obtain ⟨ha0, ha7⟩ := hks ka (List.mem_of_getElem? hka)
      have hsl := raw_slice ha0 ha7
      clear F₁ zF zN zR
      (try k_fold)
      k_steps
      all_goals (try k_data)
      unfold Stopped
      (with_reducible rename Fr _ _ _ _ => zF)
      (with_reducible rename News _ _ _ _ => zN)
      (with_reducible rename IsRange _ _ _ _ _ _ _ _ => zR)
      k_dflt (refine' rng_loop (AJ ((I, it) :: (P, listOf pvs.toArray pn) :: (K, listOf kvs.toArray kn) :: rest) ((Str.ofString "a", .int A ti) :: psL P K vM)) ?hh2 ?hr2 ?hs2 ?hn2 zF zN ?hj2 ?turn2 ?done2)
      case hh2 => exact rfl
      case hr2 => exact zR
      case hs2 => exact small_one (by omega) (by omega) (by omega) (by omega)
      case hn2 => exact rangeSize_nat _ _
      case hj2 => exact ⟨rfl, by kst_all⟩
      case turn2 =>
        intro i2 tb m₁ nx h tk I2 it2 hin2 hJ ho2 F₁ N₁
        obtain ⟨rfl, hps⟩ := hJ
        have F2 := frB1 hps F₁
        generalize hB : A + (i2 : Int) = Bv at *
        obtain ⟨kb, hkb⟩ := get_some (ks := ks) (a := Bv) (by omega) (by omega)
        obtain ⟨hb0, hb7⟩ := hks kb (List.mem_of_getElem? hkb)
        clear F₁ zF zN zR
        (try k_fold)
        k_steps
        all_goals (try k_data)
        unfold Stopped
        (with_reducible rename Fr _ _ _ _ => zF)
        (with_reducible rename News _ _ _ _ => zN)
        (with_reducible rename IsRange _ _ _ _ _ _ _ _ => zR)
        k_dflt (refine' rng_loop (SJk ((I2, it2) :: (I, it) :: (P, listOf pvs.toArray pn) :: (K, listOf kvs.toArray kn) :: rest) ((Str.ofString "a", .int A ti) :: (Str.ofString "b", .int Bv tb) :: psL P K vM) ks A) ?hh3 ?hr3 ?hs3 ?hn3 zF zN ?hj3 ?turn3 ?done3)
        case hh3 => exact rfl
        case hr3 => exact zR
        case hs3 => exact small_one (by omega) (by omega) (by omega) (by omega)
        case hn3 => exact rangeSize_nat _ _
        case hj3 => exact ⟨rfl, by rw [sliceK_nil]; kst_all⟩
        case turn3 =>
          intro i3 t3 m₁ nx h tk I3 it3 hin3 hJ ho3 F₁ N₁
          obtain ⟨rfl, hps⟩ := hJ
          have F2 := frB1 hps F₁
          obtain ⟨kk, hkk⟩ := get_some (ks := ks) (a := A + (i3 : Int)) (by omega) (by omega)
          clear F₁ zF zN zR
          (try k_fold)
          k_steps
          all_goals (try k_data)
          all_goals first
            | exact lend (by assumption) (by assumption) (fun _ h => h) ho3 ⟨rfl, by rw [sliceK_snoc hA0 hkk, or_1 (by assumption)]; kst_all⟩
            | exact lend (by assumption) (by assumption) (fun _ h => h) ho3 ⟨rfl, by rw [sliceK_snoc hA0 hkk, or_2 (by assumption)]; kst_all⟩
        case done3 =>
          intro m₁ nx h tk hJ F₁ N₁
          obtain ⟨rfl, hps⟩ := hJ
          have hAB : A + ((Bv - A).toNat : Int) = Bv := by omega
          rw [hAB] at hps
          have F2 := frB hps F₁
          clear F₁ zF zN zR
          (try k_fold)
          k_steps
          all_goals (try k_data)
          all_goals exact lend (by assumption) (by assumption) (fun _ h => h) ho2 ⟨rfl, by kst_all⟩
      case done2 =>
        intro m₁ nx h tk hJ F₁ N₁
        obtain ⟨rfl, hps⟩ := hJ
        have F2 := frB hps F₁
        clear F₁ zF zN zR
        k_steps
        all_goals (try k_data)
        exact lend (by assumption) (by assumption) (fun _ h => h) ho ⟨rfl, by kst_all⟩
    case done =>
      intro m₁ nx h tk hJ F₁ N₁
      obtain ⟨rfl, hps⟩ := hJ
      have F2 := frB hps F₁
      clear F₁ zF zN zR
      k_steps
      all_goals (try k_data)
      unfold Stopped
      refine' next _ _ _ (frB ?hk ?hF) (kst_newsOf ?hN ?hS)
      case hF => assumption
      case hN => assumption
      case hS => exact fun p h => .tail _ (.tail _ (hb p h))
      case hk => kst_all
end Mine
end

section
open PySem PySem.W PyProof.Rows PySem.Spec PySem.Calls
namespace Mine

local macro_rules | `(tactic| walk_at "callWith ref") => `(tactic| (k_here; k_dflt (first
  | refine' callWith_K ?k1 ?k2 ?_; (case k1 => k_asm); (case k2 => k_is); k_whole
  | refine' callWith_K0 ?k1 ?k2 ?_; (case k1 => k_in); (case k2 => k_is); k_whole
  | (refine' callWith_M0 ?k1 ?k2 ?_; (case k1 => k_meth); (case k2 => k_is); k_whole; try dsimp only [List.nil_append, List.cons_append])
  | refine' callWith_M ?k1 ?k2 ?k3 ?k4 ?_; (case k1 => k_asm); (case k2 => k_asm); (case k3 => k_mem); (case k4 => k_is); k_whole)))
local macro_rules | `(tactic| walk_at "call ref") => `(tactic| (k_here; k_dflt (first
  | (refine' call_cls0 ?k1 ?k2 ?k3 ?k4 ?k5 ?_; (case k1 => k_asm); (case k2 => k_asm); (case k3 => k_asm); (case k4 => k_is); (case k5 => k_is); k_whole; intro x' d' h' F' N' l1 l2; (try k_lt l1); (try k_lt2 l2); (try k_sweep))
  | (refine' call_cls ?k1 ?k2 ?k3 ?k4 ?k5 ?k6 ?_; (case k1 => k_asm); (case k2 => k_asm); (case k3 => k_asm); (case k4 => k_is); (case k5 => k_is); (case k6 => k_is); k_whole; intro x' d' h' F' N' l1 l2; (try k_lt l1); (try k_lt2 l2); (try k_sweep); k_enter)
  | (refine' call_meth ?k1 ?k2 ?_; (case k1 => k_asm); (case k2 => k_mem); k_whole; k_enter)
  | (refine wpAny_call ?_; k_enter))))
local macro_rules | `(tactic| walk_at "eval Name") => `(tactic| (k_here; k_dflt (first
  | (refine' nameX_L ?mF ?mV ?_ ?mA ?mB; (case mF => k_asm); (case mA => rfl); (case mB => rfl); (case mV => rfl); k_whole)
  | (refine' nameX_K ?mF ?mX ?mT ?mE ?_ ?mA ?mB; (case mF => k_asm); (case mX => k_asm); (case mT => k_asm); (case mA => rfl); (case mB => rfl); (case mE => k_is); k_whole)
  | (refine' nameX_B ?mF ?mX ?mT ?mE ?mV ?mN ?_ ?mA ?mB; (case mF => k_asm); (case mX => k_asm); (case mT => k_asm); (case mA => rfl); (case mB => rfl); (case mE => k_is); (case mV => boot_fast); (case mN => decide); k_whole)
  | (refine' nameX_C ?mN ?mc ?mm ?md ?_ ?mA ?mB; (case mA => rfl); (case mB => rfl); (case mN => k_asm); (case mc => rfl); (case mm => k_mem); (case md => k_asm); k_whole))))

local macro_rules | `(tactic| kts_go) => `(tactic| (refine' code_defS0 ?k1 ?k2 ?k3 ?k4 ?k5 ?kA ?k6 ?k7 ?k8 ?k9 ?kB ?_ ?cK ?c2 ?c3 ?c4 ?c5; (case kA => exact rfl); (case k1 => k_asm); (case k2 => k_asm); (case k3 => k_asm); (case k4 => k_asm); (case k5 => k_asm); (case k6 => k_is); (case k7 => k_is); (case k8 => k_room); (case k9 => exact BindsTo.of_eq rfl); (case kB => exact locs rfl); (case cK => exact rfl); (case c2 => exact rfl); (case c3 => exact rfl); (case c4 => exact rfl); (case c5 => decide); k_whole; intro g' L' h' FG' F' N' B' X' T' D'; (try dsimp only); (try k_lift B'); (try k_fold)))
local macro_rules | `(tactic| kc_enter) => `(tactic| (refine' code_clos ?k1 ?k2 ?k3 ?k4 ?k5 ?kA ?kF ?kK ?k6 ?k7 ?k8 ?k9 ?kB ?_ ?c2 ?c3 ?c4 ?c5; (case kA => exact rfl); (case kF => exact rfl); (case kK => exact rfl); (case k1 => k_asm); (case k2 => k_asm); (case k3 => k_asm); (case k4 => k_asm); (case k5 => k_asm); (case k6 => k_is); (case k7 => k_is); (case k8 => k_room); (case k9 => exact BindsTo.of_eq rfl); (case c5 => decide); (case kB => exact locs rfl); (case c2 => exact rfl); (case c3 => exact rfl); (case c4 => exact rfl); k_whole; intro g' L' h' FG' F' N' B' X' T'; (try dsimp only); (try k_lift B'); (try k_fold)))

local macro_rules | `(tactic| walk_at "ite") => `(tactic| (k_closed; k_dflt (first | (refine ite_pos ?hc ?_; (case hc => decide)) | (refine ite_neg ?hc ?_; (case hc => decide)))))

local macro_rules | `(tactic| walk_at "compareOp NotIn str ref") => `(tactic| (k_here; k_dflt (first
  | (refine' kob_notin (knd := PySem.strKind _ _) ?N ?p ?d ?lo (strKind_is _ _ _ _) true ?b ?_; (case N => k_asm); (case p => k_mem); (case d => k_asm); (case lo => k_asm); (case b => exact rfl); k_whole)
  | (refine' kob_notin (knd := PySem.strKind _ _) ?N ?p ?d ?lo (strKind_is _ _ _ _) false ?b ?_; (case N => k_asm); (case p => k_mem); (case d => k_asm); (case lo => k_asm); (case b => exact rfl); k_whole))))
local macro_rules | `(tactic| walk_at "compareOp Is ref ref") => `(tactic| (k_here; (with_reducible show wpAny _ _ (compareOp CmpOp.Is (Value.ref _) (Value.ref _)) _ _ _); k_dflt (first
  | (refine' is_dict (knd := PySem.strKind _ _) ?N ?x ?y ?d ?n ?_; (case N => k_asm); (case x => k_mem); (case y => k_mem); (case d => k_asm); (case n => k_ne); k_whole)
  | (refine wpAny_is_ref_self ?_))))

local macro_rules | `(tactic| walk_at "getMethod ref") => `(tactic| (k_here; k_dflt (first
  | ((with_reducible show wpAny _ _ (getMethod (Value.ref _) (Str.ofString "copy") _) _ _ _); refine kob_method (knd := PySem.strKind _ _) PySem.F.slot_dict_copy PySem.F.type_dict_copy (by k_asm) (by k_mem) (by k_asm) ?_)
  | ((with_reducible show wpAny _ _ (getMethod (Value.ref _) (Str.ofString "pop") _) _ _ _); refine kob_method (knd := PySem.strKind _ _) PySem.F.slot_dict_pop PySem.F.type_dict_pop (by k_asm) (by k_mem) (by k_asm) ?_))))
local macro_rules | `(tactic| walk_at "call builtin:dict.copy") => `(tactic| (k_here; k_dflt (refine' kob_copy (knd := PySem.strKind _ _) ?F ?N ?p ?d ?l ?b ?z ?_; (case F => k_asm); (case N => k_asm); (case p => k_mem); (case d => k_asm); (case l => k_asm); (case b => exact modules_low (Top.nolimit (by k_asm))); (case z => kob_size); k_whole); intro h' d' o' F' N' l1 lo' hd'; (try k_lt l1)))
local macro_rules | `(tactic| walk_at "call builtin:dict.pop") => `(tactic| (k_here; k_dflt (first
  | (refine' kob_pop_none (knd := PySem.strKind _ _) ?N ?p ?d ?lo (strKind_is _ _ _ _) (by rfl) (PySem.F.args_dict_pop_3 _ _ _) ?l ?_; (case N => k_asm); (case p => k_mem); (case d => k_asm); (case lo => k_asm); (case l => rfl); k_whole)
  | (refine' kob_pop (knd := PySem.strKind _ _) (more := [_]) ?F ?N ?U ?d (strKind_is _ _ _ _) (.inr ⟨_, rfl⟩) (by rfl) (PySem.F.args_dict_pop_3 _ _ _) ?l ?z ?_; (case F => k_asm); (case N => k_asm); (case U => k_updF); (case d => k_asm); (case l => rfl); (case z => kob_size); intro h' o' F' N' hd'; (try kob_lit); (try dsimp only at N')))))
local macro_rules | `(tactic| walk_at "execs cons") => `(tactic| ((try dsimp only); (with_reducible show wpAny _ _ (execs (Stmt.Assign [Expr.Name (Str.ofString "renderer") _] _ _ :: _) _) _ _ _); k_dflt (refine' seg_use ?n ?F ?N ?S; (case n => assumption); (case F => assumption); (case N => assumption); (case S => kst_allIn))))
local macro_rules | `(tactic| walk_at "execs cons Assign cons") => `(tactic| ((try dsimp only); (with_reducible show wpAny _ _ (execs (Stmt.Assign [Expr.Name (Str.ofString "renderer") _] _ _ :: _) _) _ _ _); k_dflt (refine' seg_use ?n ?F ?N ?S; (case n => assumption); (case F => assumption); (case N => assumption); (case S => kst_allIn))))

theorem seg13 {w : World} {p₀ : Program} {loose : List Str} {mean : ExcName → Option Value} {mg mb : Str → Option Value} {h₀ : Heap} {L a : Addr} {ccd : Value} {r : Str → Option Value} {s : Shared} {Q : Flow → Shared → Prop} {k : Int} {t : Tok}
    (B : Below callerA h₀ [] h₀) (X : (hd.heap_39 w.params).In h₀) (T : Top p₀ loose mean mg mb h₀) (F : Fr h₀ L s.heap (kstB r [(Str.ofString "mark", .int k t)])) (N : News h₀ L s.heap ([(204, tabObj #[]), (103, tabObj #[])])) (hk0 : 0 ≤ k) (hk1 : k < 4) (hl0 : 204 < L ∧ 103 < L)
    (next : ∀ (h' : Heap) (tk' : Nat) (r' : Str → Option Value) , Fr h₀ L h' (r') → News h₀ L h' ([(204, tabObj #[]), (103, tabObj #[])]) →
      wpAny (model PySem.Challenge.rw_am6006_01.row.prog w) (callerA.deeper (envOf (Str.ofString "law") lawSc L a ccd)) (execs (lawCut 16) (envOf (Str.ofString "law") lawSc L a ccd)) Q (fun _ _ => False) { s with heap := h', toks := tk' }) :
    wpAny (model PySem.Challenge.rw_am6006_01.row.prog w) (callerA.deeper (envOf (Str.ofString "law") lawSc L a ccd)) (execs (lawCut 13) (envOf (Str.ofString "law") lawSc L a ccd)) Q (fun _ _ => False) s := by
  revert X; k_fill; intro X
  w_top off
  simp only [lawCut_eq] at next ⊢
  conv in (execs (lawFrom _) _) => arg 1; whnf
  conv in (occs := *) lawSc => all_goals (whnf; dsimp only)

  have hk : k = 0 ∨ k = 1 ∨ k = 2 ∨ k = 3 := by omega
  rcases hk with rfl | rfl | rfl | rfl
  all_goals k_steps
end Mine
end

section
open PySem PySem.W PyProof.Rows PySem.Spec PySem.Calls
namespace Mine

local macro_rules | `(tactic| walk_at "callWith ref") => `(tactic| (k_here; k_dflt (first
  | refine' callWith_K ?k1 ?k2 ?_; (case k1 => k_asm); (case k2 => k_is); k_whole
  | refine' callWith_K0 ?k1 ?k2 ?_; (case k1 => k_in); (case k2 => k_is); k_whole
  | (refine' callWith_M0 ?k1 ?k2 ?_; (case k1 => k_meth); (case k2 => k_is); k_whole; try dsimp only [List.nil_append, List.cons_append])
  | refine' callWith_M ?k1 ?k2 ?k3 ?k4 ?_; (case k1 => k_asm); (case k2 => k_asm); (case k3 => k_mem); (case k4 => k_is); k_whole)))
local macro_rules | `(tactic| walk_at "call ref") => `(tactic| (k_here; k_dflt (first
  | (refine' call_cls0 ?k1 ?k2 ?k3 ?k4 ?k5 ?_; (case k1 => k_asm); (case k2 => k_asm); (case k3 => k_asm); (case k4 => k_is); (case k5 => k_is); k_whole; intro x' d' h' F' N' l1 l2; (try k_lt l1); (try k_lt2 l2); (try k_sweep))
  | (refine' call_cls ?k1 ?k2 ?k3 ?k4 ?k5 ?k6 ?_; (case k1 => k_asm); (case k2 => k_asm); (case k3 => k_asm); (case k4 => k_is); (case k5 => k_is); (case k6 => k_is); k_whole; intro x' d' h' F' N' l1 l2; (try k_lt l1); (try k_lt2 l2); (try k_sweep); k_enter)
  | (refine' call_meth ?k1 ?k2 ?_; (case k1 => k_asm); (case k2 => k_mem); k_whole; k_enter)
  | (refine wpAny_call ?_; k_enter))))
local macro_rules | `(tactic| walk_at "eval Name") => `(tactic| (k_here; k_dflt (first
  | (refine' nameX_L ?mF ?mV ?_ ?mA ?mB; (case mF => k_asm); (case mA => rfl); (case mB => rfl); (case mV => rfl); k_whole)
  | (refine' nameX_K ?mF ?mX ?mT ?mE ?_ ?mA ?mB; (case mF => k_asm); (case mX => k_asm); (case mT => k_asm); (case mA => rfl); (case mB => rfl); (case mE => k_is); k_whole)
  | (refine' nameX_B ?mF ?mX ?mT ?mE ?mV ?mN ?_ ?mA ?mB; (case mF => k_asm); (case mX => k_asm); (case mT => k_asm); (case mA => rfl); (case mB => rfl); (case mE => k_is); (case mV => boot_fast); (case mN => decide); k_whole)
  | (refine' nameX_C ?mN ?mc ?mm ?md ?_ ?mA ?mB; (case mA => rfl); (case mB => rfl); (case mN => k_asm); (case mc => rfl); (case mm => k_mem); (case md => k_asm); k_whole))))

local macro_rules | `(tactic| walk_at "call ref") => `(tactic| (k_here; (with_reducible show wpAny _ _ (call (Value.ref 422) _) _ _ _); k_dflt (refine' call_cls ?k1 ?k2 ?k3 ?k4 ?k5 ?k6 ?_; (case k1 => k_asm); (case k2 => k_asm); (case k3 => k_asm); (case k4 => k_is); (case k5 => k_is); (case k6 => k_is); k_whole; intro x' d' h' F' N' l1 l2; (try k_lt l1); (try k_lt2 l2); (try k_sweep); kc_enter)))
local macro_rules | `(tactic| walk_at "call type:super") => `(tactic| (k_here; k_dflt (refine' Mine.super2 ?k1 ?k2 ?k3 ?k4 ?k5 ?k6 ?_; (case k1 => k_asm); (case k2 => k_asm); (case k3 => k_asm); (case k4 => k_inst); (case k5 => k_is); (case k6 => k_is); k_whole); intro so' h' F' N' l1; (try k_lt l1); (try k_sweep)))
local macro_rules | `(tactic| walk_at "eval Name") => `(tactic| (k_here; (with_reducible show wpAny _ _ (eval (Expr.Name (Str.ofString "super") _) _) _ _ _); k_dflt (refine' nameX_B ?mF ?mX ?mT ?mE ?mV ?mN ?_ ?mA ?mB; (case mF => k_asm); (case mX => k_asm); (case mT => k_asm); (case mA => rfl); (case mB => rfl); (case mE => k_is); (case mV => first | boot_by_name | kernel_rfl); (case mN => decide); k_whole)))
local macro_rules | `(tactic| walk_at "execs cons") => `(tactic| ((with_reducible show wpAny _ _ (execs (Stmt.Assign [Expr.Name (Str.ofString "s") _] _ _ :: _) _) _ _ _); refine wpAny_execs_cons ?_))
local macro_rules | `(tactic| walk_at "call builtin:str.replace") => `(tactic| (k_here; first
  | (refine Mine.repl_none (by decide +kernel) ?_)
  | (refine Mine.repl_some (Nat.succ_ne_zero _) (Nat.succ_ne_zero _) (Nat.ne_of_lt (Nat.lt_succ_self _)) (by decide) (by decide) (by decide +kernel : Txt.replace _ _ _ = Str.ofString "&lt;") ?_; intro _ _)))

local macro_rules | `(tactic| kts_go) => `(tactic| (refine' code_defS0 ?k1 ?k2 ?k3 ?k4 ?k5 ?kA ?k6 ?k7 ?k8 ?k9 ?kB ?_ ?cK ?c2 ?c3 ?c4 ?c5; (case kA => exact rfl); (case k1 => k_asm); (case k2 => k_asm); (case k3 => k_asm); (case k4 => k_asm); (case k5 => k_asm); (case k6 => k_is); (case k7 => k_is); (case k8 => k_room); (case k9 => exact BindsTo.of_eq rfl); (case kB => exact locs rfl); (case cK => exact rfl); (case c2 => exact rfl); (case c3 => exact rfl); (case c4 => exact rfl); (case c5 => decide); k_whole; intro g' L' h' FG' F' N' B' X' T' D'; (try dsimp only); (try k_lift B'); (try k_fold)))
local macro_rules | `(tactic| kc_enter) => `(tactic| (refine' code_clos ?k1 ?k2 ?k3 ?k4 ?k5 ?kA ?kF ?kK ?k6 ?k7 ?k8 ?k9 ?kB ?_ ?c2 ?c3 ?c4 ?c5; (case kA => exact rfl); (case kF => exact rfl); (case kK => exact rfl); (case k1 => k_asm); (case k2 => k_asm); (case k3 => k_asm); (case k4 => k_asm); (case k5 => k_asm); (case k6 => k_is); (case k7 => k_is); (case k8 => k_room); (case k9 => exact BindsTo.of_eq rfl); (case c5 => decide); (case kB => exact locs rfl); (case c2 => exact rfl); (case c3 => exact rfl); (case c4 => exact rfl); k_whole; intro g' L' h' FG' F' N' B' X' T'; (try dsimp only); (try k_lift B'); (try k_fold)))

local macro_rules | `(tactic| walk_at "getAttrBy ref") => `(tactic| (k_here; k_dflt (
  refine' Mine.attr_missK ?k1 ?k2 ?k3 ?k4 ?k5 ?k6 ?k7 ?k8 ?k9 ?b1 ?b2 ?kA ?kB ?_; (case k1 => k_asm); (case k2 => k_asm); (case k3 => k_inst); (case k6 => k_is); (case k4 => k_is); (case k5 => k_is); (case k7 => decide +kernel); (case k8 => k_get); (case k9 => k_is); (case b1 => decide +kernel); (case b2 => decide +kernel); (case kA => exact rfl); (case kB => decide +kernel); k_whole); intro h' tk' e' x'))
local macro_rules | `(tactic| walk_at "noteFrame ref") => `(tactic| (k_here; (with_reducible rename Heap.NewAttrErr _ _ _ _ _ => naX); k_dflt (refine' Mine.caught_own naX ?F ?K ?N ?XB ?TB ?D ?T0 ?ex ?_; (case F => assumption); (case K => assumption); (case N => k_asm); (case XB => assumption); (case TB => assumption); (case D => assumption); (case T0 => first | assumption | exact KtsTurn.refl); (case ex => k_is); k_whole); intro h' g' a0' T1' u' T' F' N' K' X' P' D'; (try k_lift K'); (try k_sweep); (try dsimp only)))
local macro_rules | `(tactic| walk_at "truthy ref") => `(tactic| (k_here; (with_reducible show wpAny _ _ (truthy (Value.ref _)) _ _ _); k_dflt (refine' Mine.truthy_func ?N ?m ?c ?_; (case N => k_asm); (case m => k_mem); (case c => exact rfl); k_whole)))
local macro_rules | `(tactic| walk_at "exec Raise some none") => `(tactic| (k_here; (with_reducible show wpAny _ _ (exec (Stmt.Raise (some (Expr.Call (Expr.Name ("AttributeError" : Str) _) [_] [] _)) none _) _) _ _ _); refine' Mine.raise_withinW ?hh ?_; (case hh => exact rfl); k_whole))
local macro_rules | `(tactic| walk_at "call type:AttributeError") => `(tactic| (k_here; refine Mine.at_call ?_; intro h' e' fx'))
local macro_rules | `(tactic| walk_at "RaiseW") => `(tactic| ((with_reducible rename Mine.FreshAttr _ _ _ => faX); (try dsimp only at faX ⊢); k_dflt (refine' Mine.raiseW_of faX ?N ?M ?_; (case N => k_asm); (case M => k_mem)); intro h' nx'; (try dsimp only)))
local macro_rules | `(tactic| walk_at "leaving ref") => `(tactic| (k_here; (with_reducible rename Heap.NewExcOf _ _ _ _ => nxX); (refine' Mine.leave_of ?k1 nxX ?k2 ?k3 ?_; (case k2 => assumption); (case k1 => assumption); (case k3 => k_asm); k_whole; intro h' S' R' U'; (try dsimp only at S' R' U' ⊢))))
local macro_rules | `(tactic| walk_at "callWith ref") => `(tactic| (k_here; k_dflt (first
  | (refine' callWith_F ?k1 ?_; (case k1 => exact FnAt.of (by k_asm) (by k_mem)); k_whole)
  | (refine' callWith_F0 ?k1 ?_; (case k1 => exact FnAt.of (by k_asm) (by k_mem)); k_whole; try dsimp only [List.nil_append, List.cons_append]))))
local macro_rules | `(tactic| walk_at "callWith ref") => `(tactic| (k_here; (with_reducible show wpAny _ _ (callWith _ (Value.ref _) [] (backTo _ (starEach [Expr.Name _ _, Expr.Starred _ _] _)) (backToKw _ (keywordEach [_] _))) _ _ _); k_dflt (refine' Mine.lam_callWith ?F ?X ?N ?t ?d ?lo ?m1 ?m2 ?c ?m ?o ?k ?_ ?k0 ?k1 ?k2 ?k3 ?k4 ?k5 ?k6 ?k7; (case k0 => exact rfl); (case k1 => exact rfl); (case k2 => decide); (case k3 => decide); (case k4 => exact rfl); (case k5 => decide); (case k6 => exact rfl); (case k7 => decide); (case F => k_asm); (case X => k_asm); (case N => k_asm); (case m1 => exact rfl); (case m2 => exact rfl); (case t => k_mem); (case d => k_mem); (case lo => assumption); (case c => exact rfl); (case m => k_mem); (case o => first | assumption | exact rfl); (case k => k_is); k_whole); intro h' q' F' N' l1; (try k_lt l1); (try k_sweep)))
local macro_rules | `(tactic| walk_at "callWith") => `(tactic| (k_here; (with_reducible show wpAny _ _ (callWith _ (Value.ref _) [] (backTo _ (starEach [Expr.Name _ _, Expr.Starred _ _] _)) (backToKw _ (keywordEach [_] _))) _ _ _); k_dflt (refine' Mine.lam_callWith ?F ?X ?N ?t ?d ?lo ?m1 ?m2 ?c ?m ?o ?k ?_ ?k0 ?k1 ?k2 ?k3 ?k4 ?k5 ?k6 ?k7; (case k0 => exact rfl); (case k1 => exact rfl); (case k2 => decide); (case k3 => decide); (case k4 => exact rfl); (case k5 => decide); (case k6 => exact rfl); (case k7 => decide); (case F => k_asm); (case X => k_asm); (case N => k_asm); (case m1 => exact rfl); (case m2 => exact rfl); (case t => k_mem); (case d => k_mem); (case lo => assumption); (case c => exact rfl); (case m => k_mem); (case o => first | assumption | exact rfl); (case k => k_is); k_whole); intro h' q' F' N' l1; (try k_lt l1); (try k_sweep)))
local macro_rules | `(tactic| walk_at "call ref") => `(tactic| (k_here; k_dflt (refine wpAny_call ?_; refine' Mine.lam_code ?k1 ?k2 ?k3 ?k4 ?k5 ?kA ?kF ?kK ?k6 ?k7 ?k8 ?k9 ?kB ?_ ?c2 ?c3 ?c4 ?c5; (case k4 => k_asm); (case k6 => k_mem); (case kA => exact rfl); (case kF => exact rfl); (case kK => exact rfl); (case k1 => k_asm); (case k2 => k_asm); (case k3 => k_asm); (case k5 => k_asm); (case k7 => exact codeRec_news (by k_asm) (by k_mem) (by assumption) (by assumption)); (case k8 => k_room); (case k9 => exact rfl); (case kB => exact rfl); (case c5 => decide); (case c2 => exact rfl); (case c3 => exact rfl); (case c4 => exact rfl); k_whole; intro g' L' h' t' d' FG' F' N' l1 l2 lo' B' X' T'; (try k_lt l1); (try k_lt2 l2); (try dsimp only); (try k_lift B'); (try k_fold))))
local macro_rules | `(tactic| walk_at "callWith ref") => `(tactic| (k_here; k_dflt (first
  | (refine' callWith_M ?k1 ?k2 ?k3 ?k4 ?_; (case k2 => k_asm); (case k3 => k_mem); (case k1 => k_asm); (case k4 => k_is); k_whole)
  | (refine' callWith_M0 ?k1 ?k2 ?_; (case k1 => k_meth); (case k2 => k_is); k_whole; try dsimp only [List.nil_append, List.cons_append]))))
local macro_rules | `(tactic| walk_at "call ref") => `(tactic| (k_here; k_dflt (refine' call_meth ?k1 ?k2 ?_; (case k1 => k_asm); (case k2 => k_mem); k_whole; k_enter)))
local macro_rules | `(tactic| walk_at "call builtin:str.format") => `(tactic| (k_here; refine Mine.word_fmt ?_; intro x' t' k'))
local macro_rules | `(tactic| walk_at "noteFrame ref") => `(tactic| (k_here; (with_reducible show wpAny _ (Around.deeper callerA _) _ _ _ _); (with_reducible rename Heap.UpToSlots _ _ => uY); (with_reducible rename KtsTurn _ _ _ => tY); (have uX := Mine.up_turn tY uY); (with_reducible rename RaisedN _ _ _ _ _ _ => rX); k_dflt (refine caught_N0 (T' := "AttributeError") (by assumption) (by assumption) uX rX (by k_asm) PyProof.Rows.Boot.«AttributeError» Mine.isExc_Attr Mine.notTuple_Attr sub_AttributeError ?_ (h2 := by assumption) (h3 := by assumption) (h4 := by assumption) (h4c := by assumption)); intro h' F' N'; (try dsimp only)))

local macro_rules | `(tactic| walk_at "execs cons") => `(tactic| ((with_reducible show wpAny _ (Around.deeper callerA _) _ _ _ _); first | (with_reducible rename Below (Around.deeper _ _) _ _ _ => zz; clear zz) | (with_reducible rename Below (Around.under _ _) _ _ _ => zz; clear zz) | (with_reducible rename Below (Around.in1 _) _ _ _ => zz; clear zz); (with_reducible rename Fr _ _ _ _ => zF); (with_reducible rename News _ _ _ _ => zN); (have zX := Mine.keepX zF (by assumption)); revert zF zN zX; (repeat (with_reducible rename Fr _ _ _ _ => zz; clear zz)); (repeat (with_reducible rename News _ _ _ _ => zz; clear zz)); (repeat (with_reducible rename KtsDicts _ _ => zz; clear zz)); (repeat (with_reducible rename KtsTurn _ _ _ => zz; clear zz)); (repeat (with_reducible rename Below (Around.deeper _ _) _ _ _ => zz; clear zz)); (repeat (with_reducible rename Below (Around.under _ _) _ _ _ => zz; clear zz)); (repeat (with_reducible rename Below (Around.in1 _) _ _ _ => zz; clear zz)); (repeat (with_reducible rename Frag.In _ _ => zz; clear zz)); (repeat (with_reducible rename Heap.IsList _ _ _ => zz; clear zz)); (repeat (with_reducible rename Heap.NewAttrErr _ _ _ _ _ => zz; clear zz)); (repeat (with_reducible rename Mine.FreshAttr _ _ _ => zz; clear zz)); intro zF zN zX))
local macro_rules | `(tactic| walk_at "eval Name") => `(tactic| ((with_reducible show wpAny _ (Around.deeper callerA _) _ _ _ _); first | (with_reducible rename Below (Around.deeper _ _) _ _ _ => zz; clear zz) | (with_reducible rename Below (Around.under _ _) _ _ _ => zz; clear zz) | (with_reducible rename Below (Around.in1 _) _ _ _ => zz; clear zz); (with_reducible rename Fr _ _ _ _ => zF); (with_reducible rename News _ _ _ _ => zN); (have zX := Mine.keepX zF (by assumption)); revert zF zN zX; (repeat (with_reducible rename Fr _ _ _ _ => zz; clear zz)); (repeat (with_reducible rename News _ _ _ _ => zz; clear zz)); (repeat (with_reducible rename KtsDicts _ _ => zz; clear zz)); (repeat (with_reducible rename KtsTurn _ _ _ => zz; clear zz)); (repeat (with_reducible rename Below (Around.deeper _ _) _ _ _ => zz; clear zz)); (repeat (with_reducible rename Below (Around.under _ _) _ _ _ => zz; clear zz)); (repeat (with_reducible rename Below (Around.in1 _) _ _ _ => zz; clear zz)); (repeat (with_reducible rename Frag.In _ _ => zz; clear zz)); (repeat (with_reducible rename Heap.IsList _ _ _ => zz; clear zz)); (repeat (with_reducible rename Heap.NewAttrErr _ _ _ _ _ => zz; clear zz)); (repeat (with_reducible rename Mine.FreshAttr _ _ _ => zz; clear zz)); intro zF zN zX))
local macro_rules | `(tactic| walk_at "eval Call") => `(tactic| ((with_reducible show wpAny _ (Around.deeper callerA _) _ _ _ _); first | (with_reducible rename Below (Around.deeper _ _) _ _ _ => zz; clear zz) | (with_reducible rename Below (Around.under _ _) _ _ _ => zz; clear zz) | (with_reducible rename Below (Around.in1 _) _ _ _ => zz; clear zz); (with_reducible rename Fr _ _ _ _ => zF); (with_reducible rename News _ _ _ _ => zN); (have zX := Mine.keepX zF (by assumption)); revert zF zN zX; (repeat (with_reducible rename Fr _ _ _ _ => zz; clear zz)); (repeat (with_reducible rename News _ _ _ _ => zz; clear zz)); (repeat (with_reducible rename KtsDicts _ _ => zz; clear zz)); (repeat (with_reducible rename KtsTurn _ _ _ => zz; clear zz)); (repeat (with_reducible rename Below (Around.deeper _ _) _ _ _ => zz; clear zz)); (repeat (with_reducible rename Below (Around.under _ _) _ _ _ => zz; clear zz)); (repeat (with_reducible rename Below (Around.in1 _) _ _ _ => zz; clear zz)); (repeat (with_reducible rename Frag.In _ _ => zz; clear zz)); (repeat (with_reducible rename Heap.IsList _ _ _ => zz; clear zz)); (repeat (with_reducible rename Heap.NewAttrErr _ _ _ _ _ => zz; clear zz)); (repeat (with_reducible rename Mine.FreshAttr _ _ _ => zz; clear zz)); intro zF zN zX))
local macro_rules | `(tactic| walk_at "eval Call Attribute") => `(tactic| ((with_reducible show wpAny _ (Around.deeper callerA _) _ _ _ _); first | (with_reducible rename Below (Around.deeper _ _) _ _ _ => zz; clear zz) | (with_reducible rename Below (Around.under _ _) _ _ _ => zz; clear zz) | (with_reducible rename Below (Around.in1 _) _ _ _ => zz; clear zz); (with_reducible rename Fr _ _ _ _ => zF); (with_reducible rename News _ _ _ _ => zN); (have zX := Mine.keepX zF (by assumption)); revert zF zN zX; (repeat (with_reducible rename Fr _ _ _ _ => zz; clear zz)); (repeat (with_reducible rename News _ _ _ _ => zz; clear zz)); (repeat (with_reducible rename KtsDicts _ _ => zz; clear zz)); (repeat (with_reducible rename KtsTurn _ _ _ => zz; clear zz)); (repeat (with_reducible rename Below (Around.deeper _ _) _ _ _ => zz; clear zz)); (repeat (with_reducible rename Below (Around.under _ _) _ _ _ => zz; clear zz)); (repeat (with_reducible rename Below (Around.in1 _) _ _ _ => zz; clear zz)); (repeat (with_reducible rename Frag.In _ _ => zz; clear zz)); (repeat (with_reducible rename Heap.IsList _ _ _ => zz; clear zz)); (repeat (with_reducible rename Heap.NewAttrErr _ _ _ _ _ => zz; clear zz)); (repeat (with_reducible rename Mine.FreshAttr _ _ _ => zz; clear zz)); intro zF zN zX))
local macro_rules | `(tactic| walk_at "call ref") => `(tactic| (k_here; (with_reducible show wpAny _ _ (call (Value.ref 173) _) _ _ _); k_dflt (
  refine' Mine.esc_ok ?dB ?dF ?dX ?dT ?dk ?dd ?du ?dN  ?_;
  (case dB => k_asm); (case dF => k_asm); (case dX => k_asm); (case dT => k_asm); (case dk => first | exact rfl | assumption); (case dd => ktr_room); (case du => ktr_units); (case dN => k_asm);
  intro t9 h9 tk9 F9 N9; (try dsimp only); (try k_fold))))

theorem seg16 {w : World} {p₀ : Program} {loose : List Str} {mean : ExcName → Option Value} {mg mb : Str → Option Value} {h₀ : Heap} {L a : Addr} {ccd : Value} {r : Str → Option Value} {s : Shared} {Q : Flow → Shared → Prop} 
    (B : Below callerA h₀ [] h₀) (X : (hd.heap_39 w.params).In h₀) (T : Top p₀ loose mean mg mb h₀) (F : Fr h₀ L s.heap (r)) (N : News h₀ L s.heap ([(204, tabObj #[]), (103, tabObj #[])])) (C1 : CodeHd h₀ (208, 204).fst (208, 204).snd) (C2 : CodeHd h₀ (107, 103).fst (107, 103).snd) (hl0 : 204 < L ∧ 103 < L) (hA2 : Str.ofString "AttributeError" ∉ loose) (hA3 : Str.ofString "AttributeError" ∉ (recsOf p₀).map (·.name)) (hA4 : Str.ofString "AttributeError" ∉ (litsOf p₀).map (·.1)) (hA5 : Str.ofString "AttributeError" ∉ (clssOf p₀ loose).map (·.name))
    (hQ : ∀ (h' : Heap) (tk' : Nat) (r' : Str → Option Value), Fr h₀ L h' r' → GrownAll [(208, 204), (107, 103)] h' → Q (.ret (.bool true)) { s with heap := h', toks := tk' }) :
    wpAny (model PySem.Challenge.rw_am6006_01.row.prog w) (callerA.deeper (envOf (Str.ofString "law") lawSc L a ccd)) (execs (lawCut 16) (envOf (Str.ofString "law") lawSc L a ccd)) Q (fun _ _ => False) s := by
  revert X; k_fill; intro X
  w_top off
  simp only [lawCut_eq]
  conv in (execs (lawFrom _) _) => arg 1; whnf
  conv in (occs := *) lawSc => all_goals (whnf; dsimp only)

  k_steps
  all_goals (try k_data)
  dsimp only
  refine' hQ _ _ _ ?wF ?wG
  case wF => assumption
  case wG => k_dflt (repeat' (first | exact True.intro | (refine And.intro (GrownAt.of (by k_asm) (by k_mem)) ?_)))
end Mine
end

section
open PySem PySem.W PyProof.Rows PySem.Spec PySem.Calls
namespace Mine
theorem whole : PySem.Challenge.rw_am6006_01.Holds := hd (by
  k_go0
  (all_goals try k_fold)
  (with_reducible rename Fr _ _ _ _ => zF)
  (with_reducible rename News _ _ _ _ => zN)
  (with_reducible rename Below _ _ _ _ => zB)
  (with_reducible rename IntsAre _ _ => zI)
  (with_reducible rename _ ∧ _ => z0)
  (with_reducible rename Frag.In _ _ => zX)
  (with_reducible rename Top _ _ _ _ _ _ => zT)
  (with_reducible rename Heap.IsList _ _ _ => zL)
  (with_reducible rename Shared.gens _ = _ => zG)
  refine' wpAny_mono ?hseg ?h1 ?h2
  case h1 => exact fun _ _ x => x
  case h2 => exact fun _ _ h => False.elim h
  show wpAny _ _ (execs (lawFrom 0) _) _ _ _
  rw [← lawCut_eq 0]
  refine' seg0 zB zX zT ?sF zN zL zI ?sn z0 ?nx
  case sF => (refine' frB (ps := [(Str.ofString "script", _)]) ?fk zF); kst_all
  case sn => omega
  case nx =>
    intro h1 tk1 r1 x mk t1 t2 t K kvs ks kn k hA hx hmk hki hk1 hk8 hks hk0 hk4 F1 N1
    refine' seg7 zB zX zT F1 N1 hA hx hmk.1 hmk.2 ?_
    intro h2 tk2 r2 F2 N2
    refine' seg9 zB zX zT F2 N2 ?_
    intro h3 tk3 r3 F3 N3
    refine' seg10 zB zX zT F3 N3 z0 hki hk1 hk8 hks ?_
    intro h4 tk4 r4 F4 N4
    refine' seg13 zB zX zT F4 N4 hk0 hk4 z0 ?_
    intro h5 tk5 r5 F5 N5
    refine' seg16 zB zX zT F5 N5 ?c1 ?c2 z0 ?d1 ?d2 ?d3 ?d4 ?nx
    case c1 => with_reducible assumption
    case c2 => with_reducible assumption
    case d1 => decide +kernel
    case d2 => decide +kernel
    case d3 => decide +kernel
    case d4 => decide +kernel
    case nx =>
    intro h6 tk6 r6 F6 G6
    exact ⟨good_true F6 zG rfl, G6⟩)
end Mine
end
theorem PySem.Challenge.cw_am6006_01_holds : PySem.Challenge.rw_am6006_01.Holds :=
  Mine.whole
