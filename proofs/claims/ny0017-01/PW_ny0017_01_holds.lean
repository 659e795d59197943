import PyProof.Rows.All
import Wide.All
import OpenK.AllK
import Wide.FinOn
import PySem.Challenge.RW_ny0017_01
set_option Elab.async false

section
open PySem PySem.W PyProof.Rows
set_option maxRecDepth 100000
set_option maxHeartbeats 8000000
namespace Mine
open_top hd for PySem.Challenge.rw_ny0017_01
end Mine
end

section
open PySem PySem.W PyProof.Rows
namespace Mine
def casedN (c : Nat) (g : Bool) : Nat := if g = true then (if 97 ≤ c ∧ c ≤ 122 then c - 32 else c) else (if 65 ≤ c ∧ c ≤ 90 then c + 32 else c)
def casedS (x : PySem.Str) (g : Bool) : PySem.Str := ⟨#[casedN (x.cps.getD 0 0) g]⟩
abbrev Clm (k : Nat) (w : World) (mean : ExcName → Option Value) (mg mb : PySem.Str → Option Value) (f : Addr) (news : List (Addr × Obj)) (pre : Prop) (vs : List Value) (R : Tok → Value) : Prop :=
  ∀ (dp un : Nat) (gd : Option (List Code)) (cn : PySem.Str) (cs : Scope) (a : Addr) (ccd : Value) (cl : List (PySem.Str × Addr)) (outer : List Env) (A₀ : Around) (base h₀ : Heap) (L : Addr) (m : PySem.Str → Option Value) (s : Shared) (Q E : Value → Shared → Prop),
    Below A₀ base outer h₀ → Fr h₀ L s.heap m → (hd.heap_39 w.params).In h₀ → News h₀ L s.heap news → Top hd.view_39 (looseW hd.view_39 [Str.ofString "capwords"]) mean mg mb h₀ → cs.kind = .function →
    pre → dp + k < recursionLimit → un + 8 * k < cLine →
    (∀ (t : Tok) (h' : Heap) (tk' : Nat), Fr h₀ L h' m → News h₀ L h' news → Q (R t) { s with heap := h', toks := tk' }) →
      wpAny (model Challenge.rw_ny0017_01.row.prog w) (ktrTop dp un gd cn cs L a ccd cl outer) (call (.ref f) vs) Q E s
theorem use {k : Nat} {w : World} {mean : ExcName → Option Value} {mg mb : PySem.Str → Option Value} {f : Addr} {news : List (Addr × Obj)} {pre : Prop} {vs : List Value} {R : Tok → Value}
  {dp un : Nat} {gd : Option (List Code)} {cn : PySem.Str} {cs : Scope} {a : Addr} {ccd : Value} {cl : List (PySem.Str × Addr)} {outer : List Env} {A₀ : Around} {base h₀ : Heap} {L : Addr} {m : PySem.Str → Option Value} {s : Shared} {Q E : Value → Shared → Prop}
  (C : Clm k w mean mg mb f news pre vs R)
  (k1 : Below A₀ base outer h₀) (k2 : Fr h₀ L s.heap m) (k3 : (hd.heap_39 w.params).In h₀) (k4 : News h₀ L s.heap news) (k5 : Top hd.view_39 (looseW hd.view_39 [Str.ofString "capwords"]) mean mg mb h₀) (kK : cs.kind = .function)
  (kp : pre) (kd : dp + k < recursionLimit) (ku : un + 8 * k < cLine)
  (kR : ∀ (t : Tok) (h' : Heap) (tk' : Nat), Fr h₀ L h' m → News h₀ L h' news → Q (R t) { s with heap := h', toks := tk' }) :
  wpAny (model Challenge.rw_ny0017_01.row.prog w) (ktrTop dp un gd cn cs L a ccd cl outer) (call (.ref f) vs) Q E s :=
  C dp un gd cn cs a ccd cl outer A₀ base h₀ L m s Q E k1 k2 k3 k4 k5 kK kp kd ku kR
def Asc (x : PySem.Str) : Prop := ∀ c ∈ x.cps.toList, c < 128
def bqF (deep size : Int) (st : List Nat × Int) (c : Int) : List Nat × Int :=
  if c = 34 then (st.1 ++ [34], st.2 + 2 ^ deep.toNat) else (st.1 ++ [casedN c.toNat (decide (0 < st.2) && (Int.fmod st.2 size == 0))], 0)
def bq (deep size : Int) (l : List Int) : List Nat × Int := l.foldl (bqF deep size) ([], 2 ^ (deep - 1).toNat)
def bqS (x : PySem.Str) (deep size : Int) : PySem.Str := ⟨(bq deep size (KStt.codes x)).1.toArray⟩
theorem asc_mid {x : PySem.Str} {pre post : List Int} {n : Nat} (h : Asc x) (e : KStt.codes x = pre ++ (n : Int) :: post) : n < 128 := by
  have hm : (n : Int) ∈ KStt.codes x := by rw [e]; simp
  unfold KStt.codes at hm
  rw [List.mem_map] at hm
  obtain ⟨c, hc, e'⟩ := hm
  have := h c hc
  omega
theorem bq_snoc (deep size : Int) (l : List Int) (c : Int) : bq deep size (l ++ [c]) = bqF deep size (bq deep size l) c := by
  simp [bq, List.foldl_append]
theorem app_mk {l : List Nat} {c : Nat} : ((⟨l.toArray⟩ : PySem.Str) ++ (⟨#[c]⟩ : PySem.Str)) = ⟨(l ++ [c]).toArray⟩ := by
  apply PySem.Str.ext'
  rw [PySem.Str.cps_append]
  simp
theorem lit_q : Str.ofString "\"" = (⟨#[34]⟩ : PySem.Str) := by decide +kernel
theorem lit_e : Str.ofString "" = (⟨#[]⟩ : PySem.Str) := by decide +kernel
theorem sign_q {n : Nat} {b : Bool} (h : ((⟨#[n]⟩ : PySem.Str) == Str.ofString "\"") = b) : decide (n = 34) = b := by
  rw [← h, lit_q]
  by_cases e : n = 34
  · subst e; decide +kernel
  · simp [e]
theorem bq_w0 {deep size : Int} : Str.ofString "" = (⟨(bq deep size []).1.toArray⟩ : PySem.Str) ∧ 2 ^ (deep - 1).toNat = (bq deep size []).2 ∧ (Str.ofString "").length = ([] : List Int).length := ⟨lit_e, rfl, rfl⟩
theorem bq_w1 {deep size q : Int} {d : PySem.Str} {pre : List Int} {n : Nat} (e1 : d = ⟨(bq deep size pre).1.toArray⟩) (e2 : q = (bq deep size pre).2) (e3 : d.length = pre.length) (h : ((⟨#[n]⟩ : PySem.Str) == Str.ofString "\"") = true) :
    d ++ ⟨#[n]⟩ = (⟨(bq deep size (pre ++ [(n : Int)])).1.toArray⟩ : PySem.Str) ∧ q + 2 ^ deep.toNat = (bq deep size (pre ++ [(n : Int)])).2 ∧ (d ++ (⟨#[n]⟩ : PySem.Str)).length = (pre ++ [(n : Int)]).length := by
  have hn := of_decide_eq_true (sign_q h)
  subst hn
  rw [bq_snoc, bqF, if_pos (show ((34 : Nat) : Int) = 34 from rfl), PySem.Str.length_append, e3, e2, e1, app_mk]
  exact ⟨rfl, rfl, by simp [PySem.Str.length]⟩
theorem bq_w2 {deep size q : Int} {d : PySem.Str} {pre : List Int} {n : Nat} {b : Bool} (e1 : d = ⟨(bq deep size pre).1.toArray⟩) (e2 : q = (bq deep size pre).2) (e3 : d.length = pre.length) (h : ((⟨#[n]⟩ : PySem.Str) == Str.ofString "\"") = false)
    (hb : b = (decide (0 < q) && (Int.fmod q size == 0))) :
    d ++ ⟨#[casedN n b]⟩ = (⟨(bq deep size (pre ++ [(n : Int)])).1.toArray⟩ : PySem.Str) ∧ 0 = (bq deep size (pre ++ [(n : Int)])).2 ∧ (d ++ (⟨#[casedN n b]⟩ : PySem.Str)).length = (pre ++ [(n : Int)]).length := by
  have hn := of_decide_eq_false (sign_q h)
  have hn' : ¬ ((n : Int) = 34) := by omega
  subst hb
  rw [bq_snoc, bqF, if_neg hn', PySem.Str.length_append, e3, e1, ← e2, app_mk]
  exact ⟨rfl, rfl, by simp [PySem.Str.length]⟩
theorem bq_w3 {deep size q : Int} {d : PySem.Str} {pre : List Int} {n : Nat} (e1 : d = ⟨(bq deep size pre).1.toArray⟩) (e2 : q = (bq deep size pre).2) (e3 : d.length = pre.length) (h : ((⟨#[n]⟩ : PySem.Str) == Str.ofString "\"") = false) (h0 : ¬ 0 < q) :
    d ++ ⟨#[casedN n (decide (0 < q))]⟩ = (⟨(bq deep size (pre ++ [(n : Int)])).1.toArray⟩ : PySem.Str) ∧ 0 = (bq deep size (pre ++ [(n : Int)])).2 ∧ (d ++ (⟨#[casedN n (decide (0 < q))]⟩ : PySem.Str)).length = (pre ++ [(n : Int)]).length :=
  bq_w2 e1 e2 e3 h (by simp [h0])
theorem bq_w4 {deep size q : Int} {d : PySem.Str} {pre : List Int} {n : Nat} (e1 : d = ⟨(bq deep size pre).1.toArray⟩) (e2 : q = (bq deep size pre).2) (e3 : d.length = pre.length) (h : ((⟨#[n]⟩ : PySem.Str) == Str.ofString "\"") = false) (h0 : 0 < q) :
    d ++ ⟨#[casedN n (Int.fmod q size == 0)]⟩ = (⟨(bq deep size (pre ++ [(n : Int)])).1.toArray⟩ : PySem.Str) ∧ 0 = (bq deep size (pre ++ [(n : Int)])).2 ∧ (d ++ (⟨#[casedN n (Int.fmod q size == 0)]⟩ : PySem.Str)).length = (pre ++ [(n : Int)]).length :=
  bq_w2 e1 e2 e3 h (by simp [h0])
theorem mk_length (a : Array Nat) : (PySem.Str.mk a).length = a.size := rfl
end Mine
end

section
open PySem PySem.W PyProof.Rows
set_option maxRecDepth 100000
set_option maxHeartbeats 8000000
namespace Mine
theorem c_cased (w : World) (mean : ExcName → Option Value) (mg mb : PySem.Str → Option Value) (news : List (Addr × Obj)) (n : Nat) (t : Tok) (g : Bool) :
    Clm 1 w mean mg mb 73 news (n < 128) [.str ⟨#[n]⟩ t, .bool g] (fun t => .str ⟨#[casedN n g]⟩ t) := by
  dsimp only [Clm]
  k_fill
  k_with_none
  w_top off
  intro dp un gd cn cs a ccd cl outer A₀ base h₀ L m s Q E hB hF hK hN hT hk hn hdp hun hret
  refine wpAny_call ?_
  k_dflt cell_enter
  k_steps
  all_goals refine cb_retS (Q := Q) hret (Eq.symm ?_) (by k_asm) (by k_asm)
  all_goals (simp only [casedN]; simp_all <;> (try split) <;> first | rfl | omega | (congr 2; omega))
end Mine
end

section
open PySem PySem.W PyProof.Rows
set_option maxRecDepth 100000
set_option maxHeartbeats 8000000
namespace Mine
local macro_rules | `(tactic| walk_at "call ref") => `(tactic| (k_here; (with_reducible show wpAny _ _ (call (Value.ref 73) [Value.str ⟨#[_]⟩ _, Value.bool _]) _ _ _); k_dflt (refine' use (c_cased _ _ _ _ _ _ _ _) ?k1 ?k2 ?k3 ?k4 ?k5 ?kK ?kp ?kd ?ku ?_; (case k1 => k_asm); (case k2 => k_asm); (case k3 => k_asm); (case k4 => k_asm); (case k5 => k_asm); (case kK => first | exact rfl | assumption); (case kp => first | assumption | exact asc_mid (by assumption) (by assumption)); (case kd => ktr_room); (case ku => ktr_units); k_whole); intro t9 h9 tk9 F9 N9; (try dsimp only); (try k_fold)))
theorem c_bq (w : World) (mean : ExcName → Option Value) (mg mb : PySem.Str → Option Value) (news : List (Addr × Obj)) (name : PySem.Str) (t0 : Tok) (deep : Int) (t1 : Tok) (size : Int) (t2 : Tok) :
    Clm 2 w mean mg mb 80 news (name.length ≤ 1000 ∧ Asc name ∧ 1 ≤ deep ∧ deep ≤ 3 ∧ 1 ≤ size ∧ size ≤ 9) [.str name t0, .int deep t1, .int size t2] (fun t => .str (bqS name deep size) t) := by
  dsimp only [Clm]
  k_fill
  k_with_none
  w_top off
  intro dp un gd cn cs a ccd cl outer A₀ base h₀ L m s Q E hB hF hK hN hT hk hp hdp hun hret
  obtain ⟨hlen, hasc, hd1, hd3, hs1, hs9⟩ := hp
  refine wpAny_call ?_
  k_dflt cell_enter
  k_with "pyIter str" => k_state (fun pre due quotes => due = ⟨(bq deep size pre).1.toArray⟩ ∧ quotes = (bq deep size pre).2 ∧ due.length = pre.length) "due" "quotes"
  k_with "state" => (first | exact bq_w0 | exact bq_w1 (by assumption) (by assumption) (by assumption) (by assumption) | exact bq_w3 (by assumption) (by assumption) (by assumption) (by assumption) (by assumption) | exact bq_w4 (by assumption) (by assumption) (by assumption) (by assumption) (by assumption))
  k_steps
  all_goals refine' cb_retS (Q := Q) hret ?e1 ?e2 ?e3
  case e2 => k_asm
  case e3 => first | k_asm | exact cb_drop (by assumption) (fun p hp => by simp [hp])
  case e1 => unfold bqS; assumption
end Mine
end

section
open PySem PySem.W PyProof PyProof.Rows
namespace Mine
noncomputable def undq : List Nat → List Nat
  | [] => []
  | [c] => if c = 34 then [] else [c]
  | c :: d :: r => if c = 34 then (if d = 34 then 34 :: undq r else []) else c :: undq (d :: r)
theorem undq_ne {c : Nat} (h : c ≠ 34) : ∀ r, undq (c :: r) = c :: undq r
  | [] => by simp [undq, h]
  | d :: r => by rw [undq, if_neg h]
theorem undq_qq (r : List Nat) : undq (34 :: 34 :: r) = 34 :: undq r := by rw [undq, if_pos rfl, if_pos rfl]
theorem undq_q1 : undq [34] = [] := by rw [undq, if_pos rfl]
theorem undq_qn {d : Nat} (r : List Nat) (h : d ≠ 34) : undq (34 :: d :: r) = [] := by rw [undq, if_pos rfl, if_neg h]
noncomputable def parseS (x : PySem.Str) : PySem.Str := ⟨(undq (x.cps.toList.drop 5)).toArray⟩
theorem len5 {x : PySem.Str} {n : Nat} {l : List Nat} (h : x.cps.toList.take n = l) (hl : l.length = n) : n ≤ x.length := by
  have := congrArg List.length h
  rw [List.length_take, hl] at this
  show n ≤ x.cps.size
  rw [← Array.length_toList]
  omega
theorem head3 {x : PySem.Str} (h : x.cps.toList.take 5 = [50, 53, 55, 32, 34]) : (Txt.slice x none (some 3) != Str.ofString "257") = false := by
  have hl := len5 h rfl
  have e := eq_of_beq (slice_closes_toL (x := x) (j := 3) (by omega) (by omega))
  rw [e]
  have e2 : (List.take (3 - 0 : Int).toNat (List.drop (0 : Int).toNat x.cps.toList)) = [50, 53, 55] := by
    have := congrArg (List.take 3) h
    rw [List.take_take] at this
    simpa using this
  rw [e2]
  decide +kernel
theorem head5 {x : PySem.Str} (h : x.cps.toList.take 5 = [50, 53, 55, 32, 34]) : (Txt.slice x (some 3) (some 5) != Str.ofString " \"") = false := by
  have hl := len5 h rfl
  have e := eq_of_beq (slice_closesL (x := x) (i := 3) (j := 5) (by omega) (by omega) (by omega))
  rw [e]
  have e2 : (List.take (5 - 3 : Int).toNat (List.drop (3 : Int).toNat x.cps.toList)) = [32, 34] := by
    have := congrArg (List.drop 3) h
    rw [List.drop_take] at this
    simpa using this
  rw [e2]
  decide +kernel
theorem item_at {x : PySem.Str} {i : Int} (h0 : 0 ≤ i) (h1 : i < (x.length : Int)) : ∃ c, Txt.item x i = ⟨#[c]⟩ ∧ x.cps.toList.drop i.toNat = c :: x.cps.toList.drop (i + 1).toNat ∧ c ∈ x.cps.toList := by
  have hl : i.toNat < x.cps.toList.length := by rw [Array.length_toList]; show i.toNat < x.length; omega
  refine ⟨x.cps.toList[i.toNat], item_meets h0 ?_, ?_, List.getElem_mem hl⟩
  · rw [← Array.getElem?_toList, List.getElem?_eq_getElem hl]
  · have : (i + 1).toNat = i.toNat + 1 := by omega
    rw [this]
    exact List.drop_eq_getElem_cons hl
theorem app_cps (d : PySem.Str) (c : Nat) : (d ++ (⟨#[c]⟩ : PySem.Str)).cps.toList = d.cps.toList ++ [c] := by
  rw [PySem.Str.cps_append]; simp
theorem ps_w0 {x : PySem.Str} (h : 5 ≤ x.length) : (5 : Int) ≤ 5 ∧ (5 : Int) ≤ (x.length : Int) ∧ (Str.ofString "").length ≤ (5 : Int).toNat ∧ (Str.ofString "").cps.toList ++ undq (x.cps.toList.drop (5 : Int).toNat) = undq (x.cps.toList.drop 5) := by
  refine ⟨by omega, by omega, ?_, ?_⟩
  · rw [lit_e]; show 0 ≤ _; omega
  · rw [lit_e]; rfl
theorem ps_w1 {x d : PySem.Str} {i : Int} (h1 : 5 ≤ i) (h3 : d.length ≤ i.toNat) (h4 : d.cps.toList ++ undq (x.cps.toList.drop i.toNat) = undq (x.cps.toList.drop 5)) (h5 : i < (x.length : Int)) (h6 : (Txt.item x i == Str.ofString "\"") = false) :
    5 ≤ i + 1 ∧ i + 1 ≤ (x.length : Int) ∧ (d ++ Txt.item x i).length ≤ (i + 1).toNat ∧ (d ++ Txt.item x i).cps.toList ++ undq (x.cps.toList.drop (i + 1).toNat) = undq (x.cps.toList.drop 5) := by
  obtain ⟨c, e1, e2, _⟩ := item_at (by omega) h5
  rw [e1] at h6 ⊢
  have hn := of_decide_eq_false (sign_q h6)
  refine ⟨by omega, by omega, ?_, ?_⟩
  · rw [PySem.Str.length_append]; show d.length + 1 ≤ _; omega
  · rw [← h4, e2, undq_ne hn, app_cps, List.append_assoc]; rfl
theorem ps_w2 {x d : PySem.Str} {i : Int} (h1 : 5 ≤ i) (h3 : d.length ≤ i.toNat) (h4 : d.cps.toList ++ undq (x.cps.toList.drop i.toNat) = undq (x.cps.toList.drop 5)) (h5 : i < (x.length : Int)) (h6 : (Txt.item x i == Str.ofString "\"") = true)
    (h7 : ¬ (x.length : Int) ≤ i + 1) (h8 : (Txt.item x (i + 1) != Str.ofString "\"") = false) :
    5 ≤ i + 1 + 1 ∧ i + 1 + 1 ≤ (x.length : Int) ∧ (d ++ Txt.item x i).length ≤ (i + 1 + 1).toNat ∧ (d ++ Txt.item x i).cps.toList ++ undq (x.cps.toList.drop (i + 1 + 1).toNat) = undq (x.cps.toList.drop 5) := by
  obtain ⟨c, e1, e2, _⟩ := item_at (by omega) h5
  obtain ⟨c', e1', e2', _⟩ := item_at (x := x) (i := i + 1) (by omega) (by omega)
  rw [e1] at h6 ⊢
  rw [e1', bne, Bool.not_eq_false'] at h8
  have hn := of_decide_eq_true (sign_q h6)
  have hn' := of_decide_eq_true (sign_q h8)
  subst hn hn'
  refine ⟨by omega, by omega, ?_, ?_⟩
  · rw [PySem.Str.length_append]; show d.length + 1 ≤ _; omega
  · rw [← h4, e2, e2', undq_qq, app_cps, List.append_assoc]; rfl
theorem str_of_list {d : PySem.Str} {l : List Nat} (h : d.cps.toList = l) : d = ⟨l.toArray⟩ := by
  subst h; apply PySem.Str.ext'; simp
theorem ps_e1 {x d : PySem.Str} {i : Int} (h1 : 5 ≤ i) (h4 : d.cps.toList ++ undq (x.cps.toList.drop i.toNat) = undq (x.cps.toList.drop 5)) (h5 : i < (x.length : Int)) (h6 : (Txt.item x i == Str.ofString "\"") = true)
    (h7 : (x.length : Int) ≤ i + 1) : d = parseS x := by
  obtain ⟨c, e1, e2, _⟩ := item_at (by omega) h5
  rw [e1] at h6
  have hn := of_decide_eq_true (sign_q h6)
  subst hn
  have e3 : x.cps.toList.drop (i + 1).toNat = [] := List.drop_eq_nil_of_le (by rw [Array.length_toList]; show x.length ≤ _; omega)
  rw [e2, e3, undq_q1, List.append_nil] at h4
  exact str_of_list h4
theorem ps_e2 {x d : PySem.Str} {i : Int} (h1 : 5 ≤ i) (h4 : d.cps.toList ++ undq (x.cps.toList.drop i.toNat) = undq (x.cps.toList.drop 5)) (h5 : i < (x.length : Int)) (h6 : (Txt.item x i == Str.ofString "\"") = true)
    (h7 : ¬ (x.length : Int) ≤ i + 1) (h8 : (Txt.item x (i + 1) != Str.ofString "\"") = true) : d = parseS x := by
  obtain ⟨c, e1, e2, _⟩ := item_at (by omega) h5
  obtain ⟨c', e1', e2', _⟩ := item_at (x := x) (i := i + 1) (by omega) (by omega)
  rw [e1] at h6
  rw [e1', bne, Bool.not_eq_true'] at h8
  have hn := of_decide_eq_true (sign_q h6)
  have hn' := of_decide_eq_false (sign_q h8)
  subst hn
  rw [e2, e2', undq_qn _ hn', List.append_nil] at h4
  exact str_of_list h4
theorem ps_e3 {x d : PySem.Str} {i : Int} (h1 : 5 ≤ i) (h4 : d.cps.toList ++ undq (x.cps.toList.drop i.toNat) = undq (x.cps.toList.drop 5)) (h5 : ¬ i < (x.length : Int)) : d = parseS x := by
  have e3 : x.cps.toList.drop i.toNat = [] := List.drop_eq_nil_of_le (by rw [Array.length_toList]; show x.length ≤ _; omega)
  rw [e3, undq, List.append_nil] at h4
  exact str_of_list h4
end Mine
end

section
open PySem PySem.W PyProof PyProof.Rows
set_option maxRecDepth 100000
set_option maxHeartbeats 8000000
namespace Mine
theorem c_parse (w : World) (mean : ExcName → Option Value) (mg mb : PySem.Str → Option Value) (news : List (Addr × Obj)) (x : PySem.Str) (t : Tok) :
    Clm 1 w mean mg mb 54 news (x.length ≤ 100000 ∧ x.cps.toList.take 5 = [50, 53, 55, 32, 34]) [.str x t] (fun t => .str (parseS x) t) := by
  dsimp only [Clm]
  k_fill
  k_with_none
  w_top off
  intro dp un gd cn cs a ccd cl outer A₀ base h₀ L m s Q E hB hF hK hN hT hk hp hdp hun hret
  obtain ⟨hlen, htake⟩ := hp
  have hb3 := head3 htake
  have hb5 := head5 htake
  have hl5 := len5 htake rfl
  clear htake
  refine wpAny_call ?_
  k_dflt cell_enter
  k_with "exec While Compare cons nil" => k_while (fun _ i dir => 5 ≤ i ∧ i ≤ (x.length : Int) ∧ dir.length ≤ i.toNat ∧ dir.cps.toList ++ undq (x.cps.toList.drop i.toNat) = undq (x.cps.toList.drop 5)) (fun _ i _ => x.length - i.toNat) "i" "dirname"
  k_with "state" => (first | exact ps_w0 (by assumption) | exact ps_w1 (by assumption) (by assumption) (by assumption) (by assumption) (by assumption) | exact ps_w2 (by assumption) (by assumption) (by assumption) (by assumption) (by assumption) (by assumption) (by assumption))
  k_steps
  all_goals refine' cb_retS (Q := Q) hret ?_ (by k_asm) (by first | k_asm | exact cb_drop (by assumption) (fun p hp => by simp [hp]))
  all_goals first | exact ps_e1 (by assumption) (by assumption) (by assumption) (by assumption) (by assumption) | exact ps_e2 (by assumption) (by assumption) (by assumption) (by assumption) (by assumption) (by assumption) | exact ps_e3 (by assumption) (by assumption) (by assumption)
end Mine
end

section
open PySem PySem.W PyProof PyProof.Rows PySem.Spec
set_option maxRecDepth 100000
set_option maxHeartbeats 8000000
namespace Mine
noncomputable def dbl : List Nat → List Nat
  | [] => []
  | c :: r => if c = 34 then 34 :: 34 :: dbl r else c :: dbl r
theorem dbl_len : ∀ l : List Nat, (dbl l).length ≤ 2 * l.length
  | [] => by simp [dbl]
  | c :: r => by
    have := dbl_len r
    rw [dbl]
    split <;> simp <;> omega
noncomputable def replyS (x y : PySem.Str) : PySem.Str := ⟨([50, 53, 55, 32, 34] ++ dbl x.cps.toList ++ [34] ++ y.cps.toList).toArray⟩
def dsign (a : PySem.Str) : PySem.Str := if (a == Str.ofString "\"") = true then Str.ofString "\"\"" else a
theorem lit_qq : Str.ofString "\"\"" = (⟨#[34, 34]⟩ : PySem.Str) := by decide +kernel
theorem join_nil_cps : ∀ (ys : List PySem.Str), (Str.join ⟨#[]⟩ ys).cps.toList = (ys.map fun y => y.cps.toList).flatten
  | [] => rfl
  | [a] => by simp [Str.join]
  | a :: b :: r => by
    have ih := join_nil_cps (b :: r)
    rw [Str.join, PySem.Str.cps_append, PySem.Str.cps_append, Array.toList_append, Array.toList_append, ih]
    · simp
    · intro h; cases h
theorem join_empty (ys : List PySem.Str) : (Txt.join (Str.ofString "") ys).cps.toList = (ys.map fun y => y.cps.toList).flatten := by
  show (Builtin.Str.glued (Str.ofString "") ys).cps.toList = _
  rw [StrLaws.glued_eq_join, lit_e, join_nil_cps]
theorem dsign_len (a : PySem.Str) (h : a.length = 1) : (dsign a).length ≤ 2 := by
  unfold dsign
  split
  · rw [lit_qq]; decide
  · omega
theorem dsign_one (c : Nat) : (dsign ⟨#[c]⟩).cps.toList = if c = 34 then [34, 34] else [c] := by
  unfold dsign
  by_cases h : c = 34
  · subst h
    rw [if_pos (by rw [lit_q]; decide +kernel), if_pos rfl, lit_qq]
  · have : ((⟨#[c]⟩ : PySem.Str) == Str.ofString "\"") = false := by rw [lit_q]; simp [h]
    rw [this, if_neg (by decide), if_neg h]
theorem dbl_flat : ∀ l : List Nat, ((l.map fun n => dsign ⟨#[n]⟩).map fun y => y.cps.toList).flatten = dbl l
  | [] => rfl
  | c :: r => by
    have ih := dbl_flat r
    rw [List.map_cons, List.map_cons, List.flatten_cons, ih, dsign_one, dbl]
    split <;> rfl
section
variable {prog : Program} {w : World} {A : Around} {E : Value → Shared → Prop} {s : Shared}
theorem join_reply {D : Addr} {vs : List Value} {x : PySem.Str} {t : Tok} {Q : Value → Shared → Prop} (hl : s.heap.IsList D vs.toArray)
    (hc : CarriedAll vs (List.map (fun a => if (a == Str.ofString "\"") = true then PyData.str (Str.ofString "\"\"") else PyData.str a) (List.filter (fun _ => true) (signs x)))) (hx : x.length ≤ 100000)
    (h : ∀ t' k, Q (.str ⟨(dbl x.cps.toList).toArray⟩ t') { s with toks := k }) : wpAny (model prog w) A (call (.builtin "str.join") [.str (Str.ofString "") t, .ref D]) Q E s := by
  have e1 : List.filter (fun _ : PySem.Str => true) (signs x) = signs x := List.filter_eq_self.mpr fun _ _ => rfl
  have e2 : List.map (fun a => if (a == Str.ofString "\"") = true then PyData.str (Str.ofString "\"\"") else PyData.str a) (signs x) = ((signs x).map dsign).map PyData.str := by
    rw [List.map_map]
    refine List.map_congr_left fun a _ => ?_
    show _ = PyData.str (dsign a)
    unfold dsign
    split <;> rfl
  rw [e1, e2] at hc
  have hi := StrsAre.of_carried hc
  have hsum := sumLen_le_of_bound dsign 2 (signs x) fun a ha => dsign_len a (sign_length_one x a ha)
  rw [signs_length] at hsum
  refine join_list (ys := (signs x).map dsign) hl (by simpa using hi) ?_ fun t' k => ?_
  · rw [List.length_map, signs_length, lit_e]
    show _ + _ * 0 ≤ _
    omega
  · have e3 : Txt.join (Str.ofString "") ((signs x).map dsign) = ⟨(dbl x.cps.toList).toArray⟩ := by
      apply str_of_list
      rw [join_empty, signs, List.map_map (l := x.cps.toList)]
      exact dbl_flat x.cps.toList
    rw [e3]
    exact h t' k
end
theorem dbl_str_len (x : PySem.Str) : (PySem.Str.mk (dbl x.cps.toList).toArray).length ≤ 2 * x.length := by
  have := dbl_len x.cps.toList
  show (dbl x.cps.toList).toArray.size ≤ _
  rw [List.size_toArray]
  rw [Array.length_toList] at this
  exact this
theorem lit_257 : Str.ofString "257 \"" = (⟨#[50, 53, 55, 32, 34]⟩ : PySem.Str) := by decide +kernel
theorem reply_eq (x y : PySem.Str) : Str.ofString "257 \"" ++ (⟨(dbl x.cps.toList).toArray⟩ : PySem.Str) ++ Str.ofString "\"" ++ y = replyS x y := by
  rw [lit_257, lit_q]
  apply PySem.Str.ext'
  apply Array.toList_inj.mp
  simp [replyS, PySem.Str.cps_append]
local macro_rules | `(tactic| walk_at "call builtin:str.join") => `(tactic| (k_here; (with_reducible show wpAny _ _ (call (Value.builtin "str.join") [Value.str _ _, Value.ref _]) _ _ _); k_dflt (refine' join_reply ?l ?c ?x ?_; (case l => assumption); (case c => assumption); (case x => assumption); k_whole); intro t' k'))
theorem c_reply (w : World) (mean : ExcName → Option Value) (mg mb : PySem.Str → Option Value) (news : List (Addr × Obj)) (x : PySem.Str) (t : Tok) (y : PySem.Str) (t' : Tok) :
    Clm 1 w mean mg mb 66 news (x.length ≤ 100000 ∧ y.length ≤ 10) [.str x t, .str y t'] (fun t => .str (replyS x y) t) := by
  dsimp only [Clm]
  k_fill
  k_with_none
  w_top off
  intro dp un gd cn cs a ccd cl outer A₀ base h₀ L m s Q E hB hF hK hN hT hk hp hdp hun hret
  obtain ⟨hlen, hlen2⟩ := hp
  have hdl := dbl_str_len x
  refine wpAny_call ?_
  k_dflt cell_enter
  k_steps
  all_goals refine' cb_retS (Q := Q) hret (reply_eq x y) (by k_asm) (by first | k_asm | exact cb_drop (by assumption) (fun p hp => by simp [hp]))
end Mine
end

section
open PySem PySem.W PyProof PyProof.Rows
set_option maxRecDepth 100000
namespace Mine
theorem owner_map : Manifest.owners.lookup (String.ofList ['p', 'a', 'm'].reverse) = some Manifest.sig_map := by kernel_rfl
theorem slot_map_next : Slot "map" "__next__" "map.__next__" :=
  .of (owner := "map") (n := "__next__") (by rw [typeLookup_type, builtinLookup_eq_fast]; kernel_rfl) (by decide +kernel) (by decide +kernel) (by decide +kernel)
    (by first | exact .inl (by decide +kernel) | exact .inr (by decide +kernel)) (by rw [isSubtype_type]; kernel_rfl)
theorem entry_map_next : entryFor table "map.__next__" = some Builtin.«map.__next__» := entryFor_of_tree (by kernel_rfl)
theorem args_map_next (a : Value) : argsOk "map.__next__" ⟨[a], []⟩ := by
  unfold argsOk; rw [signature?_of (id := "map.__next__") (n := ['_', '_', 't', 'x', 'e', 'n', '_', '_']) (o := ['p', 'a', 'm']) (by kernel_rfl) owner_map]; kernel_rfl
theorem slot_map_iter : Slot "map" "__iter__" "map.__iter__" :=
  .of (owner := "map") (n := "__iter__") (by rw [typeLookup_type, builtinLookup_eq_fast]; kernel_rfl) (by decide +kernel) (by decide +kernel) (by decide +kernel)
    (by first | exact .inl (by decide +kernel) | exact .inr (by decide +kernel)) (by rw [isSubtype_type]; kernel_rfl)
theorem args_map_iter (a : Value) : argsOk "map.__iter__" ⟨[a], []⟩ := by
  unfold argsOk; rw [signature?_of (id := "map.__iter__") (n := ['_', '_', 'r', 'e', 't', 'i', '_', '_']) (o := ['p', 'a', 'm']) (by kernel_rfl) owner_map]; kernel_rfl
theorem entry_map_iter : entryFor table "map.__iter__" = some Builtin.«dict_keyiterator.__iter__» :=
  entryFor_alias (id' := "dict_keyiterator.__iter__") (by kernel_rfl) (by first | rfl | decide +kernel | (unfold String.splitOn; simp +decide [String.splitOnAux])) (by decide +kernel) (by kernel_rfl)
theorem slot_map_init : Slot "map" "__init__" "object.__init__" :=
  .of (owner := "object") (n := "__init__") (by rw [typeLookup_type, builtinLookup_eq_fast]; kernel_rfl) (by decide +kernel) (by decide +kernel) (by decide +kernel)
    (by first | exact .inl (by decide +kernel) | exact .inr (by decide +kernel)) (by rw [isSubtype_type]; kernel_rfl)
theorem mro_map : mroOf (.type "map") = pure [.type "map", .type "object"] := by rw [mroOf_type]; kernel_rfl
theorem lookup_map_new : typeLookup (.type "map") "__new__" = pure (some (.builtin "map.__new__")) := by rw [typeLookup_type, builtinLookup_eq_fast]; kernel_rfl
theorem called_map : TypeCalled "map" "map.__new__" "object.__init__" :=
  ⟨by decide +kernel, by decide +kernel, ⟨_, _, mro_map⟩, madeBy_type mro_map lookup_map_new (by decide +kernel), by decide +kernel, by rw [isSubtype_type]; kernel_rfl, slot_map_init⟩
theorem typeCall_map (a b : Value) : checkTypeCall "map" ⟨[a, b], []⟩ = pure () := by kernel_rfl
theorem newCall_map (a b : Value) : checkBuiltinCall "map.__new__" ⟨[.type "map", a, b], []⟩ = pure () := by kernel_rfl
theorem entry_map_new : entryFor table "map.__new__" = some Builtin.«map.__new__» := entryFor_of_tree (by kernel_rfl)
theorem sub_map : isSubtype (.type "map") (.type "map") = pure true := by rw [isSubtype_type]; kernel_rfl
theorem map_no_len : typeLookup (.type "map") "__len__" = pure none := by rw [typeLookup_type, builtinLookup_eq_fast]; kernel_rfl
theorem map_no_hint : typeLookup (.type "map") "__length_hint__" = pure none := by rw [typeLookup_type, builtinLookup_eq_fast]; kernel_rfl
end Mine
end

section
open PySem PySem.W PyProof PyProof.Rows
open Sem (wp)
set_option maxRecDepth 100000
namespace Mine
abbrev IsMap (h : Heap) (z TI : Addr) (f : Value) : Prop := h.get? z = some { cls := .type "map", dict := none, data := .fields #[.ref TI, f], slots := #[] }
abbrev IsOne (h : Heap) (T : Addr) (a : Value) : Prop := h.get? T = some { cls := .type "tuple", data := .seq #[a] }
abbrev mapH1 (h : Heap) (l : Addr) : Heap := h.push { cls := .type "list_iterator", data := .fields #[.ref l, .int 0 0] }
abbrev mapH2 (h : Heap) (l : Addr) : Heap := (mapH1 h l).push { cls := .type "tuple", data := .seq #[.ref h.objs.size] }
abbrev mapH3 (h : Heap) (l : Addr) (f : Value) : Heap := (mapH2 h l).push { cls := .type "map", data := .fields #[.ref (mapH1 h l).objs.size, f] }

theorem meets_map_new (f : Value) (l : Addr) (xs : Array Value) :
    Meets (Builtin.«map.__new__» ⟨[.type "map", f, .ref l], []⟩) (fun _ R s => s.heap.IsList l xs ∧ R (.ok (.ret (.ref (mapH2 s.heap l).objs.size))) { s with heap := mapH3 s.heap l f }) :=
  .of_wp fun prog w A R s h => by
    obtain ⟨hp, g, d, tk, os⟩ := s; obtain ⟨hl1, h⟩ := h
    have hsub := sub_map
    have hL1 : Heap.IsList (Shared.heap ⟨hp, g, d, tk, os⟩) l xs := hl1
    wp_walk using wpAny_pyIter_list hL1
    exact ⟨_, rfl, h⟩

section
variable {prog : Program} {w : World} {A : Around} {E : Value → Shared → Prop} {s : Shared}
theorem call_map {f : Value} {l : Addr} {xs : Array Value} {Q : Value → Shared → Prop} (hl : s.heap.IsList l xs)
    (h : ∀ h', IsMap h' (s.heap.objs.size + 2) (s.heap.objs.size + 1) f → IsOne h' (s.heap.objs.size + 1) (.ref s.heap.objs.size) → h'.IsListIter s.heap.objs.size l 0 → h'.objs.size = s.heap.objs.size + 3 →
      h' = mapH3 s.heap l f → Q (.ref (s.heap.objs.size + 2)) { s with heap := h' }) :
    wpAny (model prog w) A (call (.type "map") [f, .ref l]) Q E s := by
  refine callType_new called_map (by decide) (typeCall_map _ _) (newCall_map _ _) (fun obj => F.args_object_init_3 obj _ _) entry_map_new
    (meets_map_new f l xs) ⟨hl, ?_⟩
  have z1 : (mapH1 s.heap l).objs.size = s.heap.objs.size + 1 := Heap.size_push ..
  have z2 : (mapH2 s.heap l).objs.size = s.heap.objs.size + 2 := by rw [Heap.size_push, z1]
  have z3 : (mapH3 s.heap l f).objs.size = s.heap.objs.size + 3 := by rw [Heap.size_push, z2]
  have g3 : (mapH3 s.heap l f).get? (mapH2 s.heap l).objs.size = some _ := Heap.get?_push_size _ rfl
  have g2 : (mapH3 s.heap l f).get? (mapH1 s.heap l).objs.size = some _ := Heap.get?_push_of_some _ (Heap.get?_push_size _ rfl)
  have g1 : (mapH3 s.heap l f).get? s.heap.objs.size = some _ := Heap.get?_push_of_some _ (Heap.get?_push_of_some _ (Heap.get?_push_size _ rfl))
  show _ ∧ _
  have g3' := g3
  rw [z1, z2] at g3
  rw [z1] at g2
  rw [z2]
  exact ⟨⟨_, g3, rfl⟩, h _ g3 g2 ⟨_, g1, rfl, rfl⟩ z3 rfl⟩

theorem map_next_item {z TI i l : Addr} {k : Nat} {xs : Array Value} {y : PySem.Str} {u : Tok} {Q : Value → Shared → Prop} (hiz : i ≠ z)
    (hz : IsMap s.heap z TI (.builtin "str.capitalize")) (hTI : IsOne s.heap TI (.ref i))
    (h1 : s.heap.IsListIter i l k) (hl : s.heap.IsList l xs) (hx : xs[k]? = some (.str y u)) (hy : y.length ≤ 5592405)
    (hQ : ∀ h' t' tk, h'.IsListIter i l (k + 1) → Heap.SameBut i s.heap h' → Q (.str (Txt.capitalize y) t') { s with heap := h', toks := tk }) :
    wpAny (model prog w) A (Builtin.«map.__next__» ⟨[.ref z], []⟩) (fun fin s' => ∃ v, fin = .done (.ret v) ∧ Q v s') E s := by
  unfold Builtin.«map.__next__»
  refine wpAny_bind (wpAny_of_eq (a := (Value.ref z, [])) rfl ?_)
  try dsimp only
  refine wpAny_bind (wpAny_field hz rfl (x := .ref TI) rfl ?_)
  refine wpAny_bind (wpAny_seqItems hTI rfl ?_)
  try dsimp only
  refine wpAny_bind ?_
  simp only [List.forIn_cons, List.forIn_nil, List.forIn_toArray]
  refine wpAny_bind (wpAny_bind (wpAny_holding (wpAny_nextOf_list_item h1 hl hx fun h₂ h1₂ hs₂ => wpAny_pure (wpAny_pure ?_))))
  have hz₂ : IsMap h₂ z TI (.builtin "str.capitalize") := hs₂.extBut _ _ hiz.symm hz
  refine wpAny_bind (wpAny_field hz₂ rfl (x := .builtin "str.capitalize") rfl ?_)
  refine wpAny_bind (wpAny_holding (SCL.capitalize hy fun t' tk _ => ?_))
  refine wpAny_bind (wpAny_letGo (wpAny_pure ⟨_, rfl, hQ _ _ _ h1₂ hs₂⟩))
end
end Mine
end

section
open PySem PySem.W PyProof PyProof.Rows
open Sem (wp)
set_option maxRecDepth 100000
namespace Mine
section
variable {prog : Program} {w : World} {A : Around} {E : Value → Shared → Prop} {s : Shared}
theorem map_next_end {z TI i l : Addr} {k : Nat} {xs : Array Value} {f : Value} {Q : Fin → Shared → Prop} (hh : A.handled = none)
    (hz : IsMap s.heap z TI f) (hTI : IsOne s.heap TI (.ref i)) (h1 : s.heap.IsListIter i l k) (hl : s.heap.IsList l xs) (hx : xs[k]? = none)
    (hE : ∀ h' e, Heap.ExtBut i s.heap h' → (∃ o, h'.get? e = some o ∧ o.cls = .type "StopIteration") → E (.ref e) { s with heap := h' }) :
    wpAny (model prog w) A (Builtin.«map.__next__» ⟨[.ref z], []⟩) Q E s := by
  unfold Builtin.«map.__next__»
  refine wpAny_bind (wpAny_of_eq (a := (Value.ref z, [])) rfl ?_)
  try dsimp only
  refine wpAny_bind (wpAny_field hz rfl (x := .ref TI) rfl ?_)
  refine wpAny_bind (wpAny_seqItems hTI rfl ?_)
  try dsimp only
  refine wpAny_bind ?_
  simp only [List.forIn_cons, List.forIn_nil, List.forIn_toArray]
  exact wpAny_bind (wpAny_bind (wpAny_holding (wpAny_nextOf_list_end hh h1 hl hx hE)))

theorem pyNext_map_item {z TI i l : Addr} {k : Nat} {xs : Array Value} {y : PySem.Str} {u : Tok} {Q : Option Value → Shared → Prop} (hiz : i ≠ z)
    (hz : IsMap s.heap z TI (.builtin "str.capitalize")) (hTI : IsOne s.heap TI (.ref i))
    (h1 : s.heap.IsListIter i l k) (hl : s.heap.IsList l xs) (hx : xs[k]? = some (.str y u)) (hy : y.length ≤ 5592405)
    (hQ : ∀ h' t' tk, h'.IsListIter i l (k + 1) → Heap.SameBut i s.heap h' → Q (some (.str (Txt.capitalize y) t')) { s with heap := h', toks := tk }) :
    wpAny (model prog w) A (pyNext (.ref z)) Q E s := by
  have hT : s.TypeIs (.ref z) "map" := ⟨_, hz, rfl⟩
  unfold pyNext
  exact wpAny_bind (wpAny_attempt (wpAny_callSpecial?_slot (name := Str.ofString "__next__") hT slot_map_next
    (wpAny_call_entry slot_map_next hT entry_map_next
      (map_next_item hiz hz hTI h1 hl hx hy fun h' t' tk a1 a2 => wpAny_pure (hQ h' t' tk a1 a2)) (args_map_next _))))

theorem pyNext_map_end {z TI i l : Addr} {k : Nat} {xs : Array Value} {f : Value} {Q : Option Value → Shared → Prop} (hh : A.handled = none)
    (hz : IsMap s.heap z TI f) (hTI : IsOne s.heap TI (.ref i)) (h1 : s.heap.IsListIter i l k) (hl : s.heap.IsList l xs) (hx : xs[k]? = none)
    (hQ : ∀ h', Heap.ExtBut i s.heap h' → Q none { s with heap := h' }) : wpAny (model prog w) A (pyNext (.ref z)) Q E s := by
  have hT : s.TypeIs (.ref z) "map" := ⟨_, hz, rfl⟩
  unfold pyNext
  refine wpAny_bind (wpAny_attempt (wpAny_callSpecial?_slot (name := Str.ofString "__next__") hT slot_map_next
    (wpAny_call_entry slot_map_next hT entry_map_next (map_next_end hh hz hTI h1 hl hx fun h' e hk he => ?_) (args_map_next _))))
  obtain ⟨o, ho, hc⟩ := he
  refine wpAny_bind (wpAny_isInstance (T := "StopIteration") (b := true) ⟨o, ho, hc⟩ isSubtype_stop ?_)
  exact wpAny_pure (hQ _ hk)

theorem pyIter_map {z TI : Addr} {f : Value} {Q : Value → Shared → Prop} (hz : IsMap s.heap z TI f) (h : Q (.ref z) s) : wpAny (model prog w) A (pyIter (.ref z)) Q E s := by
  have hT : s.TypeIs (.ref z) "map" := ⟨_, hz, rfl⟩
  refine wpAny_pyIter_slot hT slot_map_iter (wpAny_call_entry slot_map_iter hT entry_map_iter ?_ (args_map_iter _))
  show wpAny _ _ (ret (.ref z)) _ _ s
  exact wpAny_pure ⟨_, rfl, "map", _, hT, slot_map_next.lookup, h⟩

theorem walks_map (hh : A.handled = none) (z TI i l : Addr) (hiz : i ≠ z) (hTi : TI ≠ i) (hli : l ≠ i) (ys : List (PySem.Str × Tok)) (hy : ∀ p ∈ ys, p.1.length ≤ 5592405) :
    Walks prog w A z [z, TI, i, l] [i] ys.length (fun k v => ∃ p t, ys[k]? = some p ∧ v = .str (Txt.capitalize p.1) t)
      (fun k h => IsMap h z TI (.builtin "str.capitalize") ∧ IsOne h TI (.ref i) ∧ h.IsListIter i l k ∧ h.IsList l (strValues ys).toArray) where
  sub := fun b hb => by simp at hb; simp [hb]
  frame := fun k h h' st hk => ⟨hk z (by simp) _ st.1, hk TI (by simp) _ st.2.1, st.2.2.1.at fun o e => hk i (by simp) o e, st.2.2.2.at fun o e => hk l (by simp) o e⟩
  item := fun k s Q E hk st hQ => by
    have hx : ys[k]? = some ys[k] := List.getElem?_eq_getElem hk
    have hx' : (strValues ys).toArray[k]? = some (.str ys[k].1 ys[k].2) := by
      rw [List.getElem?_toArray]
      simp [strValues, hx]
    refine pyNext_map_item hiz st.1 st.2.1 st.2.2.1 st.2.2.2 hx' (hy _ (List.getElem_mem hk)) fun h' t' tk a1 a2 => ?_
    exact hQ _ h' tk ⟨_, _, hx, rfl⟩ ⟨a2.extBut _ _ hiz.symm st.1, a2.extBut _ _ hTi st.2.1, a1, st.2.2.2.extBut a2.extBut hli⟩ fun b o hb e => a2.extBut _ _ (fun x => hb (by simp [x])) e
  done := fun s Q E st hQ => by
    have hx' : (strValues ys).toArray[ys.length]? = none := by
      rw [List.getElem?_toArray]
      simp [strValues]
    exact pyNext_map_end hh st.1 st.2.1 st.2.2.1 st.2.2.2 hx' fun h' hk => hQ h' s.toks fun b o hb e => hk _ _ (fun x => hb (by simp [x])) e
  self := fun k s Q E st hQ => pyIter_map st.1 hQ
end
end Mine
end

section
open PySem PySem.W PyProof PyProof.Rows
open Sem (wp)
set_option maxRecDepth 100000
namespace Mine
section
variable {prog : Program} {w : World} {A : Around} {E : Value → Shared → Prop} {s : Shared}
theorem collect_map {Q : List Value → Shared → Prop} {I : Addr} {fp wr : List Addr} {G : Array GenState → Array GenState → Prop} {n : Nat} {P : Nat → Value → Prop} {St : Nat → Shared → Prop}
    (W : WalksS prog w A.in1 I fp wr G n P St) (hT : ∀ i s, St i s → s.TypeIs (.ref I) "map") (hst : St 0 s) (hfp : ∀ b ∈ fp, b < s.heap.objs.size) (hI : I ∈ fp)
    (hQ : ∀ s' acc, Moved wr G s s' → ItemsOf P acc n → Q acc.toList s') (hn : n ≤ sizeLine) : wpAny (model prog w) A (collect (.ref I)) Q E s := by
  have hSf : s.heap.objs.size ∉ fp := fun hm => Nat.lt_irrefl _ (hfp _ hm)
  have hSI : s.heap.objs.size ≠ I := fun e => hSf (e ▸ hI)
  unfold collect
  refine wpAny_bind (wpAny_runValue (codeAny_builtin F.entry_proto_collect ?_))
  rw [Around.under_plainId F.plain_proto_collect _]
  show wpAny _ A.in1 (newList [] >>= fun l => again (.builtin "list.__iadd__" ⟨[l, .ref I], []⟩)) _ _ s
  refine wpAny_bind (wpAny_newObj_type ?_)
  refine wpAny_pure ⟨plainId_quiet F.plain_list_iadd _, codeAny_builtin F.entry_list_iadd ?_⟩
  rw [Around.under_plainId F.plain_list_iadd _]
  have hst₁ := W.frame 0 s (s.heap.push { cls := .type "list", data := .seq ([] : List Value).toArray }) s.toks hst (Nat.le_refl _) fun b _ o e => Heap.get?_push_of_some _ e
  have h1 : Builtin.List.listSameRef (.ref s.heap.objs.size) (.ref I) = false := by simp [Builtin.List.listSameRef, hSI]
  show wpAny _ A.in1 (Builtin.List.listExtendWith (.ref s.heap.objs.size) (.ref I) (.ref s.heap.objs.size)) _ _ _
  unfold Builtin.List.listExtendWith
  refine wpAny_bind (wpAny_typeOf (hT 0 _ hst₁) ?_)
  rw [if_neg (by rw [h1]; decide)]
  refine wpAny_bind (W.self 0 _ _ _ hst₁ ?_)
  refine wpAny_bind (wpAny_holding ?_)
  unfold Builtin.List.listLengthHint
  refine wpAny_bind (wpAny_specialOf (hT 0 _ hst₁) map_no_len ?_)
  show wpAny _ A.in1 (specialOf (Value.ref I) (Str.ofString "__length_hint__") >>= _) _ _ _
  refine wpAny_bind (wpAny_specialOf (hT 0 _ hst₁) map_no_hint ?_)
  refine wpAny_pure ?_
  show wpAny _ A.in1 (rule "list.extend.makes-room" >>= fun _ => Builtin.List.listTouch (.ref s.heap.objs.size) >>= fun _ =>
    again (.builtin "list.extend.loop" ⟨[.ref s.heap.objs.size, .ref I, .ref s.heap.objs.size], []⟩)) _ _ _
  refine wpAny_bind (wpAny_rule ?_)
  have hS₁ : (s.heap.push { cls := .type "list", data := .seq ([] : List Value).toArray }).get? s.heap.objs.size = some { cls := .type "list", data := .seq ([] : List Value).toArray } := Heap.get?_push_size _ rfl
  refine wpAny_bind ?_
  show wpAny _ A.in1 (updateSeq s.heap.objs.size (·.push .none) >>= fun _ => updateSeq s.heap.objs.size (·.pop)) _ _ _
  refine wpAny_bind (wpAny_updateSeq hS₁ rfl ?_)
  have hS₂ := Heap.get?_update_self (Obj.mapSeq (·.push Value.none)) hS₁ rfl
  refine wpAny_updateSeq hS₂ rfl ?_
  have hS₃ := Heap.get?_update_self (Obj.mapSeq (·.pop)) hS₂ rfl
  have oth : ∀ b o, b ≠ s.heap.objs.size → (s.heap.push { cls := .type "list", data := .seq ([] : List Value).toArray }).get? b = some o →
      (((s.heap.push { cls := .type "list", data := .seq ([] : List Value).toArray }).update s.heap.objs.size (Obj.mapSeq (·.push Value.none))).update s.heap.objs.size (Obj.mapSeq (·.pop))).get? b = some o :=
    fun b o hb e => (Heap.get?_update_other _ _ (Ne.symm hb)).trans ((Heap.get?_update_other _ _ (Ne.symm hb)).trans e)
  refine wpAny_pure ⟨plainId_quiet F.plain_extend_loop _, codeAny_extend_loopS W hn _ hSf _ n 0 _ _ _ rfl (Nat.zero_le _)
    (W.frame 0 ({ s with heap := s.heap.push { cls := .type "list", data := .seq ([] : List Value).toArray } } : Shared) _ s.toks hst₁ (Nat.le_refl _) fun b hb o e => oth b o (fun h => hSf (h ▸ hb)) e) hS₃ (ItemsOf.nil P) fun s' acc' c' hm hS' hacc => ?_⟩
  show wpAny _ A (load s.heap.objs.size >>= _) _ _ s'
  refine wpAny_bind (wpAny_load hS' ?_)
  refine wpAny_pure (hQ s' acc' (Moved.drop_new (o := { cls := .type "list", data := .seq ([] : List Value).toArray }) (tk := s.toks) (Moved.trans W.gtrans ((Moved.refl W.grefl).then_heap (by first | exact Nat.le_refl _ | exact Nat.le_succ _ | omega) fun b o hb e => ?_) hm) (Nat.le_refl _)) hacc)
  exact oth b o (fun h => hb (h ▸ List.mem_cons_self)) e

theorem join_map0 {Q : Value → Shared → Prop} {x : PySem.Str} {t : Tok} {I : Addr} {fp wr : List Addr} {G : Array GenState → Array GenState → Prop} {n : Nat} {P : Nat → Value → Prop} {St : Nat → Shared → Prop}
    (W : WalksS prog w A.in1.in1 I fp wr G n P St) (hT : ∀ i s, St i s → s.TypeIs (.ref I) "map") (hst : St 0 s) (hfp : ∀ b ∈ fp, b < s.heap.objs.size) (hI : I ∈ fp)
    (hstr : ∀ i v, P i v → ∃ y u, v = Value.str y u)
    (hq : ∀ s' (l : List (PySem.Str × Tok)), Moved wr G s s' → ItemsOf P (strValues l).toArray n → JoinOk x (l.map (·.1)) = true ∧ ∀ t' k, Q (.str (Txt.join x (l.map (·.1))) t') { s' with toks := k })
    (hsz : n ≤ sizeLine) :
    wpAny (model prog w) A (call (.builtin "str.join") [.str x t, .ref I]) Q E s := by
  refine wpAny_call (codeAny_call_builtin F.slot_str_join.plain F.entry_str_join (F.slot_str_join.check _ _ _ _ _ _ _ _ (typeIs_str _ _ _) (F.args_str_join_2 _ _) ?_))
  rw [join_tree_other]
  refine wpAny_bind (wpAny_typeOf (hT 0 s hst) ?_)
  show wpAny _ A.in1 ((pyIter (.ref I)).tryCatch _ >>= fun it => collect it >>= fun items => joinTail x items) _ _ s
  refine wpAny_bind (wpAny_tryCatch (W.of_in1.self 0 s _ _ hst ?_))
  refine wpAny_bind (collect_map W hT hst hfp hI (fun s' acc hm hacc => ?_) hsz)
  obtain ⟨l, hl⟩ := exists_strValues acc.toList fun v hv => by
    obtain ⟨j, hj, rfl⟩ := Array.mem_iff_getElem.mp (Array.mem_toList_iff.mp hv)
    exact hstr j _ (hacc.2 j _ (Array.getElem?_eq_getElem hj))
  rw [← hl]
  have hacc' : ItemsOf P (strValues l).toArray n := by rw [hl]; simpa using hacc
  obtain ⟨hok, hpost⟩ := hq s' l hm hacc'
  unfold JoinOk at hok
  rw [Bool.not_eq_true'] at hok
  have g : Gives (joinTail x (strValues l)) (joinMade x l) := by
    have g0 := gives_joinTail x l hok
    cases l with
    | nil => exact g0
    | cons p r => cases r with
      | nil => exact g0
      | cons q r' => exact g0
  exact g prog w A (wants Q E) s' (post_join l ⟨joinFit_length hok, hpost⟩)
end
end Mine
end

section
open PySem PySem.W PyProof PyProof.Rows PySem.Calls
open Sem (wp)
set_option maxRecDepth 100000
namespace Mine
section
variable {prog : Program} {w : World} {A : Around} {E : Value → Shared → Prop} {s : Shared} {K : Frag} {h₀ : Heap} {L : Addr} {m : PySem.Str → Option Value} {news : List (Addr × Obj)}
theorem attr_type {T : String} {name : PySem.Str} {v : Value} {expr : Bool} {Q : Value → Shared → Prop} (F : Fr h₀ L s.heap m) (X₀ : K.In h₀) (ht : typeOf (.type T) = pure (.type "type")) (hs : Manifest.isStub T = false)
    (e : findCls K (.type T) (.type "type") name = some (.val v)) (hh : handedIn v = true) (h : Q v { s with toks := s.toks + 1 }) : wpAny (model prog w) A (getAttr (.type T) name expr) Q E s := by
  have X := X₀.keeps F.keep
  have hstub : opaqueClassAbove (.type T) = pure none := by unfold opaqueClassAbove; dsimp only; rw [hs]; rfl
  have L0 : Looks (model prog w) s.heap (typeOf (.type T)) (.type "type") := Looks.of_pure ht
  have hg : findIn K (.type "type") "__getattribute__" = some (some (.builtin "type.__getattribute__")) := type_tga
  have LO : Looks (model prog w) s.heap (opaqueClassAbove (.type T)) none := Looks.of_pure hstub
  refine cls_open X LO L0 hg (looks_hook X (r := none) (by rfl)) (by show subIn K _ _ = _; rfl) e
    (wpAny_pure (by show wpAny _ _ (handedOut v) _ _ _; rw [handedOut_of hh]; exact wpAny_pure h))

/-- a map object over a list, its iterator apart from what the frame knows -/
structure MapAt (h₀ : Heap) (L : Addr) (h : Heap) (news : List (Addr × Obj)) (z l : Addr) (xs : Array Value) (TI i : Addr) : Prop where
  map : IsMap h z TI (.builtin "str.capitalize")
  one : IsOne h TI (.ref i)
  iter : h.IsListIter i l 0
  lst : h.IsList l xs
  iz : i ≠ z
  Ti : TI ≠ i
  li : l ≠ i
  iL : L ≠ i
  inew : ∀ p ∈ news, p.1 ≠ i
  ibase : h₀.get? i = none

theorem map_K {l : Addr} {xs : Array Value} {Q : Value → Shared → Prop} (F : Fr h₀ L s.heap m) (N : News h₀ L s.heap news) (hl : s.heap.IsList l xs)
    (h : ∀ z TI i h', Fr h₀ L h' m → News h₀ L h' news → MapAt h₀ L h' news z l xs TI i → Q (.ref z) { s with heap := h' }) :
    wpAny (model prog w) A (call (.type "map") [.builtin "str.capitalize", .ref l]) Q E s := by
  refine call_map hl fun h' a1 a2 a3 a4 a5 => ?_
  have F1 := F.push { cls := .type "list_iterator", data := .fields #[.ref l, .int 0 0] }
  have N1 := fun p (hp : p ∈ news) => (News.push F N { cls := .type "list_iterator", data := .fields #[.ref l, .int 0 0] }) p (List.mem_cons_of_mem _ hp)
  have F2 := F1.push { cls := .type "tuple", data := .seq #[.ref s.heap.objs.size] }
  have N2 := fun p (hp : p ∈ news) => (News.push F1 (news := news) N1 { cls := .type "tuple", data := .seq #[.ref s.heap.objs.size] }) p (List.mem_cons_of_mem _ hp)
  have F3 := F2.push { cls := .type "map", data := .fields #[.ref (mapH1 s.heap l).objs.size, .builtin "str.capitalize"] }
  have N3 := fun p (hp : p ∈ news) => (News.push F2 (news := news) N2 { cls := .type "map", data := .fields #[.ref (mapH1 s.heap l).objs.size, .builtin "str.capitalize"] }) p (List.mem_cons_of_mem _ hp)
  have ll : l < s.heap.objs.size := by obtain ⟨o, ho, _⟩ := hl; exact Heap.lt_size ho
  refine h _ (s.heap.objs.size + 1) s.heap.objs.size h' (by rw [a5]; exact F3) (by rw [a5]; exact N3) ⟨a1, a2, a3, ?_, Nat.ne_of_lt (Nat.lt_add_of_pos_right (by decide)), Nat.succ_ne_self _, Nat.ne_of_lt ll, ?_, ?_, ?_⟩
  · rw [a5]; exact ((hl.push _).push _).push _
  · exact Nat.ne_of_lt F.ns.lt
  · exact fun p hp => Nat.ne_of_lt (Heap.lt_size (N p hp).1)
  · cases hq : h₀.get? s.heap.objs.size with
    | none => rfl
    | some o' => exact absurd (Heap.lt_size (F.keep _ _ hq)) (Nat.lt_irrefl _)

theorem join_K {x : PySem.Str} {t : Tok} {z l TI i : Addr} {ys : List (PySem.Str × Tok)} {Q : Value → Shared → Prop} (hA : A.handled = none) (F : Fr h₀ L s.heap m) (N : News h₀ L s.heap news)
    (M : MapAt h₀ L s.heap news z l (strValues ys).toArray TI i) (hy : ∀ p ∈ ys, p.1.length ≤ 5592405) (hlen : ys.length ≤ 16777216) (hok : JoinOk x (ys.map fun p => Txt.capitalize p.1) = true)
    (h : ∀ h' t' k, Fr h₀ L h' m → News h₀ L h' news → Q (.str (Txt.join x (ys.map fun p => Txt.capitalize p.1)) t') { s with heap := h', toks := k }) :
    wpAny (model prog w) A (call (.builtin "str.join") [.str x t, .ref z]) Q E s := by
  have W := (walks_map (prog := prog) (w := w) (A := A.in1.in1) hA z TI i l M.iz M.Ti M.li ys hy).toS
  have hT : ∀ (k : Nat) (s : Shared), (IsMap s.heap z TI (.builtin "str.capitalize") ∧ IsOne s.heap TI (.ref i) ∧ s.heap.IsListIter i l k ∧ s.heap.IsList l (strValues ys).toArray) → s.TypeIs (.ref z) "map" := fun _ _ st => ⟨_, st.1, rfl⟩
  refine join_map0 W hT ⟨M.map, M.one, M.iter, M.lst⟩ ?_ (by simp) (fun k v hv => let ⟨p, t, _, e⟩ := hv; ⟨_, _, e⟩) (fun s' ws hm hi => ?_) (by rw [PySem.sizeLine_eq]; exact hlen)
  · intro b hb
    simp at hb
    rcases hb with rfl | rfl | rfl | rfl
    · exact Heap.lt_size M.map
    · exact Heap.lt_size M.one
    · obtain ⟨o, ho, _⟩ := M.iter; exact Heap.lt_size ho
    · obtain ⟨o, ho, _⟩ := M.lst; exact Heap.lt_size ho
  · have e : ws.map (·.1) = ys.map fun p => Txt.capitalize p.1 := by
      apply List.ext_getElem?
      intro k
      have hsz : ws.length = ys.length := by have := hi.1; simpa [strValues] using this
      by_cases hk : k < ys.length
      · have hk' : k < ws.length := by omega
        have hv : (strValues ws).toArray[k]? = some (.str ws[k].1 ws[k].2) := by
          rw [List.getElem?_toArray]; simp [strValues, List.getElem?_eq_getElem hk']
        obtain ⟨p, t, hp, he⟩ := hi.2 k _ hv
        rw [List.getElem?_map, List.getElem?_map, List.getElem?_eq_getElem hk', hp]
        have := (Value.str.inj he).1
        simp [this]
      · rw [List.getElem?_eq_none (by simp; omega), List.getElem?_eq_none (by simp; omega)]
    rw [e]
    refine ⟨hok, fun t' k => ?_⟩
    have es : s' = { s with heap := s'.heap, toks := s'.toks } := by
      obtain ⟨h1, h2, h3, h4, h5⟩ := s'
      have g1 := hm.gens; have g2 := hm.drawn; have g3 := hm.os
      simp at g1 g2 g3
      subst g1 g2 g3
      rfl
    have keep : ∀ b o, b ≠ i → s.heap.get? b = some o → s'.heap.get? b = some o := fun b o hb eo => hm.heap b o (by simpa using hb) eo
    rw [es]
    refine h s'.heap t' k ⟨?_, fun b o eo => keep b o (fun x => by rw [x, M.ibase] at eo; cases eo) (F.keep b o eo), F.above⟩ fun p hp => ⟨keep _ _ (M.inew p hp) (N p hp).1, (N p hp).2⟩
    obtain ⟨oL, a1, a2, hL, a3⟩ := F.ns
    exact ⟨oL, a1, a2, keep _ _ M.iL hL, a3⟩
end
end Mine
end

section
open PySem PySem.W PyProof PyProof.Rows
set_option maxRecDepth 100000
set_option maxHeartbeats 8000000
namespace Mine
theorem capSum : ∀ (ys : List PySem.Str), ((ys.map Txt.capitalize).map (·.length)).sum ≤ 3 * (ys.map (·.length)).sum
  | [] => by simp
  | y :: r => by
    have ih := capSum r
    have := len_capitalize y
    simp only [List.map_cons, List.sum_cons]
    omega
theorem le_sum_mem : ∀ {l : List Nat} {a : Nat}, a ∈ l → a ≤ l.sum
  | b :: r, a, h => by
    rw [List.sum_cons]
    rcases List.mem_cons.mp h with rfl | h
    · omega
    · have := le_sum_mem h; omega
theorem joinOk_cap {x : PySem.Str} {ys : List PySem.Str} {n : Nat} (hw : (ys.map (·.length)).sum + ys.length ≤ n + 1) (hn : n ≤ 100000) (hx : x.length ≤ 10) :
    JoinOk x (ys.map Txt.capitalize) = true := by
  refine joinOk_of ?_
  have h1 := capSum ys
  have h2 : (ys.map Txt.capitalize).length * x.length ≤ 100001 * 10 := Nat.mul_le_mul (by rw [List.length_map]; omega) hx
  omega
def capS (x y : PySem.Str) : PySem.Str := Txt.join y ((Txt.split x y).map Txt.capitalize)
def capW (x : PySem.Str) : PySem.Str := Txt.join (Str.ofString " ") ((Txt.words x).map Txt.capitalize)
theorem sep_len : (Str.ofString " ").length ≤ 10 := by decide +kernel
section
variable {prog : Program} {w : World} {A : Around} {E : Value → Shared → Prop} {s : Shared} {h₀ : Heap} {L : Addr} {m : PySem.Str → Option Value} {news : List (Addr × Obj)}
theorem join_gen {x y : PySem.Str} {t : Tok} {z l TI i : Addr} {ys : List (PySem.Str × Tok)} {ps : List PySem.Str} {Q : Value → Shared → Prop} (hA : A.handled = none) (F : Fr h₀ L s.heap m) (N : News h₀ L s.heap news)
    (M : MapAt h₀ L s.heap news z l (strValues ys).toArray TI i) (e : ys.map (·.1) = ps) (hw : (ps.map (·.length)).sum + ps.length ≤ x.length + 1) (hx : x.length ≤ 100000) (hs : y.length ≤ 10)
    (h : ∀ h' t' k, Fr h₀ L h' m → News h₀ L h' news → Q (.str (Txt.join y (ps.map Txt.capitalize)) t') { s with heap := h', toks := k }) :
    wpAny (model prog w) A (call (.builtin "str.join") [.str y t, .ref z]) Q E s := by
  have e2 : (ys.map fun p => Txt.capitalize p.1) = ps.map Txt.capitalize := by rw [← e, List.map_map]; rfl
  have hl : ys.length = ps.length := by rw [← e, List.length_map]
  refine join_K hA F N M ?_ (by omega) (by rw [e2]; exact joinOk_cap hw hx hs) fun h' t' k F' N' => by rw [e2]; exact h h' t' k F' N'
  intro p hp
  have hm : p.1.length ∈ ps.map (·.length) := by
    rw [← e, List.map_map]
    exact List.mem_map.mpr ⟨p, hp, rfl⟩
  have := le_sum_mem hm
  omega
theorem join_split_cap {x y : PySem.Str} {t : Tok} {z l TI i : Addr} {ys : List (PySem.Str × Tok)} {Q : Value → Shared → Prop} (hA : A.handled = none) (F : Fr h₀ L s.heap m) (N : News h₀ L s.heap news)
    (M : MapAt h₀ L s.heap news z l (strValues ys).toArray TI i) (e : ys.map (·.1) = Txt.split x y) (hx : x.length ≤ 100000) (hs : y.length ≤ 10) (h1 : 1 ≤ y.length)
    (h : ∀ h' t' k, Fr h₀ L h' m → News h₀ L h' news → Q (.str (capS x y) t') { s with heap := h', toks := k }) :
    wpAny (model prog w) A (call (.builtin "str.join") [.str y t, .ref z]) Q E s := join_gen hA F N M e (split_weight x y h1) hx hs h
theorem join_words_cap {x : PySem.Str} {t : Tok} {z l TI i : Addr} {ys : List (PySem.Str × Tok)} {Q : Value → Shared → Prop} (hA : A.handled = none) (F : Fr h₀ L s.heap m) (N : News h₀ L s.heap news)
    (M : MapAt h₀ L s.heap news z l (strValues ys).toArray TI i) (e : ys.map (·.1) = Txt.words x) (hx : x.length ≤ 100000)
    (h : ∀ h' t' k, Fr h₀ L h' m → News h₀ L h' news → Q (.str (capW x) t') { s with heap := h', toks := k }) :
    wpAny (model prog w) A (call (.builtin "str.join") [.str (Str.ofString " ") t, .ref z]) Q E s := join_gen hA F N M e (StrLaws.words_weight x) hx sep_len h
end
local macro_rules | `(tactic| walk_at "getAttr") => `(tactic| (k_here; (with_reducible show wpAny _ _ (getAttr (Value.type _) (PySem.Str.ofString "capitalize") _) _ _ _); k_dflt (refine' attr_type ?F ?X ?t ?s ?e ?hh ?_; (case F => k_asm); (case X => k_asm); (case t => exact kitMeta_of (by decide +kernel)); (case s => decide +kernel); (case e => k_is); (case hh => k_handed); k_whole)))
local macro_rules | `(tactic| walk_at "call builtin:str.split") => `(tactic| (k_here; (with_reducible show wpAny _ _ (call (Value.builtin "str.split") [Value.str _ _, Value.str _ _]) _ _ _); k_dflt (refine' splitN1A ?F ?N ?y ?_ ?z; (case F => k_asm); (case N => k_asm); (case y => assumption); (case z => (rw [PySem.sizeLine_eq]; omega)); k_whole); intro l' h' k' e' a' b' c' F' N'))
local macro_rules | `(tactic| walk_at "call builtin:str.split") => `(tactic| (k_here; (with_reducible show wpAny _ _ (call (Value.builtin "str.split") [Value.str _ _, Value.none]) _ _ _); k_dflt (refine' splitN0None ?F ?N ?_ ?z; (case F => k_asm); (case N => k_asm); (case z => (rw [PySem.sizeLine_eq]; omega)); k_whole); intro l' h' k' e' a' b' c' F' N'))
local macro_rules | `(tactic| walk_at "call type:map") => `(tactic| (k_here; (with_reducible show wpAny _ _ (call (Value.type "map") [Value.builtin "str.capitalize", Value.ref _]) _ _ _); k_dflt (refine' map_K ?F ?N ?l ?_; (case F => k_asm); (case N => k_asm); (case l => assumption); k_whole); intro z' TI' i' h' F' N' M'))
local macro_rules | `(tactic| walk_at "call builtin:str.join") => `(tactic| (k_here; (with_reducible show wpAny _ _ (call (Value.builtin "str.join") [Value.str _ _, Value.ref _]) _ _ _); (with_reducible rename MapAt _ _ _ _ _ _ _ _ _ => mapM); k_dflt (first | (refine' join_split_cap ?A ?F ?N mapM ?e ?x ?s ?h1 ?_; (case A => exact rfl); (case F => k_asm); (case N => k_asm); (case e => assumption); (case x => assumption); (case s => assumption); (case h1 => assumption); k_whole) | (refine' join_words_cap ?A ?F ?N mapM ?e ?x ?_; (case A => exact rfl); (case F => k_asm); (case N => k_asm); (case e => assumption); (case x => assumption); k_whole)); intro h' t' k' F' N'))
theorem c_cap (w : World) (mean : ExcName → Option Value) (mg mb : PySem.Str → Option Value) (news : List (Addr × Obj)) (x : PySem.Str) (t : Tok) (y : PySem.Str) (t' : Tok) :
    Clm 1 w mean mg mb 22 news (x.length ≤ 100000 ∧ y.length ≤ 10 ∧ 1 ≤ y.length) [.str x t, .str y t'] (fun t => .str (capS x y) t) := by
  dsimp only [Clm]
  k_fill
  k_with_none
  w_top off
  intro dp un gd cn cs a ccd cl outer A₀ base h₀ L m s Q E hB hF hK hN hT hk hp hdp hun hret
  obtain ⟨hlen, hlen2, hlen3⟩ := hp
  have hy0 : (y.length == 0) = false := by simp; omega
  refine wpAny_call ?_
  k_dflt (refine' code_def ?k1 ?k2 ?k3 ?k4 ?k5 ?kA ?kF ?kK ?k6 ?k7 ?k8 ?k9 ?kB ?_ ?c2 ?c3 ?c4 ?c5; (case kA => exact rfl); (case kF => exact rfl); (case kK => assumption); (case k1 => k_asm); (case k2 => k_asm); (case k3 => k_asm); (case k4 => k_asm); (case k5 => k_asm); (case k6 => k_is); (case k7 => k_is); (case k8 => ktr_room); (case k9 => first | exact BindsTo.of_eq rfl | exact binds_K (by k_in) rfl (by k_is) rfl rfl rfl); (case c5 => decide); (case kB => exact locs rfl); (case c2 => exact rfl); (case c3 => exact rfl); (case c4 => exact rfl); k_whole; intro g' L' h' FG' F' N' B' X' T'; (try dsimp only); (try k_lift B'); (try k_fold))
  k_steps
  all_goals first
    | (exfalso; omega)
    | exact hret _ _ _ (by k_asm) (by first | k_asm | exact cb_drop (by assumption) (fun p hp => by simp [hp]))
theorem c_cap0 (w : World) (mean : ExcName → Option Value) (mg mb : PySem.Str → Option Value) (news : List (Addr × Obj)) (x : PySem.Str) (t : Tok) :
    Clm 1 w mean mg mb 22 news (x.length ≤ 100000) [.str x t] (fun t => .str (capW x) t) := by
  dsimp only [Clm]
  k_fill
  k_with_none
  w_top off
  intro dp un gd cn cs a ccd cl outer A₀ base h₀ L m s Q E hB hF hK hN hT hk hlen hdp hun hret
  refine wpAny_call ?_
  k_dflt (refine' code_def ?k1 ?k2 ?k3 ?k4 ?k5 ?kA ?kF ?kK ?k6 ?k7 ?k8 ?k9 ?kB ?_ ?c2 ?c3 ?c4 ?c5; (case kA => exact rfl); (case kF => exact rfl); (case kK => assumption); (case k1 => k_asm); (case k2 => k_asm); (case k3 => k_asm); (case k4 => k_asm); (case k5 => k_asm); (case k6 => k_is); (case k7 => k_is); (case k8 => ktr_room); (case k9 => first | exact BindsTo.of_eq rfl | exact binds_K (by k_in) rfl (by k_is) rfl rfl rfl); (case c5 => decide); (case kB => exact locs rfl); (case c2 => exact rfl); (case c3 => exact rfl); (case c4 => exact rfl); k_whole; intro g' L' h' FG' F' N' B' X' T'; (try dsimp only); (try k_lift B'); (try k_fold))
  k_steps
  all_goals exact hret _ _ _ (by k_asm) (by first | k_asm | exact cb_drop (by assumption) (fun p hp => by simp [hp]))
end Mine
end

section
open PySem PySem.W PyProof PyProof.Rows
namespace Mine
/-- from the left: a mark stays and makes the next letter great -/
noncomputable def mkGo (mark : List Nat) (l : List Nat) (fresh : Bool) : List Nat :=
  match l with
  | [] => []
  | c :: r => if (c :: r).take mark.length = mark then mark ++ mkGo mark (r.drop (mark.length - 1)) true else casedN c fresh :: mkGo mark r false
termination_by l.length
decreasing_by
  · simp only [List.length_drop, List.length_cons]; omega
  · simp only [List.length_cons]; omega
theorem mkGo_nil (mark : List Nat) (f : Bool) : mkGo mark [] f = [] := by rw [mkGo]
theorem mkGo_hit {mark : List Nat} {l : List Nat} (f : Bool) (h1 : 1 ≤ mark.length) (h : l.take mark.length = mark) : mkGo mark l f = mark ++ mkGo mark (l.drop mark.length) true := by
  cases l with
  | nil => simp at h; rw [h] at h1; simp at h1
  | cons c r =>
    rw [mkGo, if_pos h]
    have : mark.length = (mark.length - 1) + 1 := by omega
    rw [this, List.drop_succ_cons]
    simp
theorem mkGo_miss {mark : List Nat} {c : Nat} {r : List Nat} (f : Bool) (h : (c :: r).take mark.length ≠ mark) : mkGo mark (c :: r) f = casedN c f :: mkGo mark r false := by
  rw [mkGo, if_neg h]
noncomputable def marksS (x mark : PySem.Str) : PySem.Str := ⟨(mkGo mark.cps.toList x.cps.toList false).toArray⟩
def isW (c : Nat) : Bool := c == 32 || c == 9 || c == 10
def wsF (st : List Nat × Bool) (c : Int) : List Nat × Bool :=
  if isW c.toNat = false then (st.1 ++ [casedN c.toNat st.2], false) else if st.2 = false then (st.1 ++ [32], true) else st
def ws (l : List Int) : List Nat × Bool := l.foldl wsF ([], false)
def whitesS (x : PySem.Str) : PySem.Str := ⟨(ws (KStt.codes x)).1.toArray⟩
theorem ws_snoc (l : List Int) (c : Int) : ws (l ++ [c]) = wsF (ws l) c := by simp [ws, List.foldl_append]
theorem ws_w0 : Str.ofString "" = (⟨(ws []).1.toArray⟩ : PySem.Str) ∧ false = (ws []).2 ∧ (Str.ofString "").length ≤ ([] : List Int).length := ⟨lit_e, rfl, by rw [lit_e]; decide⟩
theorem lit_w : Str.ofString " \t\n" = (⟨#[32, 9, 10]⟩ : PySem.Str) := by decide +kernel
theorem lit_s : Str.ofString " " = (⟨#[32]⟩ : PySem.Str) := by decide +kernel
theorem white_q {n : Nat} {b : Bool} (h : (Builtin.Str.occurrences (Str.ofString " \t\n") ⟨#[n]⟩ 0 (Str.ofString " \t\n").length 1).isEmpty = b) : isW n = !b := by
  have := StrLaws.found_one (Str.ofString " \t\n") n
  rw [h] at this
  rw [this, lit_w]
  simp only [isW]
  by_cases h1 : n = 32
  · subst h1; decide
  · by_cases h2 : n = 9
    · subst h2; decide
    · by_cases h3 : n = 10
      · subst h3; decide
      · simp [h1, h2, h3]
theorem ws_w1 {d : PySem.Str} {f : Bool} {pre : List Int} {n : Nat} (e1 : d = ⟨(ws pre).1.toArray⟩) (e2 : f = (ws pre).2) (e3 : d.length ≤ pre.length) (h : (Builtin.Str.occurrences (Str.ofString " \t\n") ⟨#[n]⟩ 0 (Str.ofString " \t\n").length 1).isEmpty = true) :
    d ++ ⟨#[casedN n f]⟩ = (⟨(ws (pre ++ [(n : Int)])).1.toArray⟩ : PySem.Str) ∧ false = (ws (pre ++ [(n : Int)])).2 ∧ (d ++ (⟨#[casedN n f]⟩ : PySem.Str)).length ≤ (pre ++ [(n : Int)]).length := by
  have hn : isW (n : Int).toNat = false := white_q h
  rw [ws_snoc, wsF, if_pos hn, PySem.Str.length_append, ← e2]
  refine ⟨?_, rfl, ?_⟩
  · rw [e1, app_mk]; rfl
  · rw [List.length_append]; show d.length + 1 ≤ pre.length + 1; omega
theorem ws_w2 {d : PySem.Str} {f : Bool} {pre : List Int} {n : Nat} (e1 : d = ⟨(ws pre).1.toArray⟩) (e2 : f = (ws pre).2) (e3 : d.length ≤ pre.length) (h : (Builtin.Str.occurrences (Str.ofString " \t\n") ⟨#[n]⟩ 0 (Str.ofString " \t\n").length 1).isEmpty = false) (hf : f = true) :
    d = (⟨(ws (pre ++ [(n : Int)])).1.toArray⟩ : PySem.Str) ∧ f = (ws (pre ++ [(n : Int)])).2 ∧ d.length ≤ (pre ++ [(n : Int)]).length := by
  have hn : ¬ isW (n : Int).toNat = false := by have := white_q h; show ¬ isW n = false; rw [this]; decide
  rw [ws_snoc, wsF, if_neg hn, ← e2, hf, if_neg (by decide)]
  refine ⟨e1, hf ▸ e2, ?_⟩
  rw [List.length_append]; omega
theorem ws_w3 {d : PySem.Str} {f : Bool} {pre : List Int} {n : Nat} (e1 : d = ⟨(ws pre).1.toArray⟩) (e2 : f = (ws pre).2) (e3 : d.length ≤ pre.length) (h : (Builtin.Str.occurrences (Str.ofString " \t\n") ⟨#[n]⟩ 0 (Str.ofString " \t\n").length 1).isEmpty = false) (hf : f = false) :
    d ++ Str.ofString " " = (⟨(ws (pre ++ [(n : Int)])).1.toArray⟩ : PySem.Str) ∧ true = (ws (pre ++ [(n : Int)])).2 ∧ (d ++ Str.ofString " ").length ≤ (pre ++ [(n : Int)]).length := by
  have hn : ¬ isW (n : Int).toNat = false := by have := white_q h; show ¬ isW n = false; rw [this]; decide
  rw [ws_snoc, wsF, if_neg hn, ← e2, hf, if_pos rfl, lit_s]
  refine ⟨?_, rfl, ?_⟩
  · rw [e1, app_mk]
  · rw [PySem.Str.length_append, List.length_append]; show d.length + 1 ≤ pre.length + 1; omega
theorem mk_w0 {name : PySem.Str} {mark : List Nat} : (0 : Int) ≤ 0 ∧ (0 : Int) ≤ (name.length : Int) ∧ (Str.ofString "").length ≤ Int.toNat 0 ∧ (Str.ofString "").cps.toList ++ mkGo mark (name.cps.toList.drop (Int.toNat 0)) false = mkGo mark name.cps.toList false := by
  refine ⟨by omega, by omega, ?_, ?_⟩
  · rw [lit_e]; decide
  · rw [lit_e]; rfl
theorem slice_is {x : PySem.Str} {i : Int} {n : Nat} (h0 : 0 ≤ i) (h1 : i + (n : Int) ≤ (x.length : Int)) : Txt.slice x (some i) (some (i + (n : Int))) = ⟨((x.cps.toList.drop i.toNat).take n).toArray⟩ := by
  have e := eq_of_beq (slice_closesL (x := x) (i := i) (j := i + (n : Int)) h0 (by omega) h1)
  rw [e]
  have : (i + (n : Int) - i).toNat = n := by omega
  rw [this]
theorem slice_any {x : PySem.Str} {i : Int} {n : Nat} (h0 : 0 ≤ i) (h1 : i ≤ (x.length : Int)) : Txt.slice x (some i) (some (i + (n : Int))) = ⟨((x.cps.toList.drop i.toNat).take n).toArray⟩ := by
  by_cases h2 : i + (n : Int) ≤ (x.length : Int)
  · exact slice_is h0 h2
  · have e1 : Builtin.Str.strSliceIndices (some i) (some (i + (n : Int))) 1 x.length = Builtin.Str.strSliceIndices (some i) (some (x.length : Int)) 1 x.length := by
      have a : max (0 : Int) (min (i + (n : Int)) (x.length : Int)) = (x.length : Int) := by omega
      have b : max (0 : Int) (min (x.length : Int) (x.length : Int)) = (x.length : Int) := by omega
      have c : ¬ (i + (n : Int) < 0) := by omega
      have d : ¬ ((x.length : Int) < 0) := by omega
      simp only [Builtin.Str.strSliceIndices, if_neg c, if_neg d, show (1 : Int) > 0 by decide, if_true, a, b]
    have e2 : Txt.slice x (some i) (some (i + (n : Int))) = Txt.slice x (some i) (some (x.length : Int)) := by
      unfold Txt.slice
      rw [e1]
    have e := eq_of_beq (slice_closesL (x := x) (i := i) (j := (x.length : Int)) h0 h1 (by omega))
    rw [e2, e]
    have hl : x.cps.toList.length = x.length := Array.length_toList
    have h3 : (x.cps.toList.drop i.toNat).length ≤ ((x.length : Int) - i).toNat := by rw [List.length_drop, hl]; omega
    have h4 : (x.cps.toList.drop i.toNat).length ≤ n := by rw [List.length_drop, hl]; omega
    rw [List.take_of_length_le h3, List.take_of_length_le h4]
theorem mk_w1 {name mark d : PySem.Str} {f : Bool} {i : Int} (hm1 : 1 ≤ mark.length) (h0 : 0 ≤ i) (h3 : d.length ≤ i.toNat) (h4 : d.cps.toList ++ mkGo mark.cps.toList (name.cps.toList.drop i.toNat) f = mkGo mark.cps.toList name.cps.toList false) (h5 : i < (name.length : Int))
    (h6 : (Txt.slice name (some i) (some (i + (mark.length : Int))) == mark) = true) :
    0 ≤ i + (mark.length : Int) ∧ i + (mark.length : Int) ≤ (name.length : Int) ∧ (d ++ mark).length ≤ (i + (mark.length : Int)).toNat ∧ (d ++ mark).cps.toList ++ mkGo mark.cps.toList (name.cps.toList.drop (i + (mark.length : Int)).toNat) true = mkGo mark.cps.toList name.cps.toList false := by
  have e := eq_of_beq h6
  rw [slice_any h0 (by omega)] at e
  have hml : mark.cps.toList.length = mark.length := Array.length_toList
  have hnl : name.cps.toList.length = name.length := Array.length_toList
  have e' : (name.cps.toList.drop i.toNat).take mark.cps.toList.length = mark.cps.toList := by
    rw [hml]
    have := congrArg (fun s : PySem.Str => s.cps.toList) e
    simpa using this
  have hle := congrArg List.length e'
  rw [List.length_take, List.length_drop, hml, hnl] at hle
  refine ⟨by omega, by omega, ?_, ?_⟩
  · rw [PySem.Str.length_append]; omega
  · rw [← h4, mkGo_hit f (by rw [hml]; exact hm1) e', PySem.Str.cps_append, Array.toList_append, List.append_assoc, List.drop_drop, hml]
    have : (i + (mark.length : Int)).toNat = i.toNat + mark.length := by omega
    rw [this]
theorem mk_w2 {name mark d : PySem.Str} {f : Bool} {i : Int} (h0 : 0 ≤ i) (h3 : d.length ≤ i.toNat) (h4 : d.cps.toList ++ mkGo mark.cps.toList (name.cps.toList.drop i.toNat) f = mkGo mark.cps.toList name.cps.toList false) (h5 : i < (name.length : Int))
    (h6 : (Txt.slice name (some i) (some (i + (mark.length : Int))) == mark) = false) :
    0 ≤ i + 1 ∧ i + 1 ≤ (name.length : Int) ∧ (d ++ (⟨#[casedN ((Txt.item name i).cps.getD 0 0) f]⟩ : PySem.Str)).length ≤ (i + 1).toNat ∧ (d ++ (⟨#[casedN ((Txt.item name i).cps.getD 0 0) f]⟩ : PySem.Str)).cps.toList ++ mkGo mark.cps.toList (name.cps.toList.drop (i + 1).toNat) false = mkGo mark.cps.toList name.cps.toList false := by
  have e := ne_of_beq_false h6
  rw [slice_any h0 (by omega)] at e
  have hml : mark.cps.toList.length = mark.length := Array.length_toList
  have e' : (name.cps.toList.drop i.toNat).take mark.cps.toList.length ≠ mark.cps.toList := by
    intro h
    rw [hml] at h
    apply e
    rw [h]
  obtain ⟨c, e1, e2, _⟩ := item_at h0 h5
  rw [e1]
  rw [e2] at e'
  refine ⟨by omega, by omega, ?_, ?_⟩
  · rw [PySem.Str.length_append]; show d.length + 1 ≤ _; omega
  · rw [← h4, e2, mkGo_miss f e', app_cps, List.append_assoc]; rfl
theorem mk_e {name mark d : PySem.Str} {f : Bool} {i : Int} (h4 : d.cps.toList ++ mkGo mark.cps.toList (name.cps.toList.drop i.toNat) f = mkGo mark.cps.toList name.cps.toList false) (h5 : ¬ i < (name.length : Int)) : d = marksS name mark := by
  have e3 : name.cps.toList.drop i.toNat = [] := List.drop_eq_nil_of_le (by rw [Array.length_toList]; show name.length ≤ _; omega)
  rw [e3, mkGo_nil, List.append_nil] at h4
  exact str_of_list h4
end Mine
end

section
open PySem PySem.W PyProof PyProof.Rows
set_option maxRecDepth 100000
set_option maxHeartbeats 8000000
namespace Mine
local macro_rules | `(tactic| walk_at "call ref") => `(tactic| (k_here; (with_reducible show wpAny _ _ (call (Value.ref 73) [Value.str ⟨#[_]⟩ _, Value.bool _]) _ _ _); k_dflt (refine' use (c_cased _ _ _ _ _ _ _ _) ?k1 ?k2 ?k3 ?k4 ?k5 ?kK ?kp ?kd ?ku ?_; (case k1 => k_asm); (case k2 => k_asm); (case k3 => k_asm); (case k4 => k_asm); (case k5 => k_asm); (case kK => first | exact rfl | assumption); (case kp => first | assumption | exact asc_mid (by assumption) (by assumption)); (case kd => ktr_room); (case ku => ktr_units); k_whole); intro t9 h9 tk9 F9 N9; (try dsimp only); (try k_fold)))
theorem c_whites (w : World) (mean : ExcName → Option Value) (mg mb : PySem.Str → Option Value) (news : List (Addr × Obj)) (name : PySem.Str) (t0 : Tok) :
    Clm 2 w mean mg mb 94 news (name.length ≤ 1000 ∧ Asc name) [.str name t0] (fun t => .str (whitesS name) t) := by
  dsimp only [Clm]
  k_fill
  k_with_none
  w_top off
  intro dp un gd cn cs a ccd cl outer A₀ base h₀ L m s Q E hB hF hK hN hT hk hp hdp hun hret
  obtain ⟨hlen, hasc⟩ := hp
  refine wpAny_call ?_
  k_dflt cell_enter
  k_with "pyIter str" => k_state (fun pre due fresh => due = ⟨(ws pre).1.toArray⟩ ∧ fresh = (ws pre).2 ∧ due.length ≤ pre.length) "due" "fresh"
  k_with "state" => (first | exact ws_w0 | exact ws_w1 (by assumption) (by assumption) (by assumption) (by assumption) | exact ws_w2 (by assumption) (by assumption) (by assumption) (by assumption) (by assumption) | exact ws_w3 (by assumption) (by assumption) (by assumption) (by assumption) (by assumption))
  k_steps
  all_goals refine' cb_retS (Q := Q) hret ?_ (by k_asm) (by first | k_asm | exact cb_drop (by assumption) (fun p hp => by simp [hp]))
  all_goals (unfold whitesS; assumption)
end Mine
end

section
open PySem PySem.W PyProof PyProof.Rows
set_option maxRecDepth 100000
set_option maxHeartbeats 8000000
namespace Mine
theorem c_casedI (w : World) (mean : ExcName → Option Value) (mg mb : PySem.Str → Option Value) (news : List (Addr × Obj)) (x : PySem.Str) (i : Int) (t : Tok) (g : Bool) :
    Clm 1 w mean mg mb 73 news (Asc x ∧ 0 ≤ i ∧ i < (x.length : Int)) [.str (Txt.item x i) t, .bool g] (fun t => .str ⟨#[casedN ((Txt.item x i).cps.getD 0 0) g]⟩ t) := by
  dsimp only [Clm]
  intro dp un gd cn cs a ccd cl outer A₀ base h₀ L m s Q E hB hF hK hN hT hk hp hdp hun hret
  obtain ⟨ha, h0, h1⟩ := hp
  obtain ⟨c, e1, _, hm⟩ := item_at h0 h1
  rw [e1] at hret ⊢
  exact use (c_cased w mean mg mb news c t g) hB hF hK hN hT hk (ha c hm) hdp hun hret
local macro_rules | `(tactic| walk_at "no step 0") => `(tactic| fail "no step")
local macro_rules | `(tactic| walk_at "call ref") => `(tactic| (k_here; (with_reducible show wpAny _ _ (call (Value.ref 73) [Value.str (Txt.item _ _) _, Value.bool _]) _ _ _); k_dflt (refine' use (c_casedI _ _ _ _ _ _ _ _ _) ?k1 ?k2 ?k3 ?k4 ?k5 ?kK ?kp ?kd ?ku ?_; (case k1 => k_asm); (case k2 => k_asm); (case k3 => k_asm); (case k4 => k_asm); (case k5 => k_asm); (case kK => first | exact rfl | assumption); (case kp => exact ⟨by assumption, by assumption, by assumption⟩); (case kd => ktr_room); (case ku => ktr_units); k_whole); intro t9 h9 tk9 F9 N9; (try dsimp only); (try k_fold)))
theorem c_marks (w : World) (mean : ExcName → Option Value) (mg mb : PySem.Str → Option Value) (news : List (Addr × Obj)) (name : PySem.Str) (t0 : Tok) (mark : PySem.Str) (t1 : Tok) :
    Clm 2 w mean mg mb 87 news (name.length ≤ 1000 ∧ Asc name ∧ 1 ≤ mark.length ∧ mark.length ≤ 10) [.str name t0, .str mark t1] (fun t => .str (marksS name mark) t) := by
  dsimp only [Clm]
  k_fill
  k_with_none
  w_top off
  intro dp un gd cn cs a ccd cl outer A₀ base h₀ L m s Q E hB hF hK hN hT hk hp hdp hun hret
  obtain ⟨hlen, hasc, hm1, hm2⟩ := hp
  refine wpAny_call ?_
  k_dflt cell_enter
  k_with "exec While Compare cons nil" => k_while (fun _ due fresh place => 0 ≤ place ∧ place ≤ (name.length : Int) ∧ due.length ≤ place.toNat ∧ due.cps.toList ++ mkGo mark.cps.toList (name.cps.toList.drop place.toNat) fresh = mkGo mark.cps.toList name.cps.toList false) (fun _ _ _ place => name.length - place.toNat) "due" "fresh" "place"
  k_with "state" => (first | exact mk_w0 | exact mk_w1 (by assumption) (by assumption) (by assumption) (by assumption) (by assumption) (by assumption) | exact mk_w2 (by assumption) (by assumption) (by assumption) (by assumption) (by assumption))
  k_steps
  all_goals refine' cb_retS (Q := Q) hret ?_ (by k_asm) (by first | k_asm | exact cb_drop (by assumption) (fun p hp => by simp [hp]))
  all_goals exact mk_e (by assumption) (by assumption)
end Mine
end

section
open PySem PySem.W PyProof PyProof.Rows
set_option maxRecDepth 100000
set_option maxHeartbeats 8000000
namespace Mine
def drawnS (x : Int) : PySem.Str :=
  if x.fmod 4 = 0 then Txt.mul (Str.ofString "a") ((x.fdiv 4).fmod 4 + 1)
  else if x.fmod 4 = 1 then Txt.mul (Str.ofString "B") ((x.fdiv 4).fmod 4 + 1)
  else if x.fmod 4 = 2 then Txt.mul (Str.ofString "\"") ((x.fdiv 4).fmod 4 + 1)
  else Txt.slice (Str.ofString " \t\n ") none (some ((x.fdiv 4).fmod 4 + 1))
theorem fmod4 (x : Int) : x.fmod 4 = 0 ∨ x.fmod 4 = 1 ∨ x.fmod 4 = 2 ∨ x.fmod 4 = 3 := by
  have h1 := Int.fmod_nonneg_of_pos x (show (0 : Int) < 4 by decide)
  have h2 := Int.fmod_lt_of_pos x (show (0 : Int) < 4 by decide)
  omega
theorem drawn0 {x : Int} (h : x.fmod 4 = 0) : Txt.mul (Str.ofString "a") ((x.fdiv 4).fmod 4 + 1) = drawnS x := by
  unfold drawnS; rw [h, if_pos rfl]
theorem drawn1 {x : Int} (h : x.fmod 4 = 1) : Txt.mul (Str.ofString "B") ((x.fdiv 4).fmod 4 + 1) = drawnS x := by
  unfold drawnS; rw [h, if_neg (by decide), if_pos rfl]
theorem drawn2 {x : Int} (h : x.fmod 4 = 2) : Txt.mul (Str.ofString "\"") ((x.fdiv 4).fmod 4 + 1) = drawnS x := by
  unfold drawnS; rw [h, if_neg (by decide), if_neg (by decide), if_pos rfl]
theorem drawn3 {x : Int} (h : x.fmod 4 = 3) : Txt.slice (Str.ofString " \t\n ") none (some ((x.fdiv 4).fmod 4 + 1)) = drawnS x := by
  unfold drawnS; rw [h, if_neg (by decide), if_neg (by decide), if_neg (by decide)]
def nice (c : Nat) : Bool := c == 9 || c == 10 || (decide (32 ≤ c) && decide (c < 127))
theorem drawn_nice (x : Int) : ((drawnS x).cps.toList.all nice = true) ∧ (drawnS x).length ≤ 4 := by
  have hk := fmod4 (x.fdiv 4)
  have hx := fmod4 x
  unfold drawnS
  generalize (x.fdiv 4).fmod 4 = k at hk
  generalize x.fmod 4 = r at hx
  rcases hk with rfl | rfl | rfl | rfl <;> rcases hx with rfl | rfl | rfl | rfl <;> decide +kernel
local macro_rules | `(tactic| walk_at "no step 1") => `(tactic| fail "no step")
local macro_rules | `(tactic| walk_at "no step 0") => `(tactic| fail "no step")
local macro_rules | `(tactic| walk_at "last subscriptTail") => `(tactic| (k_here; (with_reducible show wpAny _ _ (subscriptTail _ _ (Value.ref _) (Value.int (Int.fmod _ 4) _)) _ _ _); (rcases fmod4 (by assumption) with h4 | h4 | h4 | h4 <;> rw [h4])))
theorem c_drawn (w : World) (mean : ExcName → Option Value) (mg mb : PySem.Str → Option Value) (news : List (Addr × Obj)) (x : Int) (t0 : Tok) :
    Clm 1 w mean mg mb 61 news True [.int x t0] (fun t => .str (drawnS x) t) := by
  dsimp only [Clm]
  k_fill
  k_with_none
  w_top off
  intro dp un gd cn cs a ccd cl outer A₀ base h₀ L m s Q E hB hF hK hN hT hk hp hdp hun hret
  clear hp
  refine wpAny_call ?_
  k_dflt cell_enter
  k_steps
  all_goals refine' cb_retS (Q := Q) hret ?_ (by k_asm) (by first | k_asm | exact cb_drop (by assumption) (fun p hp => by simp [hp]))
  all_goals first | exact drawn0 (by assumption) | exact drawn1 (by assumption) | exact drawn2 (by assumption) | exact drawn3 (by assumption)
end Mine
end

section
open PySem PySem.W PyProof PyProof.Rows
set_option maxRecDepth 100000
set_option maxHeartbeats 8000000
namespace Mine
abbrev Ok (x : PySem.Str) : Prop := x.length ≤ 100000 ∧ x.cps.toList.take 5 = [50, 53, 55, 32, 34]
theorem off_lt {I : Addr} {l : List (Addr × Obj)} (h : ∀ p ∈ l, p.1 < I) : ∀ p ∈ l, p.1 ≠ I := fun p hp => Nat.ne_of_lt (h p hp)
local macro_rules | `(tactic| walk_at "UnrEnd") => `(tactic| (k_here; (rename News _ _ _ _ => nE'); (refine UnrEnd.intro (by assumption) nE' _ (fun p hp => hp) (off_lt (by assumption)) ?_)))
local macro_rules | `(tactic| walk_at "call ref") => `(tactic| (k_here; (with_reducible show wpAny _ _ (call (Value.ref 54) [Value.str _ _]) _ _ _); k_dflt (refine' use (c_parse _ _ _ _ _ _ _) ?k1 ?k2 ?k3 ?k4 ?k5 ?kK ?kp ?kd ?ku ?_; (case k1 => k_asm); (case k2 => k_asm); (case k3 => k_asm); (case k4 => k_asm); (case k5 => k_asm); (case kK => first | exact rfl | assumption); (case kp => assumption); (case kd => ktr_room); (case ku => ktr_units); k_whole); intro t9 h9 tk9 F9 N9; (try dsimp only); (try k_fold)))
theorem c_peel1 (w : World) (mean : ExcName → Option Value) (mg mb : PySem.Str → Option Value) (news : List (Addr × Obj)) (x : PySem.Str) (t0 t1 : Tok) :
    Clm 2 w mean mg mb 101 news (Ok x) [.str x t0, .int 1 t1] (fun t => .str (parseS x) t) := by
  dsimp only [Clm]
  k_fill
  k_with_none
  w_top off
  intro dp un gd cn cs a ccd cl outer A₀ base h₀ L m s Q E hB hF hK hN hT hk hp hdp hun hret
  refine wpAny_call ?_
  k_dflt cell_enter
  k_steps
  all_goals exact hret _ _ _ (by k_asm) (by first | k_asm | exact cb_drop (by assumption) (fun p hp => by simp [hp]))
theorem c_peel2 (w : World) (mean : ExcName → Option Value) (mg mb : PySem.Str → Option Value) (news : List (Addr × Obj)) (x : PySem.Str) (t0 t1 : Tok) :
    Clm 2 w mean mg mb 101 news (Ok x ∧ Ok (parseS x)) [.str x t0, .int 2 t1] (fun t => .str (parseS (parseS x)) t) := by
  dsimp only [Clm]
  k_fill
  k_with_none
  w_top off
  intro dp un gd cn cs a ccd cl outer A₀ base h₀ L m s Q E hB hF hK hN hT hk hp hdp hun hret
  obtain ⟨hp1, hp2⟩ := hp
  refine wpAny_call ?_
  k_dflt cell_enter
  k_steps
  all_goals exact hret _ _ _ (by k_asm) (by first | k_asm | exact cb_drop (by assumption) (fun p hp => by simp [hp]))
theorem c_peel3 (w : World) (mean : ExcName → Option Value) (mg mb : PySem.Str → Option Value) (news : List (Addr × Obj)) (x : PySem.Str) (t0 t1 : Tok) :
    Clm 2 w mean mg mb 101 news (Ok x ∧ Ok (parseS x) ∧ Ok (parseS (parseS x))) [.str x t0, .int 3 t1] (fun t => .str (parseS (parseS (parseS x))) t) := by
  dsimp only [Clm]
  k_fill
  k_with_none
  w_top off
  intro dp un gd cn cs a ccd cl outer A₀ base h₀ L m s Q E hB hF hK hN hT hk hp hdp hun hret
  obtain ⟨hp1, hp2, hp3⟩ := hp
  refine wpAny_call ?_
  k_dflt cell_enter
  k_steps
  all_goals exact hret _ _ _ (by k_asm) (by first | k_asm | exact cb_drop (by assumption) (fun p hp => by simp [hp]))
end Mine
end

section
open PySem PySem.W PyProof PyProof.Rows PySem.Spec
set_option maxRecDepth 100000
namespace Mine
def nm0 (ns : List Int) : PySem.Str := ⟨((ns.map fun k => (drawnS k).cps.toList).flatten).toArray⟩
def nameS (ns : List Int) : PySem.Str := nm0 ns ++ Str.ofString "aB\"\"Cd  e\"F\t"
theorem nm0_len : ∀ (ns : List Int), (nm0 ns).length ≤ 4 * ns.length := by
  intro ns
  show (((ns.map fun k => (drawnS k).cps.toList).flatten).toArray).size ≤ _
  rw [List.size_toArray]
  induction ns with
  | nil => simp
  | cons k r ih =>
    have h := (drawn_nice k).2
    have e : (drawnS k).cps.toList.length = (drawnS k).length := Array.length_toList
    rw [List.map_cons, List.flatten_cons, List.length_append, List.length_cons]
    omega
theorem lit_tail : Str.ofString "aB\"\"Cd  e\"F\t" = (⟨#[97, 66, 34, 34, 67, 100, 32, 32, 101, 34, 70, 9]⟩ : PySem.Str) := by decide +kernel
theorem nameS_list (ns : List Int) : (nameS ns).cps.toList = (nm0 ns).cps.toList ++ [97, 66, 34, 34, 67, 100, 32, 32, 101, 34, 70, 9] := by
  unfold nameS; rw [lit_tail, PySem.Str.cps_append]; simp
theorem nameS_len {ns : List Int} (h : ns.length ≤ 5) : (nameS ns).length ≤ 32 := by
  have := nm0_len ns
  unfold nameS
  rw [PySem.Str.length_append, lit_tail]
  show _ + 12 ≤ _
  omega
theorem nameS_nice (ns : List Int) : (nameS ns).cps.toList.all nice = true := by
  rw [nameS_list, List.all_append, Bool.and_eq_true]
  refine ⟨?_, by decide⟩
  unfold nm0
  induction ns with
  | nil => rfl
  | cons k r ih =>
    have h := (drawn_nice k).1
    rw [List.map_cons, List.flatten_cons]
    simp only [List.all_append, Bool.and_eq_true]
    exact ⟨h, ih⟩
section
variable {prog : Program} {w : World} {A : Around} {E : Value → Shared → Prop} {s : Shared}
theorem join_drawn {D : Addr} {vs : List Value} {ns : List Int} {t : Tok} {Q : Value → Shared → Prop} (hl : s.heap.IsList D vs.toArray)
    (hc : CarriedAll vs (List.map (fun k => PyData.str (drawnS k)) ns)) (hx : ns.length ≤ 5)
    (h : ∀ t' k, Q (.str (nm0 ns) t') { s with toks := k }) : wpAny (model prog w) A (call (.builtin "str.join") [.str (Str.ofString "") t, .ref D]) Q E s := by
  have e2 : List.map (fun k => PyData.str (drawnS k)) ns = (ns.map drawnS).map PyData.str := by rw [List.map_map]; rfl
  rw [e2] at hc
  have hi := StrsAre.of_carried hc
  have hsum := sumLen_le_of_bound drawnS 4 ns fun a _ => (drawn_nice a).2
  refine join_list (ys := ns.map drawnS) hl (by simpa using hi) ?_ fun t' k => ?_
  · rw [List.length_map, lit_e]
    show _ + _ * 0 ≤ _
    omega
  · have e3 : Txt.join (Str.ofString "") (ns.map drawnS) = nm0 ns := by
      apply str_of_list
      rw [join_empty, List.map_map]; rfl
    rw [e3]
    exact h t' k
theorem add_name {ns : List Int} {t u : Tok} {Q : Value → Shared → Prop} (hx : ns.length ≤ 5) (h : ∀ t' k, (nameS ns).length ≤ 32 → Q (.str (nameS ns) t') { s with toks := k }) :
    wpAny (model prog w) A (binaryOp .Add (.str (nm0 ns) t) (.str (Str.ofString "aB\"\"Cd  e\"F\t") u)) Q E s := by
  have := nm0_len ns
  refine KOpn.add ?_ fun t' k _ => h t' k (nameS_len hx)
  rw [lit_tail]
  show _ + 12 ≤ _
  omega
theorem slice_mark {value slice : PySem.Expr} {l : Addr} {vs : List Value} {fs : List PySem.Str} {k : Int} {tk : Tok} {h₀ : Heap} {L : Addr} {m : PySem.Str → Option Value} {news : List (Addr × Obj)} {Q : Value → Shared → Prop}
    (F : Fr h₀ L s.heap m) (N : News h₀ L s.heap news) (hl : s.heap.IsList l vs.toArray) (hc : CarriedAll vs (fs.map PyData.str)) (h0 : 0 ≤ k) (hz : fs.length ≤ 1000)
    (h : ∀ D ws h', Fr h₀ L h' m → News h₀ L h' ((D, W.listOf (List.toArray ws) 0) :: news) → (∀ p ∈ news, p.1 < D) → StrsAre ws (fs.take k.toNat) → Q (.ref D) { s with heap := h' })
    (hs : subscripted slice false (.ref l) (.ref s.heap.objs.size) = operate [.ref s.heap.objs.size, .ref l] (getItem (.ref l) (.ref s.heap.objs.size))) :
    wpAny (model prog w) A (subscriptTail value slice (.ref l) (.ref s.heap.objs.size)) Q E { s with heap := s.heap.push { cls := .type "slice", data := .fields #[.none, .int k tk, .none] } } := by
  have hi := StrsAre.of_carried hc
  have hlen := hi.length
  obtain ⟨n, rfl⟩ := Int.eq_ofNat_of_zero_le h0
  refine kba_turn (value' := PySem.Expr.Name (PySem.Str.ofString "_") ⟨0, 0, 0, 0⟩) (fun _ => rfl) ?_
  refine kmk_slice F N hl .none (.int _ _) (fun D h' F' N' l1 => ?_) hs (fun _ => rfl) (by rw [List.size_toArray, PySem.sizeLine_eq, hlen]; omega)
  rw [slicePick_upto'] at N'
  refine h D (vs.take n) h' F' N' l1 ?_
  show StrsAre _ (fs.take ((n : Int).toNat))
  rw [Int.toNat_natCast]
  have tk : ∀ {vs : List Value} {ys : List PySem.Str} (n : Nat), StrsAre vs ys → StrsAre (vs.take n) (ys.take n) := by
    intro vs ys n h
    induction h generalizing n with
    | nil => simp; exact .nil
    | cons y t _ ih =>
      cases n with
      | zero => simp; exact .nil
      | succ n => simp only [List.take_succ_cons]; exact .cons y t (ih n)
  exact tk n hi
end
/-- the mark without quotation marks: the first one or two other signs -/
def markS (x : PySem.Str) (k : Int) : PySem.Str := ⟨((x.cps.toList.filter (fun c => c ≠ 34)).take k.toNat).toArray⟩
theorem sign_ne (c : Nat) : ((⟨#[c]⟩ : PySem.Str) != Str.ofString "\"") = decide (c ≠ 34) := by
  rw [lit_q]
  by_cases h : c = 34
  · subst h; decide +kernel
  · simp [h, bne]
theorem filt_signs (x : PySem.Str) : (List.filter (fun a => a != Str.ofString "\"") (signs x)) = (x.cps.toList.filter (fun c => c ≠ 34)).map fun n => (⟨#[n]⟩ : PySem.Str) := by
  unfold signs
  rw [List.filter_map]
  congr 1
  apply List.filter_congr
  intro c _
  exact sign_ne c
theorem flat_ones : ∀ l : List Nat, ((l.map fun n => (⟨#[n]⟩ : PySem.Str)).map fun y => y.cps.toList).flatten = l
  | [] => rfl
  | c :: r => by rw [List.map_cons, List.map_cons, List.flatten_cons, flat_ones r]; rfl
section
variable {prog : Program} {w : World} {A : Around} {E : Value → Shared → Prop} {s : Shared}
theorem filt_len (x : PySem.Str) : (List.filter (fun a => a != Str.ofString "\"") (signs x)).length ≤ x.length := by
  have := List.length_filter_le (fun a => a != Str.ofString "\"") (signs x)
  rw [signs_length] at this
  exact this
theorem join_mark {D : Addr} {vs : List Value} {x : PySem.Str} {k : Int} {t : Tok} {Q : Value → Shared → Prop} (hl : s.heap.IsList D vs.toArray)
    (hc : StrsAre vs ((List.filter (fun a => a != Str.ofString "\"") (signs x)).take k.toNat)) (hx : x.length ≤ 32)
    (h : ∀ t' j, Q (.str (markS x k) t') { s with toks := j }) : wpAny (model prog w) A (call (.builtin "str.join") [.str (Str.ofString "") t, .ref D]) Q E s := by
  have hone : ∀ a ∈ (List.filter (fun a => a != Str.ofString "\"") (signs x)).take k.toNat, a.length = 1 := fun a ha => sign_length_one x a (List.mem_filter.mp (List.mem_of_mem_take ha)).1
  have hsum := sumLen_of_ones _ hone
  have hlen : ((List.filter (fun a => a != Str.ofString "\"") (signs x)).take k.toNat).length ≤ x.length := by
    rw [List.length_take]; have := filt_len x; omega
  refine join_list hl (by simpa using hc) ?_ fun t' j => ?_
  · rw [lit_e]
    show _ + _ * 0 ≤ _
    omega
  · have e3 : Txt.join (Str.ofString "") ((List.filter (fun a => a != Str.ofString "\"") (signs x)).take k.toNat) = markS x k := by
      apply str_of_list
      rw [join_empty, filt_signs, ← List.map_take, flat_ones]
    rw [e3]
    exact h t' j
end
end Mine
end

section
open PySem PySem.W PyProof PyProof.Rows PySem.Spec
set_option maxRecDepth 100000
namespace Mine
abbrev sizeZ (ns : List Int) : Int := (ns.sum + 3).fmod 9 + 1
abbrev qS (ns : List Int) : PySem.Str := Txt.mul (Str.ofString "\"") (sizeZ ns)
abbrev mS (ns : List Int) : PySem.Str := markS (nameS ns) ((sizeZ ns).fmod 2 + 1)
noncomputable abbrev R1 (ns : List Int) : PySem.Str := replyS (nameS ns) (Str.ofString "")
noncomputable abbrev R2 (ns : List Int) : PySem.Str := replyS (R1 ns) (Str.ofString " \"Y")
noncomputable abbrev R3 (ns : List Int) : PySem.Str := replyS (R2 ns) (Str.ofString " \"Y")
structure AllFacts (ns : List Int) : Prop where
  r1 : (nameS ns).length ≤ 100000 ∧ (Str.ofString "").length ≤ 10
  r2 : (R1 ns).length ≤ 100000 ∧ (Str.ofString " \"Y").length ≤ 10
  r3 : (R2 ns).length ≤ 100000 ∧ (Str.ofString " \"Y").length ≤ 10
  r4 : (R3 ns).length ≤ 100000 ∧ (Str.ofString " \"Y").length ≤ 10
  mks : (nameS ns).length ≤ 1000 ∧ Asc (nameS ns) ∧ 1 ≤ (mS ns).length ∧ (mS ns).length ≤ 10
  qs : (qS ns).length ≤ 10 ∧ 1 ≤ (qS ns).length
  sz : 1 ≤ sizeZ ns ∧ sizeZ ns ≤ 9
  oq1 : Ok (capS (R1 ns) (qS ns))
  oq2 : Ok (capS (R2 ns) (qS ns)) ∧ Ok (parseS (capS (R2 ns) (qS ns)))
  oq3 : Ok (capS (R3 ns) (qS ns)) ∧ Ok (parseS (capS (R3 ns) (qS ns))) ∧ Ok (parseS (parseS (capS (R3 ns) (qS ns))))
  om1 : Ok (capS (R1 ns) (mS ns))
  om2 : Ok (capS (R2 ns) (mS ns)) ∧ Ok (parseS (capS (R2 ns) (mS ns)))
  om3 : Ok (capS (R3 ns) (mS ns)) ∧ Ok (parseS (capS (R3 ns) (mS ns))) ∧ Ok (parseS (parseS (capS (R3 ns) (mS ns))))
  ow1 : Ok (capW (R1 ns))
  ow2 : Ok (capW (R2 ns)) ∧ Ok (parseS (capW (R2 ns)))
  ow3 : Ok (capW (R3 ns)) ∧ Ok (parseS (capW (R3 ns))) ∧ Ok (parseS (parseS (capW (R3 ns))))
  eq1 : parseS (capS (R1 ns) (qS ns)) = bqS (nameS ns) 1 (sizeZ ns)
  eq2 : parseS (parseS (capS (R2 ns) (qS ns))) = bqS (nameS ns) 2 (sizeZ ns)
  eq3 : parseS (parseS (parseS (capS (R3 ns) (qS ns)))) = bqS (nameS ns) 3 (sizeZ ns)
  em1 : parseS (capS (R1 ns) (mS ns)) = marksS (nameS ns) (mS ns)
  em2 : parseS (parseS (capS (R2 ns) (mS ns))) = marksS (nameS ns) (mS ns)
  em3 : parseS (parseS (parseS (capS (R3 ns) (mS ns)))) = marksS (nameS ns) (mS ns)
  ew1 : parseS (capW (R1 ns)) = whitesS (nameS ns)
  ew2 : parseS (parseS (capW (R2 ns))) = whitesS (nameS ns)
  ew3 : parseS (parseS (parseS (capW (R3 ns)))) = whitesS (nameS ns)
theorem c_bq1 (w : World) (mean : ExcName → Option Value) (mg mb : PySem.Str → Option Value) (news : List (Addr × Obj)) (name : PySem.Str) (t0 : Tok) (t1 : Tok) (size : Int) (t2 : Tok) :
    Clm 2 w mean mg mb 80 news (name.length ≤ 1000 ∧ Asc name ∧ 1 ≤ size ∧ size ≤ 9) [.str name t0, .int 1 t1, .int size t2] (fun t => .str (bqS name 1 size) t) := by
  dsimp only [Clm]
  intro dp un gd cn cs a ccd cl outer A₀ base h₀ L m s Q E hB hF hK hN hT hk hp hdp hun hret
  exact use (c_bq w mean mg mb news name t0 1 t1 size t2) hB hF hK hN hT hk ⟨hp.1, hp.2.1, by decide, by decide, hp.2.2.1, hp.2.2.2⟩ hdp hun hret
theorem c_bq2 (w : World) (mean : ExcName → Option Value) (mg mb : PySem.Str → Option Value) (news : List (Addr × Obj)) (name : PySem.Str) (t0 : Tok) (t1 : Tok) (size : Int) (t2 : Tok) :
    Clm 2 w mean mg mb 80 news (name.length ≤ 1000 ∧ Asc name ∧ 1 ≤ size ∧ size ≤ 9) [.str name t0, .int 2 t1, .int size t2] (fun t => .str (bqS name 2 size) t) := by
  dsimp only [Clm]
  intro dp un gd cn cs a ccd cl outer A₀ base h₀ L m s Q E hB hF hK hN hT hk hp hdp hun hret
  exact use (c_bq w mean mg mb news name t0 2 t1 size t2) hB hF hK hN hT hk ⟨hp.1, hp.2.1, by decide, by decide, hp.2.2.1, hp.2.2.2⟩ hdp hun hret
theorem c_bq3 (w : World) (mean : ExcName → Option Value) (mg mb : PySem.Str → Option Value) (news : List (Addr × Obj)) (name : PySem.Str) (t0 : Tok) (t1 : Tok) (size : Int) (t2 : Tok) :
    Clm 2 w mean mg mb 80 news (name.length ≤ 1000 ∧ Asc name ∧ 1 ≤ size ∧ size ≤ 9) [.str name t0, .int 3 t1, .int size t2] (fun t => .str (bqS name 3 size) t) := by
  dsimp only [Clm]
  intro dp un gd cn cs a ccd cl outer A₀ base h₀ L m s Q E hB hF hK hN hT hk hp hdp hun hret
  exact use (c_bq w mean mg mb news name t0 3 t1 size t2) hB hF hK hN hT hk ⟨hp.1, hp.2.1, by decide, by decide, hp.2.2.1, hp.2.2.2⟩ hdp hun hret
theorem ne_same {prog : Program} {w : World} {A : Around} {E : Value → Shared → Prop} {s : Shared} {x y : PySem.Str} {t u : Tok} {Q : Value → Shared → Prop} (e : x = y) (h : Q (.bool false) s) :
    wpAny (model prog w) A (compareOp .NotEq (.str x t) (.str y u)) Q E s := by
  refine ne_str ?_
  have : (x.cps.toList != y.cps.toList) = false := by rw [e]; simp
  first
    | (rw [this]; exact h)
    | (have h2 : (x != y) = false := by rw [e]; simp
       rw [h2]; exact h)
end Mine
end

section
open PySem PySem.W PyProof PyProof.Rows
set_option maxRecDepth 100000
namespace Mine
theorem title_asc : ∀ c, c < 128 → Unicode.titleOf c = [casedN c true] := by decide +kernel
theorem lower_asc : ∀ c, c < 128 → Unicode.lowerOf c = [casedN c false] := by decide +kernel
/-- str.capitalize of signs below 128 -/
def capL : List Nat → List Nat
  | [] => []
  | c :: r => casedN c true :: r.map fun c => casedN c false
theorem lowerAt_asc {a : Array Nat} {i c : Nat} (h : a[i]? = some c) (hc : c < 128) : Unicode.lowerAt a i = [casedN c false] := by
  unfold Unicode.lowerAt
  rw [h]
  have : (c == 0x3A3) = false := by simp; omega
  simp only [this, Bool.false_and, Bool.false_eq_true, if_false]
  exact lower_asc c hc
theorem flat_single {l : List Nat} (f : Nat → Nat → List Nat) (g : Nat → Nat → Nat) (h : ∀ i c, l[i]? = some c → f i c = [g i c]) : (l.mapIdx f).flatten = l.mapIdx g := by
  induction l generalizing f g with
  | nil => rfl
  | cons c r ih =>
    rw [List.mapIdx_cons, List.mapIdx_cons, List.flatten_cons, h 0 c rfl]
    have := ih (fun i => f (i + 1)) (fun i => g (i + 1)) fun i c hc => h (i + 1) c (by simpa using hc)
    rw [this]
    rfl
theorem capitalize_asc {x : PySem.Str} (h : Asc x) : (Txt.capitalize x).cps.toList = capL x.cps.toList := by
  unfold Txt.capitalize
  by_cases h0 : x.length = 0
  · rw [if_pos (by simp [h0])]
    have : x.cps.toList = [] := by
      apply List.eq_nil_of_length_eq_zero
      rw [Array.length_toList]; exact h0
    rw [this]; rfl
  · rw [if_neg (by simp [h0])]
    have key := flat_single (l := x.cps.toList) (fun i c => if i == 0 then Unicode.titleOf c else Unicode.lowerAt x.cps i) (fun i c => casedN c (i == 0)) ?_
    · have e : (Txt.capitalized x).cps.toList = (x.cps.toList.mapIdx fun i c => if i == 0 then Unicode.titleOf c else Unicode.lowerAt x.cps i).flatten := by
        unfold Txt.capitalized placed
        show ((x.cps.mapIdx fun i c => ((if i == 0 then Unicode.titleOf c else Unicode.lowerAt x.cps i)).toArray).flatten).toList = _
        rw [Array.toList_flatten, Array.toList_mapIdx]
        congr 1
        apply List.ext_getElem?
        intro k
        simp only [List.getElem?_map, List.getElem?_mapIdx]
        cases x.cps.toList[k]? <;> rfl
      rw [e, key]
      cases x.cps.toList with
      | nil => rfl
      | cons c r =>
        rw [List.mapIdx_cons, capL]
        congr 1
        apply List.ext_getElem?
        intro k
        simp only [List.getElem?_map, List.getElem?_mapIdx]
        cases r[k]? <;> rfl
    · intro i c hc
      have hm : c ∈ x.cps.toList := List.mem_of_getElem? hc
      have hc' : x.cps[i]? = some c := by rw [← Array.getElem?_toList]; exact hc
      by_cases hi : i = 0
      · subst hi; simp [title_asc c (h c hm)]
      · have hb : (i == 0) = false := by simp [hi]
        simp only [hb, Bool.false_eq_true, if_false]
        exact lowerAt_asc hc' (h c hm)
end Mine
end

section
open PySem PySem.W PyProof PyProof.Rows
set_option maxRecDepth 100000
namespace Mine
/-- no mark: the first sign by the flag, the others small -/
def capF (f : Bool) : List Nat → List Nat
  | [] => []
  | c :: r => casedN c f :: r.map fun c => casedN c false
theorem capF_true (l : List Nat) : capF true l = capL l := by cases l <;> rfl
theorem capF_false (l : List Nat) : capF false l = l.map fun c => casedN c false := by cases l <;> rfl
theorem mkGo_upto {Y : List Nat} (hw : 1 ≤ Y.length) : ∀ (p q : List Nat) (f : Bool), (∀ k, k < p.length → ((p ++ q).drop k).take Y.length ≠ Y) → q.take Y.length = Y →
    mkGo Y (p ++ q) f = capF f p ++ (Y ++ mkGo Y (q.drop Y.length) true)
  | [], q, f, _, hq => by
    rw [List.nil_append, mkGo_hit f hw hq]; rfl
  | c :: r, q, f, hn, hq => by
    have h0 := hn 0 (by simp)
    rw [List.drop_zero, List.cons_append] at h0
    have ih := mkGo_upto hw r q false (fun k hk => by
      have := hn (k + 1) (by simp; omega)
      simpa using this) hq
    show mkGo Y (c :: (r ++ q)) f = _
    rw [mkGo_miss f h0, ih, capF_false]
    rfl
theorem mkGo_free {Y : List Nat} (hw : 1 ≤ Y.length) : ∀ (l : List Nat) (f : Bool), (∀ k, (l.drop k).take Y.length ≠ Y) → mkGo Y l f = capF f l
  | [], f, _ => by rw [mkGo_nil]; rfl
  | c :: r, f, hn => by
    have h0 := hn 0
    rw [List.drop_zero] at h0
    have ih := mkGo_free hw r false fun k => by
      have := hn (k + 1)
      simpa using this
    rw [mkGo_miss f h0, ih, capF_false]
    rfl
theorem at_iff {x y : PySem.Str} (hw : 1 ≤ y.length) (i : Nat) : StrLaws.At x y x.length i ↔ (x.cps.toList.drop i).take y.cps.toList.length = y.cps.toList := by
  have hl : y.cps.toList.length = y.length := Array.length_toList
  have hx : x.cps.toList.length = x.length := Array.length_toList
  unfold StrLaws.At
  rw [StrLaws.subAt_eq, beq_iff_eq, hl]
  constructor
  · exact fun h => h.2
  · intro h
    refine ⟨?_, h⟩
    have := congrArg List.length h
    rw [List.length_take, List.length_drop, hl, hx] at this
    omega
theorem asc_sub {x : PySem.Str} (h : Asc x) (i j : Nat) : Asc (Builtin.Str.strSub x i j) := by
  intro c hc
  rw [StrLaws.strSub_toList] at hc
  exact h c (List.mem_of_mem_drop (List.mem_of_mem_take hc))
theorem join_cons2 (y a : PySem.Str) {rest : List PySem.Str} (hr : rest ≠ []) : (Str.join y (a :: rest)).cps.toList = a.cps.toList ++ (y.cps.toList ++ (Str.join y rest).cps.toList) := by
  cases rest with
  | nil => exact absurd rfl hr
  | cons b r =>
    rw [Str.join, PySem.Str.cps_append, PySem.Str.cps_append, Array.toList_append, Array.toList_append, List.append_assoc]
    intro h; cases h
theorem parts_go {x y : PySem.Str} (hx : Asc x) (hw : 1 ≤ y.length) : ∀ (cuts : List Nat) (a f : Nat), StrLaws.ChainG x y x.length a cuts f → (∀ k, f ≤ k → ¬ StrLaws.At x y x.length k) →
    (Str.join y ((StrLaws.partsFrom x y.length a cuts).map Txt.capitalize)).cps.toList = mkGo y.cps.toList (x.cps.toList.drop a) true
  | [], a, f, h, hn => by
    have e : f = a := h
    subst e
    have hxl : x.cps.toList.length = x.length := Array.length_toList
    show (Txt.capitalize (Builtin.Str.strSub x f x.length)).cps.toList = _
    rw [capitalize_asc (asc_sub hx _ _), StrLaws.strSub_toList, List.take_of_length_le (by rw [List.length_drop]; omega)]
    rw [mkGo_free (by rw [Array.length_toList]; exact hw) _ _ fun k hk => ?_, capF_true]
    rw [List.drop_drop] at hk
    exact hn (f + k) (by omega) ((at_iff hw _).mpr hk)
  | c :: r, a, f, h, hn => by
    obtain ⟨h1, h2, h3, h4⟩ := h
    have ih := parts_go hx hw r _ f h4 hn
    have hyl : y.cps.toList.length = y.length := Array.length_toList
    show (Str.join y (Txt.capitalize (Builtin.Str.strSub x a c) :: (StrLaws.partsFrom x y.length (c + y.length) r).map Txt.capitalize)).cps.toList = _
    have hne : (StrLaws.partsFrom x y.length (c + y.length) r).map Txt.capitalize ≠ [] := by
      obtain ⟨p, q, e⟩ := StrLaws.partsFrom_ne x y.length (c + y.length) r
      rw [e]; simp
    rw [join_cons2 _ _ hne, ih, capitalize_asc (asc_sub hx _ _), StrLaws.strSub_toList]
    have hcut : x.cps.toList.drop a = (x.cps.toList.drop a).take (c - a) ++ x.cps.toList.drop c := by
      have := (List.take_append_drop (c - a) (x.cps.toList.drop a)).symm
      rw [List.drop_drop] at this
      have e : a + (c - a) = c := by omega
      rw [e] at this
      exact this
    have hq := (at_iff hw c).mp h2
    rw [hcut, mkGo_upto (by omega) _ _ true ?_ hq, capF_true, List.drop_drop, hyl]
    · have e : (List.take (c - a) (List.take (c - a) (List.drop a x.cps.toList) ++ List.drop c x.cps.toList)) = List.take (c - a) (List.drop a x.cps.toList) := by rw [← hcut]
      rw [e]
    · intro k hk
      rw [← hcut, List.drop_drop]
      have hk' : k < c - a := by
        rw [List.length_take] at hk; omega
      intro he
      exact h3 (a + k) (by omega) (by omega) ((at_iff hw _).mpr he)
theorem kind1 {x : PySem.Str} (h : Asc x) : Builtin.Str.strKind x = 1 := by
  unfold Builtin.Str.strKind
  rw [if_pos]
  rw [← Array.all_toList, List.all_eq_true]
  intro c hc
  have := h c hc
  simp; omega
theorem cap_go {x y : PySem.Str} (hx : Asc x) (hy : Asc y) (hw : 1 ≤ y.length) : (Str.join y ((Txt.split x y).map Txt.capitalize)).cps.toList = mkGo y.cps.toList x.cps.toList true := by
  have one : (∀ k, ¬ StrLaws.At x y x.length k) → (Str.join y ([x].map Txt.capitalize)).cps.toList = mkGo y.cps.toList x.cps.toList true := by
    intro hn
    show (Txt.capitalize x).cps.toList = _
    rw [capitalize_asc hx, mkGo_free (by rw [Array.length_toList]; exact hw) _ _ fun k hk => hn k ((at_iff hw k).mpr hk), capF_true]
  obtain ⟨f, hc, hn⟩ := StrLaws.occ_tight x y hw
  unfold Txt.split
  split
  · rename_i h
    rw [kind1 hx, kind1 hy, Bool.or_eq_true, decide_eq_true_eq, decide_eq_true_eq] at h
    refine one fun k hk => ?_
    have := hk.1
    omega
  · split
    · rename_i _ h
      have e := List.isEmpty_iff.mp h
      rw [e] at hc
      have e0 : f = 0 := hc
      subst e0
      exact one fun k => hn k (Nat.zero_le _)
    · rw [StrLaws.partsBetween_eq]
      have := parts_go hx hw _ 0 f hc hn
      rw [List.drop_zero] at this
      exact this
end Mine
end

section
open PySem PySem.W PyProof PyProof.Rows
set_option maxRecDepth 100000
namespace Mine
/-- white signs: a run is one blank; a letter behind is great -/
noncomputable def wG : List Nat → Bool → List Nat
  | [], _ => []
  | c :: r, f => if isW c = true then (if f = true then wG r true else 32 :: wG r true) else casedN c f :: wG r false
theorem space_nice : ∀ c, c < 128 → nice c = true → Unicode.isSpace c = isW c := by decide +kernel
theorem nice_lt {c : Nat} (h : nice c = true) : c < 128 := by
  unfold nice at h
  simp at h
  omega
theorem space_of {c : Nat} (h : nice c = true) : Unicode.isSpace c = isW c := space_nice c (nice_lt h) h
def preW (ws : List PySem.Str) : List Nat := (ws.map fun w => (Txt.capitalize w).cps.toList ++ [32]).flatten
theorem join_pre (ws : List PySem.Str) (r : PySem.Str) : (Str.join ⟨#[32]⟩ ((ws ++ [r]).map Txt.capitalize)).cps.toList = preW ws ++ (Txt.capitalize r).cps.toList := by
  induction ws with
  | nil => rfl
  | cons a ws ih =>
    have hne : (ws ++ [r]).map Txt.capitalize ≠ [] := by simp
    show (Str.join ⟨#[32]⟩ (Txt.capitalize a :: (ws ++ [r]).map Txt.capitalize)).cps.toList = _
    rw [join_cons2 _ _ hne, ih]
    simp [preW]
theorem preW_snoc (ws : List PySem.Str) (r : PySem.Str) : preW (ws ++ [r]) = preW ws ++ ((Txt.capitalize r).cps.toList ++ [32]) := by
  simp [preW]
theorem capL_snoc {l : List Nat} (c : Nat) (h : l ≠ []) : capL (l ++ [c]) = capL l ++ [casedN c false] := by
  cases l with
  | nil => exact absurd rfl h
  | cons a r => simp [capL]
theorem asc_snoc {r : PySem.Str} {c : Nat} (h : Asc r) (hc : c < 128) : Asc (r ++ ⟨#[c]⟩) := by
  intro d hd
  rw [app_cps] at hd
  rcases List.mem_append.mp hd with hd | hd
  · exact h d hd
  · rw [List.mem_singleton.mp hd]; exact hc
theorem words_go : ∀ (l : List Nat) (ws : List PySem.Str) (r : PySem.Str), Asc r → (∀ c ∈ l, nice c = true) → (l = [] → r.length ≠ 0) → (∀ h : l ≠ [], isW (l.getLast h) = false) →
    (Str.join ⟨#[32]⟩ ((KWd.fin (l.foldl KWd.step (ws, r))).map Txt.capitalize)).cps.toList = preW ws ++ (if r.length = 0 then wG l true else capL r.cps.toList ++ wG l false)
  | [], ws, r, ha, _, h1, _ => by
    have h0 := h1 rfl
    show (Str.join ⟨#[32]⟩ ((KWd.fin (ws, r)).map Txt.capitalize)).cps.toList = _
    unfold KWd.fin
    rw [if_neg h0, if_neg h0, join_pre, capitalize_asc ha]
    simp [wG]
  | c :: l, ws, r, ha, hn, _, h2 => by
    have hc := hn c (by simp)
    have hl := nice_lt hc
    have hn' : ∀ d ∈ l, nice d = true := fun d hd => hn d (by simp [hd])
    rw [List.foldl_cons]
    by_cases hw : isW c = true
    · have hne : l ≠ [] := by
        intro e
        subst e
        have := h2 (by simp)
        simp at this
        rw [this] at hw; exact absurd hw (by decide)
      have h2' : ∀ h : l ≠ [], isW (l.getLast h) = false := by
        intro h
        have := h2 (by simp)
        rwa [List.getLast_cons h] at this
      by_cases h0 : r.length = 0
      · have e : KWd.step (ws, r) c = (ws, r) := by
          unfold KWd.step
          rw [space_of hc, if_pos hw]
          exact if_pos h0
        rw [e, words_go l ws r ha hn' (fun e => absurd e hne) h2', if_pos h0, if_pos h0, wG, if_pos hw, if_pos rfl]
      · have e : KWd.step (ws, r) c = (ws ++ [r], Str.empty) := by
          unfold KWd.step
          rw [space_of hc, if_pos hw]
          exact if_neg h0
        rw [e, words_go l (ws ++ [r]) Str.empty (by intro d hd; simp [Str.empty] at hd) hn' (fun e => absurd e hne) h2', if_pos (show Str.empty.length = 0 from rfl), if_neg h0, preW_snoc, capitalize_asc ha, wG, if_pos hw, if_neg (by decide)]
        simp
    · have hw' : isW c = false := by simpa using hw
      have e : KWd.step (ws, r) c = (ws, r ++ ⟨#[c]⟩) := by
        unfold KWd.step
        rw [space_of hc, if_neg hw]
      have hlen : (r ++ (⟨#[c]⟩ : PySem.Str)).length ≠ 0 := by
        rw [PySem.Str.length_append]; show r.length + 1 ≠ 0; omega
      have h2' : ∀ h : l ≠ [], isW (l.getLast h) = false := by
        intro h
        have := h2 (by simp)
        rwa [List.getLast_cons h] at this
      rw [e, words_go l ws (r ++ ⟨#[c]⟩) (asc_snoc ha hl) hn' (fun _ => hlen) h2', if_neg hlen, app_cps]
      by_cases h0 : r.length = 0
      · have er : r.cps.toList = [] := by
          apply List.eq_nil_of_length_eq_zero
          rw [Array.length_toList]; exact h0
        rw [if_pos h0, er, wG, if_neg hw]
        rfl
      · have er : r.cps.toList ≠ [] := by
          intro e
          apply h0
          have := congrArg List.length e
          rw [Array.length_toList] at this
          exact this
        rw [if_neg h0, capL_snoc c er, wG, if_neg hw]
        simp
theorem capW_go {x : PySem.Str} (hn : ∀ c ∈ x.cps.toList, nice c = true) (h0 : x.cps.toList ≠ []) (h1 : isW (x.cps.toList.getLast h0) = false) :
    (Txt.join (Str.ofString " ") ((Txt.words x).map Txt.capitalize)).cps.toList = wG x.cps.toList true := by
  show (Builtin.Str.glued (Str.ofString " ") _).cps.toList = _
  rw [StrLaws.glued_eq_join, lit_s, KWd.words_scan]
  unfold KWd.scan
  rw [words_go x.cps.toList [] Str.empty (by intro d hd; simp [Str.empty] at hd) hn (fun e => absurd e h0) (fun _ => h1), if_pos (show Str.empty.length = 0 from rfl)]
  rfl
end Mine
end

section
open PySem PySem.W PyProof PyProof.Rows
set_option maxRecDepth 100000
namespace Mine
noncomputable def replyL (n tl : List Nat) : List Nat := [50, 53, 55, 32, 34] ++ dbl n ++ [34] ++ tl
theorem replyL_eq (n tl : List Nat) : replyL n tl = 50 :: 53 :: 55 :: 32 :: 34 :: (dbl n ++ 34 :: tl) := by simp [replyL]
theorem replyS_list (x y : PySem.Str) : (replyS x y).cps.toList = replyL x.cps.toList y.cps.toList := by simp [replyS, replyL]
def Tl (tl : List Nat) : Prop := tl = [] ∨ tl = [32, 34, 89]
def Shape (u m : List Nat) : Prop := ∃ r, r.head? ≠ some 34 ∧ u = 50 :: 53 :: 55 :: 32 :: 34 :: (dbl m ++ 34 :: r)
theorem undq_dbl : ∀ (m r : List Nat), r.head? ≠ some 34 → undq (dbl m ++ 34 :: r) = m
  | [], r, h => by
    cases r with
    | nil => exact undq_q1
    | cons d r => exact undq_qn r fun e => h (by rw [e]; rfl)
  | c :: m, r, h => by
    have ih := undq_dbl m r h
    by_cases hc : c = 34
    · subst hc
      rw [dbl, if_pos rfl]
      show undq (34 :: 34 :: (dbl m ++ 34 :: r)) = _
      rw [undq_qq, ih]
    · rw [dbl, if_neg hc]
      show undq (c :: (dbl m ++ 34 :: r)) = _
      rw [undq_ne hc, ih]
theorem shape_parse {x : PySem.Str} {m : List Nat} (h : Shape x.cps.toList m) : parseS x = ⟨m.toArray⟩ := by
  obtain ⟨r, hr, e⟩ := h
  unfold parseS
  rw [e]
  show PySem.Str.mk (undq (dbl m ++ 34 :: r)).toArray = _
  rw [undq_dbl m r hr]
theorem shape_take {u m : List Nat} (h : Shape u m) : u.take 5 = [50, 53, 55, 32, 34] := by
  obtain ⟨r, _, e⟩ := h
  rw [e]; rfl
theorem cased34 (f : Bool) : casedN 34 f = 34 := by cases f <;> rfl
theorem cased32 (f : Bool) : casedN 32 f = 32 := by cases f <;> rfl
theorem cased50 (f : Bool) : casedN 50 f = 50 := by cases f <;> rfl
theorem cased53 (f : Bool) : casedN 53 f = 53 := by cases f <;> rfl
theorem cased55 (f : Bool) : casedN 55 f = 55 := by cases f <;> rfl
theorem cased_ne {c : Nat} (f : Bool) (h : c ≠ 34) : casedN c f ≠ 34 := by
  unfold casedN
  split <;> split <;> omega
theorem dbl_cons_ne {c : Nat} (l : List Nat) (h : c ≠ 34) : dbl (c :: l) = c :: dbl l := by rw [dbl, if_neg h]
theorem dbl_cons_q (l : List Nat) : dbl (34 :: l) = 34 :: 34 :: dbl l := by rw [dbl, if_pos rfl]
/-! a mark without quotation marks -/
theorem miss34 {Y : List Nat} (hw : 1 ≤ Y.length) (hY : 34 ∉ Y) (r : List Nat) (f : Bool) : mkGo Y (34 :: r) f = 34 :: mkGo Y r false := by
  rw [mkGo_miss, cased34]
  intro h
  apply hY
  rw [← h]
  cases hl : Y.length with
  | zero => omega
  | succ n => simp
theorem take_dbl : ∀ (k : Nat) (n r : List Nat), 34 ∉ (dbl n ++ 34 :: r).take k → k ≤ (dbl n ++ 34 :: r).length → (dbl n ++ 34 :: r).take k = n.take k ∧ k ≤ n.length ∧ (dbl n ++ 34 :: r).drop k = dbl (n.drop k) ++ 34 :: r
  | 0, n, r, _, _ => by simp
  | k + 1, [], r, h, _ => by simp [dbl] at h
  | k + 1, c :: n, r, h, hk => by
    by_cases hc : c = 34
    · subst hc
      rw [dbl_cons_q] at h
      simp at h
    · rw [dbl_cons_ne n hc] at h hk ⊢
      simp only [List.cons_append, List.take_succ_cons, List.drop_succ_cons, List.length_cons, List.mem_cons, not_or] at h hk ⊢
      obtain ⟨a, b, d⟩ := take_dbl k n r h.2 (by omega)
      exact ⟨by rw [a], by omega, d⟩
theorem dbl_app : ∀ (p n : List Nat), dbl (p ++ n) = dbl p ++ dbl n
  | [], n => rfl
  | c :: p, n => by
    by_cases hc : c = 34
    · subst hc
      rw [List.cons_append, dbl_cons_q, dbl_cons_q, dbl_app p n]; rfl
    · rw [List.cons_append, dbl_cons_ne _ hc, dbl_cons_ne _ hc, dbl_app p n]; rfl
theorem dbl_free : ∀ (p : List Nat), 34 ∉ p → dbl p = p
  | [], _ => rfl
  | c :: p, h => by
    simp only [List.mem_cons, not_or] at h
    rw [dbl_cons_ne p (Ne.symm h.1), dbl_free p h.2]
theorem mk_dbl {Y : List Nat} (hw : 1 ≤ Y.length) (hY : 34 ∉ Y) : ∀ (j : Nat) (n r : List Nat) (f : Bool), n.length ≤ j → mkGo Y (dbl n ++ 34 :: r) f = dbl (mkGo Y n f) ++ 34 :: mkGo Y r false
  | _, [], r, f, _ => by
    rw [mkGo_nil]
    exact miss34 hw hY r f
  | 0, c :: n, r, f, h => by simp at h
  | j + 1, c :: n, r, f, h => by
    simp only [List.length_cons] at h
    by_cases hit : (c :: n).take Y.length = Y
    · have e : c :: n = Y ++ (c :: n).drop Y.length := by
        have := (List.take_append_drop Y.length (c :: n)).symm
        rw [hit] at this
        exact this
      have hd : dbl (c :: n) = Y ++ dbl ((c :: n).drop Y.length) := by
        have := congrArg dbl e
        rw [dbl_app, dbl_free Y hY] at this
        exact this
      have ht : (dbl (c :: n) ++ 34 :: r).take Y.length = Y := by
        rw [hd, List.append_assoc, List.take_left' rfl]
      have hdr : (dbl (c :: n) ++ 34 :: r).drop Y.length = dbl ((c :: n).drop Y.length) ++ 34 :: r := by
        rw [hd, List.append_assoc, List.drop_left' rfl]
      rw [mkGo_hit f hw ht, mkGo_hit f hw hit, hdr, mk_dbl hw hY j ((c :: n).drop Y.length) r true (by rw [List.length_drop, List.length_cons]; omega), dbl_app, dbl_free Y hY, List.append_assoc]
    · by_cases hc : c = 34
      · subst hc
        rw [dbl_cons_q]
        show mkGo Y (34 :: 34 :: (dbl n ++ 34 :: r)) f = _
        rw [miss34 hw hY, miss34 hw hY, miss34 hw hY, dbl_cons_q, mk_dbl hw hY j n r false (by omega)]
        rfl
      · have hm : (c :: (dbl n ++ 34 :: r)).take Y.length ≠ Y := by
          intro ht
          have ht' : (dbl (c :: n) ++ 34 :: r).take Y.length = Y := by rw [dbl_cons_ne n hc]; exact ht
          have hlen : Y.length ≤ (dbl (c :: n) ++ 34 :: r).length := by
            have := congrArg List.length ht'
            rw [List.length_take] at this
            omega
          have := (take_dbl Y.length (c :: n) r (by rw [ht']; exact hY) hlen).1
          rw [ht'] at this
          exact hit this.symm
        rw [dbl_cons_ne n hc]
        show mkGo Y (c :: (dbl n ++ 34 :: r)) f = _
        rw [mkGo_miss f hm, mkGo_miss f hit, dbl_cons_ne _ (cased_ne f hc), mk_dbl hw hY j n r false (by omega)]
        rfl
/-- signs without case ahead of a quotation mark stay as they are -/
theorem mk_pre {Y : List Nat} (hw : 1 ≤ Y.length) (hY : 34 ∉ Y) : ∀ (j : Nat) (p X : List Nat) (f : Bool), p.length ≤ j → (∀ c ∈ p, c ≠ 34 ∧ ∀ g, casedN c g = c) → mkGo Y (p ++ 34 :: X) f = p ++ 34 :: mkGo Y X false
  | _, [], X, f, _, _ => miss34 hw hY X f
  | 0, c :: p, X, f, h, _ => by simp at h
  | j + 1, c :: p, X, f, h, hp => by
    simp only [List.length_cons] at h
    by_cases hit : ((c :: p) ++ 34 :: X).take Y.length = Y
    · have hle : Y.length ≤ (c :: p).length := by
        apply Decidable.byContradiction
        intro hn
        have : 34 ∈ ((c :: p) ++ 34 :: X).take Y.length := by
          rw [List.take_append]
          have e : Y.length - (c :: p).length = (Y.length - (c :: p).length - 1) + 1 := by omega
          rw [e]
          simp
        rw [hit] at this
        exact hY this
      have e1 : (c :: p).take Y.length = Y := by
        rw [List.take_append_of_le_length hle] at hit
        exact hit
      have e2 : ((c :: p) ++ 34 :: X).drop Y.length = (c :: p).drop Y.length ++ 34 :: X := List.drop_append_of_le_length hle
      rw [mkGo_hit f hw hit, e2, mk_pre hw hY j ((c :: p).drop Y.length) X true (by rw [List.length_drop, List.length_cons]; omega) (fun d hd => hp d (List.mem_of_mem_drop hd)), ← List.append_assoc]
      have e3 := List.take_append_drop Y.length (c :: p)
      rw [e1] at e3
      rw [e3]
    · rw [List.cons_append] at hit ⊢
      rw [mkGo_miss f hit, mk_pre hw hY j p X false (by omega) (fun d hd => hp d (by simp [hd])), (hp c (by simp)).2]
      rfl
theorem head_mk {Y : List Nat} (tl : List Nat) (f : Bool) (h : Tl tl) (hY : 34 ∉ Y) (hw : 1 ≤ Y.length) : (mkGo Y tl f).head? ≠ some 34 := by
  rcases h with rfl | rfl
  · rw [mkGo_nil]; simp
  · by_cases hit : [32, 34, 89].take Y.length = Y
    · rw [mkGo_hit f hw hit]
      intro e
      apply hY
      cases Y with
      | nil => simp at hw
      | cons a b => simp at e; rw [e]; simp
    · rw [mkGo_miss f hit, cased32]; simp
theorem shapeM {Y : List Nat} (hw : 1 ≤ Y.length) (hY : 34 ∉ Y) (n tl : List Nat) (f : Bool) (h : Tl tl) : Shape (mkGo Y (replyL n tl) f) (mkGo Y n false) := by
  refine ⟨mkGo Y tl false, head_mk tl false h hY hw, ?_⟩
  rw [replyL_eq]
  have := mk_pre hw hY 4 [50, 53, 55, 32] (dbl n ++ 34 :: tl) f (by simp) (by
    intro c hc
    simp at hc
    rcases hc with rfl | rfl | rfl | rfl
    · exact ⟨by decide, cased50⟩
    · exact ⟨by decide, cased53⟩
    · exact ⟨by decide, cased55⟩
    · exact ⟨by decide, cased32⟩)
  show mkGo Y ([50, 53, 55, 32] ++ 34 :: (dbl n ++ 34 :: tl)) f = _
  rw [this, mk_dbl hw hY n.length n tl false (Nat.le_refl _)]
  rfl
/-! white signs -/
theorem wG_dbl : ∀ (n r : List Nat) (f : Bool), wG (dbl n ++ 34 :: r) f = dbl (wG n f) ++ 34 :: wG r false
  | [], r, f => by
    show wG (34 :: r) f = 34 :: wG r false
    rw [wG, if_neg (by decide), cased34]
  | c :: n, r, f => by
    by_cases hc : c = 34
    · subst hc
      rw [dbl_cons_q]
      show wG (34 :: 34 :: (dbl n ++ 34 :: r)) f = _
      rw [wG, if_neg (by decide), cased34, wG, if_neg (by decide), cased34, wG_dbl n r false, wG, if_neg (by decide), cased34, dbl_cons_q]
      rfl
    · rw [dbl_cons_ne n hc]
      show wG (c :: (dbl n ++ 34 :: r)) f = _
      by_cases hw : isW c = true
      · rw [wG, if_pos hw, wG, if_pos hw]
        cases f with
        | true => rw [if_pos rfl, if_pos rfl]; exact wG_dbl n r true
        | false => rw [if_neg (by decide), if_neg (by decide), wG_dbl n r true, dbl_cons_ne _ (by decide)]; rfl
      · rw [wG, if_neg hw, wG, if_neg hw, dbl_cons_ne _ (cased_ne f hc), wG_dbl n r false]
        rfl
theorem shapeW (n tl : List Nat) (f : Bool) (h : Tl tl) : Shape (wG (replyL n tl) f) (wG n false) := by
  refine ⟨wG tl false, ?_, ?_⟩
  · rcases h with rfl | rfl <;> decide
  · rw [replyL_eq, wG, if_neg (by decide), wG, if_neg (by decide), wG, if_neg (by decide), wG, if_pos (by decide), if_neg (by decide), wG, if_neg (by decide), wG_dbl]
    rw [cased50, cased53, cased55, cased34]
/-! quotation marks: each one weighs w -/
noncomputable def qW (t w : Nat) : List Nat → Nat → List Nat
  | [], _ => []
  | c :: r, q => if c = 34 then 34 :: qW t w r (q + w) else casedN c (decide (0 < q) && decide (q % t = 0)) :: qW t w r 0
theorem qW_dbl (t w : Nat) : ∀ (n r : List Nat) (q : Nat), ∃ q', qW t w (dbl n ++ 34 :: r) q = dbl (qW t (2 * w) n q) ++ 34 :: qW t w r q'
  | [], r, q => ⟨q + w, by simp [dbl, qW]⟩
  | c :: n, r, q => by
    by_cases hc : c = 34
    · subst hc
      obtain ⟨q', e⟩ := qW_dbl t w n r (q + w + w)
      refine ⟨q', ?_⟩
      rw [dbl_cons_q]
      show qW t w (34 :: 34 :: (dbl n ++ 34 :: r)) q = _
      rw [qW, if_pos rfl, qW, if_pos rfl, e, qW, if_pos rfl, dbl_cons_q]
      have : q + w + w = q + 2 * w := by omega
      rw [this]
      rfl
    · obtain ⟨q', e⟩ := qW_dbl t w n r 0
      refine ⟨q', ?_⟩
      rw [dbl_cons_ne n hc]
      show qW t w (c :: (dbl n ++ 34 :: r)) q = _
      rw [qW, if_neg hc, e, qW, if_neg hc, dbl_cons_ne _ (cased_ne _ hc)]
      rfl
theorem shapeQ (t w : Nat) (n tl : List Nat) (q : Nat) (h : Tl tl) : Shape (qW t w (replyL n tl) q) (qW t (2 * w) n w) := by
  obtain ⟨q', e⟩ := qW_dbl t w n tl (0 + w)
  refine ⟨qW t w tl q', ?_, ?_⟩
  · rcases h with rfl | rfl
    · simp [qW]
    · rw [qW, if_neg (by decide), cased32]; simp
  · rw [replyL_eq, qW, if_neg (by decide), qW, if_neg (by decide), qW, if_neg (by decide), qW, if_neg (by decide), qW, if_pos rfl, e]
    rw [cased50, cased53, cased55, cased32, Nat.zero_add]
theorem qW_rep (t w : Nat) (l : List Nat) : ∀ (j q : Nat), qW t w (List.replicate j 34 ++ l) q = List.replicate j 34 ++ qW t w l (q + j * w)
  | 0, q => by simp
  | j + 1, q => by
    rw [List.replicate_succ, List.cons_append, qW, if_pos rfl, qW_rep t w l j (q + w)]
    have : q + w + j * w = q + (j + 1) * w := by rw [Nat.add_mul]; omega
    rw [this]
    rfl
theorem run34 : ∀ (l : List Nat), ∃ j l', l = List.replicate j 34 ++ l' ∧ l'.head? ≠ some 34
  | [] => ⟨0, [], rfl, by simp⟩
  | c :: r => by
    by_cases hc : c = 34
    · subst hc
      obtain ⟨j, l', e, h⟩ := run34 r
      exact ⟨j + 1, l', by rw [e]; rfl, h⟩
    · exact ⟨0, c :: r, rfl, by simpa using hc⟩
theorem take_rep {t j : Nat} {l' : List Nat} (h : l'.head? ≠ some 34) : (List.replicate j 34 ++ l').take t = List.replicate t 34 ↔ t ≤ j := by
  constructor
  · intro e
    apply Decidable.byContradiction
    intro hn
    have hlt : j < t := by omega
    have h1 : ((List.replicate j 34 ++ l').take t)[j]? = some 34 := by
      rw [e, List.getElem?_replicate, if_pos hlt]
    rw [List.getElem?_take_of_lt hlt, List.getElem?_append_right (by simp)] at h1
    simp only [List.length_replicate, Nat.sub_self] at h1
    apply h
    rw [List.head?_eq_getElem?]
    exact h1
  · intro hle
    rw [List.take_append_of_le_length (by simpa using hle), List.take_replicate, Nat.min_eq_left hle]
theorem mk_rep_short {t : Nat} {l' : List Nat} (h : l'.head? ≠ some 34) : ∀ (j : Nat) (f : Bool), j < t → 1 ≤ j → mkGo (List.replicate t 34) (List.replicate j 34 ++ l') f = List.replicate j 34 ++ mkGo (List.replicate t 34) l' false
  | 0, _, _, h1 => by omega
  | j + 1, f, hj, _ => by
    have hm : ¬ ((List.replicate (j + 1) 34 ++ l').take (List.replicate t 34).length = List.replicate t 34) := by
      rw [List.length_replicate, take_rep h]; omega
    rw [List.replicate_succ, List.cons_append] at hm ⊢
    rw [mkGo_miss f hm, cased34]
    by_cases h0 : j = 0
    · subst h0; rfl
    · rw [mk_rep_short h j false (by omega) (by omega)]
      rfl
theorem mkGo_q {t : Nat} (ht : 1 ≤ t) : ∀ (b : Nat) (l : List Nat) (q : Nat), l.length ≤ b → q % t = 0 → mkGo (List.replicate t 34) l (decide (0 < q)) = qW t 1 l q
  | _, [], q, _, _ => by rw [mkGo_nil, qW]
  | 0, c :: l, q, h, _ => by simp at h
  | b + 1, c :: l, q, hb, hq => by
    simp only [List.length_cons] at hb
    have hne : ∀ (c : Nat) (l : List Nat) (f : Bool), c ≠ 34 → mkGo (List.replicate t 34) (c :: l) f = casedN c f :: mkGo (List.replicate t 34) l false := by
      intro c l f hc
      refine mkGo_miss f ?_
      intro e
      have : t = (t - 1) + 1 := by omega
      rw [List.length_replicate, this, List.replicate_succ, List.take_succ_cons] at e
      exact hc (List.cons.inj e).1
    by_cases hc : c = 34
    · obtain ⟨j, l', e, h⟩ := run34 (c :: l)
      have hj : 1 ≤ j := by
        cases j with
        | zero =>
          exfalso
          apply h
          have e' : c :: l = l' := e
          rw [← e', hc]; rfl
        | succ j => omega
      have hlen := congrArg List.length e
      simp only [List.length_cons, List.length_append, List.length_replicate] at hlen
      by_cases htj : t ≤ j
      · have hit : (List.replicate j 34 ++ l').take (List.replicate t 34).length = List.replicate t 34 := by
          rw [List.length_replicate]; exact (take_rep h).mpr htj
        have hs : List.replicate j 34 ++ l' = List.replicate t 34 ++ (List.replicate (j - t) 34 ++ l') := by
          rw [← List.append_assoc, List.replicate_append_replicate]
          have : t + (j - t) = j := by omega
          rw [this]
        have hdr : (List.replicate j 34 ++ l').drop (List.replicate t 34).length = List.replicate (j - t) 34 ++ l' := by
          rw [hs, List.drop_left' rfl]
        have ih := mkGo_q ht b (List.replicate (j - t) 34 ++ l') (q + t) (by simp; omega) (by rw [Nat.add_mod_right]; exact hq)
        have hpos : decide (0 < q + t) = true := by simp; omega
        rw [hpos] at ih
        rw [e, mkGo_hit _ (by simpa using ht) hit, hdr, ih, hs, qW_rep t 1 (List.replicate (j - t) 34 ++ l') t q, Nat.mul_one]
      · rw [e, mk_rep_short h j _ (by omega) hj, qW_rep, Nat.mul_one]
        congr 1
        cases l' with
        | nil => rw [mkGo_nil, qW]
        | cons d r =>
          have hd : d ≠ 34 := by simpa using h
          have hnd : ¬ (q + j) % t = 0 := by
            rw [Nat.add_mod, hq, Nat.zero_add, Nat.mod_mod, Nat.mod_eq_of_lt (by omega)]
            omega
          have ih := mkGo_q ht b r 0 (by simp only [List.length_cons] at hlen; omega) (Nat.zero_mod t)
          rw [hne d r false hd, qW, if_neg hd]
          have e1 : (decide (0 < q + j) && decide ((q + j) % t = 0)) = false := by simp [hnd]
          rw [e1]
          have e2 : decide ((0 : Nat) < 0) = false := by decide
          rw [e2] at ih
          rw [ih]
    · have ih := mkGo_q ht b l 0 (by omega) (Nat.zero_mod t)
      have e2 : decide ((0 : Nat) < 0) = false := by decide
      rw [e2] at ih
      rw [hne c l _ hc, qW, if_neg hc, ih]
      have e1 : (decide (0 < q) && decide (q % t = 0)) = decide (0 < q) := by simp [hq]
      rw [e1]
theorem mkGo_q0 {t : Nat} (ht : 1 ≤ t) (n tl : List Nat) : mkGo (List.replicate t 34) (replyL n tl) true = qW t 1 (replyL n tl) 0 := by
  have h := mkGo_q ht (replyL n tl).length (replyL n tl) 0 (Nat.le_refl _) (Nat.zero_mod t)
  have e2 : decide ((0 : Nat) < 0) = false := by decide
  rw [e2] at h
  rw [← h, replyL_eq]
  have hm : ¬ ((50 :: 53 :: 55 :: 32 :: 34 :: (dbl n ++ 34 :: tl)).take (List.replicate t 34).length = List.replicate t 34) := by
    intro e
    have : t = (t - 1) + 1 := by omega
    rw [List.length_replicate, this, List.replicate_succ, List.take_succ_cons] at e
    exact absurd (List.cons.inj e).1 (by decide)
  rw [mkGo_miss true hm, mkGo_miss false hm, cased50, cased50]
end Mine
end

section
open PySem PySem.W PyProof PyProof.Rows
set_option maxRecDepth 100000
namespace Mine
theorem mkGo_len {Y : List Nat} (hw : 1 ≤ Y.length) : ∀ (b : Nat) (l : List Nat) (f : Bool), l.length ≤ b → (mkGo Y l f).length ≤ l.length
  | _, [], f, _ => by rw [mkGo_nil]; exact Nat.le_refl _
  | 0, c :: l, f, h => by simp at h
  | b + 1, c :: l, f, h => by
    simp only [List.length_cons] at h
    by_cases hit : (c :: l).take Y.length = Y
    · have ih := mkGo_len hw b ((c :: l).drop Y.length) true (by rw [List.length_drop, List.length_cons]; omega)
      have hl := congrArg List.length hit
      rw [List.length_take] at hl
      rw [mkGo_hit f hw hit, List.length_append]
      rw [List.length_drop] at ih
      omega
    · have ih := mkGo_len hw b l false (by omega)
      rw [mkGo_miss f hit, List.length_cons, List.length_cons]
      omega
theorem wG_len : ∀ (l : List Nat) (f : Bool), (wG l f).length ≤ l.length
  | [], f => by simp [wG]
  | c :: r, f => by
    have h1 := wG_len r true
    have h2 := wG_len r false
    rw [wG]
    split
    · split
      · simp; omega
      · simp; omega
    · simp; omega
theorem qW_len (t w : Nat) : ∀ (l : List Nat) (q : Nat), (qW t w l q).length ≤ l.length
  | [], q => by simp [qW]
  | c :: r, q => by
    rw [qW]
    split
    · have := qW_len t w r (q + w); simp; omega
    · have := qW_len t w r 0; simp; omega
theorem replyL_len (n tl : List Nat) : (replyL n tl).length ≤ 6 + 2 * n.length + tl.length := by
  have := dbl_len n
  rw [replyL_eq]
  simp; omega
theorem dbl_mem : ∀ {n : List Nat} {c : Nat}, c ∈ dbl n → c ∈ n
  | [], c, h => by simp [dbl] at h
  | d :: n, c, h => by
    by_cases hd : d = 34
    · subst hd
      rw [dbl_cons_q] at h
      simp only [List.mem_cons] at h ⊢
      rcases h with h | h | h
      · exact .inl h
      · exact .inl h
      · exact .inr (dbl_mem h)
    · rw [dbl_cons_ne n hd] at h
      simp only [List.mem_cons] at h ⊢
      rcases h with h | h
      · exact .inl h
      · exact .inr (dbl_mem h)
theorem replyL_nice {n tl : List Nat} (hn : ∀ c ∈ n, nice c = true) (ht : Tl tl) : ∀ c ∈ replyL n tl, nice c = true := by
  intro c hc
  rw [replyL_eq] at hc
  simp only [List.mem_cons, List.mem_append] at hc
  rcases hc with rfl | rfl | rfl | rfl | rfl | h | rfl | h
  · decide
  · decide
  · decide
  · decide
  · decide
  · exact hn c (dbl_mem h)
  · decide
  · rcases ht with rfl | rfl
    · simp at h
    · simp at h
      rcases h with rfl | rfl | rfl <;> decide
theorem replyL_ne (n tl : List Nat) : replyL n tl ≠ [] := by rw [replyL_eq]; simp
theorem last_of {l : List Nat} {a : Nat} (h : l ≠ []) (e : ∃ p, l = p ++ [a]) : l.getLast h = a := by
  obtain ⟨p, rfl⟩ := e
  simp
theorem replyL_last {n tl : List Nat} (ht : Tl tl) (h : replyL n tl ≠ []) : isW ((replyL n tl).getLast h) = false := by
  rcases ht with rfl | rfl
  · have := last_of (a := 34) h ⟨[50, 53, 55, 32, 34] ++ dbl n, by simp [replyL]⟩
    rw [this]; rfl
  · have := last_of (a := 89) h ⟨[50, 53, 55, 32, 34] ++ dbl n ++ [34, 32, 34], by simp [replyL]⟩
    rw [this]; rfl
theorem asc_nice {x : PySem.Str} (h : ∀ c ∈ x.cps.toList, nice c = true) : Asc x := fun c hc => nice_lt (h c hc)
theorem capS_list {x y : PySem.Str} (hx : ∀ c ∈ x.cps.toList, nice c = true) (hy : Asc y) (hw : 1 ≤ y.length) : (capS x y).cps.toList = mkGo y.cps.toList x.cps.toList true := by
  unfold capS
  show (Builtin.Str.glued y _).cps.toList = _
  rw [StrLaws.glued_eq_join]
  exact cap_go (asc_nice hx) hy hw
/-! what the helpers reckon, as plain functions -/
theorem ws_fold : ∀ (l acc : List Nat) (f : Bool), ((l.map fun (c : Nat) => (c : Int)).foldl wsF (acc, f)).1 = acc ++ wG l f
  | [], acc, f => by simp [wG]
  | c :: r, acc, f => by
    rw [List.map_cons, List.foldl_cons, wG]
    by_cases hw : isW c = true
    · have hn : ¬ (isW (c : Int).toNat = false) := by rw [Int.toNat_natCast, hw]; decide
      unfold wsF
      rw [if_neg hn, if_pos hw]
      cases f with
      | true =>
        simp only [Bool.true_eq_false, if_false, if_true]
        exact ws_fold r acc true
      | false =>
        simp only [if_true, Bool.false_eq_true, if_false]
        have := ws_fold r (acc ++ [32]) true
        rw [List.append_assoc] at this
        exact this
    · have hn : isW (c : Int).toNat = false := by rw [Int.toNat_natCast]; simpa using hw
      unfold wsF
      rw [if_pos hn, if_neg hw, Int.toNat_natCast]
      have := ws_fold r (acc ++ [casedN c f]) false
      rw [List.append_assoc] at this
      exact this
theorem whites_eq (x : PySem.Str) : whitesS x = ⟨(wG x.cps.toList false).toArray⟩ := by
  unfold whitesS ws KStt.codes
  rw [ws_fold]
  rfl
theorem fmod_flag (q t : Nat) : (Int.fmod (q : Int) (t : Int) == 0) = decide (q % t = 0) := by
  rw [Int.fmod_eq_emod_of_nonneg _ (by omega)]
  rw [Bool.eq_iff_iff]
  simp only [beq_iff_eq, decide_eq_true_eq]
  omega
theorem bq_fold (deep : Int) (t w : Nat) (hw : (2 : Int) ^ deep.toNat = (w : Int)) : ∀ (l acc : List Nat) (q : Nat), ((l.map fun (c : Nat) => (c : Int)).foldl (bqF deep (t : Int)) (acc, (q : Int))).1 = acc ++ qW t w l q
  | [], acc, q => by simp [qW]
  | c :: r, acc, q => by
    rw [List.map_cons, List.foldl_cons, qW]
    by_cases hc : c = 34
    · subst hc
      unfold bqF
      rw [if_pos (show ((34 : Nat) : Int) = 34 from rfl), if_pos rfl]
      have := bq_fold deep t w hw r (acc ++ [34]) (q + w)
      rw [List.append_assoc] at this
      have e : ((q + w : Nat) : Int) = (q : Int) + 2 ^ deep.toNat := by rw [hw]; omega
      rw [e] at this
      exact this
    · have hn : ¬ ((c : Int) = 34) := by omega
      unfold bqF
      rw [if_neg hn, if_neg hc, Int.toNat_natCast, fmod_flag]
      have e0 : decide (0 < (q : Int)) = decide (0 < q) := by simp
      rw [e0]
      have := bq_fold deep t w hw r (acc ++ [casedN c (decide (0 < q) && decide (q % t = 0))]) 0
      rw [List.append_assoc] at this
      exact this
theorem bq_eq (x : PySem.Str) (deep : Int) (t w q : Nat) (hw : (2 : Int) ^ deep.toNat = (w : Int)) (hq : (2 : Int) ^ (deep - 1).toNat = (q : Int)) : bqS x deep (t : Int) = ⟨(qW t w x.cps.toList q).toArray⟩ := by
  unfold bqS bq KStt.codes
  rw [hq, bq_fold deep t w hw]
  rfl
theorem mul_q : ∀ t : Nat, t < 10 → 1 ≤ t → (Txt.mul (Str.ofString "\"") (t : Int)).cps.toList = List.replicate t 34 := by decide +kernel
end Mine
end

section
open PySem PySem.W PyProof PyProof.Rows
set_option maxRecDepth 100000
namespace Mine
theorem lit_Y : Str.ofString " \"Y" = (⟨#[32, 34, 89]⟩ : PySem.Str) := by decide +kernel
theorem str_len (x : PySem.Str) : x.length = x.cps.toList.length := Array.length_toList.symm
theorem ok_of {x : PySem.Str} {L m : List Nat} (e : x.cps.toList = L) (hs : Shape L m) (hl : L.length ≤ 100000) : Ok x ∧ parseS x = ⟨m.toArray⟩ := by
  subst e
  exact ⟨⟨by rw [str_len]; exact hl, shape_take hs⟩, shape_parse hs⟩
theorem okM {Y : List Nat} (hw : 1 ≤ Y.length) (hY : 34 ∉ Y) {x : PySem.Str} {n tl : List Nat} {f : Bool} (ht : Tl tl) (e : x.cps.toList = mkGo Y (replyL n tl) f) (hb : (replyL n tl).length ≤ 100000) : Ok x ∧ parseS x = ⟨(mkGo Y n false).toArray⟩ :=
  ok_of e (shapeM hw hY n tl f ht) (Nat.le_trans (mkGo_len hw _ _ f (Nat.le_refl _)) hb)
theorem okW {x : PySem.Str} {n tl : List Nat} {f : Bool} (ht : Tl tl) (e : x.cps.toList = wG (replyL n tl) f) (hb : (replyL n tl).length ≤ 100000) : Ok x ∧ parseS x = ⟨(wG n false).toArray⟩ :=
  ok_of e (shapeW n tl f ht) (Nat.le_trans (wG_len _ f) hb)
theorem okQ {x : PySem.Str} {n tl : List Nat} {t w q : Nat} (ht : Tl tl) (e : x.cps.toList = qW t w (replyL n tl) q) (hb : (replyL n tl).length ≤ 100000) : Ok x ∧ parseS x = ⟨(qW t (2 * w) n w).toArray⟩ :=
  ok_of e (shapeQ t w n tl q ht) (Nat.le_trans (qW_len t w _ q) hb)
theorem size_nat (s : Int) : ∃ t : Nat, (s + 3).fmod 9 + 1 = (t : Int) ∧ 1 ≤ t ∧ t ≤ 9 := by
  have h1 := Int.fmod_nonneg_of_pos (s + 3) (show (0 : Int) < 9 by decide)
  have h2 := Int.fmod_lt_of_pos (s + 3) (show (0 : Int) < 9 by decide)
  exact ⟨((s + 3).fmod 9 + 1).toNat, by omega, by omega, by omega⟩
theorem mark_len {ns : List Int} (z : Int) : 1 ≤ (markS (nameS ns) (z.fmod 2 + 1)).length ∧ (markS (nameS ns) (z.fmod 2 + 1)).length ≤ 10 := by
  have h1 := Int.fmod_nonneg_of_pos z (show (0 : Int) < 2 by decide)
  have h2 := Int.fmod_lt_of_pos z (show (0 : Int) < 2 by decide)
  have e : (markS (nameS ns) (z.fmod 2 + 1)).length = min (z.fmod 2 + 1).toNat ((nameS ns).cps.toList.filter (fun c => c ≠ 34)).length := by
    rw [str_len]
    unfold markS
    simp [List.length_take]
  have e2 : 2 ≤ ((nameS ns).cps.toList.filter (fun c => c ≠ 34)).length := by
    rw [nameS_list, List.filter_append, List.length_append]
    have : (List.filter (fun c => decide (c ≠ 34)) [97, 66, 34, 34, 67, 100, 32, 32, 101, 34, 70, 9]).length = 9 := by decide
    rw [this]; omega
  rw [e]
  omega
theorem mark_mem {x : PySem.Str} {k : Int} {c : Nat} (h : c ∈ (markS x k).cps.toList) : c ∈ x.cps.toList ∧ c ≠ 34 := by
  unfold markS at h
  have h' := List.mem_filter.mp (List.mem_of_mem_take (by simpa using h))
  exact ⟨h'.1, by simpa using h'.2⟩
theorem facts_all (ns : List Int) (h5 : ns.length ≤ 5) : AllFacts ns := by
  have hlen := nameS_len h5
  have hnice : ∀ c ∈ (nameS ns).cps.toList, nice c = true := List.all_eq_true.mp (nameS_nice ns)
  have hasc : Asc (nameS ns) := asc_nice hnice
  have hT0 : Tl [] := .inl rfl
  have hT1 : Tl [32, 34, 89] := .inr rfl
  have l1 : (R1 ns).cps.toList = replyL (nameS ns).cps.toList [] := by rw [replyS_list, lit_e]
  have l2 : (R2 ns).cps.toList = replyL (replyL (nameS ns).cps.toList []) [32, 34, 89] := by rw [replyS_list, l1, lit_Y]
  have l3 : (R3 ns).cps.toList = replyL (replyL (replyL (nameS ns).cps.toList []) [32, 34, 89]) [32, 34, 89] := by rw [replyS_list, l2, lit_Y]
  have hn : (nameS ns).cps.toList.length ≤ 32 := by rw [← str_len]; exact hlen
  generalize hN : (nameS ns).cps.toList = n at l1 l2 l3 hn hnice
  have b1 : (replyL n []).length ≤ 70 := by have := replyL_len n []; simp at this; omega
  have b2 : (replyL (replyL n []) [32, 34, 89]).length ≤ 149 := by have := replyL_len (replyL n []) [32, 34, 89]; simp at this; omega
  have b3 : (replyL (replyL (replyL n []) [32, 34, 89]) [32, 34, 89]).length ≤ 307 := by have := replyL_len (replyL (replyL n []) [32, 34, 89]) [32, 34, 89]; simp at this; omega
  have n1 := replyL_nice hnice hT0
  have n2 := replyL_nice n1 hT1
  have n3 := replyL_nice n2 hT1
  obtain ⟨t, ht, ht1, ht9⟩ := size_nat ns.sum
  have hsz : sizeZ ns = (t : Int) := ht
  have hq : (qS ns).cps.toList = List.replicate t 34 := by
    show (Txt.mul (Str.ofString "\"") (sizeZ ns)).cps.toList = _
    rw [hsz]; exact mul_q t (by omega) ht1
  have hql : (qS ns).length = t := by rw [str_len, hq, List.length_replicate]
  have hqa : Asc (qS ns) := by
    intro c hc
    rw [hq] at hc
    rw [List.eq_of_mem_replicate hc]; decide
  have hml := mark_len (ns := ns) (sizeZ ns)
  have hma : Asc (mS ns) := fun c hc => hasc c (mark_mem hc).1
  have hm34 : 34 ∉ (mS ns).cps.toList := fun h => (mark_mem h).2 rfl
  have hmw : 1 ≤ (mS ns).cps.toList.length := by rw [← str_len]; exact hml.1
  -- quotation marks
  have q1 : (capS (R1 ns) (qS ns)).cps.toList = qW t 1 (replyL n []) 0 := by
    rw [capS_list (by rw [l1]; exact n1) hqa (by omega), l1, hq, mkGo_q0 ht1]
  have q2 : (capS (R2 ns) (qS ns)).cps.toList = qW t 1 (replyL (replyL n []) [32, 34, 89]) 0 := by
    rw [capS_list (by rw [l2]; exact n2) hqa (by omega), l2, hq, mkGo_q0 ht1]
  have q3 : (capS (R3 ns) (qS ns)).cps.toList = qW t 1 (replyL (replyL (replyL n []) [32, 34, 89]) [32, 34, 89]) 0 := by
    rw [capS_list (by rw [l3]; exact n3) hqa (by omega), l3, hq, mkGo_q0 ht1]
  have Q1 := okQ hT0 q1 (by omega)
  have Q2 := okQ hT1 q2 (by omega)
  have Q2' := okQ (x := parseS (capS (R2 ns) (qS ns))) hT0 (by rw [Q2.2]) (by omega)
  have Q3 := okQ hT1 q3 (by omega)
  have Q3' := okQ (x := parseS (capS (R3 ns) (qS ns))) hT1 (by rw [Q3.2]) (by omega)
  have Q3'' := okQ (x := parseS (parseS (capS (R3 ns) (qS ns)))) hT0 (by rw [Q3'.2]) (by omega)
  -- a mark without them
  have m1 : (capS (R1 ns) (mS ns)).cps.toList = mkGo (mS ns).cps.toList (replyL n []) true := by
    rw [capS_list (by rw [l1]; exact n1) hma hml.1, l1]
  have m2 : (capS (R2 ns) (mS ns)).cps.toList = mkGo (mS ns).cps.toList (replyL (replyL n []) [32, 34, 89]) true := by
    rw [capS_list (by rw [l2]; exact n2) hma hml.1, l2]
  have m3 : (capS (R3 ns) (mS ns)).cps.toList = mkGo (mS ns).cps.toList (replyL (replyL (replyL n []) [32, 34, 89]) [32, 34, 89]) true := by
    rw [capS_list (by rw [l3]; exact n3) hma hml.1, l3]
  have M1 := okM hmw hm34 hT0 m1 (by omega)
  have M2 := okM hmw hm34 hT1 m2 (by omega)
  have M2' := okM (x := parseS (capS (R2 ns) (mS ns))) (f := false) hmw hm34 hT0 (by rw [M2.2]) (by omega)
  have M3 := okM hmw hm34 hT1 m3 (by omega)
  have M3' := okM (x := parseS (capS (R3 ns) (mS ns))) (f := false) hmw hm34 hT1 (by rw [M3.2]) (by omega)
  have M3'' := okM (x := parseS (parseS (capS (R3 ns) (mS ns)))) (f := false) hmw hm34 hT0 (by rw [M3'.2]) (by omega)
  -- white signs
  have w1 : (capW (R1 ns)).cps.toList = wG (replyL n []) true := by
    have := capW_go (x := R1 ns) (by rw [l1]; exact n1) (by rw [l1]; exact replyL_ne _ _) (by simp only [l1]; exact replyL_last hT0 _)
    rw [l1] at this
    exact this
  have w2 : (capW (R2 ns)).cps.toList = wG (replyL (replyL n []) [32, 34, 89]) true := by
    have := capW_go (x := R2 ns) (by rw [l2]; exact n2) (by rw [l2]; exact replyL_ne _ _) (by simp only [l2]; exact replyL_last hT1 _)
    rw [l2] at this
    exact this
  have w3 : (capW (R3 ns)).cps.toList = wG (replyL (replyL (replyL n []) [32, 34, 89]) [32, 34, 89]) true := by
    have := capW_go (x := R3 ns) (by rw [l3]; exact n3) (by rw [l3]; exact replyL_ne _ _) (by simp only [l3]; exact replyL_last hT1 _)
    rw [l3] at this
    exact this
  have W1 := okW hT0 w1 (by omega)
  have W2 := okW hT1 w2 (by omega)
  have W2' := okW (x := parseS (capW (R2 ns))) (f := false) hT0 (by rw [W2.2]) (by omega)
  have W3 := okW hT1 w3 (by omega)
  have W3' := okW (x := parseS (capW (R3 ns))) (f := false) hT1 (by rw [W3.2]) (by omega)
  have W3'' := okW (x := parseS (parseS (capW (R3 ns)))) (f := false) hT0 (by rw [W3'.2]) (by omega)
  have le : (Str.ofString "").length ≤ 10 := by decide +kernel
  have lY : (Str.ofString " \"Y").length ≤ 10 := by decide +kernel
  have s1 : (R1 ns).length ≤ 100000 := by rw [str_len, l1]; omega
  have s2 : (R2 ns).length ≤ 100000 := by rw [str_len, l2]; omega
  have s3 : (R3 ns).length ≤ 100000 := by rw [str_len, l3]; omega
  refine {
    r1 := ⟨by omega, le⟩, r2 := ⟨s1, lY⟩, r3 := ⟨s2, lY⟩, r4 := ⟨s3, lY⟩
    mks := ⟨by omega, hasc, hml⟩
    qs := ⟨by omega, by omega⟩
    sz := ⟨by omega, by omega⟩
    oq1 := Q1.1, oq2 := ⟨Q2.1, Q2'.1⟩, oq3 := ⟨Q3.1, Q3'.1, Q3''.1⟩
    om1 := M1.1, om2 := ⟨M2.1, M2'.1⟩, om3 := ⟨M3.1, M3'.1, M3''.1⟩
    ow1 := W1.1, ow2 := ⟨W2.1, W2'.1⟩, ow3 := ⟨W3.1, W3'.1, W3''.1⟩
    eq1 := ?_, eq2 := ?_, eq3 := ?_, em1 := ?_, em2 := ?_, em3 := ?_, ew1 := ?_, ew2 := ?_, ew3 := ?_ }
  · rw [Q1.2, hsz, bq_eq (nameS ns) 1 t 2 1 (by decide) (by decide), hN]
  · rw [Q2'.2, hsz, bq_eq (nameS ns) 2 t 4 2 (by decide) (by decide), hN]
  · rw [Q3''.2, hsz, bq_eq (nameS ns) 3 t 8 4 (by decide) (by decide), hN]
  · rw [M1.2, marksS, hN]
  · rw [M2'.2, marksS, hN]
  · rw [M3''.2, marksS, hN]
  · rw [W1.2, whites_eq, hN]
  · rw [W2'.2, whites_eq, hN]
  · rw [W3''.2, whites_eq, hN]
theorem facts_of {vs : List Value} {ns : List Int} (_h : IntsAre vs ns) : AllFacts (ns.take 5) := facts_all _ (by rw [List.length_take]; omega)
end Mine
end

section
open PySem PySem.W PyProof PyProof.Rows
set_option maxRecDepth 100000
set_option maxHeartbeats 8000000
namespace Mine
theorem fmod2_nn (x : Int) : 0 ≤ x.fmod 2 + 1 := by
  have h1 := Int.fmod_nonneg_of_pos x (show (0 : Int) < 2 by decide)
  omega
local macro_rules | `(tactic| walk_at "call ref") => `(tactic| (k_here; (with_reducible show wpAny _ _ (call (Value.ref 61) [Value.int _ _]) _ _ _); k_dflt (refine' use (c_drawn _ _ _ _ _ _ _) ?k1 ?k2 ?k3 ?k4 ?k5 ?kK ?kp ?kd ?ku ?_; (case k1 => k_asm); (case k2 => k_asm); (case k3 => k_asm); (case k4 => k_asm); (case k5 => k_asm); (case kK => first | exact rfl | assumption); (case kp => exact True.intro); (case kd => ktr_room); (case ku => ktr_units); k_whole); intro t9 h9 tk9 F9 N9; (try dsimp only); (try k_fold)))
local macro_rules | `(tactic| walk_at "CompSrc") => `(tactic| (k_here; k_dflt (refine LCg.CompSrc.ledger (by rfl) (by k_asm) (by k_asm) (by k_mem) (by kcf_size) ?_; intro g'; (refine' kct_list drawnS (by first | assumption | l_ints) (fun k' t' I' oI' C' oC' D' m' ys' h' tk' E' hk' hC' hx' F' N' off' ne' => ?_) ?_); (all_goals (try (simp only [LCg.Off3, and_true] at off'))); (all_goals (try ((show KPfMark → _); intro hMark'))); kcf_last)))
local macro_rules | `(tactic| walk_at "call builtin:str.join") => `(tactic| (k_here; (with_reducible show wpAny _ _ (call (Value.builtin "str.join") [Value.str _ _, Value.ref _]) _ _ _); k_dflt (refine' join_drawn ?l ?c ?x ?_; (case c => assumption); (case l => first | assumption | is_list | exact News.isList (by k_asm) (by k_mem)); (case x => (rw [List.length_take]; omega)); k_whole); intro _ _; (try dsimp only)))
local macro_rules | `(tactic| walk_at "binaryOp Add str str") => `(tactic| (k_here; (with_reducible show wpAny _ _ (binaryOp Operator.Add (Value.str (nm0 _) _) (Value.str _ _)) _ _ _); k_dflt (refine' add_name ?x ?_; (case x => (rw [List.length_take]; omega)); k_whole); intro _ _ nlen'; (try dsimp only)))
local macro_rules | `(tactic| walk_at "subscriptTail") => `(tactic| (k_here; (with_reducible show wpAny _ _ (subscriptTail (PySem.Expr.ListComp _ _ _ _) (PySem.Expr.Slice none (some _) none _) (Value.ref _) (Value.ref _)) _ _ _); k_dflt (refine' slice_mark ?F ?N ?l ?c ?h0 ?z ?_ ?s; (case F => k_asm); (case N => k_asm); (case l => assumption); (case c => assumption); (case s => with_unfolding_all rfl); (case h0 => exact fmod2_nn _); (case z => exact Nat.le_trans (filt_len _) (Nat.le_trans (by assumption) (by decide))); k_whole); intro D' ws' h' F' N' l1 hS'; (try k_lt l1); (try dsimp only)))
local macro_rules | `(tactic| walk_at "call builtin:str.join") => `(tactic| (k_here; (with_reducible show wpAny _ _ (call (Value.builtin "str.join") [Value.str _ _, Value.ref _]) _ _ _); k_dflt (refine' join_mark ?l ?c ?x ?_; (case c => assumption); (case l => first | assumption | is_list | exact News.isList (by k_asm) (by k_mem)); (case x => assumption); k_whole); intro _ _; (try dsimp only)))
local macro_rules | `(tactic| walk_at "call ref") => `(tactic| (k_here; (with_reducible show wpAny _ _ (call (Value.ref 66) [Value.str _ _, Value.str _ _]) _ _ _); k_dflt (refine' use (c_reply _ _ _ _ _ _ _ _ _) ?k1 ?k2 ?k3 ?k4 ?k5 ?kK ?kp ?kd ?ku ?_; (case k1 => k_asm); (case k2 => k_asm); (case k3 => k_asm); (case k4 => k_asm); (case k5 => k_asm); (case kK => first | exact rfl | assumption); (case kp => first | (with_reducible exact AllFacts.r1 (by assumption)) | (with_reducible exact AllFacts.r2 (by assumption)) | (with_reducible exact AllFacts.r3 (by assumption)) | (with_reducible exact AllFacts.r4 (by assumption))); (case kd => ktr_room); (case ku => ktr_units); k_whole); intro t9 h9 tk9 F9 N9; (try dsimp only); (try k_fold)))
local macro_rules | `(tactic| walk_at "call ref") => `(tactic| (k_here; (with_reducible show wpAny _ _ (call (Value.ref 87) [Value.str _ _, Value.str _ _]) _ _ _); k_dflt (refine' use (c_marks _ _ _ _ _ _ _ _ _) ?k1 ?k2 ?k3 ?k4 ?k5 ?kK ?kp ?kd ?ku ?_; (case k1 => k_asm); (case k2 => k_asm); (case k3 => k_asm); (case k4 => k_asm); (case k5 => k_asm); (case kK => first | exact rfl | assumption); (case kp => first | (with_reducible exact AllFacts.mks (by assumption))); (case kd => ktr_room); (case ku => ktr_units); k_whole); intro t9 h9 tk9 F9 N9; (try dsimp only); (try k_fold)))
local macro_rules | `(tactic| walk_at "call ref") => `(tactic| (k_here; (with_reducible show wpAny _ _ (call (Value.ref 94) [Value.str _ _]) _ _ _); k_dflt (refine' use (c_whites _ _ _ _ _ _ _) ?k1 ?k2 ?k3 ?k4 ?k5 ?kK ?kp ?kd ?ku ?_; (case k1 => k_asm); (case k2 => k_asm); (case k3 => k_asm); (case k4 => k_asm); (case k5 => k_asm); (case kK => first | exact rfl | assumption); (case kp => with_reducible exact ⟨(AllFacts.mks (by assumption)).1, (AllFacts.mks (by assumption)).2.1⟩); (case kd => ktr_room); (case ku => ktr_units); k_whole); intro t9 h9 tk9 F9 N9; (try dsimp only); (try k_fold)))
local macro_rules | `(tactic| walk_at "call ref") => `(tactic| (k_here; (with_reducible show wpAny _ _ (call (Value.ref 22) [Value.str _ _, Value.str _ _]) _ _ _); k_dflt (refine' use (c_cap _ _ _ _ _ _ _ _ _) ?k1 ?k2 ?k3 ?k4 ?k5 ?kK ?kp ?kd ?ku ?_; (case k1 => k_asm); (case k2 => k_asm); (case k3 => k_asm); (case k4 => k_asm); (case k5 => k_asm); (case kK => first | exact rfl | assumption); (case kp => first | (with_reducible exact ⟨(AllFacts.r2 (by assumption)).1, AllFacts.qs (by assumption)⟩) | (with_reducible exact ⟨(AllFacts.r3 (by assumption)).1, AllFacts.qs (by assumption)⟩) | (with_reducible exact ⟨(AllFacts.r4 (by assumption)).1, AllFacts.qs (by assumption)⟩) | (with_reducible exact ⟨(AllFacts.r2 (by assumption)).1, (AllFacts.mks (by assumption)).2.2.2, (AllFacts.mks (by assumption)).2.2.1⟩) | (with_reducible exact ⟨(AllFacts.r3 (by assumption)).1, (AllFacts.mks (by assumption)).2.2.2, (AllFacts.mks (by assumption)).2.2.1⟩) | (with_reducible exact ⟨(AllFacts.r4 (by assumption)).1, (AllFacts.mks (by assumption)).2.2.2, (AllFacts.mks (by assumption)).2.2.1⟩)); (case kd => ktr_room); (case ku => ktr_units); k_whole); intro t9 h9 tk9 F9 N9; (try dsimp only); (try k_fold)))
local macro_rules | `(tactic| walk_at "call ref") => `(tactic| (k_here; (with_reducible show wpAny _ _ (call (Value.ref 22) [Value.str _ _]) _ _ _); k_dflt (refine' use (c_cap0 _ _ _ _ _ _ _) ?k1 ?k2 ?k3 ?k4 ?k5 ?kK ?kp ?kd ?ku ?_; (case k1 => k_asm); (case k2 => k_asm); (case k3 => k_asm); (case k4 => k_asm); (case k5 => k_asm); (case kK => first | exact rfl | assumption); (case kp => first | (with_reducible exact (AllFacts.r2 (by assumption)).1) | (with_reducible exact (AllFacts.r3 (by assumption)).1) | (with_reducible exact (AllFacts.r4 (by assumption)).1)); (case kd => ktr_room); (case ku => ktr_units); k_whole); intro t9 h9 tk9 F9 N9; (try dsimp only); (try k_fold)))
local macro_rules | `(tactic| walk_at "call ref") => `(tactic| (k_here; (with_reducible show wpAny _ _ (call (Value.ref 80) [Value.str _ _, Value.int _ _, Value.int _ _]) _ _ _); k_dflt (refine' use (c_bq1 _ _ _ _ _ _ _ _ _ _) ?k1 ?k2 ?k3 ?k4 ?k5 ?kK ?kp ?kd ?ku ?_; (case k1 => k_asm); (case k2 => k_asm); (case k3 => k_asm); (case k4 => k_asm); (case k5 => k_asm); (case kK => first | exact rfl | assumption); (case kp => with_reducible exact ⟨(AllFacts.mks (by assumption)).1, (AllFacts.mks (by assumption)).2.1, (AllFacts.sz (by assumption)).1, (AllFacts.sz (by assumption)).2⟩); (case kd => ktr_room); (case ku => ktr_units); k_whole); intro t9 h9 tk9 F9 N9; (try dsimp only); (try k_fold)))
local macro_rules | `(tactic| walk_at "call ref") => `(tactic| (k_here; (with_reducible show wpAny _ _ (call (Value.ref 80) [Value.str _ _, Value.int _ _, Value.int _ _]) _ _ _); k_dflt (refine' use (c_bq2 _ _ _ _ _ _ _ _ _ _) ?k1 ?k2 ?k3 ?k4 ?k5 ?kK ?kp ?kd ?ku ?_; (case k1 => k_asm); (case k2 => k_asm); (case k3 => k_asm); (case k4 => k_asm); (case k5 => k_asm); (case kK => first | exact rfl | assumption); (case kp => with_reducible exact ⟨(AllFacts.mks (by assumption)).1, (AllFacts.mks (by assumption)).2.1, (AllFacts.sz (by assumption)).1, (AllFacts.sz (by assumption)).2⟩); (case kd => ktr_room); (case ku => ktr_units); k_whole); intro t9 h9 tk9 F9 N9; (try dsimp only); (try k_fold)))
local macro_rules | `(tactic| walk_at "call ref") => `(tactic| (k_here; (with_reducible show wpAny _ _ (call (Value.ref 80) [Value.str _ _, Value.int _ _, Value.int _ _]) _ _ _); k_dflt (refine' use (c_bq3 _ _ _ _ _ _ _ _ _ _) ?k1 ?k2 ?k3 ?k4 ?k5 ?kK ?kp ?kd ?ku ?_; (case k1 => k_asm); (case k2 => k_asm); (case k3 => k_asm); (case k4 => k_asm); (case k5 => k_asm); (case kK => first | exact rfl | assumption); (case kp => with_reducible exact ⟨(AllFacts.mks (by assumption)).1, (AllFacts.mks (by assumption)).2.1, (AllFacts.sz (by assumption)).1, (AllFacts.sz (by assumption)).2⟩); (case kd => ktr_room); (case ku => ktr_units); k_whole); intro t9 h9 tk9 F9 N9; (try dsimp only); (try k_fold)))
local macro_rules | `(tactic| walk_at "call ref") => `(tactic| (k_here; (with_reducible show wpAny _ _ (call (Value.ref 101) [Value.str _ _, Value.int _ _]) _ _ _); k_dflt (refine' use (c_peel1 _ _ _ _ _ _ _ _) ?k1 ?k2 ?k3 ?k4 ?k5 ?kK ?kp ?kd ?ku ?_; (case k1 => k_asm); (case k2 => k_asm); (case k3 => k_asm); (case k4 => k_asm); (case k5 => k_asm); (case kK => first | exact rfl | assumption); (case kp => first | (with_reducible exact AllFacts.oq1 (by assumption)) | (with_reducible exact AllFacts.om1 (by assumption)) | (with_reducible exact AllFacts.ow1 (by assumption))); (case kd => ktr_room); (case ku => ktr_units); k_whole); intro t9 h9 tk9 F9 N9; (try dsimp only); (try k_fold)))
local macro_rules | `(tactic| walk_at "call ref") => `(tactic| (k_here; (with_reducible show wpAny _ _ (call (Value.ref 101) [Value.str _ _, Value.int _ _]) _ _ _); k_dflt (refine' use (c_peel2 _ _ _ _ _ _ _ _) ?k1 ?k2 ?k3 ?k4 ?k5 ?kK ?kp ?kd ?ku ?_; (case k1 => k_asm); (case k2 => k_asm); (case k3 => k_asm); (case k4 => k_asm); (case k5 => k_asm); (case kK => first | exact rfl | assumption); (case kp => first | (with_reducible exact AllFacts.oq2 (by assumption)) | (with_reducible exact AllFacts.om2 (by assumption)) | (with_reducible exact AllFacts.ow2 (by assumption))); (case kd => ktr_room); (case ku => ktr_units); k_whole); intro t9 h9 tk9 F9 N9; (try dsimp only); (try k_fold)))
local macro_rules | `(tactic| walk_at "call ref") => `(tactic| (k_here; (with_reducible show wpAny _ _ (call (Value.ref 101) [Value.str _ _, Value.int _ _]) _ _ _); k_dflt (refine' use (c_peel3 _ _ _ _ _ _ _ _) ?k1 ?k2 ?k3 ?k4 ?k5 ?kK ?kp ?kd ?ku ?_; (case k1 => k_asm); (case k2 => k_asm); (case k3 => k_asm); (case k4 => k_asm); (case k5 => k_asm); (case kK => first | exact rfl | assumption); (case kp => first | (with_reducible exact AllFacts.oq3 (by assumption)) | (with_reducible exact AllFacts.om3 (by assumption)) | (with_reducible exact AllFacts.ow3 (by assumption))); (case kd => ktr_room); (case ku => ktr_units); k_whole); intro t9 h9 tk9 F9 N9; (try dsimp only); (try k_fold)))
local macro_rules | `(tactic| walk_at "compareOp NotEq str str") => `(tactic| (k_here; k_dflt (refine' ne_same ?e ?_; (case e => first | (with_reducible exact AllFacts.eq1 (by assumption)) | (with_reducible exact AllFacts.em1 (by assumption)) | (with_reducible exact AllFacts.ew1 (by assumption)) | (with_reducible exact AllFacts.eq2 (by assumption)) | (with_reducible exact AllFacts.em2 (by assumption)) | (with_reducible exact AllFacts.ew2 (by assumption)) | (with_reducible exact AllFacts.eq3 (by assumption)) | (with_reducible exact AllFacts.em3 (by assumption)) | (with_reducible exact AllFacts.ew3 (by assumption))))))
theorem w0 : PySem.Challenge.rw_ny0017_01.Holds := hd (by
  k_with_none
  k_go0; (all_goals try k_fold)
  have FA := facts_of (by assumption)
  k_steps)
end Mine
end

theorem PySem.Challenge.cw_ny0017_01_holds : PySem.Challenge.rw_ny0017_01.Holds :=
  Mine.w0
