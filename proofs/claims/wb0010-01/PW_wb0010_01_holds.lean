import PyProof.Rows.All
import Wide.All
import OpenK.AllK
import Wide.FinOn
import PySem.Challenge.RW_wb0010_01
set_option Elab.async false
set_option maxRecDepth 100000
namespace Mine
open PySem PySem.W PyProof.Rows
set_option maxHeartbeats 0 in
open_top hd for PySem.Challenge.rw_wb0010_01
end Mine
/-! part C1 -/
namespace Mine
open PySem PySem.W PyProof.Rows PySem.Calls PySem.Spec
noncomputable abbrev P0 : Program := PySem.Challenge.rw_wb0010_01.row.toRowW.prog
noncomputable abbrev loose0 : List Str := looseW hd.view_39 [Str.ofString "_DAYS_IN_MONTH", Str.ofString "_DAYS_BEFORE_MONTH", Str.ofString "UTC_ZONES", Str.ofString "TIMEZONE_RE"]

/-- a call's contract: a plain value handed back, nothing kept -/
abbrev MClaim (k : Nat) (w : World) (mean : ExcName → Option Value) (mg mb : Str → Option Value) (f : Addr) (news : List (Addr × Obj)) (pre : Prop) (vs : List Value) (R : Tok → Value) : Prop :=
  ∀ (dp un : Nat) (gd : Option (List Code)) (cn : Str) (cs : Scope) (a : Addr) (ccd : Value) (cl : List (Str × Addr)) (outer : List Env) (A₀ : Around) (base h₀ : Heap) (L : Addr) (m : Str → Option Value) (s : Shared) (Q E : Value → Shared → Prop),
    Below A₀ base outer h₀ → Fr h₀ L s.heap m → (hd.heap_39 w.params).In h₀ → News h₀ L s.heap news → Top hd.view_39 loose0 mean mg mb h₀ → cs.kind = .function →
    pre → dp + k < recursionLimit → un + 10 * k < cLine → CbRet h₀ L m news s Q R →
      wpAny (model Challenge.rw_wb0010_01.row.toRowW.prog w) (ktrTop dp un gd cn cs L a ccd cl outer) (call (.ref f) vs) Q E s

theorem MClaim.use {k : Nat} {w : World} {mean : ExcName → Option Value} {mg mb : Str → Option Value} {f : Addr} {news : List (Addr × Obj)} {pre : Prop} {vs : List Value} {R : Tok → Value} (C : MClaim k w mean mg mb f news pre vs R)
    {dp un : Nat} {gd : Option (List Code)} {cn : Str} {cs : Scope} {a : Addr} {ccd : Value} {cl : List (Str × Addr)} {outer : List Env} {A₀ : Around} {base h₀ : Heap} {L : Addr} {m : Str → Option Value} {s : Shared} {Q E : Value → Shared → Prop}
    (B : Below A₀ base outer h₀) (F : Fr h₀ L s.heap m) (X : (hd.heap_39 w.params).In h₀) (N : News h₀ L s.heap news) (T : Top hd.view_39 loose0 mean mg mb h₀) (hk : cs.kind = .function)
    (hp : pre) (hd : dp + k < recursionLimit) (hu : un + 10 * k < cLine) (ret : CbRet h₀ L m news s Q R) :
    wpAny (model Challenge.rw_wb0010_01.row.toRowW.prog w) (ktrTop dp un gd cn cs L a ccd cl outer) (call (.ref f) vs) Q E s := C _ _ _ _ _ _ _ _ _ _ _ _ _ _ _ _ _ B F X N T hk hp hd hu ret

def leapF (y : Int) : Bool := Int.fmod y 4 == 0 && (Int.fmod y 100 != 0 || Int.fmod y 400 == 0)
def dbyF (y : Int) : Int := (y - 1) * 365 + Int.fdiv (y - 1) 4 - Int.fdiv (y - 1) 100 + Int.fdiv (y - 1) 400
def dbmT : List Int := [-1, 0, 31, 59, 90, 120, 151, 181, 212, 243, 273, 304, 334]
def dbmF (y m : Int) : Int := dbmT.getD m.toNat 0 + (if 2 < m ∧ leapF y = true then 1 else 0)
def pagesF (y m : Int) : Int := if m = 2 then (if Int.fmod y (if Int.fmod y 25 = 0 then 16 else 4) = 0 then 29 else 28) else 30 + Int.fmod (m + Int.fdiv m 8) 2

set_option maxHeartbeats 0 in
theorem c_leap (w : World) (mean : ExcName → Option Value) (mg mb : Str → Option Value) (news : List (Addr × Obj)) (y : Int) (t : Tok) :
    MClaim 2 w mean mg mb 45 news True [.int y t] (fun _ => .bool (leapF y)) := by
  dsimp only [MClaim, CbRet]
  k_fill
  intro dp un gd cn cs a ccd cl outer A₀ base h₀ L m₀ s Q E B F X N T hk hpre hdp hu hret
  refine wpAny_call ?_
  k_dflt cell_enter
  k_steps
  all_goals (refine cb_retB hret ?_ (by assumption) (by assumption); unfold leapF; simp_all)

set_option maxHeartbeats 0 in
theorem c_dby (w : World) (mean : ExcName → Option Value) (mg mb : Str → Option Value) (news : List (Addr × Obj)) (y : Int) (t : Tok) :
    MClaim 2 w mean mg mb 52 news True [.int y t] (fun t => .int (dbyF y) t) := by
  dsimp only [MClaim, CbRet]
  k_fill
  intro dp un gd cn cs a ccd cl outer A₀ base h₀ L m₀ s Q E B F X N T hk hpre hdp hu hret
  refine wpAny_call ?_
  k_dflt cell_enter
  k_steps
  all_goals (refine cb_retI hret ?_ (by assumption) (by assumption); rfl)

set_option maxHeartbeats 0 in
theorem c_pages (w : World) (mean : ExcName → Option Value) (mg mb : Str → Option Value) (news : List (Addr × Obj)) (y m : Int) (t u : Tok) :
    MClaim 2 w mean mg mb 93 news True [.int y t, .int m u] (fun t => .int (pagesF y m) t) := by
  dsimp only [MClaim, CbRet]
  k_fill
  intro dp un gd cn cs a ccd cl outer A₀ base h₀ L m₀ s Q E B F X N T hk hpre hdp hu hret
  refine wpAny_call ?_
  k_dflt cell_enter
  k_steps
  all_goals (refine cb_retI hret ?_ (by assumption) (by assumption); unfold pagesF; first | rfl | (simp_all; done))

theorem dbm_item {prog : Program} {w : World} {A : Around} {E : Value → Shared → Prop} {s : Shared} {h₀ : Heap} {L : Addr} {m : Str → Option Value} {value slice : PySem.Expr} {k : Int} {u : Tok} {Q : Value → Shared → Prop}
    (F : Fr h₀ L s.heap m) (X₀ : (hd.heap_39 w.params).In h₀) (h0 : 1 ≤ k) (h12 : k ≤ 12) (h : ∀ t, Q (.int (dbmT.getD k.toNat 0) t) s)
    (hs : subscripted slice false (.ref 33) (.int k u) = operate [.ref 33, .int k u] (getItem (.ref 33) (.int k u)) := by with_unfolding_all rfl) :
    wpAny (model prog w) A (subscriptTail value slice (.ref 33) (.int k u)) Q E s := by
  obtain ⟨n, rfl⟩ : ∃ n : Nat, k = (n : Int) := ⟨k.toNat, by omega⟩
  have hn : 1 ≤ n := by omega
  have hn' : n ≤ 12 := by omega
  have hl : (hd.heap_39 w.params).lookup 33 = some ⟨.type "list", none, .seq ([Value.int (-1) 300, Value.int 0 302, Value.int 31 306, Value.int 59 309, Value.int 90 312, Value.int 120 315, Value.int 151 318, Value.int 181 321, Value.int 212 324, Value.int 243 327, Value.int 273 330, Value.int 304 333, Value.int 334 336] : List Value).toArray 12, #[]⟩ := by
    rfl
  have hv : ∃ t, ([Value.int (-1) 300, Value.int 0 302, Value.int 31 306, Value.int 59 309, Value.int 90 312, Value.int 120 315, Value.int 151 318, Value.int 181 321, Value.int 212 324, Value.int 243 327, Value.int 273 330, Value.int 304 333, Value.int 334 336] : List Value)[n]? = some (.int (dbmT.getD n 0) t) := by
    have : n = 1 ∨ n = 2 ∨ n = 3 ∨ n = 4 ∨ n = 5 ∨ n = 6 ∨ n = 7 ∨ n = 8 ∨ n = 9 ∨ n = 10 ∨ n = 11 ∨ n = 12 := by omega
    rcases this with rfl | rfl | rfl | rfl | rfl | rfl | rfl | rfl | rfl | rfl | rfl | rfl <;> exact ⟨_, rfl⟩
  obtain ⟨t, hv⟩ := hv
  exact topList_K F X₀ hl (by omega) (by omega) (by simpa using hv) (by simpa using h t) hs

local macro_rules | `(tactic| walk_at "eval Call") => `(tactic| ((with_reducible show wpAny _ _ (eval (Expr.Call (Expr.Name _ _) _ [] _) _) _ _ _); k_dflt (refine Call_ ?_)))
local macro_rules | `(tactic| walk_at "subscriptTail Name Name ref int") => `(tactic| (k_here; k_dflt (refine' dbm_item ?k1 ?k2 ?k3 ?k4 ?_ ?k6; (case k1 => k_asm); (case k2 => k_asm); (case k3 => omega); (case k4 => omega); (case k6 => with_unfolding_all rfl)); intro tI))
local macro_rules | `(tactic| walk_at "call ref") => `(tactic| (k_here; (with_reducible show wpAny _ _ (call (Value.ref 45) _) _ _ _); k_dflt (refine' MClaim.use (c_leap _ _ _ _ _ _ _) ?k1 ?k2 ?k3 ?k4 ?k5 ?kK ?kp ?kd ?ku ?_; (case k1 => k_asm); (case k2 => k_asm); (case k3 => k_asm); (case k4 => k_asm); (case k5 => k_asm); (case kK => first | exact rfl | assumption); (case kp => trivial); (case kd => ktr_room); (case ku => ktr_units)); intro t9 h9 tk9 F9 N9; (try dsimp only); (try k_fold)))

set_option maxHeartbeats 0 in
theorem c_dbm (w : World) (mean : ExcName → Option Value) (mg mb : Str → Option Value) (news : List (Addr × Obj)) (y m : Int) (t u : Tok) :
    MClaim 4 w mean mg mb 59 news (1 ≤ m ∧ m ≤ 12) [.int y t, .int m u] (fun t => .int (dbmF y m) t) := by
  dsimp only [MClaim, CbRet]
  k_fill
  intro dp un gd cn cs a ccd cl outer A₀ base h₀ L m₀ s Q E B F X N T hk hpre hdp hu hret
  obtain ⟨hm1, hm2⟩ := hpre
  refine wpAny_call ?_
  k_dflt cell_enter
  k_steps
  all_goals (first | (refine cb_retI hret ?_ (by assumption) (by assumption); unfold dbmF; by_cases h2 : 2 < m <;> cases hL : leapF y <;> first | (simp [h2]; done) | (exfalso; omega)))
end Mine
/-! part C3 -/
namespace Mine
open PySem PySem.W PyProof PyProof.Rows PySem.Calls PySem.Spec
theorem sz_num {n : Int} (h0 : 0 ≤ n) (h : n < 1000000) : (Str.ofString (toString n)).length ≤ 11 := by
  rw [PySem.ofString_length]
  exact PySem.int_text_length_le10 (k := 10) (by decide) (by omega)
theorem sz_app {a b : Str} {n m : Nat} (h1 : a.length ≤ n) (h2 : b.length ≤ m) : (a ++ b).length ≤ n + m := by
  rw [PySem.Str.length_append]; omega
theorem sz_slice {a : Str} {l u : Option Int} {n : Nat} (h1 : a.length ≤ n) : (Txt.slice a l u).length ≤ n := Nat.le_trans (Txt.slice_le a l u) h1
theorem sz_line {a : Str} {n : Nat} (h1 : a.length ≤ n) (h2 : n ≤ sizeLine) : a.length ≤ sizeLine := Nat.le_trans h1 h2
theorem fm60 (a : Int) : 0 ≤ Int.fmod a 60 ∧ Int.fmod a 60 < 60 := ⟨Int.fmod_nonneg_of_pos _ (by decide), Int.fmod_lt_of_pos _ (by decide)⟩
theorem fd60 {q : Int} (h1 : -48 ≤ q) (h2 : q ≤ 56) : 0 ≤ Int.fdiv (15 * if q < 0 then -q else q) 60 ∧ Int.fdiv (15 * if q < 0 then -q else q) 60 < 15 := by
  rw [Int.fdiv_eq_ediv_of_nonneg _ (by decide)]
  split <;> omega

theorem sz_100m {a : Int} : (Str.ofString (toString (100 + Int.fmod a 60))).length ≤ 11 := by
  have := fm60 a
  exact sz_num (by omega) (by omega)
theorem sz_100h {q : Int} (h1 : -48 ≤ q) (h2 : q ≤ 56) : (Str.ofString (toString (100 + Int.fdiv (15 * if q < 0 then -q else q) 60))).length ≤ 11 := by
  have := fd60 h1 h2
  exact sz_num (by omega) (by omega)
theorem sz_h {q : Int} (h1 : -48 ≤ q) (h2 : q ≤ 56) : (Str.ofString (toString (Int.fdiv (15 * if q < 0 then -q else q) 60))).length ≤ 11 := by
  have := fd60 h1 h2
  exact sz_num (by omega) (by omega)
theorem sz_lit1 : (Str.ofString "-").length ≤ 11 := by decide +kernel
theorem sz_lit2 : (Str.ofString "+").length ≤ 11 := by decide +kernel
theorem sz_lit3 : (Str.ofString ":").length ≤ 11 := by decide +kernel
theorem sz_lit4 : (Str.ofString "").length ≤ 11 := by decide +kernel
theorem sz_fin {n : Nat} (h : n ≤ 1000) : n ≤ sizeLine := by rw [PySem.sizeLine_eq]; omega
local macro_rules | `(tactic| size_fits) => `(tactic| ((with_reducible refine sz_line ?hm (sz_fin (n := ?n) ?hn)); (case hm => with_reducible (repeat' (first | exact sz_100m | exact sz_100h (by assumption) (by assumption) | exact sz_h (by assumption) (by assumption) | exact sz_lit1 | exact sz_lit2 | exact sz_lit3 | exact sz_lit4 | (refine' sz_app ?_ ?_) | (refine' sz_slice ?_)))); (case hn => decide)))

theorem add_sz {prog : Program} {w : World} {A : Around} {E : Value → Shared → Prop} {s : Shared} {x y : Str} {t u : Tok} {Q : Value → Shared → Prop} {n m : Nat} (h1 : x.length ≤ n) (h2 : y.length ≤ m) (hn : n + m ≤ 1000)
    (h : ∀ t' tk, Q (.str (x ++ y) t') { s with toks := tk }) : wpAny (model prog w) A (binaryOp .Add (.str x t) (.str y u)) Q E s :=
  add_str h (sz_fin (Nat.le_trans (Nat.add_le_add h1 h2) hn))
local macro_rules | `(tactic| walk_at "binaryOp Add str str") => `(tactic| ((with_reducible show wpAny _ _ (binaryOp Operator.Add (Value.str _ _) (Value.str _ _)) _ _ _); (refine' add_sz ?s1 ?s2 ?s3 ?_; (case s1 => with_reducible (repeat' (first | exact sz_100m | exact sz_100h (by assumption) (by assumption) | exact sz_h (by assumption) (by assumption) | exact sz_lit1 | exact sz_lit2 | exact sz_lit3 | exact sz_lit4 | (refine' sz_app ?_ ?_) | (refine' sz_slice ?_)))); (case s2 => with_reducible (repeat' (first | exact sz_100m | exact sz_100h (by assumption) (by assumption) | exact sz_h (by assumption) (by assumption) | exact sz_lit1 | exact sz_lit2 | exact sz_lit3 | exact sz_lit4 | (refine' sz_app ?_ ?_) | (refine' sz_slice ?_)))); (case s3 => decide)); intro _ _))
local macro_rules | `(tactic| walk_at "subscriptTail Name Slice str ref") => `(tactic| ((with_reducible show wpAny _ _ (subscriptTail _ (Expr.Slice (some _) none none _) _ _) _ _ _); (with_reducible rename Fr _ _ _ _ => F'); (with_reducible rename News _ _ _ _ => N'); k_dflt (refine slice_strN_sn (hsz := ?hsz) (s := ⟨_, _, _, _, _⟩) F' N' ?_); (case hsz => size_fits); intro _ _ _ _ _))


def two (n : Nat) : List Nat := [48 + n / 10, 48 + n % 10]
def oneT (n : Nat) : List Nat := if n < 10 then [48 + n] else two n
def textL (neg : Bool) (h m k : Nat) : List Nat :=
  if k = 3 then (if h = 0 ∧ m = 0 then [90] else (if neg then [45] else []) ++ oneT h ++ (if m = 0 then [] else two m))
  else [if neg then 45 else 43] ++ (if k = 2 then oneT h ++ [58] else two h ++ (if k = 1 then [58] else [])) ++ two m
def absF (q : Int) : Int := 15 * if q < 0 then -q else q
def textF (q k : Int) : Str := ⟨(textL (decide (q < 0)) (Int.fdiv (absF q) 60).toNat (Int.fmod (absF q) 60).toNat k.toNat).toArray⟩

theorem two_all : ∀ n : Fin 60, Txt.slice (Str.ofString (toString (100 + ((n.val : Nat) : Int)))) (some 1) none = ⟨(two n.val).toArray⟩ := by decide +kernel
theorem one_all : ∀ n : Fin 15, Str.ofString (toString ((n.val : Nat) : Int)) = ⟨(oneT n.val).toArray⟩ := by decide +kernel
theorem two_eq {n : Int} (h0 : 0 ≤ n) (h1 : n < 60) : Txt.slice (Str.ofString (toString (100 + n))) (some 1) none = ⟨(two n.toNat).toArray⟩ := by
  have := two_all ⟨n.toNat, by omega⟩
  rwa [show ((n.toNat : Nat) : Int) = n by omega] at this
theorem one_eq {n : Int} (h0 : 0 ≤ n) (h1 : n < 15) : Str.ofString (toString n) = ⟨(oneT n.toNat).toArray⟩ := by
  have := one_all ⟨n.toNat, by omega⟩
  rwa [show ((n.toNat : Nat) : Int) = n by omega] at this
theorem app_eq (a b : List Nat) : (⟨a.toArray⟩ : Str) ++ (⟨b.toArray⟩ : Str) = ⟨(a ++ b).toArray⟩ := by
  apply PySem.Str.ext'
  rw [PySem.Str.cps_append]
  simp
theorem lit1 : Str.ofString "-" = ⟨([45] : List Nat).toArray⟩ := by decide +kernel
theorem lit2 : Str.ofString "+" = ⟨([43] : List Nat).toArray⟩ := by decide +kernel
theorem lit3 : Str.ofString ":" = ⟨([58] : List Nat).toArray⟩ := by decide +kernel
theorem lit4 : Str.ofString "" = ⟨([] : List Nat).toArray⟩ := by decide +kernel
theorem lit5 : Str.ofString "Z" = ⟨([90] : List Nat).toArray⟩ := by decide +kernel
set_option maxHeartbeats 0 in
theorem c_text (w : World) (mean : ExcName → Option Value) (mg mb : Str → Option Value) (news : List (Addr × Obj)) (q k : Int) (t u : Tok) :
    MClaim 2 w mean mg mb 86 news (-48 ≤ q ∧ q ≤ 56 ∧ 0 ≤ k ∧ k ≤ 3) [.int q t, .int k u] (fun t => .str (textF q k) t) := by
  dsimp only [MClaim, CbRet]
  k_fill
  intro dp un gd cn cs a ccd cl outer A₀ base h₀ L m₀ s Q E B F X N T hk hpre hdp hu hret
  obtain ⟨hq1, hq2, hk1, hk2⟩ := hpre
  refine wpAny_call ?_
  k_dflt cell_enter
  k_steps
  all_goals first | (refine cb_retS hret ?_ (by assumption) (by first | assumption | exact cb_drop (by assumption) (fun p hp => List.mem_cons_of_mem _ hp) | exact cb_drop (by assumption) (fun p hp => List.mem_cons_of_mem _ (List.mem_cons_of_mem _ hp))))
  all_goals (
    have hm := fm60 (15 * if q < 0 then -q else q)
    have hh := fd60 hq1 hq2
    have hz : q ≠ 0 → ¬ (((15 * if q < 0 then -q else q).fdiv 60).toNat = 0 ∧ ((15 * if q < 0 then -q else q).fmod 60).toNat = 0) := by
      intro h0 hc
      rw [Int.fdiv_eq_ediv_of_nonneg _ (by decide), Int.fmod_eq_emod_of_nonneg _ (by decide)] at hc
      rcases hc with ⟨hc1, hc2⟩
      split at hc1 <;> split at hc2 <;> omega
    unfold textF absF textL
    try rw [two_eq hm.1 hm.2]
    try rw [two_eq hh.1 (by omega)]
    try rw [one_eq hh.1 hh.2]
    try rw [lit1]
    try rw [lit2]
    try rw [lit3]
    try rw [lit4]
    try rw [lit5]
    try simp only [app_eq]
    have ka : (k = 3 ∧ k.toNat = 3) ∨ (k = 2 ∧ k.toNat = 2) ∨ (k = 1 ∧ k.toNat = 1) ∨ (k = 0 ∧ k.toNat = 0) := by omega
    have h0q : q = 0 → ((15 * if q < 0 then -q else q).fdiv 60).toNat = 0 ∧ ((15 * if q < 0 then -q else q).fmod 60).toNat = 0 := by
      intro h0; subst h0; exact ⟨rfl, rfl⟩
    have hM1 := hm.1
    generalize hMg : (15 * if q < 0 then -q else q).fmod 60 = MM at *
    generalize hHg : (15 * if q < 0 then -q else q).fdiv 60 = HH at *
    have hM2 : (0 < MM ∧ ¬ MM.toNat = 0) ∨ (¬ 0 < MM ∧ MM.toNat = 0) := by omega
    rcases ka with ⟨e, e'⟩ | ⟨e, e'⟩ | ⟨e, e'⟩ | ⟨e, e'⟩ <;> first
      | (exfalso; omega)
      | (rcases hM2 with ⟨hM3, hM4⟩ | ⟨hM3, hM4⟩ <;> by_cases hq : q < 0 <;> by_cases hqz : q = 0 <;> first
          | (exfalso; omega)
          | (have hz' := hz hqz; simp [e', hq, hM4, hz'] ; done)
          | (have hz' : ¬ HH.toNat = 0 := fun h => hz hqz ⟨h, hM4⟩
             simp only [e', hq, hM4, hz', decide_false, decide_true, false_and, if_true, if_false, Bool.false_eq_true, List.nil_append, List.append_nil]
             done)
          | (have hz' := h0q hqz; simp [e', hq, hM4, hz'.1, hz'.2] ; done)
          ))
end Mine
/-! part R1 -/
namespace Mine
open PySem PySem.W PyProof PyProof.Rows PySem.Calls PySem.Spec
theorem plain_pattern : PlainAttrs "re.Pattern" :=
  ⟨⟨"object.__getattribute__", by rw [typeLookup_type, builtinLookup_eq_fast]; kernel_rfl, by decide +kernel⟩, by rw [typeLookup_type, builtinLookup_eq_fast]; kernel_rfl⟩
theorem plain_match : PlainAttrs "re.Match" :=
  ⟨⟨"object.__getattribute__", by rw [typeLookup_type, builtinLookup_eq_fast]; kernel_rfl, by decide +kernel⟩, by rw [typeLookup_type, builtinLookup_eq_fast]; kernel_rfl⟩
theorem slot_search : Slot "re.Pattern" "search" "re.Pattern.search" :=
  .of (owner := "re.Pattern") (n := "search") (by rw [typeLookup_type, builtinLookup_eq_fast]; kernel_rfl) (by decide +kernel) (by decide +kernel) (by decide +kernel)
    (by first | exact .inl (by decide +kernel) | exact .inr (by decide +kernel)) (by rw [isSubtype_type]; kernel_rfl)
theorem type_search : typeOf (.builtin "re.Pattern.search") = pure (.type "method_descriptor") := by show builtinType _ = _; rw [builtinType_eq_fast]; kernel_rfl
theorem entry_search : entryFor table "re.Pattern.search" = some Builtin.«re.Pattern.search» := entryFor_of_tree (by kernel_rfl)
theorem slot_group : Slot "re.Match" "group" "re.Match.group" :=
  .of (owner := "re.Match") (n := "group") (by rw [typeLookup_type, builtinLookup_eq_fast]; kernel_rfl) (by decide +kernel) (by decide +kernel) (by decide +kernel)
    (by first | exact .inl (by decide +kernel) | exact .inr (by decide +kernel)) (by rw [isSubtype_type]; kernel_rfl)
theorem type_group : typeOf (.builtin "re.Match.group") = pure (.type "method_descriptor") := by show builtinType _ = _; rw [builtinType_eq_fast]; kernel_rfl
theorem entry_group : entryFor table "re.Match.group" = some Builtin.«re.Match.group» := entryFor_of_tree (by kernel_rfl)
theorem owner_pattern : Manifest.owners.lookup (String.ofList ['n', 'r', 'e', 't', 't', 'a', 'P', '.', 'e', 'r'].reverse) = some Manifest.sig_re_Pattern := by kernel_rfl
theorem owner_match : Manifest.owners.lookup (String.ofList ['h', 'c', 't', 'a', 'M', '.', 'e', 'r'].reverse) = some Manifest.sig_re_Match := by kernel_rfl
theorem args_search (a b : Value) : argsOk "re.Pattern.search" ⟨[a, b], []⟩ := by
  unfold argsOk; rw [signature?_of (id := "re.Pattern.search") (n := ['h', 'c', 'r', 'a', 'e', 's']) (o := ['n', 'r', 'e', 't', 't', 'a', 'P', '.', 'e', 'r']) (by kernel_rfl) owner_pattern]; kernel_rfl
theorem args_group (a b : Value) : argsOk "re.Match.group" ⟨[a, b], []⟩ := by
  unfold argsOk; rw [signature?_of (id := "re.Match.group") (n := ['p', 'u', 'o', 'r', 'g']) (o := ['h', 'c', 't', 'a', 'M', '.', 'e', 'r']) (by kernel_rfl) owner_match]; kernel_rfl
end Mine
/-! part R2 -/
namespace Mine
open PySem PySem.W PyProof PyProof.Rows PySem.Calls PySem.Spec PySem.Builtin.Re

theorem runFor_stop : ∀ (n : Nat) (m : Sre.M), m.outcome.isSome = true → m.runFor n = m
  | 0, _, _ => rfl
  | n + 1, m, h => by unfold Sre.M.runFor; rw [if_pos h]
theorem runFor_add : ∀ (a b : Nat) (m : Sre.M), m.runFor (a + b) = (m.runFor a).runFor b
  | 0, b, m => by rw [Nat.zero_add]; rfl
  | a + 1, b, m => by
    rw [show a + 1 + b = (a + b) + 1 by omega]
    show (if m.outcome.isSome then m else Sre.M.runFor (a + b) m.step) = (if m.outcome.isSome then m else Sre.M.runFor a m.step).runFor b
    by_cases h : m.outcome.isSome = true
    · rw [if_pos h, if_pos h, runFor_stop b m h]
    · rw [if_neg h, if_neg h]; exact runFor_add a b m.step

section
variable {M : Model} {A : Around} {E : Value → Shared → Prop} {s : Shared}
theorem wp_drive {Q : Sre.M → Shared → Prop} : ∀ (k n : Nat) (m : Sre.M), 0 < k → k ≤ n → (m.runFor (4 * k)).outcome.isSome = true → Q (m.runFor (4 * k)) s → wpAny M A (reDrive n m) Q E s
  | 0, _, _, h, _, _, _ => absurd h (by decide)
  | k + 1, 0, _, _, h, _, _ => absurd h (by omega)
  | k + 1, n + 1, m, _, hn, ho, hq => by
    have e : 4 * (k + 1) = 4 + 4 * k := by omega
    rw [e, runFor_add] at ho hq
    show wpAny M A (if (m.runFor reTurnSteps).outcome.isSome then pure (m.runFor reTurnSteps) else do rule "sre.turn"; reDrive n (m.runFor reTurnSteps)) Q E s
    change wpAny M A (if (m.runFor 4).outcome.isSome then pure (m.runFor 4) else do rule "sre.turn"; reDrive n (m.runFor 4)) Q E s
    by_cases h : (m.runFor 4).outcome.isSome = true
    · rw [if_pos h]
      rw [runFor_stop _ _ h] at hq
      exact wpAny_pure hq
    · rw [if_neg h]
      refine wpAny_bind (wpAny_rule ?_)
      cases k with
      | zero => exact absurd ho h
      | succ k => exact wp_drive (k + 1) n (m.runFor 4) (by omega) (by omega) ho hq

theorem wp_runToEnd {Q : Option Sre.M → Shared → Prop} {m mf : Sre.M} (hm : m.runFor 400 = mf) (ho : mf.outcome = some .matched) (h : Q (some mf) s) : wpAny M A (reRunToEnd m) Q E s := by
  unfold reRunToEnd
  have hs : (m.runFor (4 * 100)).outcome.isSome = true := by show (m.runFor 400).outcome.isSome = true; rw [hm, ho]; rfl
  refine wpAny_bind (wp_drive 100 (2 ^ 64) m (by decide) (by decide) hs ?_)
  show wpAny M A _ Q E s
  rw [show m.runFor (4 * 100) = mf from hm]
  refine wpAny_bind (wpAny_forIn_list _ (fun _ _ s' => s' = s) _ ?_ ?_ _ _ rfl)
  · rintro x rest b s' rfl
    split
    · exact wpAny_bind (wpAny_rule (wpAny_pure rfl))
    · exact wpAny_pure rfl
  · rintro b s' rfl
    rw [ho]
    exact wpAny_pure h
end
end Mine
/-! part R3 -/
namespace Mine
open PySem PySem.W PyProof PyProof.Rows PySem.Calls PySem.Spec PySem.Builtin.Re

/-- the spans that a match's object holds -/
def spansOf (m : Sre.M) : List Value := (List.range 3).flatMap fun g =>
    match if ((2 * g + 1 : Nat) : Int) ≤ m.lastmark then (m.marks.getD (2 * g) none, m.marks.getD (2 * g + 1) none) else (none, none) with
    | (some b, some e) => [rawInt b, rawInt e]
    | _ => [rawInt (-1), rawInt (-1)]
def wrongSpan (m : Sre.M) : Bool := (List.range 3).any (fun g => match m.marks.getD (2 * g) none, m.marks.getD (2 * g + 1) none with | some b, some e => ((2 * g + 1 : Nat) : Int) ≤ m.lastmark && e < b | _, _ => false)

abbrev tupObj (m : Sre.M) : Obj := { cls := .type "tuple", data := .seq (rawInt m.start :: rawInt m.handed :: spansOf m).toArray }
abbrev matchObj (x : Str) (t : Tok) (tp : Addr) (m : Sre.M) : Obj := { cls := .type "re.Match", data := .fields [.str x t, .ref 65, rawInt 0, rawInt x.cps.size, rawInt m.lastindex, .ref tp].toArray }

theorem spans_len (m : Sre.M) : (spansOf m).length = 6 := by
  unfold spansOf
  rw [show List.range 3 = [0, 1, 2] from rfl]
  simp only [List.flatMap_cons, List.flatMap_nil, List.length_append, List.length_nil]
  have h : ∀ p : Option Nat × Option Nat, (match p with | (some b, some e) => [rawInt b, rawInt e] | _ => [rawInt (-1), rawInt (-1)]).length = 2 := by
    rintro ⟨a, b⟩; cases a <;> cases b <;> rfl
  rw [h, h, h]

theorem named_search (v : Value) : reNamed "re.Pattern.search" "search" ["string", "pos", "endpos"] 1 [v] [] = pure [some v, none, none] := by
  rfl

section
variable {M : Model} {A : Around} {E : Value → Shared → Prop} {s : Shared}
theorem wp_target {x : Str} {t : Tok} {o65 o64 : Obj} {ps cs : Array Value} {n : Nat} {code : Array Nat} {Q : ReTarget → Shared → Prop}
    (h65 : s.heap.get? 65 = some o65) (hd65 : o65.data = .fields ps) (hp2 : ps.getD 2 .none = .int 3 0) (hp5 : ps.getD 5 .none = .ref 64) (hp6 : ps.getD 6 .none = .int 0 0)
    (h64 : s.heap.get? 64 = some o64) (hd64 : o64.data = .seq cs n) (hcode : (cs.map reRawOf).map (·.toNat) = code) (hx : x.cps.size < 2 ^ 62)
    (h : Q { pattern := .ref 65, string := .str x t, code := code, text := x.cps, kind := 0, groups := 3, pos := 0, lim := x.cps.size } s) :
    wpAny M A (reTarget "re.Pattern.search" "search" ⟨[.ref 65, .str x t], []⟩) Q E s := by
  unfold reTarget
  dsimp only
  rw [named_search]
  refine wpAny_bind (wpAny_pure ?_)
  dsimp only
  refine wpAny_bind (wpAny_pure ?_)
  refine wpAny_bind (wpAny_pure ?_)
  refine wpAny_bind (wpAny_fieldsOf h65 hd65 ?_)
  refine wpAny_bind (wpAny_pure ?_)
  dsimp only
  rw [hp6, hp5, hp2]
  rw [if_neg (by decide), if_neg (by decide)]
  have hnc : reNoCollectionInside (Value.str x t) 0 = pure () := rfl
  rw [hnc]
  refine wpAny_bind (wpAny_pure ?_)
  have hitems : wpAny M A (reRawItems (.ref 64)) (fun r s' => r = cs.map reRawOf ∧ s' = s) E s := by
    unfold reRawItems
    refine wpAny_bind (wpAny_seqItems h64 hd64 ?_)
    exact wpAny_pure ⟨rfl, rfl⟩
  refine wpAny_bind (wpAny_mono hitems (fun r s' hr => ?_) fun _ _ z => z)
  obtain ⟨rfl, rfl⟩ := hr
  refine wpAny_pure ?_
  have e1 : min (Int.toNat 0) x.cps.size = 0 := Nat.zero_min _
  have e2 : min ((2 : Int) ^ 63 - 1).toNat x.cps.size = x.cps.size := Nat.min_eq_right (by
    have : ((2 : Int) ^ 63 - 1).toNat = 9223372036854775807 := by decide
    rw [this]; omega)
  rw [e1, e2, hcode]
  exact h

theorem wp_newMatch {x : Str} {t : Tok} {mf : Sre.M} {Q : Value → Shared → Prop} (hw : wrongSpan mf = false)
    (h : Q (.ref (s.heap.objs.size + 1)) { s with heap := (s.heap.push (tupObj mf)).push (matchObj x t s.heap.objs.size mf) }) :
    wpAny M A (reNewMatch (.ref 65) (.str x t) 3 0 x.cps.size mf) Q E s := by
  unfold reNewMatch
  dsimp only
  have hw' : ¬ (wrongSpan mf = true) := by rw [hw]; decide
  rw [if_neg (by exact hw')]
  show wpAny M A (do let tp ← newTuple (rawInt mf.start :: rawInt mf.handed :: spansOf mf); newFields "re.Match" [.str x t, .ref 65, rawInt 0, rawInt x.cps.size, rawInt mf.lastindex, tp]) Q E s
  refine wpAny_bind (wpAny_newTuple ?_ (by rw [List.length_cons, List.length_cons, spans_len, PySem.sizeLine_eq]; decide))
  refine wpAny_newObj_type ?_ (by show (6 : Nat) ≤ sizeLine + 2; rw [PySem.sizeLine_eq]; decide)
  have e : (s.heap.push (tupObj mf)).objs.size = s.heap.objs.size + 1 := Heap.size_push ..
  show Q (.ref (s.heap.push (tupObj mf)).objs.size) _
  rw [e]
  exact h
end

theorem wp_search {prog : Program} {w : World} {A : Around} {E : Value → Shared → Prop} {s : Shared} {x : Str} {t : Tok} {o65 o64 : Obj} {ps cs : Array Value} {n : Nat} {code : Array Nat} {mf : Sre.M} {Q : Value → Shared → Prop}
    (h65 : s.heap.get? 65 = some o65) (hc65 : o65.cls = .type "re.Pattern") (hd65 : o65.data = .fields ps) (hp2 : ps.getD 2 .none = .int 3 0) (hp5 : ps.getD 5 .none = .ref 64) (hp6 : ps.getD 6 .none = .int 0 0)
    (h64 : s.heap.get? 64 = some o64) (hd64 : o64.data = .seq cs n) (hcode : (cs.map reRawOf).map (·.toNat) = code) (hx : x.cps.size < 2 ^ 62)
    (hm : (Sre.forSearch code x.cps 3 0 x.cps.size false).runFor 400 = mf) (ho : mf.outcome = some .matched) (hw : wrongSpan mf = false)
    (h : Q (.ref (s.heap.objs.size + 1)) { s with heap := (s.heap.push (tupObj mf)).push (matchObj x t s.heap.objs.size mf) }) :
    wpAny (model prog w) A (call (.builtin "re.Pattern.search") [.ref 65, .str x t]) Q E s := by
  refine wpAny_call (codeAny_call_builtin slot_search.plain entry_search (slot_search.check _ _ _ _ _ _ _ _ ⟨o65, h65, hc65⟩ (args_search _ _) ?_))
  unfold Builtin.«re.Pattern.search»
  refine wpAny_bind (wp_target h65 hd65 hp2 hp5 hp6 h64 hd64 hcode hx ?_)
  dsimp only
  unfold reAnswer
  dsimp only
  refine wpAny_bind (wp_runToEnd hm ho ?_)
  dsimp only
  refine wpAny_bind (wp_newMatch hw ?_)
  exact wpAny_pure h
end Mine
/-! part R4 -/
namespace Mine
open PySem PySem.W PyProof PyProof.Rows PySem.Calls PySem.Spec PySem.Builtin.Re
section
variable {M : Model} {A : Around} {E : Value → Shared → Prop} {s : Shared}
theorem wp_found {a tp : Addr} {oM oT : Obj} {fs vs : Array Value} {n : Nat} {sp : Array Int} {Q : ReFound → Shared → Prop}
    (ha : s.heap.get? a = some oM) (hd : oM.data = .fields fs) (h5 : fs.getD 5 .none = .ref tp) (ht : s.heap.get? tp = some oT) (hdt : oT.data = .seq vs n) (hsp : vs.map reRawOf = sp)
    (h : Q ⟨fs, sp⟩ s) : wpAny M A (reFound (.ref a)) Q E s := by
  unfold reFound
  refine wpAny_bind (wpAny_fieldsOf ha hd ?_)
  rw [h5]
  unfold reRawItems
  refine wpAny_bind (wpAny_bind (wpAny_seqItems ht hdt (wpAny_pure ?_)))
  refine wpAny_pure ?_
  rw [show Array.map reRawOf ((some vs : Option (Array Value)).getD #[]) = sp from hsp]
  exact h
theorem wp_number {x : ReFound} {g : Int} {tk : Tok} {Q : Nat → Shared → Prop} (h0 : 0 ≤ g) (h1 : 2 * g < x.spans.size) (h : Q g.toNat s) : wpAny M A (reGroupNumber x (.int g tk)) Q E s := by
  unfold reGroupNumber
  refine wpAny_bind (wpAny_pure ?_)
  dsimp only
  rw [if_pos (show (some g).isSome = true from rfl)]
  refine wpAny_bind (wpAny_bind (wpAny_pure (wpAny_pure ?_)))
  rw [if_neg (by simp only [Bool.or_eq_true, decide_eq_true_eq, not_or]; omega)]
  exact wpAny_pure h
theorem wp_gtext {x : ReFound} {g : Nat} {y : Str} {ty : Tok} {b e : Int} {Q : Value → Shared → Prop} (h0 : x.fields.getD 0 .none = .str y ty) (hb : x.spans.getD (2 * g) (-1) = b) (he : x.spans.getD (2 * g + 1) (-1) = e)
    (hb0 : 0 ≤ b) (he0 : 0 ≤ e) (hy : y.cps.size ≤ 1000) (h : Q (.str ⟨y.cps.extract b.toNat e.toNat⟩ s.toks) { s with toks := s.toks + 1 }) : wpAny M A (reGroupText x g .none) Q E s := by
  unfold reGroupText
  dsimp only
  rw [hb, he, if_neg (by simp only [Bool.or_eq_true, decide_eq_true_eq, not_or]; omega), h0]
  refine wpAny_bind (wpAny_bind (wpAny_pure (wpAny_pure ?_)))
  show wpAny M A (mkStr ⟨y.cps.extract b.toNat e.toNat⟩) Q E s
  refine wpAny_mkStr h ?_
  show (y.cps.extract b.toNat e.toNat).size ≤ sizeLine
  rw [Array.size_extract, PySem.sizeLine_eq]; omega
theorem wp_gnone {x : ReFound} {g : Nat} {b : Int} {Q : Value → Shared → Prop} (hb : x.spans.getD (2 * g) (-1) = b) (hb0 : b < 0) (h : Q .none s) : wpAny M A (reGroupText x g .none) Q E s := by
  unfold reGroupText
  dsimp only
  rw [hb, if_pos (by simp only [Bool.or_eq_true, decide_eq_true_eq]; omega)]
  exact wpAny_pure h
end
section
variable {prog : Program} {w : World} {A : Around} {E : Value → Shared → Prop} {s : Shared}
theorem wp_group {a tp : Addr} {oM oT : Obj} {fs vs : Array Value} {n : Nat} {sp : Array Int} {g : Int} {tk : Tok} {y : Str} {ty : Tok} {b e : Int} {Q : Value → Shared → Prop}
    (ha : s.heap.get? a = some oM) (hc : oM.cls = .type "re.Match") (hd : oM.data = .fields fs) (h5 : fs.getD 5 .none = .ref tp) (ht : s.heap.get? tp = some oT) (hdt : oT.data = .seq vs n) (hsp : vs.map reRawOf = sp)
    (hg0 : 0 ≤ g) (hg1 : 2 * g < sp.size) (h0 : fs.getD 0 .none = .str y ty) (hb : sp.getD (2 * g.toNat) (-1) = b) (he : sp.getD (2 * g.toNat + 1) (-1) = e)
    (hb0 : 0 ≤ b) (he0 : 0 ≤ e) (hy : y.cps.size ≤ 1000) (h : Q (.str ⟨y.cps.extract b.toNat e.toNat⟩ s.toks) { s with toks := s.toks + 1 }) :
    wpAny (model prog w) A (call (.builtin "re.Match.group") [.ref a, .int g tk]) Q E s := by
  refine wpAny_call (codeAny_call_builtin slot_group.plain entry_group (slot_group.check _ _ _ _ _ _ _ _ ⟨oM, ha, hc⟩ (args_group _ _) ?_))
  unfold Builtin.«re.Match.group»
  refine wpAny_bind (wpAny_pure ?_)
  refine wpAny_bind (wp_found ha hd h5 ht hdt hsp ?_)
  dsimp only
  refine wpAny_bind (wp_number hg0 hg1 ?_)
  refine wpAny_bind (wp_gtext h0 hb he hb0 he0 hy ?_)
  exact wpAny_pure h
theorem wp_group_none {a tp : Addr} {oM oT : Obj} {fs vs : Array Value} {n : Nat} {sp : Array Int} {g : Int} {tk : Tok} {b : Int} {Q : Value → Shared → Prop}
    (ha : s.heap.get? a = some oM) (hc : oM.cls = .type "re.Match") (hd : oM.data = .fields fs) (h5 : fs.getD 5 .none = .ref tp) (ht : s.heap.get? tp = some oT) (hdt : oT.data = .seq vs n) (hsp : vs.map reRawOf = sp)
    (hg0 : 0 ≤ g) (hg1 : 2 * g < sp.size) (hb : sp.getD (2 * g.toNat) (-1) = b)
    (hb0 : b < 0) (h : Q .none s) :
    wpAny (model prog w) A (call (.builtin "re.Match.group") [.ref a, .int g tk]) Q E s := by
  refine wpAny_call (codeAny_call_builtin slot_group.plain entry_group (slot_group.check _ _ _ _ _ _ _ _ ⟨oM, ha, hc⟩ (args_group _ _) ?_))
  unfold Builtin.«re.Match.group»
  refine wpAny_bind (wpAny_pure ?_)
  refine wpAny_bind (wp_found ha hd h5 ht hdt hsp ?_)
  dsimp only
  refine wpAny_bind (wp_number hg0 hg1 ?_)
  refine wpAny_bind (wp_gnone hb hb0 ?_)
  exact wpAny_pure h
end
end Mine
/-! part R5 -/
namespace Mine
open PySem PySem.W PyProof PyProof.Rows PySem.Calls PySem.Spec PySem.Builtin.Re
def codeL : List Nat := [14, 4, 0, 1, 6, 6, 0, 23, 14, 0, 1, 17, 0, 13, 6, 16, 45, 16, 43, 0, 17, 1, 18, 17, 2, 13, 4, 8, 0, 0, 24, 9, 0, 1, 13, 4, 8, 0, 0, 1, 17, 3, 24, 6, 0, 1, 16, 58, 1, 23, 17, 0, 1, 17, 4, 13, 4, 8, 0, 0, 13, 4, 8, 0, 0, 17, 5, 18, 6, 5, 1]
/-- every digit as a nought -/
def psi (c : Nat) : Nat := if 48 ≤ c ∧ c ≤ 57 then 48 else c
theorem psi_digit {c : Nat} (h : 48 ≤ c ∧ c ≤ 57) : psi c = 48 := if_pos h
theorem psi_other {c : Nat} (h : ¬ (48 ≤ c ∧ c ≤ 57)) : psi c = c := if_neg h
theorem psi_getD (a : Array Nat) (i : Nat) : (a.map psi).getD i 0 = psi (a.getD i 0) := by
  simp only [Array.getD_eq_getD_getElem?, Array.getElem?_map]
  cases a[i]? <;> rfl
theorem digit_cases {c : Nat} (h : 48 ≤ c ∧ c ≤ 57) : c = 48 ∨ c = 49 ∨ c = 50 ∨ c = 51 ∨ c = 52 ∨ c = 53 ∨ c = 54 ∨ c = 55 ∨ c = 56 ∨ c = 57 := by omega
theorem psi_eq10 (c : Nat) : (psi c == 10) = (c == 10) := by
  by_cases h : 48 ≤ c ∧ c ≤ 57
  · rw [psi_digit h, beq_eq_false_iff_ne.mpr (by omega : c ≠ 10)]; rfl
  · rw [psi_other h]
theorem psi_word (c : Nat) : Sre.isWord (psi c) = Sre.isWord c := by
  by_cases h : 48 ≤ c ∧ c ≤ 57
  · rw [psi_digit h]
    rcases digit_cases h with rfl | rfl | rfl | rfl | rfl | rfl | rfl | rfl | rfl | rfl <;> decide +kernel
  · rw [psi_other h]
theorem psi_wordU (c : Nat) : Sre.isWordUni (psi c) = Sre.isWordUni c := by
  by_cases h : 48 ≤ c ∧ c ≤ 57
  · rw [psi_digit h]
    rcases digit_cases h with rfl | rfl | rfl | rfl | rfl | rfl | rfl | rfl | rfl | rfl <;> decide +kernel
  · rw [psi_other h]

theorem code_all (P : Nat → Bool) (h0 : P 0 = true) (h : codeL.all P = true) (i : Nat) : P (codeL.toArray.getD i 0) = true := by
  rw [Array.getD_eq_getD_getElem?, List.getElem?_toArray]
  cases hi : codeL[i]? with
  | none => exact h0
  | some x => exact List.all_eq_true.mp h x (List.mem_of_getElem? hi)
/-- the code names no digit, and is small -/
theorem code_small (i : Nat) : ¬ (48 ≤ codeL.toArray.getD i 0 ∧ codeL.toArray.getD i 0 ≤ 57) ∧ codeL.toArray.getD i 0 < 65536 := by
  have := code_all (fun x => !(decide (48 ≤ x) && decide (x ≤ 57)) && decide (x < 65536)) (by decide) (by decide +kernel) i
  simp only [Bool.and_eq_true, Bool.not_eq_true', Bool.and_eq_false_iff, decide_eq_false_iff_not, decide_eq_true_eq] at this
  omega
def absentOp : Sre.Op → Bool
  | .FAILURE | .SUCCESS | .ANY | .ANY_ALL | .ASSERT | .ASSERT_NOT | .AT | .CATEGORY | .CHARSET | .IN | .INFO | .LITERAL | .MARK | .MAX_UNTIL | .REPEAT | .REPEAT_ONE => false
  | _ => true
theorem code_ops (i : Nat) {op : Sre.Op} (h : Sre.ops[codeL.toArray.getD i 0]? = some op) : absentOp op = false := by
  have := code_all (fun x => match Sre.ops[x]? with | some op => !absentOp op | none => true) (by decide +kernel) (by decide +kernel) i
  rw [h] at this
  simpa using this
theorem cat_digit (k : Nat) {c : Nat} (hc : 48 ≤ c ∧ c ≤ 57) : Sre.category k 48 = Sre.category k c := by
  unfold Sre.category
  generalize k / 2 = n
  rcases digit_cases hc with rfl | rfl | rfl | rfl | rfl | rfl | rfl | rfl | rfl | rfl <;>
    (rcases n with _ | _ | _ | _ | _ | _ | _ | _ | _ | n <;> first | rfl | (congr 2; decide +kernel))
theorem lit_digit (i : Nat) {c : Nat} (hc : 48 ≤ c ∧ c ≤ 57) : (c == codeL.toArray.getD i 0) = false := by
  have := (code_small i).1
  rw [beq_eq_false_iff_ne]; omega
theorem set_digit {c : Nat} (hc : 48 ≤ c ∧ c ≤ 57) : ∀ (fuel i : Nat) (yes : Bool) (seen : Sre.Seen), Sre.inSet codeL.toArray 48 fuel i yes seen = Sre.inSet codeL.toArray c fuel i yes seen
  | 0, _, _, _ => rfl
  | fuel + 1, i, yes, seen => by
    unfold Sre.inSet
    dsimp only [Nat.add_zero]
    cases hop : Sre.ops[codeL.toArray.getD i 0]? with
    | none => rfl
    | some op =>
      have ha := code_ops i hop
      cases op <;> first
        | rfl
        | (exact absurd ha (by decide))
        | exact set_digit hc fuel _ _ _
        | (dsimp only; rw [lit_digit _ hc, lit_digit (c := 48) _ ⟨by decide, by decide⟩]; exact set_digit hc fuel _ _ _)
        | (dsimp only; rw [cat_digit _ hc]; congr 1; funext b; rw [set_digit hc fuel])
        | (dsimp only
           have e1 : c / 32 = 1 := by omega
           have e2 : (codeL.toArray.getD (i + (1 + 1)) 0).testBit (c % 32) = false := Nat.testBit_lt_two_pow (Nat.lt_of_lt_of_le (code_small _).2 (by
             have : 2 ^ 16 ≤ 2 ^ (c % 32) := Nat.pow_le_pow_right (by decide) (by omega)
             simpa using this))
           have e3 : (codeL.toArray.getD (i + (1 + 1)) 0).testBit (48 % 32) = false := Nat.testBit_lt_two_pow (Nat.lt_of_lt_of_le (code_small _).2 (by decide))
           rw [e1, show 48 / 32 = 1 from rfl, e2, e3, Bool.and_false, Bool.and_false]
           exact set_digit hc fuel _ _ _)
theorem psi_accepts (i c : Nat) (seen : Sre.Seen) : Sre.accepts codeL.toArray i (psi c) seen = Sre.accepts codeL.toArray i c seen := by
  by_cases hc : 48 ≤ c ∧ c ≤ 57
  · rw [psi_digit hc]
    unfold Sre.accepts
    dsimp only
    cases hop : Sre.ops[codeL.toArray.getD i 0]? with
    | none => rfl
    | some op =>
      have ha := code_ops i hop
      cases op <;> first
        | rfl
        | (exact absurd ha (by decide))
        | (dsimp only; rw [lit_digit _ hc, lit_digit (c := 48) _ ⟨by decide, by decide⟩])
        | (dsimp only; rw [set_digit hc])
        | (dsimp only; rw [show (c != 10) = true by rw [bne_iff_ne]; omega]; rfl)
  · rw [psi_other hc]
end Mine
/-! part R6 -/
namespace Mine
open PySem PySem.W PyProof PyProof.Rows PySem.Calls PySem.Spec PySem.Builtin.Re
/-- the machine over the text with every digit a nought -/
def tx (m : Sre.M) : Sre.M := { m with text := m.text.map psi }
theorem psi_run (text : Array Nat) (i : Nat) : ∀ (n p found : Nat) (seen : Sre.Seen), Sre.run codeL.toArray (text.map psi) i n p found seen = Sre.run codeL.toArray text i n p found seen
  | 0, _, _, _ => rfl
  | n + 1, p, found, seen => by
    unfold Sre.run
    rw [psi_getD, psi_accepts]
    congr 1
    funext b
    obtain ⟨yes, sn⟩ := b
    dsimp only
    rw [psi_run text i n]
theorem tx_isAt (m : Sre.M) (k : Nat) : (tx m).isAt k = m.isAt k := by
  unfold Sre.M.isAt tx
  dsimp only
  rw [psi_getD, psi_getD]
  simp only [psi_eq10, psi_word, psi_wordU]
theorem ite_tx {c : Prop} [Decidable c] {a b a' b' : Sre.M} (ha : a' = tx a) (hb : b' = tx b) : (if c then a' else b') = tx (if c then a else b) := by split <;> assumption
theorem tx_attempt (m : Sre.M) (f : Sre.Frame) (t fr : Nat) (o : Bool) : (tx m).attempt f t fr o = tx (m.attempt f t fr o) := by
  unfold Sre.M.attempt
  exact ite_tx rfl rfl
theorem tx_afterRun (m : Sre.M) (w : Sre.Wait) (c : Int) (k : Sre.Kept) : (tx m).afterRun w c k = tx (m.afterRun w c k) := tx_attempt m _ _ _ _
theorem tx_afterLoop (m : Sre.M) (w : Sre.Wait) (i : Nat) (c : Int) (wh : Option Nat → Bool) : (tx m).afterLoop w i c wh = tx (m.afterLoop w i c wh) := by
  unfold Sre.M.afterLoop
  exact tx_attempt { m with inner := (m.loopAt i).outer } _ _ _ _
theorem tx_round (m : Sre.M) (w : Sre.Wait) (i : Nat) (c : Int) (g : Bool) (k : Sre.Kept) : (tx m).round w i c g k = tx (m.round w i c g k) := by
  unfold Sre.M.round
  exact tx_attempt (m.setLoop i fun l => { l with count := c, began := if g then some m.pos else l.began }) _ _ _ _
theorem tx_until (m : Sre.M) (g : Bool) : (tx m).until_ g = tx (m.until_ g) := by
  unfold Sre.M.until_
  show (match m.inner with | none => _ | some i => _) = _
  cases m.inner with
  | none => rfl
  | some i =>
    dsimp only
    refine ite_tx (tx_round _ _ _ _ _ _) (ite_tx (tx_afterLoop _ _ _ _ _) (ite_tx (tx_round _ _ _ _ _ _) (tx_afterLoop _ _ _ _ _)))
theorem tx_possessive (m : Sre.M) (i : Nat) (c : Int) (b : Option Nat) : (tx m).possessive i c b = tx (m.possessive i c b) := by
  unfold Sre.M.possessive
  dsimp only
  exact ite_tx (tx_attempt _ _ _ _ _) (ite_tx (tx_attempt _ _ _ _ _) rfl)
theorem tx_alternative (m : Sre.M) (a : Nat) (k : Sre.Kept) : (tx m).alternative a k = tx (m.alternative a k) := by
  unfold Sre.M.alternative
  exact ite_tx rfl (tx_attempt _ _ _ _ _)
theorem noFirstSet {m : Sre.M} (hc : m.code = codeL.toArray) : m.hasFirstSet = false := by
  unfold Sre.M.hasFirstSet
  rw [hc]
  decide +kernel
theorem tx_attemptFrom (m : Sre.M) (s : Nat) (first : Bool) (hc : m.code = codeL.toArray) : (tx m).attemptFrom s first = tx (m.attemptFrom s first) := by
  unfold Sre.M.attemptFrom
  rw [noFirstSet hc, noFirstSet (m := tx m) hc]
  exact tx_attempt { m with start := s, pos := s, lastmark := -1, lastindex := -1 } _ _ _ _
theorem tx_exec (m : Sre.M) (hc : m.code = codeL.toArray) : (tx m).exec = tx m.exec := by
  have hw : ∀ k, (tx m).word k = m.word k := fun k => rfl
  unfold Sre.M.exec
  rw [hw]
  dsimp only
  have hacc : Sre.accepts (tx m).code (tx m).pc ((tx m).text.getD (tx m).pos 0) ((tx m).seen.add (m.word 0)) = Sre.accepts m.code m.pc (m.text.getD m.pos 0) (m.seen.add (m.word 0)) := by
    show Sre.accepts m.code m.pc ((m.text.map psi).getD m.pos 0) _ = _
    rw [psi_getD, hc, psi_accepts]; rfl
  cases hop : Sre.ops[m.word 0]? with
  | none => rfl
  | some op =>
    have ha : absentOp op = false := by
      unfold Sre.M.word at hop
      rw [hc] at hop
      exact code_ops _ hop
    cases op <;> first | (exact absurd ha (by decide)) | rfl | skip
    all_goals dsimp only
    all_goals first
      | exact ite_tx rfl rfl
      | (refine ite_tx rfl ?_
         rw [hacc]
         generalize Sre.accepts m.code m.pc (m.text.getD m.pos 0) (m.seen.add (m.word 0)) = r
         rcases r with _ | ⟨_ | _, _⟩ <;> rfl)
      | exact tx_until { m with seen := m.seen.add (m.word 0), pc := m.pc + 1 } true
      | (have e : ({ tx m with seen := (tx m).seen.add (m.word 0) } : Sre.M).isAt (({ tx m with seen := (tx m).seen.add (m.word 0) } : Sre.M).word 1) = ({ m with seen := m.seen.add (m.word 0) } : Sre.M).isAt (({ m with seen := m.seen.add (m.word 0) } : Sre.M).word 1) := tx_isAt { m with seen := m.seen.add (m.word 0) } _
         rw [e]
         generalize ({ m with seen := m.seen.add (m.word 0) } : Sre.M).isAt (({ m with seen := m.seen.add (m.word 0) } : Sre.M).word 1) = r
         rcases r with _ | _ | _ <;> rfl)
      | exact tx_attempt _ _ _ _ _
      | (refine ite_tx (ite_tx rfl rfl) ?_
         exact tx_attempt { m with seen := m.seen.add (m.word 0) } _ _ _ _)
      | exact tx_attempt { m with seen := m.seen.add (m.word 0), loops := m.loops.push { pc := m.pc, outer := m.inner }, inner := some m.loops.size } _ _ _ _
      | skip
    · refine ite_tx rfl ?_
      have e3 : ∀ N p f S, Sre.run (tx m).code (tx m).text ((tx m).pc + 4) N p f S = Sre.run m.code m.text (m.pc + 4) N p f S := by
           intro N p f S
           show Sre.run m.code (m.text.map psi) (m.pc + 4) N p f S = _
           rw [hc, psi_run]
      rw [e3]
      generalize hL : Sre.run m.code m.text (m.pc + 4) _ (tx m).pos 0 _ = rL
      generalize hR : Sre.run m.code m.text (m.pc + 4) _ m.pos 0 _ = rR
      have e : rL = rR := hL.symm.trans (Eq.trans rfl hR)
      subst e
      clear hL hR
      rcases rL with _ | ⟨n, sn⟩
      · rfl
      · dsimp only
        refine ite_tx rfl ?_
        exact tx_afterRun { m with seen := sn, pos := m.pos + n } _ _ _
theorem tx_resume (m : Sre.M) (f : Sre.Frame) (yes : Bool) (hc : m.code = codeL.toArray) : (tx m).resume f yes = tx (m.resume f yes) := by
  have hacc : Sre.accepts (tx m).code ((tx m).pc + 4) ((tx m).text.getD f.pos 0) (tx m).seen = Sre.accepts m.code (m.pc + 4) (m.text.getD f.pos 0) m.seen := by
    show Sre.accepts m.code (m.pc + 4) ((m.text.map psi).getD f.pos 0) _ = _
    rw [psi_getD, hc, psi_accepts]; rfl
  unfold Sre.M.resume
  dsimp only
  cases f.wait with
  | nextStart => exact ite_tx rfl (ite_tx (tx_attemptFrom { m with mustAdvance := false } _ _ hc) rfl)
  | nextBranch => exact ite_tx rfl (tx_alternative (m.putBack f.kept) _ _)
  | giveBack => exact ite_tx rfl (ite_tx rfl (tx_afterRun { m.putBack f.kept with pos := f.pos - 1 } _ _ _))
  | takeMore =>
    dsimp only
    refine ite_tx rfl (ite_tx rfl (ite_tx rfl ?_))
    rw [hacc]
    generalize Sre.accepts m.code (m.pc + 4) (m.text.getD f.pos 0) m.seen = r
    rcases r with _ | ⟨_ | _, sn⟩
    · rfl
    · rfl
    · exact tx_afterRun { m.putBack f.kept with seen := sn, pos := f.pos + 1 } _ _ _
  | closeLoop => rfl
  | maxBelow => exact ite_tx rfl rfl
  | maxMore => exact ite_tx rfl (tx_afterLoop (((m.setLoop f.loop fun l => { l with began := f.began }).putBack f.kept).setLoop f.loop fun l => { l with count := f.count - 1 }) _ _ _ _)
  | maxTail => rfl
  | minBelow => exact ite_tx rfl rfl
  | minTail => exact ite_tx rfl (ite_tx rfl (tx_round (({ m with inner := some f.loop } : Sre.M).putBack f.kept) _ _ _ _ _))
  | minMore => exact ite_tx rfl rfl
  | possBelow => exact ite_tx (tx_possessive m _ _ _) rfl
  | possMore => exact ite_tx (tx_possessive m _ _ _) (tx_possessive { m.putBack f.kept with handed := f.pos } _ _ _)
  | atomic => exact ite_tx rfl rfl
  | look => exact ite_tx rfl rfl
  | lookNot => exact ite_tx rfl rfl
theorem tx_step (m : Sre.M) (hc : m.code = codeL.toArray) : (tx m).step = tx m.step := by
  unfold Sre.M.step
  refine ite_tx rfl ?_
  obtain ⟨code, text, lim, start, lastStart, wholeText, mustAdvance, pc, pos, handed, outermost, marks, lastmark, lastindex, loops, inner, frames, weight, answer, seen, outcome⟩ := m
  cases answer with
  | none => exact ite_tx (tx_exec _ hc) rfl
  | some yes =>
    cases frames with
    | nil => rfl
    | cons f rest => exact tx_resume ⟨code, text, lim, start, lastStart, wholeText, mustAdvance, f.pc, f.pos, handed, f.outermost, marks, lastmark, lastindex, loops, inner, rest, weight - (1 + f.kept.marks.size), none, seen, outcome⟩ f yes hc
/-! the code stays -/
theorem ite_cd {c : Prop} [Decidable c] {a b : Sre.M} {x : Array Nat} (ha : a.code = x) (hb : b.code = x) : (if c then a else b).code = x := by split <;> assumption
theorem cd_attempt (m : Sre.M) (f : Sre.Frame) (t fr : Nat) (o : Bool) : (m.attempt f t fr o).code = m.code := by
  unfold Sre.M.attempt
  exact ite_cd rfl rfl
theorem cd_afterLoop (m : Sre.M) (w : Sre.Wait) (i : Nat) (c : Int) (wh : Option Nat → Bool) : (m.afterLoop w i c wh).code = m.code := by
  unfold Sre.M.afterLoop
  exact cd_attempt { m with inner := (m.loopAt i).outer } _ _ _ _
theorem cd_round (m : Sre.M) (w : Sre.Wait) (i : Nat) (c : Int) (g : Bool) (k : Sre.Kept) : (m.round w i c g k).code = m.code := by
  unfold Sre.M.round
  exact cd_attempt (m.setLoop i fun l => { l with count := c, began := if g then some m.pos else l.began }) _ _ _ _
theorem cd_until (m : Sre.M) (g : Bool) : (m.until_ g).code = m.code := by
  unfold Sre.M.until_
  cases m.inner with
  | none => rfl
  | some i => exact ite_cd (cd_round _ _ _ _ _ _) (ite_cd (cd_afterLoop _ _ _ _ _) (ite_cd (cd_round _ _ _ _ _ _) (cd_afterLoop _ _ _ _ _)))
theorem cd_possessive (m : Sre.M) (i : Nat) (c : Int) (b : Option Nat) : (m.possessive i c b).code = m.code := by
  unfold Sre.M.possessive
  exact ite_cd (cd_attempt _ _ _ _ _) (ite_cd (cd_attempt _ _ _ _ _) rfl)
theorem cd_alternative (m : Sre.M) (a : Nat) (k : Sre.Kept) : (m.alternative a k).code = m.code := by
  unfold Sre.M.alternative
  exact ite_cd rfl (cd_attempt _ _ _ _ _)
theorem cd_attemptFrom (m : Sre.M) (s : Nat) (first : Bool) (hc : m.code = codeL.toArray) : (m.attemptFrom s first).code = m.code := by
  unfold Sre.M.attemptFrom
  rw [noFirstSet hc]
  exact cd_attempt { m with start := s, pos := s, lastmark := -1, lastindex := -1 } _ _ _ _
theorem cd_exec (m : Sre.M) (hc : m.code = codeL.toArray) : m.exec.code = m.code := by
  unfold Sre.M.exec
  dsimp only
  cases hop : Sre.ops[m.word 0]? with
  | none => rfl
  | some op =>
    have ha : absentOp op = false := by
      unfold Sre.M.word at hop
      rw [hc] at hop
      exact code_ops _ hop
    cases op <;> first | (exact absurd ha (by decide)) | rfl | skip
    all_goals dsimp only
    all_goals first
      | exact ite_cd rfl rfl
      | (refine ite_cd rfl ?_
         generalize Sre.accepts m.code m.pc (m.text.getD m.pos 0) (m.seen.add (m.word 0)) = r
         rcases r with _ | ⟨_ | _, _⟩ <;> rfl)
      | exact cd_until { m with seen := m.seen.add (m.word 0), pc := m.pc + 1 } true
      | (generalize ({ m with seen := m.seen.add (m.word 0) } : Sre.M).isAt (({ m with seen := m.seen.add (m.word 0) } : Sre.M).word 1) = r
         rcases r with _ | _ | _ <;> rfl)
      | exact cd_attempt _ _ _ _ _
      | (refine ite_cd (ite_cd rfl rfl) ?_
         exact cd_attempt { m with seen := m.seen.add (m.word 0) } _ _ _ _)
      | exact cd_attempt { m with seen := m.seen.add (m.word 0), loops := m.loops.push { pc := m.pc, outer := m.inner }, inner := some m.loops.size } _ _ _ _
      | skip
    · refine ite_cd rfl ?_
      generalize hR : Sre.run m.code m.text (m.pc + 4) _ m.pos 0 _ = rR
      rcases rR with _ | ⟨n, sn⟩
      · rfl
      · dsimp only
        refine ite_cd rfl ?_
        exact cd_attempt { m with seen := sn, pos := m.pos + n } _ _ _ _
theorem cd_resume (m : Sre.M) (f : Sre.Frame) (yes : Bool) (hc : m.code = codeL.toArray) : (m.resume f yes).code = m.code := by
  unfold Sre.M.resume
  dsimp only
  cases f.wait with
  | nextStart => exact ite_cd rfl (ite_cd (cd_attemptFrom { m with mustAdvance := false } _ _ hc) rfl)
  | nextBranch => exact ite_cd rfl (cd_alternative (m.putBack f.kept) _ _)
  | giveBack => exact ite_cd rfl (ite_cd rfl (cd_attempt { m.putBack f.kept with pos := f.pos - 1 } _ _ _ _))
  | takeMore =>
    dsimp only
    refine ite_cd rfl (ite_cd rfl (ite_cd rfl ?_))
    generalize Sre.accepts m.code (m.pc + 4) (m.text.getD f.pos 0) m.seen = r
    rcases r with _ | ⟨_ | _, sn⟩
    · rfl
    · rfl
    · exact cd_attempt { m.putBack f.kept with seen := sn, pos := f.pos + 1 } _ _ _ _
  | closeLoop => rfl
  | maxBelow => exact ite_cd rfl rfl
  | maxMore => exact ite_cd rfl (cd_afterLoop (((m.setLoop f.loop fun l => { l with began := f.began }).putBack f.kept).setLoop f.loop fun l => { l with count := f.count - 1 }) _ _ _ _)
  | maxTail => rfl
  | minBelow => exact ite_cd rfl rfl
  | minTail => exact ite_cd rfl (ite_cd rfl (cd_round (({ m with inner := some f.loop } : Sre.M).putBack f.kept) _ _ _ _ _))
  | minMore => exact ite_cd rfl rfl
  | possBelow => exact ite_cd (cd_possessive m _ _ _) rfl
  | possMore => exact ite_cd (cd_possessive m _ _ _) (cd_possessive { m.putBack f.kept with handed := f.pos } _ _ _)
  | atomic => exact ite_cd rfl rfl
  | look => exact ite_cd rfl rfl
  | lookNot => exact ite_cd rfl rfl
theorem cd_step (m : Sre.M) (hc : m.code = codeL.toArray) : m.step.code = m.code := by
  unfold Sre.M.step
  refine ite_cd rfl ?_
  obtain ⟨code, text, lim, start, lastStart, wholeText, mustAdvance, pc, pos, handed, outermost, marks, lastmark, lastindex, loops, inner, frames, weight, answer, seen, outcome⟩ := m
  cases answer with
  | none => exact ite_cd (cd_exec _ hc) rfl
  | some yes =>
    cases frames with
    | nil => rfl
    | cons f rest => exact cd_resume ⟨code, text, lim, start, lastStart, wholeText, mustAdvance, f.pc, f.pos, handed, f.outermost, marks, lastmark, lastindex, loops, inner, rest, weight - (1 + f.kept.marks.size), none, seen, outcome⟩ f yes hc
theorem tx_runFor : ∀ (n : Nat) (m : Sre.M), m.code = codeL.toArray → (tx m).runFor n = tx (m.runFor n)
  | 0, _, _ => rfl
  | n + 1, m, hc => by
    show (if m.outcome.isSome then tx m else ((tx m).step).runFor n) = tx (if m.outcome.isSome then m else m.step.runFor n)
    refine ite_tx rfl ?_
    rw [tx_step m hc]
    exact tx_runFor n m.step ((cd_step m hc).trans hc)
end Mine
/-! part R7 -/
namespace Mine
open PySem PySem.W PyProof PyProof.Rows PySem.Calls PySem.Spec PySem.Builtin.Re
theorem tx_from {m m' : Sre.M} (s : Nat) (first : Bool) (e : m' = tx m) (hc : m.code = codeL.toArray) : m'.attemptFrom s first = tx (m.attemptFrom s first) := by
  subst e
  exact tx_attemptFrom m s first hc
theorem cd_from {m : Sre.M} (s : Nat) (first : Bool) (hc : m.code = codeL.toArray) : (m.attemptFrom s first).code = codeL.toArray := (cd_attemptFrom m s first hc).trans hc
theorem tx_forSearch (text : Array Nat) (g p lim : Nat) (b : Bool) : Sre.forSearch codeL.toArray (text.map psi) g p lim b = tx (Sre.forSearch codeL.toArray text g p lim b) := by
  unfold Sre.forSearch
  exact ite_tx rfl (tx_from _ _ rfl rfl)
def finM (t : List Nat) : Sre.M := (Sre.forSearch codeL.toArray t.toArray 3 0 t.toArray.size false).runFor 400
theorem code_attempt (text : Array Nat) (g p lim : Nat) (b : Bool) : (Sre.forSearch codeL.toArray text g p lim b).code = codeL.toArray := by
  unfold Sre.forSearch
  exact ite_cd rfl (cd_from _ _ rfl)
theorem finM_psi (t : List Nat) : finM (t.map psi) = tx (finM t) := by
  unfold finM
  have e : (t.map psi).toArray = t.toArray.map psi := by simp
  rw [e, tx_forSearch, Array.size_map, tx_runFor 400 _ (code_attempt _ _ _ _ _)]
def spI (m : Sre.M) : Array Int := (rawInt m.start :: rawInt m.handed :: spansOf m).toArray.map reRawOf
theorem spI_tx (m : Sre.M) : spI (tx m) = spI m := rfl
theorem wrong_tx (m : Sre.M) : wrongSpan (tx m) = wrongSpan m := rfl
theorem out_tx (m : Sre.M) : (tx m).outcome = m.outcome := rfl
def won (m : Sre.M) : Bool := match m.outcome with | some .matched => true | _ => false
theorem won_eq {m : Sre.M} (h : won m = true) : m.outcome = some .matched := by
  unfold won at h
  split at h
  · assumption
  · cases h
/-- the shapes, and the spans that the machine finds in them -/
def tab : List (List Nat × List Int) := [
  ([43, 48, 48, 48, 48], [0, 5, 0, 1, 1, 3, 3, 5]),
  ([45, 48, 48, 48, 48], [0, 5, 0, 1, 1, 3, 3, 5]),
  ([43, 48, 48, 58, 48, 48], [0, 6, 0, 1, 1, 3, 4, 6]),
  ([45, 48, 48, 58, 48, 48], [0, 6, 0, 1, 1, 3, 4, 6]),
  ([43, 48, 58, 48, 48], [0, 5, 0, 1, 1, 2, 3, 5]),
  ([45, 48, 58, 48, 48], [0, 5, 0, 1, 1, 2, 3, 5]),
  ([48], [0, 1, -1, -1, 0, 1, -1, -1]),
  ([48, 48], [0, 2, -1, -1, 0, 2, -1, -1]),
  ([48, 48, 48], [0, 3, -1, -1, 0, 1, 1, 3]),
  ([48, 48, 48, 48], [0, 4, -1, -1, 0, 2, 2, 4]),
  ([45, 48], [0, 2, 0, 1, 1, 2, -1, -1]),
  ([45, 48, 48], [0, 3, 0, 1, 1, 3, -1, -1]),
  ([45, 48, 48, 48], [0, 4, 0, 1, 1, 2, 2, 4]),
  ([45, 48, 48, 48, 48], [0, 5, 0, 1, 1, 3, 3, 5])]
def tabOk (p : List Nat × List Int) : Bool := won (finM p.1) && !wrongSpan (finM p.1) && decide (spI (finM p.1) = p.2.toArray)
theorem tab_ok : tab.all tabOk = true := by decide +kernel
def digs (cs : List Nat) : Option Nat := if cs ≠ [] ∧ (cs.all fun c => decide (48 ≤ c) && decide (c ≤ 57)) = true ∧ cs.length ≤ 4 then some (NumText.digitsVal cs) else none
def cutL (t : List Nat) (sp : List Int) (g : Nat) : List Nat := (t.drop (sp.getD (2 * g) (-1)).toNat).take ((sp.getD (2 * g + 1) (-1)).toNat - (sp.getD (2 * g) (-1)).toNat)
def chkS (neg : Bool) (h m : Nat) (t : List Nat) (sp : List Int) : Bool :=
  decide (sp.length = 8) && decide (t.length ≤ 10) && decide (t ≠ [71, 77, 84]) && decide (t ≠ [85, 84, 67]) && decide (t ≠ [85, 84]) && decide (t ≠ [90])
  && decide (0 ≤ sp.getD 4 (-1)) && decide (0 ≤ sp.getD 5 (-1)) && decide (digs (cutL t sp 2) = some h)
  && ((decide (sp.getD 6 (-1) < 0) && decide (m = 0)) || (decide (0 ≤ sp.getD 6 (-1)) && decide (0 ≤ sp.getD 7 (-1)) && decide (digs (cutL t sp 3) = some m)))
  && ((decide (sp.getD 2 (-1) < 0) && !neg) || (decide (0 ≤ sp.getD 2 (-1)) && decide (0 ≤ sp.getD 3 (-1)) && decide (cutL t sp 1 = [if neg then 45 else 43])))
def chk (neg : Bool) (h m k : Nat) : Bool := match tab.find? (fun p => decide (p.1 = (textL neg h m k).map psi)) with
  | some p => chkS neg h m (textL neg h m k) p.2
  | none => false
theorem chk_all : ((List.range 15).all fun h => [0, 15, 30, 45].all fun m => [0, 1, 2, 3].all fun k => [true, false].all fun n => (decide (k = 3) && decide (h = 0) && decide (m = 0)) || chk n h m k) = true := by decide +kernel
/-- what the machine finds in a text -/
structure Finds (t : List Nat) (mf : Sre.M) (sp : List Int) : Prop where
  run : (Sre.forSearch codeL.toArray t.toArray 3 0 t.toArray.size false).runFor 400 = mf
  won : mf.outcome = some .matched
  right : wrongSpan mf = false
  spans : (rawInt mf.start :: rawInt mf.handed :: spansOf mf).toArray.map reRawOf = sp.toArray
  small : t.length ≤ 10
theorem tab_all {p : List Nat × List Int} (h : p ∈ tab) : tabOk p = true := List.all_eq_true.mp tab_ok p h
theorem finds_of {t : List Nat} {p : List Nat × List Int} (hp : p ∈ tab) (e : p.1 = t.map psi) (hs : t.length ≤ 10) : Finds t (finM t) p.2 := by
  have h := tab_all hp
  unfold tabOk at h
  rw [e, finM_psi] at h
  simp only [Bool.and_eq_true, Bool.not_eq_true', decide_eq_true_eq] at h
  obtain ⟨⟨h1, h2⟩, h3⟩ := h
  refine ⟨rfl, ?_, h2, h3, hs⟩
  have := won_eq h1
  rwa [out_tx] at this
structure OffOk (neg : Bool) (h m : Nat) (t : List Nat) (sp : List Int) : Prop where
  len : sp.length = 8
  z1 : t ≠ [71, 77, 84]
  z2 : t ≠ [85, 84, 67]
  z3 : t ≠ [85, 84]
  z4 : t ≠ [90]
  b2 : 0 ≤ sp.getD 4 (-1)
  e2 : 0 ≤ sp.getD 5 (-1)
  d2 : digs (cutL t sp 2) = some h
  g3 : (sp.getD 6 (-1) < 0 ∧ m = 0) ∨ (0 ≤ sp.getD 6 (-1) ∧ 0 ≤ sp.getD 7 (-1) ∧ digs (cutL t sp 3) = some m)
  g1 : (sp.getD 2 (-1) < 0 ∧ neg = false) ∨ (0 ≤ sp.getD 2 (-1) ∧ 0 ≤ sp.getD 3 (-1) ∧ cutL t sp 1 = [if neg then 45 else 43])
theorem off_finds {neg : Bool} {h m k : Nat} (hh : h < 15) (hm : m = 0 ∨ m = 15 ∨ m = 30 ∨ m = 45) (hk : k < 4) (hz : ¬ (k = 3 ∧ h = 0 ∧ m = 0)) : ∃ mf sp, Finds (textL neg h m k) mf sp ∧ OffOk neg h m (textL neg h m k) sp := by
  have a1 := List.all_eq_true.mp chk_all h (List.mem_range.mpr hh)
  have a2 := List.all_eq_true.mp a1 m (by rcases hm with rfl | rfl | rfl | rfl <;> decide)
  have a3 := List.all_eq_true.mp a2 k (by
    have : k = 0 ∨ k = 1 ∨ k = 2 ∨ k = 3 := by omega
    rcases this with rfl | rfl | rfl | rfl <;> decide)
  have a4 := List.all_eq_true.mp a3 neg (by cases neg <;> decide)
  have a5 : chk neg h m k = true := by
    cases hb : chk neg h m k with
    | true => rfl
    | false =>
      rw [hb] at a4
      simp only [Bool.or_false, Bool.and_eq_true, decide_eq_true_eq] at a4
      exact absurd ⟨a4.1.1, a4.1.2, a4.2⟩ hz
  unfold chk at a5
  cases hf : tab.find? (fun p => decide (p.1 = (textL neg h m k).map psi)) with
  | none => rw [hf] at a5; cases a5
  | some p =>
    rw [hf] at a5
    have hp := List.mem_of_find?_eq_some hf
    have he := List.find?_some hf
    simp only [decide_eq_true_eq] at he
    unfold chkS at a5
    simp only [Bool.and_eq_true, Bool.or_eq_true, Bool.not_eq_true', decide_eq_true_eq] at a5
    obtain ⟨⟨⟨⟨⟨⟨⟨⟨⟨⟨c1, c2⟩, c3⟩, c4⟩, c5⟩, c6⟩, c7⟩, c8⟩, c9⟩, c10⟩, c11⟩ := a5
    exact ⟨_, _, finds_of hp he c2, ⟨c1, c3, c4, c5, c6, c7, c8, c9, c10.imp id (fun c => ⟨c.1.1, c.1.2, c.2⟩), c11.imp id (fun c => ⟨c.1.1, c.1.2, c.2⟩)⟩⟩
theorem intText_digs {cs : List Nat} {n : Nat} (h : digs cs = some n) : PySem.intText? ⟨cs.toArray⟩ = some (n : Int) ∧ cs ≠ [] ∧ cs.length ≤ 4 := by
  unfold digs at h
  split at h
  · rename_i hc
    obtain ⟨h1, h2, h3⟩ := hc
    have h := Option.some.inj h
    subst h
    refine ⟨_root_.PySem.intText_digits (x := ⟨cs.toArray⟩) ?_ ?_ ?_, h1, h3⟩
    · intro c hc
      have := List.all_eq_true.mp h2 c hc
      simpa using this
    · exact h1
    · exact Nat.le_trans h3 (by decide)
  · cases h
theorem cut_eq (t : List Nat) (sp : List Int) (g : Nat) : (t.toArray).extract (sp.getD (2 * g) (-1)).toNat (sp.getD (2 * g + 1) (-1)).toNat = (cutL t sp g).toArray := by
  unfold cutL
  simp [List.extract_toArray, List.extract_eq_take_drop]
end Mine
/-! part C5 -/
namespace Mine
open PySem PySem.W PyProof PyProof.Rows PySem.Calls PySem.Spec PySem.Builtin.Re
theorem nobool_match : typeLookup (.type "re.Match") "__bool__" = pure none := by rw [typeLookup_type, builtinLookup_eq_fast]; kernel_rfl
theorem nolen_match : typeLookup (.type "re.Match") "__len__" = pure none := by rw [typeLookup_type, builtinLookup_eq_fast]; kernel_rfl
theorem wp_truthy_match {M : Model} {A : Around} {E : Value → Shared → Prop} {s : Shared} {a : Addr} {o : Obj} {Q : Bool → Shared → Prop} (ha : s.heap.get? a = some o) (hc : o.cls = .type "re.Match") (h : Q true s) :
    wpAny M A (truthy (.ref a)) Q E s := by
  have hT : s.TypeIs (.ref a) "re.Match" := ⟨o, ha, hc⟩
  unfold truthy
  first
    | refine wpAny_bind (wpAny_callSpecial?_none (name := Str.ofString "__bool__") hT nobool_match ?_)
    | refine wpAny_bind (wpAny_pure (wpAny_bind (wpAny_callSpecial?_none (name := Str.ofString "__bool__") hT nobool_match ?_)))
  first
    | refine wpAny_bind (wpAny_specialOf (name := Str.ofString "__len__") hT nolen_match ?_)
    | refine wpAny_bind (wpAny_pure (wpAny_bind (wpAny_specialOf (name := Str.ofString "__len__") hT nolen_match ?_)))
  exact wpAny_pure h

section
variable {w : World} {prog : Program} {A : Around} {E : Value → Shared → Prop} {s : Shared} {h₀ : Heap} {L : Addr} {m : Str → Option Value} {news : List (Addr × Obj)}
theorem get_search {pl : Sem Bool} {Q : Value × List Value → Shared → Prop} (F : Fr h₀ L s.heap m) (X₀ : (hd.heap_39 w.params).In h₀) (h : Q (.builtin "re.Pattern.search", [.ref 65]) s) :
    wpAny (model prog w) A (getMethod (.ref 65) "search" pl) Q E s := by
  have hl : (hd.heap_39 w.params).lookup 65 = some { cls := .type "re.Pattern", data := .fields #[.str "^([-+])?(\\d\\d?):?(\\d\\d)?$" 376, .int 256 450, .int 3 0, .none, .none, .ref 64, .int 0 0] } := rfl
  have ho := (X₀.keeps F.keep) _ _ hl
  exact getMethod_builtin ⟨_, ho, rfl⟩ plain_pattern slot_search type_search (fun a e => by cases e; exact ⟨_, ho, rfl⟩) h
theorem get_group {pl : Sem Bool} {a : Addr} {o : Obj} {Q : Value × List Value → Shared → Prop} (N : News h₀ L s.heap news) (hm : (a, o) ∈ news) (hc : o.cls = .type "re.Match") (hd : o.dict = none) (h : Q (.builtin "re.Match.group", [.ref a]) s) :
    wpAny (model prog w) A (getMethod (.ref a) "group" pl) Q E s := by
  have ho := (N _ hm).1
  exact getMethod_builtin ⟨_, ho, hc⟩ plain_match slot_group type_group (fun a e => by cases e; exact ⟨_, ho, hd⟩) h
theorem truthy_match {M : Model} {a : Addr} {o : Obj} {Q : Bool → Shared → Prop} (N : News h₀ L s.heap news) (hm : (a, o) ∈ news) (hc : o.cls = .type "re.Match") (h : Q true s) : wpAny M A (truthy (.ref a)) Q E s :=
  wp_truthy_match (N _ hm).1 hc h
theorem search_K {x : Str} {t : List Nat} {tk : Tok} {mf : Sre.M} {sp : List Int} {Q : Value → Shared → Prop} (F : Fr h₀ L s.heap m) (N : News h₀ L s.heap news) (X₀ : (hd.heap_39 w.params).In h₀) (hx : x = ⟨t.toArray⟩) (G : Finds t mf sp)
    (h : ∀ a tp h', Fr h₀ L h' m → News h₀ L h' ((a, matchObj x tk tp mf) :: (tp, tupObj mf) :: news) → Q (.ref a) { s with heap := h' }) :
    wpAny (model prog w) A (call (.builtin "re.Pattern.search") [.ref 65, .str x tk]) Q E s := by
  subst hx
  have hl : (hd.heap_39 w.params).lookup 65 = some { cls := .type "re.Pattern", data := .fields #[.str "^([-+])?(\\d\\d?):?(\\d\\d)?$" 376, .int 256 450, .int 3 0, .none, .none, .ref 64, .int 0 0] } := rfl
  have hl2 : (hd.heap_39 w.params).lookup 64 = some { cls := .type "tuple", data := .seq (codeL.map fun (n : Nat) => Value.int (n : Int) 0).toArray } := rfl
  have ho := (X₀.keeps F.keep) _ _ hl
  have ho2 := (X₀.keeps F.keep) _ _ hl2
  refine wp_search (mf := mf) (code := codeL.toArray) ho rfl rfl rfl rfl rfl ho2 rfl (by decide +kernel) ?_ ?_ G.won G.right ?_
  · show t.length < 2 ^ 62
    have := G.small
    omega
  · exact G.run
  · have N1 := N.push F (tupObj mf)
    have F1 := F.push (tupObj mf)
    have N2 := N1.push F1 (matchObj ⟨t.toArray⟩ tk s.heap.objs.size mf)
    have F2 := F1.push (matchObj ⟨t.toArray⟩ tk s.heap.objs.size mf)
    have e : (s.heap.push (tupObj mf)).objs.size = s.heap.objs.size + 1 := Heap.size_push ..
    rw [e] at N2
    exact h _ _ _ F2 N2
theorem group_K {x : Str} {t : List Nat} {tk tk2 : Tok} {mf : Sre.M} {sp : List Int} {a tp : Addr} {g : Int} {b e : Int} {Q : Value → Shared → Prop} (N : News h₀ L s.heap news) (hx : x = ⟨t.toArray⟩) (hm : (a, matchObj x tk tp mf) ∈ news) (ht : (tp, tupObj mf) ∈ news) (G : Finds t mf sp)
    (hg0 : 0 ≤ g) (hg1 : 2 * g < sp.length) (hb : sp.getD (2 * g.toNat) (-1) = b) (he : sp.getD (2 * g.toNat + 1) (-1) = e) (hb0 : 0 ≤ b) (he0 : 0 ≤ e)
    (h : Q (.str ⟨(t.toArray).extract b.toNat e.toNat⟩ s.toks) { s with toks := s.toks + 1 }) :
    wpAny (model prog w) A (call (.builtin "re.Match.group") [.ref a, .int g tk2]) Q E s := by
  subst hx
  refine wp_group (N _ hm).1 rfl rfl rfl (N _ ht).1 rfl G.spans hg0 ?_ rfl (b := b) (e := e) ?_ ?_ hb0 he0 ?_ h
  · rw [List.size_toArray]; exact hg1
  · rw [← hb, Array.getD_eq_getD_getElem?, List.getElem?_toArray, List.getD_eq_getElem?_getD]
  · rw [← he, Array.getD_eq_getD_getElem?, List.getElem?_toArray, List.getD_eq_getElem?_getD]
  · show t.length ≤ 1000
    have := G.small
    omega
theorem group_K_none {x : Str} {t : List Nat} {tk tk2 : Tok} {mf : Sre.M} {sp : List Int} {a tp : Addr} {g : Int} {b : Int} {Q : Value → Shared → Prop} (N : News h₀ L s.heap news) (hx : x = ⟨t.toArray⟩) (hm : (a, matchObj x tk tp mf) ∈ news) (ht : (tp, tupObj mf) ∈ news) (G : Finds t mf sp)
    (hg0 : 0 ≤ g) (hg1 : 2 * g < sp.length) (hb : sp.getD (2 * g.toNat) (-1) = b) (hb0 : b < 0)
    (h : Q .none s) : wpAny (model prog w) A (call (.builtin "re.Match.group") [.ref a, .int g tk2]) Q E s := by
  subst hx
  refine wp_group_none (N _ hm).1 rfl rfl rfl (N _ ht).1 rfl G.spans hg0 ?_ (b := b) ?_ hb0 h
  · rw [List.size_toArray]; exact hg1
  · rw [← hb, Array.getD_eq_getD_getElem?, List.getElem?_toArray, List.getD_eq_getElem?_getD]
end
end Mine
/-! part C6 -/
namespace Mine
open PySem PySem.W PyProof PyProof.Rows PySem.Calls PySem.Spec PySem.Builtin.Re

section
variable {w : World} {prog : Program} {A : Around} {E : Value → Shared → Prop} {s : Shared} {h₀ : Heap} {L : Addr} {m : Str → Option Value} {news : List (Addr × Obj)} {x : Str} {t : List Nat} {tk tk2 : Tok} {mf : Sre.M} {sp : List Int} {a tp : Addr} {neg : Bool} {hh mm : Nat} {Q : Value → Shared → Prop}
theorem group2_K (N : News h₀ L s.heap news) (hx : x = ⟨t.toArray⟩) (hm : (a, matchObj x tk tp mf) ∈ news) (ht : (tp, tupObj mf) ∈ news) (G : Finds t mf sp) (O : OffOk neg hh mm t sp)
    (h : ∀ y t', PySem.intText? y = some (hh : Int) → y.length ≤ 640 → Q (.str y t') { s with toks := s.toks + 1 }) :
    wpAny (model prog w) A (call (.builtin "re.Match.group") [.ref a, .int 2 tk2]) Q E s := by
  refine group_K N hx hm ht G (by decide) (by rw [O.len]; decide) rfl rfl O.b2 O.e2 ?_
  rw [show (2 : Int).toNat = 2 from rfl, cut_eq t sp 2]
  have := intText_digs O.d2
  exact h _ _ this.1 (by show (cutL t sp 2).length ≤ 640; omega)
theorem group3_K (N : News h₀ L s.heap news) (hx : x = ⟨t.toArray⟩) (hm : (a, matchObj x tk tp mf) ∈ news) (ht : (tp, tupObj mf) ∈ news) (G : Finds t mf sp) (O : OffOk neg hh mm t sp) (hg : 0 ≤ sp.getD 6 (-1) ∧ 0 ≤ sp.getD 7 (-1) ∧ digs (cutL t sp 3) = some mm)
    (h : ∀ y t', PySem.intText? y = some (mm : Int) → y.length ≤ 640 → y.length ≠ 0 → Q (.str y t') { s with toks := s.toks + 1 }) :
    wpAny (model prog w) A (call (.builtin "re.Match.group") [.ref a, .int 3 tk2]) Q E s := by
  refine group_K N hx hm ht G (by decide) (by rw [O.len]; decide) rfl rfl hg.1 hg.2.1 ?_
  rw [show (3 : Int).toNat = 3 from rfl, cut_eq t sp 3]
  have := intText_digs hg.2.2
  refine h _ _ this.1 (by show (cutL t sp 3).length ≤ 640; omega) ?_
  show (cutL t sp 3).length ≠ 0
  intro e
  exact this.2.1 (List.length_eq_zero_iff.mp e)
theorem group3_none (N : News h₀ L s.heap news) (hx : x = ⟨t.toArray⟩) (hm : (a, matchObj x tk tp mf) ∈ news) (ht : (tp, tupObj mf) ∈ news) (G : Finds t mf sp) (O : OffOk neg hh mm t sp) (hg : sp.getD 6 (-1) < 0) (h : Q .none s) :
    wpAny (model prog w) A (call (.builtin "re.Match.group") [.ref a, .int 3 tk2]) Q E s :=
  group_K_none N hx hm ht G (by decide) (by rw [O.len]; decide) rfl hg h
theorem group1_K (N : News h₀ L s.heap news) (hx : x = ⟨t.toArray⟩) (hm : (a, matchObj x tk tp mf) ∈ news) (ht : (tp, tupObj mf) ∈ news) (G : Finds t mf sp) (O : OffOk neg hh mm t sp) (hg : 0 ≤ sp.getD 2 (-1) ∧ 0 ≤ sp.getD 3 (-1) ∧ cutL t sp 1 = [if neg then 45 else 43])
    (h : ∀ t', Q (.str ⟨#[if neg then 45 else 43]⟩ t') { s with toks := s.toks + 1 }) :
    wpAny (model prog w) A (call (.builtin "re.Match.group") [.ref a, .int 1 tk2]) Q E s := by
  refine group_K N hx hm ht G (by decide) (by rw [O.len]; decide) rfl rfl hg.1 hg.2.1 ?_
  rw [show (1 : Int).toNat = 1 from rfl, cut_eq t sp 1, hg.2.2]
  exact h _
theorem group1_none (N : News h₀ L s.heap news) (hx : x = ⟨t.toArray⟩) (hm : (a, matchObj x tk tp mf) ∈ news) (ht : (tp, tupObj mf) ∈ news) (G : Finds t mf sp) (O : OffOk neg hh mm t sp) (hg : sp.getD 2 (-1) < 0) (h : Q .none s) :
    wpAny (model prog w) A (call (.builtin "re.Match.group") [.ref a, .int 1 tk2]) Q E s :=
  group_K_none N hx hm ht G (by decide) (by rw [O.len]; decide) rfl hg h
end
local macro_rules | `(tactic| walk_at "getMethod ref") => `(tactic| (k_here; (with_reducible show wpAny _ _ (getMethod (Value.ref _) (Str.ofString "group") _) _ _ _); k_dflt (refine' get_group ?k1 ?k2 ?k3 ?k4 ?_; (case k1 => k_asm); (case k2 => exact .head _); (case k3 => exact rfl); (case k4 => exact rfl)); k_whole))
local macro_rules | `(tactic| walk_at "truthy ref") => `(tactic| (k_here; k_dflt (refine' truthy_match ?k1 ?k2 ?k3 ?_; (case k1 => k_asm); (case k2 => exact .head _); (case k3 => exact rfl))))
local macro_rules | `(tactic| walk_at "call builtin:re.Match.group") => `(tactic| (k_here; k_dflt (first
  | (refine' group2_K ?k1 ?k2 ?k3 ?k4 ?k5 ?k6 ?_; (case k1 => k_asm); (case k2 => assumption); (case k3 => exact .head _); (case k4 => exact .tail _ (.head _)); (case k5 => assumption); (case k6 => assumption); intro y9 t9 hy9 hl9)
  | (refine' group3_K ?k1 ?k2 ?k3 ?k4 ?k5 ?k6 ?k7 ?_; (case k1 => k_asm); (case k2 => assumption); (case k3 => exact .head _); (case k4 => exact .tail _ (.head _)); (case k5 => assumption); (case k6 => assumption); (case k7 => assumption); intro y9 t9 hy9 hl9 hz9)
  | (refine' group3_none ?k1 ?k2 ?k3 ?k4 ?k5 ?k6 ?k7 ?_; (case k1 => k_asm); (case k2 => assumption); (case k3 => exact .head _); (case k4 => exact .tail _ (.head _)); (case k5 => assumption); (case k6 => assumption); (case k7 => assumption))
  | (refine' group1_K ?k1 ?k2 ?k3 ?k4 ?k5 ?k6 ?k7 ?_; (case k1 => k_asm); (case k2 => assumption); (case k3 => exact .head _); (case k4 => exact .tail _ (.head _)); (case k5 => assumption); (case k6 => assumption); (case k7 => assumption); intro t9)
  | (refine' group1_none ?k1 ?k2 ?k3 ?k4 ?k5 ?k6 ?k7 ?_; (case k1 => k_asm); (case k2 => assumption); (case k3 => exact .head _); (case k4 => exact .tail _ (.head _)); (case k5 => assumption); (case k6 => assumption); (case k7 => assumption)))))
local macro_rules | `(tactic| walk_at "call type:int") => `(tactic| (k_here; (with_reducible show wpAny _ _ (call (Value.type "int") [Value.str _ _]) _ _ _); k_dflt (refine' KIT.call_text ?k1 ?k2 ?_; (case k1 => assumption); (case k2 => assumption))))
local macro_rules | `(tactic| walk_at "getMethod ref") => `(tactic| (k_here; (with_reducible show wpAny _ _ (getMethod (Value.ref 65) _ _) _ _ _); k_dflt (refine' get_search ?k1 ?k2 ?_; (case k1 => k_asm); (case k2 => k_asm)); k_whole))
local macro_rules | `(tactic| walk_at "call builtin:re.Pattern.search") => `(tactic| (k_here; k_dflt (refine' search_K ?k1 ?k2 ?k3 ?k4 ?k5 ?_; (case k1 => k_asm); (case k2 => k_asm); (case k3 => k_asm); (case k4 => assumption); (case k5 => assumption)); intro a9 tp9 h9 F9 N9; (try dsimp only); (try k_fold)))

theorem notzone {x : Str} {t : List Nat} {neg : Bool} {h m : Nat} {sp : List Int} (hx : x = ⟨t.toArray⟩) (O : OffOk neg h m t sp) :
    (decide (x = { cps := #[71, 77, 84] }) || (decide (x = { cps := #[85, 84, 67] }) || (decide (x = { cps := #[85, 84] }) || (decide (x = { cps := #[90] }) || false)))) = false := by
  subst hx
  have key : ∀ l : List Nat, t ≠ l → decide ((⟨t.toArray⟩ : Str) = ⟨l.toArray⟩) = false := by
    intro l hl
    rw [decide_eq_false_iff_not]
    intro e
    injection e with e
    exact hl (by have := congrArg Array.toList e; simpa using this)
  rw [key [71, 77, 84] O.z1, key [85, 84, 67] O.z2, key [85, 84] O.z3, key [90] O.z4]
  rfl
theorem sgn_eq (neg : Bool) : (({ cps := #[if neg = true then 45 else 43] } : Str) == Str.ofString "-") = neg := by cases neg <;> decide +kernel
set_option maxHeartbeats 0 in
theorem c_off_a (w : World) (mean : ExcName → Option Value) (mg mb : Str → Option Value) (news : List (Addr × Obj)) (x : Str) (t : List Nat) (mf : Sre.M) (sp : List Int) (neg : Bool) (h m : Nat) (tk : Tok)
    (hx : x = ⟨t.toArray⟩) (G : Finds t mf sp) (O : OffOk neg h m t sp) :
    MClaim 4 w mean mg mb 72 news True [.str x tk] (fun t => .int (if neg then -(3600 * (h : Int) + 60 * m) else 3600 * (h : Int) + 60 * m) t) := by
  dsimp only [MClaim, CbRet]
  k_fill
  intro dp un gd cn cs a ccd cl outer A₀ base h₀ L m₀ s Q E B F X N T hk hpre hdp hu hret
  refine wpAny_call ?_
  have hnz := notzone hx O
  k_dflt cell_enter
  rcases O.g3 with hg3 | hg3
  · obtain ⟨hg3, hg4⟩ := hg3
    rcases O.g1 with hg1 | hg1
    · obtain ⟨hg1, hg2⟩ := hg1
      k_steps
      all_goals first
        | exact absurd (hnz.symm.trans (by assumption)) (by decide)
        | (exfalso; omega)
        | (refine cb_retI hret ?_ (by assumption) (cb_drop (by assumption) (fun p hp => List.mem_cons_of_mem _ (List.mem_cons_of_mem _ hp))); rw [hg2, hg4]; simp; done)
    · k_steps
      all_goals first
        | exact absurd (hnz.symm.trans (by assumption)) (by decide)
        | (exfalso; omega)
        | (refine cb_retI hret ?_ (by assumption) (cb_drop (by assumption) (fun p hp => List.mem_cons_of_mem _ (List.mem_cons_of_mem _ hp))); rw [hg4]; first | (have e : neg = true := (sgn_eq neg).symm.trans (by assumption); rw [e]; simp; done) | (have e : neg = false := (sgn_eq neg).symm.trans (by assumption); rw [e]; simp; done))
  · rcases O.g1 with hg1 | hg1
    · obtain ⟨hg1, hg2⟩ := hg1
      k_steps
      all_goals first
        | exact absurd (hnz.symm.trans (by assumption)) (by decide)
        | (exfalso; omega)
        | (refine cb_retI hret ?_ (by assumption) (cb_drop (by assumption) (fun p hp => List.mem_cons_of_mem _ (List.mem_cons_of_mem _ hp))); rw [hg2]; simp; done)
    · k_steps
      all_goals first
        | exact absurd (hnz.symm.trans (by assumption)) (by decide)
        | (exfalso; omega)
        | (refine cb_retI hret ?_ (by assumption) (cb_drop (by assumption) (fun p hp => List.mem_cons_of_mem _ (List.mem_cons_of_mem _ hp))); first | (have e : neg = true := (sgn_eq neg).symm.trans (by assumption); rw [e]; simp; done) | (have e : neg = false := (sgn_eq neg).symm.trans (by assumption); rw [e]; simp; done))
set_option maxHeartbeats 0 in
theorem c_off_z (w : World) (mean : ExcName → Option Value) (mg mb : Str → Option Value) (news : List (Addr × Obj)) (x : Str) (tk : Tok)
    (hx : x = { cps := #[90] }) :
    MClaim 4 w mean mg mb 72 news True [.str x tk] (fun t => .int 0 t) := by
  dsimp only [MClaim, CbRet]
  k_fill
  intro dp un gd cn cs a ccd cl outer A₀ base h₀ L m₀ s Q E B F X N T hk hpre hdp hu hret
  refine wpAny_call ?_
  have hnz : (decide (x = { cps := #[71, 77, 84] }) || (decide (x = { cps := #[85, 84, 67] }) || (decide (x = { cps := #[85, 84] }) || (decide (x = { cps := #[90] }) || false)))) = true := by
    subst hx; decide +kernel
  k_dflt cell_enter
  k_steps
  all_goals first
    | exact absurd (hnz.symm.trans (by assumption)) (by decide)
    | (refine cb_retI hret ?_ (by assumption) (by assumption); rfl)
theorem c_off (w : World) (mean : ExcName → Option Value) (mg mb : Str → Option Value) (news : List (Addr × Obj)) (q k : Int) (tk : Tok) (h1 : -48 ≤ q) (h2 : q ≤ 56) (h3 : 0 ≤ k) (h4 : k ≤ 3) :
    MClaim 4 w mean mg mb 72 news True [.str (textF q k) tk] (fun t => .int (900 * q) t) := by
  have hm := fm60 (15 * if q < 0 then -q else q)
  have hd := fd60 h1 h2
  have ed := Int.fdiv_eq_ediv_of_nonneg (15 * if q < 0 then -q else q) (show (0 : Int) ≤ 60 by decide)
  have em := Int.fmod_eq_emod_of_nonneg (15 * if q < 0 then -q else q) (show (0 : Int) ≤ 60 by decide)
  by_cases hz : k = 3 ∧ q = 0
  · obtain ⟨rfl, rfl⟩ := hz
    exact c_off_z w mean mg mb news _ tk (by decide +kernel)
  · have hM : (Int.fmod (absF q) 60).toNat = 0 ∨ (Int.fmod (absF q) 60).toNat = 15 ∨ (Int.fmod (absF q) 60).toNat = 30 ∨ (Int.fmod (absF q) 60).toNat = 45 := by
      unfold absF
      rw [em]
      split <;> omega
    have hH : (Int.fdiv (absF q) 60).toNat < 15 := by
      unfold absF
      omega
    have hK : k.toNat < 4 := by omega
    have hne : ¬ (k.toNat = 3 ∧ (Int.fdiv (absF q) 60).toNat = 0 ∧ (Int.fmod (absF q) 60).toNat = 0) := by
      rintro ⟨e1, e2, e3⟩
      unfold absF at e2 e3
      rw [ed] at e2
      rw [em] at e3
      apply hz
      split at e2 <;> split at e3 <;> omega
    obtain ⟨mf, sp, G, O⟩ := off_finds (neg := decide (q < 0)) hH hM hK hne
    have C := c_off_a w mean mg mb news (textF q k) _ mf sp _ _ _ tk rfl G O
    have e : (if decide (q < 0) = true then -(3600 * ((Int.fdiv (absF q) 60).toNat : Int) + 60 * ((Int.fmod (absF q) 60).toNat : Int)) else 3600 * ((Int.fdiv (absF q) 60).toNat : Int) + 60 * ((Int.fmod (absF q) 60).toNat : Int)) = 900 * q := by
      unfold absF
      rw [ed, em]
      by_cases hq : q < 0
      · simp only [hq, decide_true, if_true]; omega
      · simp only [hq, decide_false, if_false, Bool.false_eq_true]; omega
    rw [e] at C
    exact C
end Mine
/-! part C7 -/
namespace Mine
open PySem PySem.W PyProof PyProof.Rows PySem.Calls PySem.Spec
def dnF (y m d : Int) : Int := dbyF y + dbmF y m + d
structure Inv (T y m d w : Int) : Prop where
  m1 : 1 ≤ m
  m2 : m ≤ 12
  d1 : 1 ≤ d
  d2 : d ≤ pagesF y m
  eq : 1440 * dnF y m d + w = T
theorem leap_eq (y : Int) : leapF y = decide (y % 4 = 0 ∧ (y % 100 ≠ 0 ∨ y % 400 = 0)) := by
  unfold leapF
  rw [Int.fmod_eq_emod_of_nonneg _ (by decide), Int.fmod_eq_emod_of_nonneg _ (by decide), Int.fmod_eq_emod_of_nonneg _ (by decide)]
  rw [Bool.eq_iff_iff]
  simp
theorem dby_eq (y : Int) : dbyF y = (y - 1) * 365 + (y - 1) / 4 - (y - 1) / 100 + (y - 1) / 400 := by
  unfold dbyF
  rw [Int.fdiv_eq_ediv_of_nonneg _ (by decide), Int.fdiv_eq_ediv_of_nonneg _ (by decide), Int.fdiv_eq_ediv_of_nonneg _ (by decide)]
theorem pages2_eq (y : Int) : pagesF y 2 = if leapF y = true then 29 else 28 := by
  unfold pagesF
  have e25 := Int.fmod_eq_emod_of_nonneg y (show (0 : Int) ≤ 25 by decide)
  rw [leap_eq, if_pos rfl, e25]
  by_cases h25 : y % 25 = 0
  · rw [if_pos h25, Int.fmod_eq_emod_of_nonneg _ (by decide)]
    by_cases h16 : y % 16 = 0
    · rw [if_pos h16, if_pos (by simp; omega)]
    · rw [if_neg h16, if_neg (by simp; omega)]
  · rw [if_neg h25, Int.fmod_eq_emod_of_nonneg _ (by decide)]
    by_cases h4 : y % 4 = 0
    · rw [if_pos h4, if_pos (by simp; omega)]
    · rw [if_neg h4, if_neg (by simp; omega)]
theorem months {m : Int} (h1 : 1 ≤ m) (h2 : m ≤ 12) : m = 1 ∨ m = 2 ∨ m = 3 ∨ m = 4 ∨ m = 5 ∨ m = 6 ∨ m = 7 ∨ m = 8 ∨ m = 9 ∨ m = 10 ∨ m = 11 ∨ m = 12 := by omega
theorem pages_far (y : Int) {m k : Int} (h : m ≠ 2) (e : 30 + Int.fmod (m + Int.fdiv m 8) 2 = k) : pagesF y m = k := by
  unfold pagesF; rw [if_neg h]; exact e
theorem pages_pos (y : Int) {m : Int} (h1 : 1 ≤ m) (h2 : m ≤ 12) : 28 ≤ pagesF y m := by
  rcases months h1 h2 with rfl | rfl | rfl | rfl | rfl | rfl | rfl | rfl | rfl | rfl | rfl | rfl
  · rw [pages_far y (k := 31) (by decide) (by decide)]; decide
  · rw [pages2_eq]; split <;> decide
  · rw [pages_far y (k := 31) (by decide) (by decide)]; decide
  · rw [pages_far y (k := 30) (by decide) (by decide)]; decide
  · rw [pages_far y (k := 31) (by decide) (by decide)]; decide
  · rw [pages_far y (k := 30) (by decide) (by decide)]; decide
  · rw [pages_far y (k := 31) (by decide) (by decide)]; decide
  · rw [pages_far y (k := 31) (by decide) (by decide)]; decide
  · rw [pages_far y (k := 30) (by decide) (by decide)]; decide
  · rw [pages_far y (k := 31) (by decide) (by decide)]; decide
  · rw [pages_far y (k := 30) (by decide) (by decide)]; decide
  · rw [pages_far y (k := 31) (by decide) (by decide)]; decide
theorem dbm_is (y : Int) : dbmF y 1 = 0 ∧ dbmF y 2 = 31 ∧ (∀ m ∈ [(3, 59), (4, 90), (5, 120), (6, 151), (7, 181), (8, 212), (9, 243), (10, 273), (11, 304), (12, 334)], dbmF y m.1 = m.2 + if leapF y = true then 1 else 0) := by
  unfold dbmF
  refine ⟨rfl, rfl, ?_⟩
  cases leapF y <;> decide
/-- from a month's last day to the next month's first -/
theorem dn_next (y : Int) {m : Int} (h1 : 1 ≤ m) (h2 : m < 12) : dnF y (m + 1) 1 = dnF y m (pagesF y m) + 1 := by
  obtain ⟨e1, e2, e⟩ := dbm_is y
  have e3 := e (3, 59) (by decide)
  have e4 := e (4, 90) (by decide)
  have e5 := e (5, 120) (by decide)
  have e6 := e (6, 151) (by decide)
  have e7 := e (7, 181) (by decide)
  have e8 := e (8, 212) (by decide)
  have e9 := e (9, 243) (by decide)
  have e10 := e (10, 273) (by decide)
  have e11 := e (11, 304) (by decide)
  have e12 := e (12, 334) (by decide)
  dsimp only at e3 e4 e5 e6 e7 e8 e9 e10 e11 e12
  unfold dnF
  rcases months h1 (by omega) with rfl | rfl | rfl | rfl | rfl | rfl | rfl | rfl | rfl | rfl | rfl | rfl
  · rw [pages_far y (k := 31) (by decide) (by decide), show (1 : Int) + 1 = 2 from rfl]; omega
  · rw [pages2_eq, show (2 : Int) + 1 = 3 from rfl]; split at e3 <;> simp_all <;> omega
  · rw [pages_far y (k := 31) (by decide) (by decide), show (3 : Int) + 1 = 4 from rfl]; omega
  · rw [pages_far y (k := 30) (by decide) (by decide), show (4 : Int) + 1 = 5 from rfl]; omega
  · rw [pages_far y (k := 31) (by decide) (by decide), show (5 : Int) + 1 = 6 from rfl]; omega
  · rw [pages_far y (k := 30) (by decide) (by decide), show (6 : Int) + 1 = 7 from rfl]; omega
  · rw [pages_far y (k := 31) (by decide) (by decide), show (7 : Int) + 1 = 8 from rfl]; omega
  · rw [pages_far y (k := 31) (by decide) (by decide), show (8 : Int) + 1 = 9 from rfl]; omega
  · rw [pages_far y (k := 30) (by decide) (by decide), show (9 : Int) + 1 = 10 from rfl]; omega
  · rw [pages_far y (k := 31) (by decide) (by decide), show (10 : Int) + 1 = 11 from rfl]; omega
  · rw [pages_far y (k := 30) (by decide) (by decide), show (11 : Int) + 1 = 12 from rfl]; omega
  · exfalso; omega
theorem dn_year (y : Int) : dnF (y + 1) 1 1 = dnF y 12 (pagesF y 12) + 1 := by
  obtain ⟨_, _, e⟩ := dbm_is y
  have e12 := e (12, 334) (by decide)
  have e1 := (dbm_is (y + 1)).1
  dsimp only at e12
  rw [pages_far y (k := 31) (by decide) (by decide)]
  unfold dnF
  rw [e12, e1, dby_eq, dby_eq, leap_eq]
  by_cases hl : y % 4 = 0 ∧ (y % 100 ≠ 0 ∨ y % 400 = 0)
  · rw [if_pos (by exact decide_eq_true hl)]; omega
  · rw [if_neg (by simpa using hl)]; omega
end Mine
/-! part C8 -/
namespace Mine
open PySem PySem.W PyProof PyProof.Rows PySem.Calls PySem.Spec
theorem inv_fwd {T y m d w : Int} (I : Inv T y m d w) (h : ¬ pagesF y m < d + 1) : Inv T y m (d + 1) (w - 1440) :=
  ⟨I.m1, I.m2, by have := I.d1; omega, by omega, by have := I.eq; unfold dnF at *; omega⟩
theorem inv_fwdM {T y m d w : Int} (I : Inv T y m d w) (h : pagesF y m < d + 1) (h2 : m + 1 ≠ 13) : Inv T y (m + 1) 1 (w - 1440) := by
  have i1 := I.m1
  have i2 := I.m2
  have i3 := I.d2
  have e := dn_next y i1 (by omega)
  have ie := I.eq
  have hp := pages_pos y (m := m + 1) (by omega) (by omega)
  have hd : d = pagesF y m := by omega
  rw [hd] at ie
  exact ⟨by omega, by omega, by omega, by omega, by omega⟩
theorem inv_fwdY {T y m d w : Int} (I : Inv T y m d w) (h : pagesF y m < d + 1) (h2 : m + 1 = 13) : Inv T (y + 1) 1 1 (w - 1440) := by
  have hm : m = 12 := by omega
  subst hm
  have i3 := I.d2
  have e := dn_year y
  have ie := I.eq
  have hp := pages_pos (y + 1) (m := 1) (by omega) (by omega)
  have hd : d = pagesF y 12 := by omega
  rw [hd] at ie
  exact ⟨by omega, by omega, by omega, by omega, by omega⟩
theorem inv_bwd {T y m d w : Int} (I : Inv T y m d w) (h : d - 1 ≠ 0) : Inv T y m (d - 1) (w + 1440) :=
  ⟨I.m1, I.m2, by have := I.d1; omega, by have := I.d2; omega, by have := I.eq; unfold dnF at *; omega⟩
theorem inv_bwdM {T y m d w : Int} (I : Inv T y m d w) (h : d - 1 = 0) (h2 : m - 1 ≠ 0) : Inv T y (m - 1) (pagesF y (m - 1)) (w + 1440) := by
  have i1 := I.m1
  have i2 := I.m2
  have e := dn_next y (m := m - 1) (by omega) (by omega)
  rw [show m - 1 + 1 = m by omega] at e
  have ie := I.eq
  have hp := pages_pos y (m := m - 1) (by omega) (by omega)
  have hd : d = 1 := by omega
  rw [hd] at ie
  exact ⟨by omega, by omega, by omega, by omega, by omega⟩
theorem inv_bwdY {T y m d w : Int} (I : Inv T y m d w) (h : d - 1 = 0) (h2 : m - 1 = 0) : Inv T (y - 1) 12 (pagesF (y - 1) 12) (w + 1440) := by
  have hm : m = 1 := by omega
  subst hm
  have e := dn_year (y - 1)
  rw [show y - 1 + 1 = y by omega] at e
  have ie := I.eq
  have hp := pages_pos (y - 1) (m := 12) (by omega) (by omega)
  have hd : d = 1 := by omega
  rw [hd] at ie
  exact ⟨by omega, by omega, by omega, by omega, by omega⟩
abbrev tup2 (v1 v2 : Value) : Obj := { cls := .type "tuple", data := .seq #[v1, v2] }
abbrev tup3 (v1 v2 v3 : Value) : Obj := { cls := .type "tuple", data := .seq #[v1, v2, v3] }
abbrev MMoved (k : Nat) (w : World) (mean : ExcName → Option Value) (mg mb : Str → Option Value) (news : List (Addr × Obj)) (vs : List Value) (T : Int) : Prop :=
  ∀ (dp un : Nat) (gd : Option (List Code)) (cn : Str) (cs : Scope) (a : Addr) (ccd : Value) (cl : List (Str × Addr)) (outer : List Env) (A₀ : Around) (base h₀ : Heap) (L : Addr) (m : Str → Option Value) (s : Shared) (Q E : Value → Shared → Prop),
    Below A₀ base outer h₀ → Fr h₀ L s.heap m → (hd.heap_39 w.params).In h₀ → News h₀ L s.heap news → Top hd.view_39 loose0 mean mg mb h₀ → cs.kind = .function →
    dp + k < recursionLimit → un + 10 * k < cLine →
    (∀ (a b : Addr) (ty tm td tw : Tok) (y m' d wt : Int) (h' : Heap) (tk' : Nat), Inv T y m' d wt → 0 ≤ wt → wt < 1440 → b < a → (∀ p ∈ news, p.1 < b) → Fr h₀ L h' m → News h₀ L h' ((a, tup2 (.ref b) (.int wt tw)) :: (b, tup3 (.int y ty) (.int m' tm) (.int d td)) :: news) → Q (.ref a) { s with heap := h', toks := tk' }) →
      wpAny (model Challenge.rw_wb0010_01.row.toRowW.prog w) (ktrTop dp un gd cn cs L a ccd cl outer) (call (.ref 100) vs) Q E s

local macro_rules | `(tactic| walk_at "eval Call") => `(tactic| ((with_reducible show wpAny _ _ (eval (Expr.Call (Expr.Name _ _) _ [] _) _) _ _ _); k_dflt (refine Call_ ?_)))
local macro_rules | `(tactic| walk_at "call ref") => `(tactic| (k_here; (with_reducible show wpAny _ _ (call (Value.ref 93) _) _ _ _); k_dflt (refine' MClaim.use (c_pages _ _ _ _ _ _ _ _ _) ?k1 ?k2 ?k3 ?k4 ?k5 ?kK ?kp ?kd ?ku ?_; (case k1 => k_asm); (case k2 => k_asm); (case k3 => k_asm); (case k4 => k_asm); (case k5 => k_asm); (case kK => first | exact rfl | assumption); (case kp => trivial); (case kd => ktr_room); (case ku => ktr_units)); intro t9 h9 tk9 F9 N9; (try dsimp only); (try k_fold)))

set_option maxHeartbeats 0 in
theorem c_moved (w : World) (mean : ExcName → Option Value) (mg mb : Str → Option Value) (news : List (Addr × Obj)) (pg : Addr) (y0 m0 d0 w0 mi T : Int) (ty tm td tw tmi : Tok)
    (hmem : (pg, tup3 (.int y0 ty) (.int m0 tm) (.int d0 td)) ∈ news) (hI : Inv T y0 m0 d0 (w0 + mi)) :
    MMoved 4 w mean mg mb news [.ref pg, .int w0 tw, .int mi tmi] T := by
  dsimp only [MMoved]
  k_fill
  intro dp un gd cn cs a ccd cl outer A₀ base h₀ L m₀ s Q E B F X N Tp hk hdp hu hret
  refine wpAny_call ?_
  k_dflt cell_enter
  k_with "state" => first
    | exact hI
    | exact ⟨hI, by omega⟩
    | exact ⟨by assumption, by omega⟩
    | assumption
    | exact inv_fwd (by assumption) (by omega)
    | exact inv_fwdM (by assumption) (by omega) (by omega)
    | exact inv_fwdY (by assumption) (by omega) (by omega)
    | exact ⟨inv_bwd (by assumption) (by omega), by omega⟩
    | exact ⟨inv_bwdM (by assumption) (by omega) (by omega), by omega⟩
    | exact ⟨inv_bwdY (by assumption) (by omega) (by omega), by omega⟩
    | exact absurd (Inv.m2 (T := T) (by assumption)) (by omega)
  k_with "exec While Compare cons nil" => first
    | k_while (fun _ y m d w => Inv T y m d w ∧ w < 1440) (fun _ y m d w => (-w).toNat) "year" "month" "day" "watch"
    | k_while (fun _ y m d w => Inv T y m d w) (fun _ y m d w => w.toNat) "year" "month" "day" "watch"
  k_steps
  all_goals (
    refine' hret _ _ _ _ _ _ _ _ _ _ _ _ ?hI ?h0 ?h1 ?hlt ?hal ?hF ?hN
    (case hN => assumption)
    (case hF => assumption)
    (case hI => assumption)
    (case h0 => omega)
    (case h1 => assumption)
    (case hlt => first | exact And.left (by assumption) | omega)
    (case hal => assumption))
end Mine
/-! part C9 -/
namespace Mine
open PySem PySem.W PyProof PyProof.Rows PySem.Calls PySem.Spec
def Leg (d : Dat) : Prop := ∃ q k st : Int, d = Dat.tuple [Dat.int q, Dat.int k, Dat.int st] ∧ -48 ≤ q ∧ q ≤ 56 ∧ 0 ≤ k ∧ k ≤ 3 ∧ 0 ≤ st ∧ st < 4320
abbrev MPlan (k : Nat) (w : World) (mean : ExcName → Option Value) (mg mb : Str → Option Value) (news : List (Addr × Obj)) (ls : Addr) (wvs : List Value) (ns : List Int) : Prop :=
  ∀ (dp un : Nat) (gd : Option (List Code)) (cn : Str) (cs : Scope) (a : Addr) (ccd : Value) (cl : List (Str × Addr)) (outer : List Env) (A₀ : Around) (base h₀ : Heap) (L : Addr) (m : Str → Option Value) (s : Shared) (Q E : Value → Shared → Prop),
    Below A₀ base outer h₀ → Fr h₀ L s.heap m → (hd.heap_39 w.params).In h₀ → News h₀ L s.heap news → Top hd.view_39 loose0 mean mg mb h₀ → cs.kind = .function →
    base.IsList ls wvs.toArray → IntsAre wvs ns → (PyData.list (ns.map PyData.int)).layable0 = true →
    dp + k < recursionLimit → un + 10 * k < cLine →
    (∀ (l : Addr) (vs : List Value) (ds : List Dat) (n : Nat) (news' : List (Addr × Obj)) (h' : Heap) (tk' : Nat), (l, listOf vs.toArray n) ∈ news' → DatAll news' vs ds → (∀ d ∈ ds, Leg d) → (∀ p ∈ news, p ∈ news') → Fr h₀ L h' m → News h₀ L h' news' → Q (.ref l) { s with heap := h', toks := tk' }) →
      wpAny (model Challenge.rw_wb0010_01.row.toRowW.prog w) (ktrTop dp un gd cn cs L a ccd cl outer) (call (.ref 79) [.ref ls]) Q E s
theorem append_drop {prog : Program} {w : World} {A : Around} {E : Value → Shared → Prop} {s : Shared} {h₀ : Heap} {L D : Addr} {m : Str → Option Value} {p1 p2 p3 : Addr × Obj} {rest : List (Addr × Obj)} {its : Array Value} {n : Nat} {x : Value} {Q : Value → Shared → Prop}
    (F : Fr h₀ L s.heap m) (N : News h₀ L s.heap (p1 :: p2 :: p3 :: (D, W.listOf its n) :: rest)) (h1 : p1.1 ≠ D) (hr : ∀ p ∈ rest, p.1 ≠ D) (hsz : its.size ≤ sizeLine)
    (h : ∀ h', Fr h₀ L h' m → News h₀ L h' (p1 :: (D, W.listOf (its.push x) (n + 1)) :: rest) → Q .none { s with heap := h' }) :
    wpAny (model prog w) A (call (.builtin "list.append") [.ref D, x]) Q E s := by
  have N2 : News h₀ L s.heap (p1 :: (D, W.listOf its n) :: rest) := fun p hp => N p (by
    rcases List.mem_cons.mp hp with rfl | hp
    · exact List.mem_cons_self
    · exact List.mem_cons_of_mem _ (List.mem_cons_of_mem _ (List.mem_cons_of_mem _ hp)))
  refine append_K (hsz := hsz) F N2 (Upd.tail h1 (Upd.head hr)) ?_
  exact h
local macro_rules | `(tactic| walk_at "call builtin:list.append") => `(tactic| (k_here; k_dflt (refine' append_drop ?k1 ?k2 ?k3 ?k4 ?k5 ?_; (case k1 => k_asm); (case k2 => k_asm); (case k3 => ((try dsimp only); (refine neN ?_; omega)));  (case k4 => (refine List.forall_mem_cons.mpr ⟨?_, List.forall_mem_append.mpr ⟨fun p hp => ?_, fun p hp => ?_⟩⟩; ((try dsimp only); (refine neN ?_; omega)); (exact Nat.ne_of_lt ((by assumption : ∀ p ∈ _, p.1 < _) p hp)); (exact (by assumption : OwnOff _ _) p hp _ List.mem_cons_self)));  (case k5 => size_fits)); intro h9 F9 N9))
abbrev legD (a b c : Int) : Dat := Dat.tuple [Dat.int a, Dat.int b, Dat.int c]
theorem dat3 {news : List (Addr × Obj)} {a : Addr} {i j k : Int} {t u v : Tok} (h : (a, ({ cls := .type "tuple", data := .seq #[.int i t, .int j u, .int k v] } : Obj)) ∈ news) : DatIn news (.ref a) (legD i j k) :=
  .tuple (vs := [.int i t, .int j u, .int k v]) h (.cons (.int _ _) (.cons (.int _ _) (.cons (.int _ _) .nil)))
theorem legs5 {ds : List Dat} (h : ∀ d ∈ ds, Leg d) : ∀ d ∈ ds ++ [legD 22 0 1500, legD 40 1 700, legD (-40) 2 2000, legD (-14) 3 1100, legD 0 0 600], Leg d := by
  intro d hd
  rcases List.mem_append.mp hd with hd | hd
  · exact h d hd
  · simp only [List.mem_cons, List.not_mem_nil, or_false] at hd
    rcases hd with rfl | rfl | rfl | rfl | rfl <;> exact ⟨_, _, _, rfl, by decide, by decide, by decide, by decide, by decide, by decide⟩
set_option maxHeartbeats 0 in
theorem c_plan (w : World) (mean : ExcName → Option Value) (mg mb : Str → Option Value) (news : List (Addr × Obj)) (ls : Addr) (wvs : List Value) (ns : List Int) :
    MPlan 4 w mean mg mb news ls wvs ns := by
  dsimp only [MPlan]
  k_fill
  intro dp un gd cn cs a ccd cl outer A₀ base h₀ L m₀ s Q E B F X N Tp hk hls hints hlen hdp hu hret
  refine wpAny_call ?_
  k_dflt cell_enter
  k_with "pyIter ref" => k_dat (fun pre plan => plan.length = pre.length ∧ ∀ d ∈ plan, Leg d) "plan*"
  k_steps
  all_goals (
    refine' hret _ (_ ++ [_, _, _, _, _]) (_ ++ [legD 22 0 1500, legD 40 1 700, legD (-40) 2 2000, legD (-14) 3 1100, legD 0 0 600]) 0 _ _ _ ?mem ?dat ?legs ?sub ?F ?N
    (case N => assumption)
    (case F => assumption)
    (case mem => exact List.mem_cons_self)
    (case legs => exact legs5 (by assumption))
    (case sub => exact fun p hp => List.mem_cons_of_mem _ (List.mem_cons_of_mem _ (List.mem_cons_of_mem _ (List.mem_cons_of_mem _ (List.mem_cons_of_mem _ (List.mem_cons_of_mem _ (List.mem_cons_of_mem _ (List.mem_cons_of_mem _ (List.mem_cons_of_mem _ (List.mem_append_left _ hp))))))))))
    (case dat =>
      refine DatAll.append (DatAll.mono (fun p hp => List.mem_cons_of_mem _ (List.mem_cons_of_mem _ (List.mem_cons_of_mem _ (List.mem_cons_of_mem _ (List.mem_cons_of_mem _ (List.mem_cons_of_mem _ (List.mem_cons_of_mem _ (List.mem_cons_of_mem _ hp)))))))) (by assumption)) ?_
      refine' .cons (dat3 ?h1) (.cons (dat3 ?h2) (.cons (dat3 ?h3) (.cons (dat3 ?h4) (.cons (dat3 ?h5) .nil))))
      all_goals (repeat (first | exact List.mem_cons_self | refine List.mem_cons_of_mem _ ?_))))
end Mine
/-! part C10 -/
namespace Mine
open PySem PySem.W PyProof PyProof.Rows PySem.Calls PySem.Spec
theorem MPlan.use {k : Nat} {w : World} {mean : ExcName → Option Value} {mg mb : Str → Option Value} {news : List (Addr × Obj)} {ls : Addr} {wvs : List Value} {ns : List Int} (C : MPlan k w mean mg mb news ls wvs ns)
    {dp un : Nat} {gd : Option (List Code)} {cn : Str} {cs : Scope} {a : Addr} {ccd : Value} {cl : List (Str × Addr)} {outer : List Env} {A₀ : Around} {base h₀ : Heap} {L : Addr} {m : Str → Option Value} {s : Shared} {Q E : Value → Shared → Prop}
    (B : Below A₀ base outer h₀) (F : Fr h₀ L s.heap m) (X : (hd.heap_39 w.params).In h₀) (N : News h₀ L s.heap news) (T : Top hd.view_39 loose0 mean mg mb h₀) (hk : cs.kind = .function)
    (hl : base.IsList ls wvs.toArray) (hi : IntsAre wvs ns) (hy : (PyData.list (ns.map PyData.int)).layable0 = true) (hd : dp + k < recursionLimit) (hu : un + 10 * k < cLine)
    (ret : ∀ (l : Addr) (vs : List Value) (ds : List Dat) (n : Nat) (news' : List (Addr × Obj)) (h' : Heap) (tk' : Nat), (l, W.listOf vs.toArray n) ∈ news' → DatAll news' vs ds → (∀ d ∈ ds, Leg d) → (∀ p ∈ news, p ∈ news') → Fr h₀ L h' m → News h₀ L h' news' → Q (.ref l) { s with heap := h', toks := tk' }) :
    wpAny (model Challenge.rw_wb0010_01.row.toRowW.prog w) (ktrTop dp un gd cn cs L a ccd cl outer) (call (.ref 79) [.ref ls]) Q E s := C _ _ _ _ _ _ _ _ _ _ _ _ _ _ _ _ _ B F X N T hk hl hi hy hd hu ret
theorem MMoved.use {k : Nat} {w : World} {mean : ExcName → Option Value} {mg mb : Str → Option Value} {news : List (Addr × Obj)} {vs : List Value} {T : Int} (C : MMoved k w mean mg mb news vs T)
    {dp un : Nat} {gd : Option (List Code)} {cn : Str} {cs : Scope} {a : Addr} {ccd : Value} {cl : List (Str × Addr)} {outer : List Env} {A₀ : Around} {base h₀ : Heap} {L : Addr} {m : Str → Option Value} {s : Shared} {Q E : Value → Shared → Prop}
    (B : Below A₀ base outer h₀) (F : Fr h₀ L s.heap m) (X : (hd.heap_39 w.params).In h₀) (N : News h₀ L s.heap news) (Tp : Top hd.view_39 loose0 mean mg mb h₀) (hk : cs.kind = .function) (hd : dp + k < recursionLimit) (hu : un + 10 * k < cLine)
    (ret : ∀ (a b : Addr) (ty tm td tw : Tok) (y m' d wt : Int) (h' : Heap) (tk' : Nat), Inv T y m' d wt → 0 ≤ wt → wt < 1440 → b < a → (∀ p ∈ news, p.1 < b) → Fr h₀ L h' m → News h₀ L h' ((a, tup2 (.ref b) (.int wt tw)) :: (b, tup3 (.int y ty) (.int m' tm) (.int d td)) :: news) → Q (.ref a) { s with heap := h', toks := tk' }) :
    wpAny (model Challenge.rw_wb0010_01.row.toRowW.prog w) (ktrTop dp un gd cn cs L a ccd cl outer) (call (.ref 100) vs) Q E s := C _ _ _ _ _ _ _ _ _ _ _ _ _ _ _ _ _ B F X N Tp hk hd hu ret
theorem inv_shift {T y m d w : Int} (mi : Int) (I : Inv T y m d w) : Inv (T + mi) y m d (w + mi) := ⟨I.m1, I.m2, I.d1, I.d2, by have := I.eq; omega⟩

section
variable {prog : Program} {w : World} {A : Around} {E : Value → Shared → Prop} {s : Shared} {env : Env} {h₀ : Heap} {target : Expr} {body : List Stmt} {Q : Flow → Shared → Prop}
theorem leg_loop {l : Addr} {vs : List Value} {ds : List Dat} {n : Nat} {m₀ : Str → Option Value} {news : List (Addr × Obj)} (J : (Str → Option Value) → List (Addr × Obj) → Prop)
    (hh : A.handled = none) (F : Fr h₀ env.locals s.heap m₀) (N : News h₀ env.locals s.heap news) (hm : (l, W.listOf vs.toArray n) ∈ news) (hD : DatAll news vs ds) (hL : ∀ d ∈ ds, Leg d) (h0 : J m₀ news)
    (turn : ∀ (I : Addr) (o : Obj) (v : Value) (d : Dat) (m₁ : Str → Option Value) (news₁ : List (Addr × Obj)) (h : Heap) (tk : Nat) (Qp : Flow → Shared → Prop), DatIn news₁ v d → Leg d → J m₁ news₁ → (∀ p ∈ news₁, p.1 ≠ I) → Fr h₀ env.locals h m₁ → News h₀ env.locals h ((I, o) :: news₁) →
      (∀ (h' : Heap) (tk' : Nat) (m' : Str → Option Value) (news' : List (Addr × Obj)), Fr h₀ env.locals h' m' → News h₀ env.locals h' ((I, o) :: news') → (∀ p ∈ news', p.1 ≠ I) → (∀ p ∈ news₁, p ∈ news') → J m' news' → Qp .next { s with heap := h', toks := tk' }) →
      wpAny (model prog w) A (assign target env v) (fun _ s₂ => wpAny (model prog w) A (execs body env) Qp E s₂) E { s with heap := h, toks := tk })
    (done : ∀ (h : Heap) (tk : Nat) (m' : Str → Option Value) (news' : List (Addr × Obj)), Fr h₀ env.locals h m' → News h₀ env.locals h news' → J m' news' → Q .next { s with heap := h, toks := tk }) :
    wpAny (model prog w) A (pyIter (.ref l)) (fun it s₂ => TurnsAt prog w A h₀ env target body Q E it s₂) E s := by
  refine iter_listTurns hh F N hm rfl rfl (fun I hI => ?_)
  have key : ∀ (us : List Value) (es : List Dat) (m : Str → Option Value) (nw : List (Addr × Obj)), DatAll nw us es → (∀ d ∈ es, Leg d) → (l, W.listOf vs.toArray n) ∈ nw → (∀ p ∈ nw, p.1 ≠ I) → J m nw →
      ItemsRest prog w A E h₀ env target body Q s [(I, "list_iterator")] [(l, W.listOf vs.toArray n)] (us.map .val) m nw := by
    intro us
    induction us with
    | nil =>
      intro es m nw _ _ _ _ hJ
      exact ItemsRest.zero fun h tk F' N' => done h tk m nw F' N' hJ
    | cons v us ih =>
      intro es m nw hd hl hmem hoff hJ
      cases hd with
      | cons hv hr =>
        rename_i d es
        refine ItemsRest.val fun h tk F' => AllObj.cons fun o _ => AllObj.nil fun N' => ?_
        refine turn I o v d m nw h tk _ hv (hl d List.mem_cons_self) hJ hoff F' N' ?_
        intro h' tk' m' nw' F2 N2 off2 sub2 J2
        refine ⟨h', tk', m', nw', rfl, F2, N2, fun p hp q hq => ?_, ?_, ?_⟩
        · rw [List.mem_singleton.mp hq]
          exact off2 p hp
        · exact ⟨sub2 _ hmem, trivial⟩
        · exact ih es m' nw' (DatAll.mono sub2 hr) (fun d hd => hl d (List.mem_cons_of_mem _ hd)) (sub2 _ hmem) off2 J2
  exact key vs ds m₀ news hD hL hm (fun p hp => Nat.ne_of_lt (hI p hp)) h0
end
/-- what holds between the legs -/
structure LegJ (first : Int) (m : Str → Option Value) (news : List (Addr × Obj)) (pg : Addr) (y mo d w here gone rounds : Int) (ty tm td t1 t2 t3 t4 t5 : Tok) : Prop where
  npage : m (Str.ofString "page") = some (.ref pg)
  nmem : (pg, tup3 (.int y ty) (.int mo tm) (.int d td)) ∈ news
  nwatch : m (Str.ofString "watch") = some (.int w t1)
  nfirst : m (Str.ofString "first") = some (.int first t2)
  nhere : m (Str.ofString "here") = some (.int here t3)
  ngone : m (Str.ofString "gone") = some (.int gone t4)
  nrounds : m (Str.ofString "rounds") = some (.int rounds t5)
  w0 : 0 ≤ w
  w1 : w < 1440
  h0 : -48 ≤ here
  h1 : here ≤ 56
  inv : Inv (1440 * first + gone + 15 * here + 1440 * rounds) y mo d w
def LegI (first : Int) (m : Str → Option Value) (news : List (Addr × Obj)) : Prop := ∃ pg y mo d w here gone rounds ty tm td t1 t2 t3 t4 t5, LegJ first m news pg y mo d w here gone rounds ty tm td t1 t2 t3 t4 t5
theorem LegJ.fr {first : Int} {m : Str → Option Value} {news : List (Addr × Obj)} {pg : Addr} {y mo d w here gone rounds : Int} {ty tm td t1 t2 t3 t4 t5 : Tok} (G : LegJ first m news pg y mo d w here gone rounds ty tm td t1 t2 t3 t4 t5) {h₀ h : Heap} {L : Addr} (F : Fr h₀ L h m) :
    Fr h₀ L h (fun z => if z = Str.ofString "page" then some (.ref pg) else if z = Str.ofString "watch" then some (.int w t1) else if z = Str.ofString "first" then some (.int first t2) else if z = Str.ofString "here" then some (.int here t3) else if z = Str.ofString "gone" then some (.int gone t4) else if z = Str.ofString "rounds" then some (.int rounds t5) else m z) := by
  have e : (fun z => if z = Str.ofString "page" then some (.ref pg) else if z = Str.ofString "watch" then some (.int w t1) else if z = Str.ofString "first" then some (.int first t2) else if z = Str.ofString "here" then some (.int here t3) else if z = Str.ofString "gone" then some (.int gone t4) else if z = Str.ofString "rounds" then some (.int rounds t5) else m z) = m := by
    funext z
    split
    · rename_i h; rw [h]; exact G.npage.symm
    split
    · rename_i h; rw [h]; exact G.nwatch.symm
    split
    · rename_i h; rw [h]; exact G.nfirst.symm
    split
    · rename_i h; rw [h]; exact G.nhere.symm
    split
    · rename_i h; rw [h]; exact G.ngone.symm
    split
    · rename_i h; rw [h]; exact G.nrounds.symm
    rfl
  rw [e]
  exact F
theorem fm12 (a : Int) : 0 ≤ Int.fmod a 12 ∧ Int.fmod a 12 < 12 := ⟨Int.fmod_nonneg_of_pos _ (by decide), Int.fmod_lt_of_pos _ (by decide)⟩
theorem inv_start (y a : Int) : Inv (1440 * (dbyF y + dbmF y (Int.fmod a 12 + 1) + 27) + 720 + 15 * 0 + 1440 * 0) y (Int.fmod a 12 + 1) 27 720 := by
  have h := fm12 a
  have hp := pages_pos y (m := Int.fmod a 12 + 1) (by omega) (by omega)
  exact ⟨by omega, by omega, by omega, by omega, by unfold dnF; omega⟩
theorem legdat {news : List (Addr × Obj)} {v : Value} {q k st : Int} (h : DatIn news v (Dat.tuple [Dat.int q, Dat.int k, Dat.int st])) : ∃ a n t1 t2 t3, v = .ref a ∧ (a, ({ cls := .type "tuple", data := .seq #[.int q t1, .int k t2, .int st t3] n } : Obj)) ∈ news := by
  cases h with
  | tuple hm ha =>
    cases ha with
    | cons h1 r =>
      cases r with
      | cons h2 r =>
        cases r with
        | cons h3 r =>
          cases r
          cases h1
          cases h2
          cases h3
          exact ⟨_, _, _, _, _, rfl, hm⟩
theorem inv_cast {T T' y m d w : Int} (I : Inv T y m d w) (e : T = T') : Inv T' y m d w := e ▸ I
theorem legs_eq {T first g q r y m d w : Int} (I : Inv T y m d w) (e : T = 1440 * first + g + 15 * q + 1440 * r) (h0 : 0 ≤ w) (h1 : w < 1440) :
    (dbyF y + dbmF y m + d == first + Int.fdiv (60 * g + 900 * q) 86400 + r && 60 * w == Int.fmod (60 * g + 900 * q) 86400) = true := by
  have ie := I.eq
  unfold dnF at ie
  have e1 := Int.fdiv_eq_ediv_of_nonneg (60 * g + 900 * q) (show (0 : Int) ≤ 86400 by decide)
  have e2 := Int.fmod_eq_emod_of_nonneg (60 * g + 900 * q) (show (0 : Int) ≤ 86400 by decide)
  rw [e1, e2]
  rw [Bool.and_eq_true, beq_iff_eq, beq_iff_eq]
  constructor <;> omega
theorem legs_no {T first g q r y m d w : Int} (ha : (dbyF y + dbmF y m + d == first + Int.fdiv (60 * g + 900 * q) 86400 + r && 60 * w == Int.fmod (60 * g + 900 * q) 86400) = false) (I : Inv T y m d w) (e : T = 1440 * first + g + 15 * q + 1440 * r) (h0 : 0 ≤ w) (h1 : w < 1440) : False := by
  rw [legs_eq I e h0 h1] at ha
  cases ha
theorem leap_end (y : Int) : (leapF y == (pagesF y 2 == 29)) = true := by
  rw [pages2_eq]
  cases leapF y <;> rfl
end Mine
/-! part M1 -/
namespace Mine
open PySem PySem.W PyProof PyProof.Rows PySem.Calls PySem.Spec
local macro_rules | `(tactic| walk_at "eval Call") => `(tactic| ((with_reducible show wpAny _ _ (eval (Expr.Call (Expr.Name _ _) _ [] _) _) _ _ _); k_dflt (refine Call_ ?_)))
local macro_rules | `(tactic| walk_at "call ref") => `(tactic| (k_here; k_dflt (first | (refine' MClaim.use (c_dby _ _ _ _ _ _ _) ?k1 ?k2 ?k3 ?k4 ?k5 ?kK ?kp ?kd ?ku ?_; (case k1 => k_asm); (case k2 => k_asm); (case k3 => k_asm); (case k4 => k_asm); (case k5 => k_asm); (case kK => first | exact rfl | assumption); (case kp => trivial); (case kd => ktr_room); (case ku => ktr_units)) | (refine' MClaim.use (c_dbm _ _ _ _ _ _ _ _ _) ?k1 ?k2 ?k3 ?k4 ?k5 ?kK ?kp ?kd ?ku ?_; (case k1 => k_asm); (case k2 => k_asm); (case k3 => k_asm); (case k4 => k_asm); (case k5 => k_asm); (case kK => first | exact rfl | assumption); (case kp => l_fact); (case kd => ktr_room); (case ku => ktr_units))); intro t9 h9 tk9 F9 N9; (try dsimp only); (try k_fold)))
local macro_rules | `(tactic| walk_at "call ref") => `(tactic| (k_here; (with_reducible show wpAny _ _ (call (Value.ref 79) _) _ _ _); k_dflt (refine' MPlan.use (c_plan _ _ _ _ _ _ _ _) ?k1 ?k2 ?k3 ?k4 ?k5 ?kK ?kl ?ki ?ky ?kd ?ku ?_; (case k1 => k_asm); (case k2 => k_asm); (case k3 => k_asm); (case k4 => k_asm); (case k5 => k_asm); (case kK => first | exact rfl | assumption); (case kl => k_asm); (case ki => l_ints); (case ky => assumption); (case kd => ktr_room); (case ku => ktr_units)); intro l9 vs9 ds9 n9 nw9 h9 tk9 hm9 hD9 hL9 hs9 F9 N9; (try dsimp only); (try k_fold)))
local macro_rules | `(tactic| walk_at "call ref") => `(tactic| (k_here; (with_reducible show wpAny _ _ (call (Value.ref 100) _) _ _ _); k_dflt (refine' MMoved.use (c_moved _ _ _ _ _ _ _ _ _ _ _ _ _ _ _ _ _ ?hm (inv_shift _ ?hI)) ?k1 ?k2 ?k3 ?k4 ?k5 ?kK ?kd ?ku ?_; (case k1 => k_asm); (case k2 => k_asm); (case k3 => k_asm); (case k4 => k_asm); (case k5 => k_asm); (case kK => first | exact rfl | assumption); (case kd => ktr_room); (case ku => ktr_units); (case hm => first | assumption | (repeat (first | exact List.mem_cons_self | refine List.mem_cons_of_mem _ ?_))); (case hI => assumption)); intro a9 b9 ty9 tm9 td9 tw9 y9 m9 d9 wt9 h9 tk9 hI9 hw0 hw1 hba hlt9 F9 N9; (have hmA9 := Inv.m1 hI9); (have hmB9 := Inv.m2 hI9); (try dsimp only); (try k_fold)))
local macro_rules | `(tactic| walk_at "call ref") => `(tactic| (k_here; k_dflt (first | (refine' MClaim.use (c_text _ _ _ _ _ _ _ _ _) ?k1 ?k2 ?k3 ?k4 ?k5 ?kK ?kp ?kd ?ku ?_; (case k1 => k_asm); (case k2 => k_asm); (case k3 => k_asm); (case k4 => k_asm); (case k5 => k_asm); (case kK => first | exact rfl | assumption); (case kp => exact ⟨by assumption, by assumption, by assumption, by assumption⟩); (case kd => ktr_room); (case ku => ktr_units)) | (refine' MClaim.use (c_off _ _ _ _ _ _ _ _ ?q1 ?q2 ?q3 ?q4) ?k1 ?k2 ?k3 ?k4 ?k5 ?kK ?kp ?kd ?ku ?_; (case k1 => k_asm); (case k2 => k_asm); (case k3 => k_asm); (case k4 => k_asm); (case k5 => k_asm); (case kK => first | exact rfl | assumption); (case kp => trivial); (case kd => ktr_room); (case ku => ktr_units); (case q1 => assumption); (case q2 => assumption); (case q3 => assumption); (case q4 => assumption)) | (refine' MClaim.use (c_leap _ _ _ _ _ _ _) ?k1 ?k2 ?k3 ?k4 ?k5 ?kK ?kp ?kd ?ku ?_; (case k1 => k_asm); (case k2 => k_asm); (case k3 => k_asm); (case k4 => k_asm); (case k5 => k_asm); (case kK => first | exact rfl | assumption); (case kp => trivial); (case kd => ktr_room); (case ku => ktr_units)) | (refine' MClaim.use (c_pages _ _ _ _ _ _ _ _ _) ?k1 ?k2 ?k3 ?k4 ?k5 ?kK ?kp ?kd ?ku ?_; (case k1 => k_asm); (case k2 => k_asm); (case k3 => k_asm); (case k4 => k_asm); (case k5 => k_asm); (case kK => first | exact rfl | assumption); (case kp => trivial); (case kd => ktr_room); (case ku => ktr_units))); intro t9 h9 tk9 F9 N9; (try dsimp only); (try k_fold)))
local macro_rules | `(tactic| walk_at "exec For Tuple Call cons nil") => `(tactic| (k_here; (rename Fr _ _ _ _ => lF'); k_dflt (refine' For_turns lF' ?_)))
set_option maxHeartbeats 0 in
theorem t1 : PySem.Challenge.rw_wb0010_01.Holds := hd (by
  k_go0
  (all_goals try k_fold)
  k_steps
  refine' leg_loop (LegI _) ?hh ?F ?N ?hm ?hD ?hL ?h0 ?turn ?done
  (case F => assumption)
  (case N => assumption)
  (case hm => assumption)
  (case hD => assumption)
  (case hL => assumption)
  (case hh => exact rfl)
  (case h0 => exact ⟨_, _, _, _, _, _, _, _, _, _, _, _, _, _, _, _, ⟨by with_unfolding_all rfl, (by assumption : ∀ p ∈ _, p ∈ _) _ (List.mem_cons_of_mem _ (List.mem_cons_of_mem _ List.mem_cons_self)), by with_unfolding_all rfl, by with_unfolding_all rfl, by with_unfolding_all rfl, by with_unfolding_all rfl, by with_unfolding_all rfl, by decide, by decide, by decide, by decide, inv_start _ _⟩⟩)
  (case turn =>
    intro I o v d m₁ nw h tk Qp hv hl hJ hoff F₁ N₁ hnext
    obtain ⟨pg, y, mo, d0, w0, here, gone, rounds, ty, tm, td, t1, t2, t3, t4, t5, G⟩ := hJ
    obtain ⟨q, k, st, rfl, hq1, hq2, hk1, hk2, hs1, hs2⟩ := hl
    obtain ⟨a, n, u1, u2, u3, rfl, hmem⟩ := legdat hv
    have F₂ := G.fr F₁
    have hpg := List.mem_cons_of_mem (I, o) G.nmem
    have hmem2 := List.mem_cons_of_mem (I, o) hmem
    have g1 := G.w0
    have g2 := G.w1
    have g3 := G.h0
    have g4 := G.h1
    have hI := G.inv
    clear F₁
    (with_reducible show wpAny _ _ _ _ _ _)
    (try dsimp only)
    (try k_fold)
    k_steps
    all_goals first
      | (refine' hnext _ _ _ ((_, tup2 (.ref _) (.int _ _)) :: (_, tup3 (.int _ _) (.int _ _) (.int _ _)) :: nw) ?F ?N ?off ?sub ?J
         (case F => assumption)
         (case J => exact ⟨_, _, _, _, _, q, _, _, _, _, _, _, _, _, _, _, ⟨by with_unfolding_all rfl, List.mem_cons_of_mem _ List.mem_cons_self, by with_unfolding_all rfl, by with_unfolding_all rfl, by with_unfolding_all rfl, by with_unfolding_all rfl, by with_unfolding_all rfl, by assumption, by assumption, by assumption, by assumption, inv_cast (by assumption) (by omega)⟩⟩)
         (case N => (refine cb_drop (by assumption) ?_; kcj_in))
         (case off => (refine List.forall_mem_cons.mpr ⟨Nat.ne_of_gt (Nat.lt_trans ((by assumption : ∀ p ∈ _, p.1 < _) (I, o) (by kcj_m)) (by assumption)), List.forall_mem_cons.mpr ⟨Nat.ne_of_gt ((by assumption : ∀ p ∈ _, p.1 < _) (I, o) (by kcj_m)), hoff⟩⟩))
         (case sub => exact fun p hp => List.mem_cons_of_mem _ (List.mem_cons_of_mem _ hp)))
      | (exfalso
         refine' legs_no ?ha ?hI ?hT ?w0 ?w1
         (case ha => assumption)
         (case hI => assumption)
         (case hT => omega)
         (case w0 => assumption)
         (case w1 => assumption)))
  (case done =>
    intro h tk m' nw' F₁ N₁ hJ
    obtain ⟨pg, y, mo, d0, w0, here, gone, rounds, ty, tm, td, t1, t2, t3, t4, t5, G⟩ := hJ
    have F₂ := G.fr F₁
    have hpg := G.nmem
    clear F₁
    (try dsimp only)
    (try k_fold)
    k_steps
    all_goals rw [leap_end]
    k_steps))
end Mine
theorem PySem.Challenge.cw_wb0010_01_holds : PySem.Challenge.rw_wb0010_01.Holds :=
  Mine.t1
