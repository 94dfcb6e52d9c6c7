import PyProof.Rows.All
import Wide.All
import OpenK.AllK
import Wide.FinOn
import PySem.Challenge.RW_wj0010_01
set_option Elab.async false
section
open PySem PySem.W PyProof.Rows
namespace Mine
set_option maxRecDepth 100000 in
set_option maxHeartbeats 8000000 in
open_top hd for PySem.Challenge.rw_wj0010_01
end Mine
end
section
open PySem PySem.W PyProof.Rows
namespace Mine
theorem q_is : Str.ofString "\"" = ⟨#[34]⟩ := by decide +kernel
theorem tmul_one (c : Nat) (n : Int) : Txt.mul ⟨#[c]⟩ n = ⟨Array.replicate n.toNat c⟩ := by
  have h := mul_one_list c n
  have : (Txt.mul ⟨#[c]⟩ n).cps = Array.replicate n.toNat c := by
    apply Array.ext'
    rw [h]; simp
  calc Txt.mul ⟨#[c]⟩ n = ⟨(Txt.mul ⟨#[c]⟩ n).cps⟩ := rfl
    _ = _ := by rw [this]
def respText (m c : Nat) : Str := ⟨(#[50, 53, 55, 32, 34] ++ Array.replicate m 34).push c⟩
theorem resp_len (m c : Nat) : (respText m c).length = 6 + m := by
  show (Array.push _ _).size = _
  simp; omega
theorem resp_list (m c : Nat) : (respText m c).cps.toList = 50 :: 53 :: 55 :: 32 :: 34 :: (List.replicate m 34 ++ [c]) := by
  show (Array.push _ _).toList = _
  simp
theorem resp_made (m c : Nat) : (Str.ofString "257 \"" ++ Txt.mul (Str.ofString "\"") (m : Int)) ++ (⟨#[c]⟩ : Str) = respText m c := by
  rw [q_is, tmul_one, show Str.ofString "257 \"" = ⟨#[50, 53, 55, 32, 34]⟩ by decide +kernel]
  show (⟨(#[50, 53, 55, 32, 34] ++ Array.replicate _ 34) ++ #[c]⟩ : Str) = _
  rw [Int.toNat_natCast]; rfl
theorem resp_s1 (m c : Nat) : Txt.slice (respText m c) none (some 3) = Str.ofString "257" := by
  show StrLaws.sliceText _ _ _ = _
  rw [StrLaws.sliceText_to ⟨by decide, by rw [resp_list]; simp; omega⟩, resp_list]
  rw [show Str.ofString "257" = ⟨#[50, 53, 55]⟩ by decide +kernel]
  rfl
theorem resp_s2 (m c : Nat) : Txt.slice (respText m c) (some 3) (some 5) = Str.ofString " \"" := by
  show StrLaws.sliceText _ _ _ = _
  rw [StrLaws.sliceText_plain ⟨by decide, by decide, by rw [resp_list]; simp; omega⟩, resp_list]
  rw [show Str.ofString " \"" = ⟨#[32, 34]⟩ by decide +kernel]
  rfl
theorem resp_at (m c k v : Nat) (h : (List.replicate m 34 ++ [c])[k]? = some v) : Txt.item (respText m c) (5 + (k : Int)) = ⟨#[v]⟩ := by
  unfold Txt.item Txt.charAt
  rw [StrLaws.at_nonneg (n := v) (by omega) ?_]
  · rfl
  · rw [← Array.getElem?_toList, resp_list, show (5 + (k : Int)).toNat = k + 5 by omega]
    simpa using h
theorem resp_q (m c k : Nat) (h : k < m) : Txt.item (respText m c) (5 + (k : Int)) = Str.ofString "\"" := by
  rw [q_is]
  refine resp_at m c k 34 ?_
  rw [List.getElem?_append_left (by simpa using h)]
  simp [h]
theorem resp_c (m c : Nat) : Txt.item (respText m c) (5 + (m : Int)) = ⟨#[c]⟩ := by
  refine resp_at m c m c ?_
  rw [List.getElem?_append_right (by simp)]
  simp
theorem rep_len {k : Nat} (h : k ≤ 1000) : (⟨Array.replicate k 34⟩ : Str).length ≤ 1000 := by
  show (Array.replicate k 34).size ≤ 1000
  simpa using h
theorem half_len {m : Nat} (h : m ≤ 60) : (Str.ofString "257 \"" ++ (⟨Array.replicate m 34⟩ : Str)).length ≤ 1000 := by
  rw [show Str.ofString "257 \"" = ⟨#[50, 53, 55, 32, 34]⟩ by decide +kernel]
  show (#[50, 53, 55, 32, 34] ++ Array.replicate m 34).size ≤ _
  simp; omega
theorem sgn_len {c : Nat} {n : Int} (h : n ≤ 1) : (Txt.mul ⟨#[c]⟩ n).length ≤ 1000 := by
  rw [tmul_one]
  show (Array.replicate _ _).size ≤ _
  simp; omega
end Mine
end
section
open PySem PySem.W PyProof.Rows
namespace Mine
theorem nat_and_high (x s : Nat) : x &&& (x / 2 ^ s * 2 ^ s) = x / 2 ^ s * 2 ^ s := by
  rw [← Nat.shiftRight_eq_div_pow, ← Nat.shiftLeft_eq]
  apply Nat.eq_of_testBit_eq
  intro i
  rw [Nat.testBit_and, Nat.testBit_shiftLeft, Nat.testBit_shiftRight]
  by_cases h : s ≤ i
  · rw [show s + (i - s) = i by omega]; simp [h]
  · simp [h]
theorem bitAnd_nat (x y : Nat) : Builtin.bitAnd (x : Int) (y : Int) = ((x &&& y : Nat) : Int) := by
  unfold Builtin.bitAnd
  have hx : decide ((x : Int) < 0) = false := by simp
  have hy : decide ((y : Int) < 0) = false := by simp
  simp
theorem xor_low (x s : Nat) : Builtin.bitXor (x : Int) ((x / 2 ^ s * 2 ^ s : Nat) : Int) = ((x % 2 ^ s : Nat) : Int) := by
  rw [bitXor_and, bitAnd_nat, nat_and_high]
  have h := Nat.div_add_mod x (2 ^ s)
  have h2 : 2 ^ s * (x / 2 ^ s) = x / 2 ^ s * 2 ^ s := Nat.mul_comm _ _
  generalize x / 2 ^ s * 2 ^ s = y at *
  generalize x % 2 ^ s = z at *
  omega
theorem fdiv_pow_nat (x s : Nat) : (x : Int).fdiv (2 ^ ((s : Nat) : Int).toNat) = ((x / 2 ^ s : Nat) : Int) := by
  rw [Int.toNat_natCast, Int.fdiv_eq_ediv_of_nonneg]
  · rw [Int.natCast_ediv]; simp
  · exact Int.le_of_lt (Int.pow_pos (by decide))
theorem digit_low (x s a n : Nat) (h : a + n ≤ s) : (x % 2 ^ s) / 2 ^ a % 2 ^ n = x / 2 ^ a % 2 ^ n := by
  have e : 2 ^ s = 2 ^ a * 2 ^ (s - a) := by rw [← Nat.pow_add]; congr 1; omega
  rw [e, Nat.mod_mul_right_div_self]
  exact Nat.mod_mod_of_dvd _ (Nat.pow_dvd_pow 2 (by omega))
theorem digit_high (x s a : Nat) : x / 2 ^ s / 2 ^ a = x / 2 ^ (s + a) := by
  rw [Nat.div_div_eq_div_mul, ← Nat.pow_add]
end Mine
end
section
open PySem PySem.Spec PySem.Calls PySem.W PyProof.Rows
namespace Mine
abbrev Ctr (lv : Nat) (w : World) (p : Program) (loose : List Str) (mean : ExcName → Option Value) (mg mb : Str → Option Value) (f : Addr) (news : List (Addr × Obj)) (vs : List Value) (R : Tok → Value) : Prop :=
  ∀ (dp un : Nat) (gd : Option (List Code)) (cn : Str) (cs : Scope) (a : Addr) (ccd : Value) (cl : List (Str × Addr)) (outer : List Env) (A₀ : Around) (base h₀ : Heap) (L : Addr) (m : Str → Option Value) (s : Shared) (Q E : Value → Shared → Prop),
    Below A₀ base outer h₀ → Fr h₀ L s.heap m → (Mine.hd.heap_39 w.params).In h₀ → News h₀ L s.heap news → Top p loose mean mg mb h₀ → cs.kind = .function →
    dp + lv < recursionLimit → un + 20 * lv < cLine → CbRet h₀ L m news s Q R →
      wpAny (model Challenge.rw_wj0010_01.row.prog w) (ktrTop dp un gd cn cs L a ccd cl outer) (call (.ref f) vs) Q E s

theorem Ctr.use {lv : Nat} {w : World} {p : Program} {loose : List Str} {mean : ExcName → Option Value} {mg mb : Str → Option Value} {f : Addr} {news : List (Addr × Obj)} {vs : List Value} {R : Tok → Value}
    {dp un : Nat} {gd : Option (List Code)} {cn : Str} {cs : Scope} {a : Addr} {ccd : Value} {cl : List (Str × Addr)} {outer : List Env} {A₀ : Around} {base h₀ : Heap} {L : Addr} {m : Str → Option Value} {s : Shared} {Q E : Value → Shared → Prop}
    (C : Ctr lv w p loose mean mg mb f news vs R) (B : Below A₀ base outer h₀) (F : Fr h₀ L s.heap m) (X : (Mine.hd.heap_39 w.params).In h₀) (N : News h₀ L s.heap news) (T : Top p loose mean mg mb h₀) (hk : cs.kind = .function)
    (hd : dp + lv < recursionLimit) (hu : un + 20 * lv < cLine) (ret : CbRet h₀ L m news s Q R) :
    wpAny (model Challenge.rw_wj0010_01.row.prog w) (ktrTop dp un gd cn cs L a ccd cl outer) (call (.ref f) vs) Q E s :=
  C _ _ _ _ _ _ _ _ _ _ _ _ _ _ _ _ _ B F X N T hk hd hu ret

theorem all_ne {l : List (Addr × Obj)} {b d : Nat} (h : ∀ p ∈ l, @LT.lt Nat _ p.1 b) (hb : b ≤ d) : ∀ p ∈ l, p.1 ≠ d := fun p hp => Nat.ne_of_lt (Nat.lt_of_lt_of_le (h p hp) hb)
theorem allLt_all {l : List (Addr × Obj)} {d : Nat} (h : AllLt d l) : ∀ p ∈ l, @LT.lt Nat _ p.1 d := fun p hp => by
  induction l with
  | nil => cases hp
  | cons q r ih =>
    rcases List.mem_cons.mp hp with rfl | hp
    · exact h.1
    · exact ih h.2 hp
section
variable {prog : Program} {w : World} {A A₀ : Around} {s : Shared} {K : Frag} {L : Addr} {h₀ base : Heap} {m mg mb : Str → Option Value} {p : Program} {loose : List Str} {mean : ExcName → Option Value}
/-- a def's call that leaves the caller's heap as it is: the callee's base is that heap, whole -/
theorem code_def0 {env : Env} {outer : List Env} {R : Result → Shared → Prop} {name qual : Str} {params : Arguments} {body : List Stmt} {scope : Scope} {dV kV doc pm cdv ct oc : Value} {an od : Option Addr} {osl : Array (Option Value)} {f : Addr} {args : Args} {binds : List (Str × Value)}
    (B : Below A₀ base outer h₀) (F : Fr h₀ L s.heap m) (X₀ : K.In h₀) (T : Top p loose mean mg mb h₀) (hA : A.frames = some (env :: outer)) (hf : env.frame = some L) (hke : env.scope.kind = .function)
    (ho : K.lookup f = some ⟨oc, od, .func (fnOf name qual params body scope dV kV doc pm an cdv ct), osl⟩) (hcd : codeIn K cdv qual = true) (hroom : A.depth < recursionLimit)
    (hbind : BindsTo s (fnOf name qual params body scope dV kV doc pm an cdv ct) args binds) (hloc : ∀ y ∈ binds, scope.names.lookup y.1 = some .local)
    (h : ∀ L' h₁, Fr s.heap L' h₁ (fun y => binds.reverse.lookup y) → Below A base (env :: outer) s.heap → K.In s.heap → Top p loose mean mg mb s.heap →
      wpAny (model prog w) (A.deeper (envOf qual scope L' f cdv)) (execs body (envOf qual scope L' f cdv))
        (fun fl s' => LeaveK h₀ L m s.heap R (match fl with | .ret v => v | _ => .none) s')
        (fun e s' => wpAny (model prog w) (A.deeper (envOf qual scope L' f cdv)) (leaving (envOf qual scope L' f cdv) e) (fun _ s'' => R (.error e) s'') (fun e' s'' => R (.error e') s'') s')
        { s with heap := h₁, toks := s.toks + binds.length })
    (hco : scope.isCoroutine = false) (hgen : scope.isGenerator = false) (hk : scope.kind = .function)
    (hcell : ∀ x ∈ scope.names, x.2 ≠ .cell) : codeAny (model prog w) A (.call (.ref f) args) R s := by
  obtain ⟨_, BG, _, lv⟩ := groundX (news := []) (R := R) B F News.nil hA hf hke
  have X := X₀.keeps F.keep
  refine codeAny_call_def (fd := fnOf name qual params body scope dV kV doc pm an cdv ct) (body := body) (binds := binds) hroom (X _ _ ho) rfl (T.nolimit.keeps F.keep) (codeRec_of X hcd) rfl hbind hcell hloc (fun h₁ hns hk₁ => ?_) hco hgen hk
  exact wpAny_mono (h s.heap.objs.size h₁ ⟨hns, hk₁, Nat.le_refl _⟩ BG X (T.keeps F.keep)) (fun fl s' hl => lv _ _ hl) fun _ _ y => y
end
def Hold (P : Prop) : Prop := P
theorem hold {P : Prop} (h : Hold P) : P := h

def pins (m : Str → Option Value) : List (Str × Value) → Str → Option Value
  | [] => m
  | (a, v) :: r => fun y => if y = a then some v else pins m r y
theorem pins_eq {m : Str → Option Value} : ∀ {ps : List (Str × Value)}, (∀ p ∈ ps, m p.1 = some p.2) → pins m ps = m
  | [], _ => rfl
  | (a, v) :: r, h => by
    funext y
    show (if y = a then some v else pins m r y) = m y
    rw [pins_eq fun p hp => h p (.tail _ hp)]
    by_cases hy : y = a
    · subst hy; rw [if_pos rfl]; exact (h _ (.head _)).symm
    · rw [if_neg hy]
theorem fr_pins {h₀ h : Heap} {L : Addr} {m : Str → Option Value} (ps : List (Str × Value)) (F : Fr h₀ L h m) (e : ∀ p ∈ ps, m p.1 = some p.2) : Fr h₀ L h (pins m ps) := by
  rw [pins_eq e]; exact F
theorem pins_nil {m : Str → Option Value} : ∀ p ∈ ([] : List (Str × Value)), m p.1 = some p.2 := fun _ h => nomatch h
theorem pins_cons {m : Str → Option Value} {a : Str} {v : Value} {ps : List (Str × Value)} (e : m a = some v) (r : ∀ p ∈ ps, m p.1 = some p.2) : ∀ p ∈ (a, v) :: ps, m p.1 = some p.2 := by
  intro p hp
  rcases List.mem_cons.mp hp with rfl | hp
  · exact e
  · exact r p hp

section
variable {prog : Program} {w : World} {A : Around} {E : Value → Shared → Prop} {s : Shared}
theorem ne_str_same {x y : Str} {t u : Tok} {Q : Value → Shared → Prop} (e : x = y)
    (h : Q (.bool false) s) : wpAny (model prog w) A (compareOp .NotEq (.str x t) (.str y u)) Q E s := by
  subst e
  exact ne_str (by simpa using h)
theorem eq_str_same {x y : Str} {t u : Tok} {Q : Value → Shared → Prop} (e : x = y)
    (h : Q (.bool true) s) : wpAny (model prog w) A (compareOp .Eq (.str x t) (.str y u)) Q E s := by
  subst e
  exact eq_str (by simpa using h)
theorem eq_str_other {x y : Str} {t u : Tok} {Q : Value → Shared → Prop} (e : x ≠ y)
    (h : Q (.bool false) s) : wpAny (model prog w) A (compareOp .Eq (.str x t) (.str y u)) Q E s := by
  exact eq_str (by rw [beq_false_of_ne e]; exact h)
theorem ne_str_other {x y : Str} {t u : Tok} {Q : Value → Shared → Prop} (e : x ≠ y)
    (h : Q (.bool true) s) : wpAny (model prog w) A (compareOp .NotEq (.str x t) (.str y u)) Q E s := by
  refine ne_str ?_
  have : (x != y) = true := by simpa using e
  rw [this]; exact h
theorem gen_toks {α : Type} {M : Model} {t : Sem α} {Q : α → Shared → Prop} {h : Heap} {g : Array GenState} {d : Drawn} {tk : Nat} {os : OsState} (h1 : 1 ≤ tk) (H : ∀ k, 1 ≤ k → wpAny M A t Q E ⟨h, g, d, k, os⟩) : wpAny M A t Q E ⟨h, g, d, tk, os⟩ := H _ h1
theorem gen_toks2 {α : Type} {M : Model} {t : Sem α} {Q : α → Shared → Prop} {h : Heap} {g : Array GenState} {d : Drawn} {tk0 tk : Nat} {os : OsState} (h1 : tk0 ≤ tk) (H : ∀ k, tk0 ≤ k → wpAny M A t Q E ⟨h, g, d, k, os⟩) : wpAny M A t Q E ⟨h, g, d, tk, os⟩ := H _ h1
theorem eq_int_yes {a b : Int} {t u : Tok} {Q : Value → Shared → Prop} (e : a = b) (h : Q (.bool true) s) : wpAny (model prog w) A (compareOp .Eq (.int a t) (.int b u)) Q E s := eq_int (by subst e; simpa using h)
theorem eq_int_no {a b : Int} {t u : Tok} {Q : Value → Shared → Prop} (e : a ≠ b) (h : Q (.bool false) s) : wpAny (model prog w) A (compareOp .Eq (.int a t) (.int b u)) Q E s := eq_int (by rw [beq_false_of_ne e]; exact h)
theorem add_str_is {x y z : Str} {t u : Tok} {Q : Value → Shared → Prop} (e : x ++ y = z) (h1 : x.length ≤ 1000) (h2 : y.length ≤ 1000)
    (h : ∀ t' k, Q (.str z t') { s with toks := k }) : wpAny (model prog w) A (binaryOp .Add (.str x t) (.str y u)) Q E s := by
  subst e
  have hz : sizeLine = 16777216 := sizeLine_eq
  exact add_str (fun _ _ => h _ _) (by omega)
theorem mul_str_is {x z : Str} {t u : Tok} {n : Int} {Q : Value → Shared → Prop} (e : Txt.mul x n = z) (h1 : x.length = 1) (h2 : n ≤ 1000 ∧ -1000 ≤ n)
    (h : ∀ t' k, Q (.str z t') { s with toks := k }) : wpAny (model prog w) A (binaryOp .Mult (.str x t) (.int n u)) Q E s := by
  subst e
  have hz : sizeLine = 16777216 := sizeLine_eq
  refine SB.mul ⟨?_, fun _ _ => ?_, fun _ _ => ?_⟩ (fun _ _ => h _ _)
  · simp; omega
  · have : (2 : Int) ^ 63 - 1 = 9223372036854775807 := by decide
    rw [h1, this]
    have hn : 1 ≤ n := by omega
    have : (1000 : Int) ≤ 9223372036854775807 / n := by
      rw [Int.le_ediv_iff_mul_le (by omega)]; omega
    omega
  · rw [h1, Nat.one_mul]; unfold PySem.Builtin.Str.tooLong; simp only [decide_eq_false_iff_not]; omega
theorem item_is {value slice : Expr} {x y : Str} {t u : Tok} {i : Int} {Q : Value → Shared → Prop} (e : Txt.item x i = y) (hsz : x.length ≤ sizeLine) (h1 : 0 ≤ i) (h2 : i < x.length)
    (h : ∀ t' k, Q (.str y t') { s with toks := k })
    (hs : subscripted slice false (.str x t) (.int i u) = operate [.str x t, .int i u] (getItem (.str x t) (.int i u)) := by with_unfolding_all rfl)
    (ht : ∀ r, letTemporaryGo value (.str x t) r = pure () := by intro _; with_unfolding_all rfl) :
    wpAny (model prog w) A (subscriptTail value slice (.str x t) (.int i u)) Q E s := by
  subst e
  have hz : sizeLine = 16777216 := sizeLine_eq
  exact item_str (fitsSsize_of (N := 9223372036854775808) (by omega) (by omega) (Int.le_refl _)) (by omega) h2 (fun _ => h _ _) hs ht
end
end Mine
end
section
open PySem PySem.W PyProof.Rows
namespace Mine
local macro_rules | `(tactic| walk_at "compareOp NotEq str str") => `(tactic| first | (refine ne_str_same (by with_reducible assumption) ?_) | (refine ne_str_same (by with_reducible rfl) ?_) | (refine ne_str_other (by with_reducible assumption) ?_))
local macro_rules | `(tactic| walk_at "compareOp Eq str str") => `(tactic| first | (refine eq_str_same (by with_reducible rfl) ?_) | (refine eq_str_other (by with_reducible assumption) ?_))
local macro_rules | `(tactic| walk_at "subscriptTail Name Name str int") => `(tactic| (refine item_is (by with_reducible assumption) (by assumption) (by omega) (by omega) ?_; intro _ _))

local macro_rules | `(tactic| walk_at "binaryOp Add str str") => `(tactic| (refine add_str_is (by with_reducible assumption) (by assumption) (by assumption) ?_; intro _ _))

theorem rep_snoc (k : Nat) : (⟨Array.replicate k 34⟩ : Str) ++ Str.ofString "\"" = ⟨Array.replicate (k + 1) 34⟩ := by
  have : Str.ofString "\"" = ⟨#[34]⟩ := by decide +kernel
  rw [this]
  show (⟨Array.replicate k 34 ++ #[34]⟩ : Str) = _
  congr 1
  rw [Array.replicate_succ]
  rfl
set_option maxRecDepth 100000 in
set_option maxHeartbeats 8000000 in
theorem parse_ctr (w : World) (p : Program) (loose : List Str) (mean : ExcName → Option Value) (mg mb : Str → Option Value) (news : List (Addr × Obj)) (marks : Nat) (hm : marks ≤ 60) (c : Nat) (hc : c ≠ 34) (t : Tok)
   (x : Str) (hsz : x.length ≤ sizeLine) (hlen : x.length = 6 + marks) (h1 : Txt.slice x none (some 3) = Str.ofString "257") (h2 : Txt.slice x (some 3) (some 5) = Str.ofString " \"")
   (hit : ∀ k : Nat, k < marks → Txt.item x (5 + (k : Int)) = Str.ofString "\"") (hend : Txt.item x (5 + (marks : Int)) = ⟨#[c]⟩) (R : Str) (hR : R = ⟨Array.replicate (marks / 2) 34 ++ if marks % 2 = 0 then #[c] else #[]⟩) :
   Ctr 2 w p loose mean mg mb 81 news [.str x t] (fun t => .str R t) := by
  unfold Ctr CbRet
  k_fill
  k_with_none
  k_with "exec While Compare cons nil" => refine hold ?_
  intro dp un gd cn cs a ccd cl outer A₀ base h₀ L m s Q E B F X N T hk hd hu hret
  refine wpAny_call ?_
  k_dflt cell_enter
  k_steps
  have hne : (⟨#[c]⟩ : Str) ≠ Str.ofString "\"" := by
    intro e
    have : Str.ofString "\"" = ⟨#[34]⟩ := by decide +kernel
    rw [this] at e
    simp at e
    exact hc e
  unfold Hold
  (with_reducible rename Fr _ _ _ _ => F')
  (with_reducible rename News _ _ _ _ => N')
  refine While_inv2 (fun n m₁ nx => nx = news ∧ m₁ (Str.ofString "resp") = some (.str x t) ∧ (∃ tn, m₁ (Str.ofString "n") = some (.int (x.length : Int) tn)) ∧
    ((∃ (k : Nat) (t1 t2 : Tok), 2 * k ≤ marks ∧ m₁ (Str.ofString "i") = some (.int (5 + 2 * (k : Int)) t1) ∧ m₁ (Str.ofString "dirname") = some (.str ⟨Array.replicate k 34⟩ t2) ∧ n = marks + 10 - 2 * k) ∨
     (∃ t1 t2 : Tok, m₁ (Str.ofString "i") = some (.int (6 + (marks : Int)) t1) ∧ m₁ (Str.ofString "dirname") = some (.str R t2) ∧ n = 0))) (n₀ := marks + 10) F' N' ?_ ?_
  · refine ⟨rfl, rfl, ⟨_, rfl⟩, .inl ⟨0, ?t1, ?t2, by omega, ?e1, ?e2, by omega⟩⟩
    case e1 => exact rfl
    case e2 => exact rfl
  · rintro n m₁ news₁ h₁ tk₁ F₁ N₁ ⟨rfl, e1, ⟨tn, e2⟩, ⟨k, t1, t2, hk2, e3, e4, hn⟩ | ⟨t1, t2, e3, e4, hn⟩⟩
    · have F₂ := fr_pins _ F₁ (pins_cons e1 (pins_cons e2 (pins_cons e3 (pins_cons e4 pins_nil))))
      clear F₁ F' N'
      have l1 : (⟨Array.replicate k 34⟩ : Str).length ≤ 1000 := rep_len (by omega)
      have l2 : (Str.ofString "\"").length ≤ 1000 := by decide +kernel
      have l3 : (⟨#[c]⟩ : Str).length ≤ 1000 := by show (#[c] : Array Nat).size ≤ 1000; simp
      have a1 := rep_snoc k
      by_cases c1 : 2 * k = marks
      · have i1 : Txt.item x (5 + 2 * (k : Int)) = ⟨#[c]⟩ := by rw [← hend]; congr 1; omega
        have a2 : (⟨Array.replicate k 34⟩ : Str) ++ ⟨#[c]⟩ = R := by
          rw [hR, if_pos (by omega), show marks / 2 = k by omega]; rfl
        k_steps
        (with_reducible rename Fr _ _ _ _ => F9); (with_reducible rename News _ _ _ _ => N9)
        refine ⟨_, _, _, _, 0, rfl, F9, N9, by omega, rfl, rfl, ⟨tn, rfl⟩, .inr ⟨?ut1, ?ut2, ?ua, ?ub, rfl⟩⟩
        case ub => exact rfl
        case ua => exact (congrArg (fun z => some (Value.int z _)) (by omega : (5 + 2 * (k : Int) + 1) = 6 + marks))
      · have i1 : Txt.item x (5 + 2 * (k : Int)) = Str.ofString "\"" := by rw [← hit (2 * k) (by omega)]; congr 1
        by_cases c2 : 2 * k + 1 = marks
        · have i2 : Txt.item x (5 + 2 * (k : Int) + 1) = ⟨#[c]⟩ := by rw [← hend]; congr 1; omega
          have a3 : R = ⟨Array.replicate k 34⟩ := by rw [hR, if_neg (by omega), show marks / 2 = k by omega]; simp
          k_steps
          dsimp only [WhileStep2]
          k_steps
          rw [a3] at hret
          exact hret _ _ _ (by assumption) (by assumption)
        · have i2 : Txt.item x (5 + 2 * (k : Int) + 1) = Str.ofString "\"" := by rw [← hit (2 * k + 1) (by omega)]; congr 1
          k_steps
          (with_reducible rename Fr _ _ _ _ => F9); (with_reducible rename News _ _ _ _ => N9)
          refine ⟨_, _, _, _, marks + 10 - 2 * (k + 1), rfl, F9, N9, by omega, rfl, rfl, ⟨tn, rfl⟩, .inl ⟨k + 1, ?vt1, ?vt2, by omega, ?va, ?vb, rfl⟩⟩
          case vb => exact rfl
          case va => exact (congrArg (fun z => some (Value.int z _)) (by push_cast; omega : (5 + 2 * (k : Int) + 1 + 1) = 5 + 2 * ((k + 1 : Nat) : Int)))
    · have F₂ := fr_pins _ F₁ (pins_cons e1 (pins_cons e2 (pins_cons e3 (pins_cons e4 pins_nil))))
      clear F₁ F' N'
      k_steps
      exact hret _ _ _ (by assumption) (by assumption)
end Mine
end
section
open PySem PySem.W PyProof.Rows
namespace Mine
local macro_rules | `(tactic| walk_at "compareOp Eq str str") => `(tactic| first | (refine eq_str_same (by with_reducible rfl) ?_) | (refine eq_str_other (by with_reducible assumption) ?_) | (refine eq_str_same (by with_reducible assumption) ?_))
local macro_rules | `(tactic| walk_at "binaryOp Add str str") => `(tactic| (refine add_str_is (by with_reducible assumption) (by assumption) (by assumption) ?_; intro _ _))
local macro_rules | `(tactic| walk_at "binaryOp Mult str int") => `(tactic| (refine mul_str_is (by with_reducible assumption) (by assumption) (by omega) ?_; intro _ _))
local macro_rules | `(tactic| walk_at "call ref") => `(tactic| k_extra "call ref")
theorem count_is' {x : Str} {n : Int} (e : Txt.count x (Str.ofString "\"") = n) {prog : Program} {w : World} {A : Around} {E : Value → Shared → Prop} {s : Shared} {t u : Tok} {Q : Value → Shared → Prop}
   (h : ∀ t' k, Q (.int n t') { s with toks := k }) : wpAny (model prog w) A (call (.builtin "str.count") [.str x t, .str (Str.ofString "\"") u]) Q E s := SC.count (by rw [e]; exact h _ _)
local macro_rules | `(tactic| walk_at "call builtin:str.count") => `(tactic| (refine count_is' (by with_reducible assumption) ?_; intro _ _))

local macro_rules | `(tactic| walk_at "mine use") => `(tactic| (
  (case k1 => k_asm)
  (case k2 => k_asm)
  (case k3 => k_asm)
  (case k4 => k_asm)
  (case k5 => k_asm)
  (case kK => first | exact rfl | assumption)
  (case kd => ktr_room)
  (case ku => ktr_units)))
def toldText (m c : Nat) : Str := ⟨Array.replicate (m / 2) 34 ++ if m % 2 = 0 then #[c] else #[]⟩
theorem cnt_rep (k : Nat) : cnt 34 (List.replicate k 34) = (k : Int) := by
  induction k with
  | zero => rfl
  | succ k ih => rw [List.replicate_succ, cnt_cons, ih]; simp; omega
theorem told_count (m c : Nat) (hc : c ≠ 34) : Txt.count (toldText m c) (Str.ofString "\"") = ((m / 2 : Nat) : Int) := by
  rw [q_is, count_cnt]
  unfold toldText
  rw [Array.toList_append, cnt_append]
  have : (Array.replicate (m / 2) 34).toList = List.replicate (m / 2) 34 := by simp
  rw [this, cnt_rep]
  by_cases h : m % 2 = 0
  · rw [if_pos h]; show _ + cnt 34 [c] = _; rw [cnt_cons, if_neg hc, cnt_nil]; omega
  · rw [if_neg h]; show _ + cnt 34 [] = _; rw [cnt_nil]; omega
theorem told_sign (m c : Nat) : (⟨Array.replicate (m / 2) 34⟩ : Str) ++ (Txt.mul ⟨#[c]⟩ (1 - Int.fmod (m : Int) 2)) = toldText m c := by
  rw [tmul_one]
  have e : Int.fmod (m : Int) 2 = ((m % 2 : Nat) : Int) := by rw [Int.fmod_eq_emod_of_nonneg _ (by decide)]; omega
  rw [e]
  unfold toldText
  rcases Nat.mod_two_eq_zero_or_one m with h | h
  · rw [h, if_pos rfl]; rfl
  · rw [h, if_neg (by decide)]; rfl
set_option maxRecDepth 100000 in
set_option maxHeartbeats 8000000 in
theorem halved_ctr (w : World) (p : Program) (loose : List Str) (mean : ExcName → Option Value) (mg mb : Str → Option Value) (news : List (Addr × Obj)) (m9 : Nat) (hm : m9 ≤ 60) (c : Nat) (hc : c ≠ 34) (t ts : Tok) :
   Ctr 4 w p loose mean mg mb 88 news [.int (m9 : Int) t, .str ⟨#[c]⟩ ts] (fun t => .int ((m9 / 2 : Nat) : Int) t) := by
  unfold Ctr CbRet
  k_fill
  k_with_none
  k_with "call ref" => refine hold ?_
  intro dp un gd cn cs a ccd cl outer A₀ base h₀ L m s Q E B F X N T hk hd hu hret
  refine wpAny_call ?_
  k_dflt cell_enter
  have e1 : Txt.mul (Str.ofString "\"") (m9 : Int) = ⟨Array.replicate m9 34⟩ := by rw [q_is, tmul_one]; simp
  obtain ⟨y1, e2⟩ : ∃ y, Str.ofString "257 \"" ++ (⟨Array.replicate m9 34⟩ : Str) = y := ⟨_, rfl⟩
  have e3 : y1 ++ (⟨#[c]⟩ : Str) = respText m9 c := by rw [← e2, ← e1, resp_made]
  have l1 : (Str.ofString "\"").length = 1 := by decide +kernel
  have l2 : (Str.ofString "257 \"").length ≤ 1000 := by decide +kernel
  have l3 : (⟨Array.replicate m9 34⟩ : Str).length ≤ 1000 := rep_len (by omega)
  have l4 : y1.length ≤ 1000 := by rw [← e2]; exact half_len hm
  have l5 : (⟨#[c]⟩ : Str).length ≤ 1000 := by show (#[c] : Array Nat).size ≤ 1000; simp
  have l6 : (⟨#[c]⟩ : Str).length = 1 := by show (#[c] : Array Nat).size = 1; simp
  have e4 := told_count m9 c hc
  have e5 : Txt.mul (Str.ofString "\"") ((m9 / 2 : Nat) : Int) = ⟨Array.replicate (m9 / 2) 34⟩ := by rw [q_is, tmul_one, Int.toNat_natCast]
  have hf : 0 ≤ Int.fmod (m9 : Int) 2 ∧ Int.fmod (m9 : Int) 2 ≤ 1 := by rw [Int.fmod_eq_emod_of_nonneg _ (by decide)]; omega
  obtain ⟨y2, e6⟩ : ∃ y, Txt.mul ⟨#[c]⟩ (1 - Int.fmod (m9 : Int) 2) = y := ⟨_, rfl⟩
  have e7 : (⟨Array.replicate (m9 / 2) 34⟩ : Str) ++ y2 = toldText m9 c := by rw [← e6, told_sign]
  have l7 : (⟨Array.replicate (m9 / 2) 34⟩ : Str).length ≤ 1000 := rep_len (by omega)
  have l8 : y2.length ≤ 1000 := by rw [← e6]; exact sgn_len (by omega)
  k_steps
  unfold Hold
  k_dflt (refine' Ctr.use (parse_ctr w _ _ _ _ _ _ m9 hm c hc _ (respText m9 c) (by rw [resp_len, sizeLine_eq]; omega) (resp_len _ _) (resp_s1 _ _) (resp_s2 _ _) (fun k hk => resp_q _ _ k hk) (resp_c _ _) (toldText m9 c) rfl) ?k1 ?k2 ?k3 ?k4 ?k5 ?kK ?kd ?ku ?kR)
  walk_at "mine use"
  intro t9 h9 tk9 F9 N9
  (try dsimp only)
  (try k_fold)
  k_steps
  exact hret _ _ _ (by assumption) (by assumption)
end Mine
end
section
open PySem PySem.W PyProof.Rows
namespace Mine
def partsOf (s : Stmt) : Arguments × List Stmt × Scope := match s with
  | .FunctionDef _ a b _ _ _ sc _ _ _ => (a, b, sc)
  | _ => default
def innerStmt : Stmt := (partsOf (Challenge.pw_wj0010_01.main.body.getD 6 default)).2.1.getD 1 default

section
variable {prog : Program} {w : World} {A : Around} {E : Value → Shared → Prop} {s : Shared}
theorem rsh_is {h : Heap} {g : Array GenState} {d : Drawn} {tk : Nat} {os : OsState} {a n v : Int} {t u : Tok} {Q : Value → Shared → Prop} (e : a.fdiv (2 ^ n.toNat) = v) (hn : 0 ≤ n) (h1 : 1 ≤ tk) (hq : ∀ (t' : Tok) (k : Nat), t' ≠ 0 → @LT.lt Nat _ t' k → tk < k → Q (.int v t') ⟨h, g, d, k, os⟩) :
    wpAny (model prog w) A (binaryOp .RShift (.int a t) (.int n u)) Q E ⟨h, g, d, tk, os⟩ := rshift_int hn (by rw [e]; exact hq _ _ (Nat.ne_of_gt h1) (Nat.lt_succ_self _) (Nat.lt_succ_self _))
theorem lsh_is {h : Heap} {g : Array GenState} {d : Drawn} {tk : Nat} {os : OsState} {a n v : Int} {t u : Tok} {Q : Value → Shared → Prop} (e : a * 2 ^ n.toNat = v) (hn : 0 ≤ n ∧ n ≤ 1000) (ha : 0 ≤ a ∧ a < 100000) (h1 : 1 ≤ tk) (hq : ∀ (t' : Tok) (k : Nat), t' ≠ 0 → @LT.lt Nat _ t' k → tk < k → Q (.int v t') ⟨h, g, d, k, os⟩) :
    wpAny (model prog w) A (binaryOp .LShift (.int a t) (.int n u)) Q E ⟨h, g, d, tk, os⟩ := by
  have : (2 : Nat) ^ 64 = 18446744073709551616 := by decide
  exact lshift_int_small hn.1 (by omega) (by omega) (by rw [e]; exact hq _ _ (Nat.ne_of_gt h1) (Nat.lt_succ_self _) (Nat.lt_succ_self _))
theorem xor_is {h : Heap} {g : Array GenState} {d : Drawn} {tk : Nat} {os : OsState} {a b v : Int} {t u : Tok} {Q : Value → Shared → Prop} (e : Builtin.bitXor a b = v) (h1 : 1 ≤ tk) (hq : ∀ (t' : Tok) (k : Nat), t' ≠ 0 → @LT.lt Nat _ t' k → tk < k → Q (.int v t') ⟨h, g, d, k, os⟩) :
    wpAny (model prog w) A (binaryOp .BitXor (.int a t) (.int b u)) Q E ⟨h, g, d, tk, os⟩ := xor_int (by rw [e]; exact hq _ _ (Nat.ne_of_gt h1) (Nat.lt_succ_self _) (Nat.lt_succ_self _))
theorem mul_is {h : Heap} {g : Array GenState} {d : Drawn} {tk : Nat} {os : OsState} {a b v : Int} {t u : Tok} {Q : Value → Shared → Prop} (e : a * b = v) (ha : 0 ≤ a ∧ a < 100000) (h1 : 1 ≤ tk) (hq : ∀ (t' : Tok) (k : Nat), t' ≠ 0 → @LT.lt Nat _ t' k → tk < k → Q (.int v t') ⟨h, g, d, k, os⟩) :
    wpAny (model prog w) A (binaryOp .Mult (.int a t) (.int b u)) Q E ⟨h, g, d, tk, os⟩ := by
  have h2 : (2 : Int) ^ 64 = 18446744073709551616 := by decide
  exact mul_int (by rw [e]; exact hq _ _ (Nat.ne_of_gt h1) (Nat.lt_succ_self _) (Nat.lt_succ_self _)) (.of_left (intBits_le_64 (by omega) (by omega)))
end
/-- what inner leaves of the list -/
def Dug (Z : Prop) (n x L9 R9 B : Nat) (vs vs' : List Value) : Prop :=
  vs'.length = vs.length ∧ (∃ ns, IntsAre vs' ns) ∧ (∀ j, j < L9 ∨ R9 ≤ j → vs'[j]? = vs[j]?) ∧
    ∀ j, L9 ≤ j → j < R9 → ∃ t : Tok, (Z → t ≠ 0 ∧ @LT.lt Nat _ t B) ∧ vs'[j]? = some (.int ((x / 2 ^ (n * (j - L9)) % 2 ^ n : Nat) : Int) t)
local macro_rules | `(tactic| walk_at "execs cons") => `(tactic| ((with_reducible refine wpAny_execs_cons ?_); try dsimp only))
local macro_rules | `(tactic| walk_at "mine pos") => `(tactic| first | assumption | omega | (dsimp only; omega))
local macro_rules | `(tactic| walk_at "binaryOp RShift int int") => `(tactic| (refine rsh_is (by with_reducible assumption) (by omega) (by walk_at "mine pos") ?_; intro t' k' a1 a2 a3; (try dsimp only at a3)))
local macro_rules | `(tactic| walk_at "binaryOp LShift int int") => `(tactic| (refine lsh_is (by with_reducible assumption) (by omega) (by omega) (by walk_at "mine pos") ?_; intro t' k' a1 a2 a3; (try dsimp only at a3)))
local macro_rules | `(tactic| walk_at "binaryOp BitXor int int") => `(tactic| (refine xor_is (by with_reducible assumption) (by walk_at "mine pos") ?_; intro t' k' a1 a2 a3; (try dsimp only at a3)))
local macro_rules | `(tactic| walk_at "binaryOp Mult int int") => `(tactic| (refine mul_is (by with_reducible assumption) (by omega) (by walk_at "mine pos") ?_; intro t' k' a1 a2 a3; (try dsimp only at a3)))
local macro_rules | `(tactic| walk_at "compareOp Eq int int") => `(tactic| first | (refine eq_int_yes (by omega) ?_) | (refine eq_int_no (by omega) ?_))
local macro_rules | `(tactic| walk_at "mine use") => `(tactic| (
  (case k1 => k_asm)
  (case k2 => k_asm)
  (case k3 => k_asm)
  (case k4 => k_asm)
  (case k5 => k_asm)
  (case kK => first | exact rfl | assumption)
  (case kd => ktr_room)
  (case ku => ktr_units)))
local macro_rules | `(tactic| walk_at "call ref") => `(tactic| k_extra "call ref")
local macro_rules | `(tactic| k_mem) => `(tactic| first | with_reducible assumption | (refine List.mem_cons_of_mem _ ?_; k_mem))
local macro_rules | `(tactic| walk_at "eval Name") => `(tactic| (k_dflt (refine' nameX_F ?N ?c ?m ?d ?_ ?a ?b; (case b => rfl); (case a => rfl); (case N => k_asm); (case c => rfl); (case m => k_mem); (case d => assumption))))

abbrev InnerClaim (w : World) (p : Program) (loose : List Str) (mean : ExcName → Option Value) (mg mb : Str → Option Value) (f l : Addr) (news : List (Addr × Obj)) (Z : Prop) (n k : Nat) : Prop :=
  ∀ (x L9 R9 B0 : Nat) (tx tL tR : Tok) (vs : List Value) (nn : Nat) (dp un : Nat) (gd : Option (List Code)) (cn : Str) (cs : Scope) (a : Addr) (ccd : Value) (cl : List (Str × Addr)) (outer : List Env) (A₀ : Around) (base h₀ : Heap) (L : Addr) (m : Str → Option Value) (s : Shared) (Q E : Value → Shared → Prop),
    R9 = L9 + k → x < 2 ^ (n * k) → x < 100000 → R9 ≤ vs.length → vs.length ≤ 100 → (Z → tx ≠ 0 ∧ @LT.lt Nat _ tx B0) → (∃ ns, IntsAre vs ns) → 1 ≤ s.toks → (∀ p ∈ news, p.1 ≠ l) → CodeHd h₀ 48 44 →
    Below A₀ base outer h₀ → Fr h₀ L s.heap m → (Mine.hd.heap_39 w.params).In h₀ → News h₀ L s.heap ((l, listOf vs.toArray nn) :: news) → Top p loose mean mg mb h₀ → cs.kind = .function →
    dp + (k + 1) < recursionLimit → un + 20 * (k + 1) < cLine →
    (∀ (vs' : List Value) (nn' : Nat) (h' : Heap) (tk' : Nat), Fr h₀ L h' m → News h₀ L h' ((l, listOf vs'.toArray nn') :: news) → Dug Z n x L9 R9 (max B0 tk') vs vs' → s.toks ≤ tk' → Q .none { s with heap := h', toks := tk' }) →
      wpAny (model Challenge.rw_wj0010_01.row.prog w) (ktrTop dp un gd cn cs L a ccd cl outer) (call (.ref f) [.int (x : Int) tx, .int (L9 : Int) tL, .int (R9 : Int) tR]) Q E s

theorem InnerClaim.use {w : World} {p : Program} {loose : List Str} {mean : ExcName → Option Value} {mg mb : Str → Option Value} {f l : Addr} {news : List (Addr × Obj)} {Z : Prop} {n k : Nat} (C : InnerClaim w p loose mean mg mb f l news Z n k)
    {x L9 R9 B0 : Nat} {tx tL tR : Tok} {vs : List Value} {nn : Nat} {dp un : Nat} {gd : Option (List Code)} {cn : Str} {cs : Scope} {a : Addr} {ccd : Value} {cl : List (Str × Addr)} {outer : List Env} {A₀ : Around} {base h₀ : Heap} {L : Addr} {m : Str → Option Value} {s : Shared} {Q E : Value → Shared → Prop}
    (hR : R9 = L9 + k) (hx : x < 2 ^ (n * k)) (hxs : x < 100000) (hlen : R9 ≤ vs.length) (hlen2 : vs.length ≤ 100) (htx : Z → tx ≠ 0 ∧ @LT.lt Nat _ tx B0) (hi : ∃ ns, IntsAre vs ns) (hpos : 1 ≤ s.toks) (hap : ∀ p ∈ news, p.1 ≠ l) (Cd : CodeHd h₀ 48 44)
    (B : Below A₀ base outer h₀) (F : Fr h₀ L s.heap m) (X : (Mine.hd.heap_39 w.params).In h₀) (N : News h₀ L s.heap ((l, listOf vs.toArray nn) :: news)) (T : Top p loose mean mg mb h₀) (hk : cs.kind = .function)
    (hd : dp + (k + 1) < recursionLimit) (hu : un + 20 * (k + 1) < cLine)
    (ret : ∀ (vs' : List Value) (nn' : Nat) (h' : Heap) (tk' : Nat), Fr h₀ L h' m → News h₀ L h' ((l, listOf vs'.toArray nn') :: news) → Dug Z n x L9 R9 (max B0 tk') vs vs' → s.toks ≤ tk' → Q .none { s with heap := h', toks := tk' }) :
    wpAny (model Challenge.rw_wj0010_01.row.prog w) (ktrTop dp un gd cn cs L a ccd cl outer) (call (.ref f) [.int (x : Int) tx, .int (L9 : Int) tL, .int (R9 : Int) tR]) Q E s :=
  C _ _ _ _ _ _ _ _ _ _ _ _ _ _ _ _ _ _ _ _ _ _ _ _ _ _ hR hx hxs hlen hlen2 htx hi hpos hap Cd B F X N T hk hd hu ret
theorem dug_one {Z : Prop} {n x L9 B : Nat} {vs : List Value} {ns : List Int} {t : Tok} (hx : x < 2 ^ (n * 1)) (ht : Z → t ≠ 0 ∧ @LT.lt Nat _ t B) (hl : L9 + 1 ≤ vs.length) (hi : IntsAre (vs.set ((L9 : Int).toNat) (.int (x : Int) t)) ns) : Dug Z n x L9 (L9 + 1) B vs (vs.set ((L9 : Int).toNat) (.int (x : Int) t)) := by
  rw [Int.toNat_natCast] at *
  refine ⟨by simp, ⟨_, hi⟩, fun j hj => ?_, fun j h1 h2 => ⟨t, ht, ?_⟩⟩
  · rw [List.getElem?_set_ne (by omega)]
  · obtain rfl : j = L9 := by omega
    rw [List.getElem?_set_self (by omega), Nat.sub_self, Nat.mul_zero, Nat.pow_zero, Nat.div_one, Nat.mod_eq_of_lt (by rwa [Nat.mul_one] at hx)]
theorem dug_two {Z : Prop} {n x L9 k1 R9 B1 B2 B3 : Nat} {vs vs1 vs2 : List Value} (h1 : Dug Z n (x % 2 ^ (n * k1)) L9 (L9 + k1) B1 vs vs1) (h2 : Dug Z n (x / 2 ^ (n * k1)) (L9 + k1) R9 B2 vs1 vs2) (hr : L9 + k1 ≤ R9) (hB : B1 ≤ B3) (hB2 : B2 ≤ B3) : Dug Z n x L9 R9 B3 vs vs2 := by
  obtain ⟨a1, _, a3, a4⟩ := h1
  obtain ⟨b1, b2, b3, b4⟩ := h2
  refine ⟨b1.trans a1, b2, fun j hj => ?_, fun j c1 c2 => ?_⟩
  · rw [b3 j (by omega), a3 j (by omega)]
  · by_cases hj : j < L9 + k1
    · obtain ⟨t, ht, e⟩ := a4 j c1 hj
      refine ⟨t, fun z => ⟨(ht z).1, Nat.lt_of_lt_of_le (ht z).2 hB⟩, ?_⟩
      rw [b3 j (by omega), e, digit_low]
      have : n * (j - L9) + n = n * (j - L9 + 1) := by rw [Nat.mul_add, Nat.mul_one]
      rw [this]
      exact Nat.mul_le_mul_left _ (by omega)
    · obtain ⟨t, ht, e⟩ := b4 j (by omega) c2
      refine ⟨t, fun z => ⟨(ht z).1, Nat.lt_of_lt_of_le (ht z).2 hB2⟩, ?_⟩
      rw [e, digit_high, ← Nat.mul_add, show k1 + (j - (L9 + k1)) = j - L9 by omega]
local macro_rules | `(tactic| walk_at "setItem ref int") => `(tactic| ((with_reducible rename Fr _ _ _ _ => F'); (with_reducible rename News _ _ _ _ => N'); (refine ksa_set F' N' (Upd.head (by assumption)) (by assumption) (by omega) (by omega) (by omega) ?_); intro _ _ _ _ _ _))
set_option maxRecDepth 100000 in
set_option maxHeartbeats 2000000 in
theorem inner_ctr (w : World) (p : Program) (loose : List Str) (mean : ExcName → Option Value) (mg mb : Str → Option Value) (f l cA cN cI c' : Addr) (oA oN oI oc : Obj) (qual : Str) (tq : Tok) (vc : Array Value) (doc pm ctv : Value) (n : Nat) (tn : Tok)
    (news : List (Addr × Obj)) (Z : Prop) (hn1 : 1 ≤ n) (hn3 : n ≤ 3) (hA : oA.data = .cell (some (.ref l))) (hN : oN.data = .cell (some (.int (n : Int) tn))) (hI : oI.data = .cell (some (.ref f))) (hoc : oc.data = .fields vc) (hv : vc[1]? = some (.str qual tq))
    (mA : (cA, oA) ∈ news) (mN : (cN, oN) ∈ news) (mI : (cI, oI) ∈ news) (mC : (c', oc) ∈ news)
    (mF : (f, fnMade (Str.ofString "inner") qual (partsOf innerStmt).1 (partsOf innerStmt).2.1 (partsOf innerStmt).2.2 [(Str.ofString "n", cN), (Str.ofString "inner", cI), (Str.ofString "a_digits", cA)] doc pm c' ctv) ∈ news) :
    ∀ k, 1 ≤ k → k ≤ 20 → InnerClaim w p loose mean mg mb f l news Z n k := by
  simp only [innerStmt, Challenge.pw_wj0010_01, List.getD_cons_succ, List.getD_cons_zero, partsOf] at mF
  intro k
  induction k using Nat.strongRecOn with
  | ind k IH =>
  intro hk1 hk20
  unfold InnerClaim
  k_fill
  k_with_none
  k_with "call ref" => refine hold ?_
  intro x L9 R9 B0 tx tL tR vs nn dp un gd cn cs a ccd cl outer A₀ base h₀ L m s Q E hR hx hxs hlen hlen2 htx hints hpos hapart C B F X N T hk hd hu hret
  obtain ⟨ns, hints⟩ := hints
  have hl := hints.length
  refine wpAny_with_toks (Nat.le_refl s.toks) ?_
  refine wpAny_call ?_
  k_dflt (refine' code_nest ?k1 ?k2 ?k3 ?k4 ?k5 ?kA ?kF ?kK ?k6 ?k7 ?k8 ?k9 ?kB ?_ ?c2 ?c3 ?c4 ?c5; (case kA => exact rfl); (case kF => exact rfl); (case kK => exact hk); (case k1 => exact B); (case k2 => exact F); (case k3 => exact X); (case k4 => exact N); (case k5 => exact T); (case k6 => exact List.Mem.tail _ mF); (case k7 => exact codeRec_news N (List.Mem.tail _ mC) hoc hv); (case k8 => ktr_room); (case k9 => exact BindsTo.of_eq rfl); (case c5 => decide); (case kB => exact locs rfl); (case c2 => exact rfl); (case c3 => exact rfl); (case c4 => exact rfl); k_whole; intro g' L' h' FG' F' N' B' X' T'; (try dsimp only); (try k_lift B'); (try k_fold))
  refine gen_toks2 (show s.toks ≤ _ by omega) (fun tk0 htk0 => ?_)
  obtain ⟨m0, F2⟩ : ∃ m0, Fr g' L' h' (pins m0 [(Str.ofString "x", .int (x : Int) tx), (Str.ofString "L", .int (L9 : Int) tL), (Str.ofString "R", .int (R9 : Int) tR)]) := by
    refine ⟨_, fr_pins _ F' (fun p hp => ?_)⟩
    simp only [List.mem_cons, List.not_mem_nil, or_false] at hp
    rcases hp with rfl | rfl | rfl <;> rfl
  clear F'
  have C2 : CodeHd g' 48 44 := C.keeps FG'.keep
  by_cases c1 : k = 1
  · subst c1
    k_steps
    subst hR
    (try intro _)
    exact hret _ _ _ _ (by assumption) (by assumption) (dug_one hx (fun z => ⟨(htx z).1, Nat.lt_of_lt_of_le (htx z).2 (Nat.le_max_left _ _)⟩) hlen (by assumption)) (by assumption)
  · have e_mid : ((L9 : Int) + (R9 : Int)).fdiv (2 ^ (1 : Int).toNat) = ((L9 + k / 2 : Nat) : Int) := by
      rw [show ((L9 : Int) + (R9 : Int)) = ((L9 + R9 : Nat) : Int) by omega, show (1 : Int).toNat = ((1 : Nat) : Int).toNat by rfl, fdiv_pow_nat]; congr 1; omega
    have e_sh : (((L9 + k / 2 : Nat) : Int) - (L9 : Int)) * (n : Int) = ((n * (k / 2) : Nat) : Int) := by
      rw [show (((L9 + k / 2 : Nat) : Int) - (L9 : Int)) = ((k / 2 : Nat) : Int) by omega, Nat.mul_comm]; rfl
    have e_up := fdiv_pow_nat x (n * (k / 2))
    have e_ls : ((x / 2 ^ (n * (k / 2)) : Nat) : Int) * 2 ^ (((n * (k / 2) : Nat) : Int).toNat) = ((x / 2 ^ (n * (k / 2)) * 2 ^ (n * (k / 2)) : Nat) : Int) := by
      rw [Int.toNat_natCast]; simp
    have e_xor := xor_low x (n * (k / 2))
    have b_sh : n * (k / 2) ≤ 30 := Nat.le_trans (Nat.mul_le_mul hn3 (show k / 2 ≤ 10 by omega)) (by decide)
    have b_up : x / 2 ^ (n * (k / 2)) < 100000 := Nat.lt_of_le_of_lt (Nat.div_le_self _ _) hxs
    have b_lo : x % 2 ^ (n * (k / 2)) < 100000 := Nat.lt_of_le_of_lt (Nat.mod_le _ _) hxs
    have b_lo2 : x % 2 ^ (n * (k / 2)) < 2 ^ (n * (k / 2)) := Nat.mod_lt _ (Nat.pow_pos (by decide))
    have b_up2 : x / 2 ^ (n * (k / 2)) < 2 ^ (n * (k - k / 2)) := by
      rw [Nat.div_lt_iff_lt_mul (Nat.pow_pos (by decide)), ← Nat.pow_add, ← Nat.mul_add, show k - k / 2 + k / 2 = k by omega]
      exact hx
    have dug2 := fun B1 B2 B3 vs1 vs2 a b => dug_two (Z := Z) (n := n) (x := x) (L9 := L9) (k1 := k / 2) (R9 := R9) (B1 := B1) (B2 := B2) (B3 := B3) (vs := vs) (vs1 := vs1) (vs2 := vs2) a b (by omega)
    have hpos1 : 1 ≤ tk0 := Nat.le_trans hpos htk0
    generalize x / 2 ^ (n * (k / 2)) * 2 ^ (n * (k / 2)) = y at *
    generalize x / 2 ^ (n * (k / 2)) = up at *
    generalize x % 2 ^ (n * (k / 2)) = lo at *
    generalize hsh : n * (k / 2) = sh at e_sh e_up e_ls b_sh
    k_steps
    unfold Hold
    k_dflt (refine' InnerClaim.use (B0 := ?kb) (IH (k / 2) (by omega) (by omega) (by omega)) rfl b_lo2 b_lo (by omega) hlen2 ?ktx ⟨ns, hints⟩ ?kp hapart ?kC ?u1a ?u1b ?u1c ?u1d ?u1e ?u1f ?u1g ?u1h ?u1i)
    case u1a => k_asm
    case u1b => k_asm
    case u1c => k_asm
    case u1d => k_asm
    case u1e => k_asm
    case u1f => first | exact rfl | assumption
    case u1g => ktr_room
    case u1h => ktr_units
    case ktx => exact fun _ => ⟨by assumption, by assumption⟩
    case kp => ((try dsimp only); omega)
    case kC => exact C2
    intro vs1 nn1 h1 tk1 F1 N1 D1 htk1
    (try dsimp only)
    (try k_fold)
    k_steps
    unfold Hold
    have hl1 := D1.1
    k_dflt (refine' InnerClaim.use (B0 := ?jb) (IH (k - k / 2) (by omega) (by omega) (by omega)) (by omega) b_up2 b_up (by omega) (by omega) ?jtx D1.2.1 ?jp hapart ?jC ?u2a ?u2b ?u2c ?u2d ?u2e ?u2f ?u2g ?u2h ?u2i)
    case u2a => k_asm
    case u2b => k_asm
    case u2c => k_asm
    case u2d => k_asm
    case u2e => k_asm
    case u2f => first | exact rfl | assumption
    case u2g => ktr_room
    case u2h => ktr_units
    case jtx => exact fun _ => ⟨by assumption, by assumption⟩
    case jp => ((try dsimp only at htk1 ⊢); omega)
    case jC => exact C2
    intro vs2 nn2 h2 tk2 F2 N2 D2 htk2
    (try dsimp only)
    (try k_fold)
    k_steps
    (try intro _)
    exact hret _ _ _ _ (by assumption) (by assumption) (dug2 _ _ _ _ _ D1 D2 (by (try dsimp only at htk1 htk2); omega) (by (try dsimp only at htk1 htk2); omega)) (by assumption)
end Mine
end
section
open PySem PySem.W PyProof.Rows
namespace Mine
def digN (n x : Nat) : Nat := (Builtin.Int.intBits (x : Int) + n - 1) / n
def dig (n x : Nat) : List Int := (List.range (digN n x)).map fun j => ((x / 2 ^ (n * j) % 2 ^ n : Nat) : Int)
def NzInts (Z : Prop) (vs : List Value) (B : Nat) : Prop := ∀ (j : Nat) (v : Value), vs[j]? = some v → ∃ (i : Int) (t : Tok), v = Value.int i t ∧ (Z → t ≠ 0 ∧ @LT.lt Nat _ t B)
theorem digN_lt (n x : Nat) (hn : 1 ≤ n) : x < 2 ^ (n * digN n x) := by
  have h1 := natAbs_lt_pow_bits (x : Int)
  rw [Int.natAbs_natCast] at h1
  refine Nat.lt_of_lt_of_le h1 (Nat.pow_le_pow_right (by decide) ?_)
  unfold digN
  have := Nat.div_add_mod (Builtin.Int.intBits (x : Int) + n - 1) n
  have := Nat.mod_lt (Builtin.Int.intBits (x : Int) + n - 1) (show 0 < n by omega)
  omega
theorem bits_small {x : Nat} (h : x < 128) : Builtin.Int.intBits (x : Int) ≤ 7 := intBits_le (by rw [Int.natAbs_natCast]; exact h)
theorem digN_small {n x : Nat} (h : x < 128) (hn : 1 ≤ n) : digN n x ≤ 7 := by
  have := bits_small h
  unfold digN
  rw [← Nat.lt_succ_iff, Nat.div_lt_iff_lt_mul (by omega)]
  have : 7 * n + n ≥ 7 + n := by have : 7 * 1 ≤ 7 * n := Nat.mul_le_mul_left 7 hn; omega
  have e : Nat.succ 7 * n = 7 * n + n := by rw [Nat.succ_mul]
  omega
theorem digN_pos {n x : Nat} (hx : 1 ≤ x) (hn : 1 ≤ n) : 1 ≤ digN n x := by
  have h := digN_lt n x hn
  by_cases hz : digN n x = 0
  · rw [hz, Nat.mul_zero, Nat.pow_zero] at h; omega
  · omega
theorem dug_to {Z : Prop} {n x L9 R9 R2 B : Nat} {vs vs' : List Value} (h : Dug Z n x L9 R9 B vs vs') (e : R9 = R2) : Dug Z n x L9 R2 B vs vs' := e ▸ h
theorem dug_digits {Z : Prop} {n x B : Nat} {vs0 vs : List Value} (h0 : vs0.length = digN n x) (h : Dug Z n x 0 (digN n x) B vs0 vs) : IntsAre vs (dig n x) ∧ NzInts Z vs B := by
  obtain ⟨a1, ⟨ns, a2⟩, _, a4⟩ := h
  have hl : vs.length = digN n x := a1.trans h0
  have hns : ns = dig n x := by
    refine List.ext_getElem? fun j => ?_
    by_cases hj : j < digN n x
    · obtain ⟨t, _, e⟩ := a4 j (Nat.zero_le _) hj
      obtain ⟨k, t', e', hk⟩ := IntsAre.at a2 j _ e
      rw [hk]
      cases e'
      unfold dig
      simp [hj]
    · rw [List.getElem?_eq_none (by rw [← a2.length]; omega), List.getElem?_eq_none (by unfold dig; simp; omega)]
  subst hns
  refine ⟨a2, fun j v e => ?_⟩
  have hj : j < digN n x := by rw [← hl]; exact (List.getElem?_eq_some_iff.mp e).1
  obtain ⟨t, ht, e2⟩ := a4 j (Nat.zero_le _) hj
  rw [e] at e2
  cases e2
  exact ⟨_, t, rfl, ht⟩
section
variable {prog : Program} {w : World} {A : Around} {E : Value → Shared → Prop} {s : Shared}
theorem fdiv_is {a n v : Int} {t u : Tok} {Q : Value → Shared → Prop} (e : a.fdiv n = v) (hn : n ≠ 0) (ha : -1000 ≤ n ∧ n ≤ 1000) (h : ∀ t' k, Q (.int v t') { s with toks := k + 1 }) :
    wpAny (model prog w) A (binaryOp .FloorDiv (.int a t) (.int n u)) Q E s := floordiv_int hn (by rw [e]; exact h _ _) (Or.inl (PyProof.noPylong_small (by omega)))
end
def TabIn (news : List (Addr × Obj)) (c' : Addr) (oc : Obj) (vc : Array Value) (tq : Tok) : Prop :=
  (44, tabObj #[rawInt 22, rawInt 4, .ref c']) ∈ news ∧ (c', oc) ∈ news ∧ oc.data = .fields vc ∧ vc[1]? = some (.str (Str.ofString "_int2digits.<locals>.inner") tq)
theorem InnerClaim.use2 {w : World} {p : Program} {loose : List Str} {mean : ExcName → Option Value} {mg mb : Str → Option Value} {f l : Addr} {e1 : Addr × Obj} {rest : List (Addr × Obj)} {Z : Prop} {n k : Nat} (C : InnerClaim w p loose mean mg mb f l (e1 :: rest) Z n k)
    {x L9 R9 B0 : Nat} {tx tL tR : Tok} {vs : List Value} {nn : Nat} {dp un : Nat} {gd : Option (List Code)} {cn : Str} {cs : Scope} {a : Addr} {ccd : Value} {cl : List (Str × Addr)} {outer : List Env} {A₀ : Around} {base h₀ : Heap} {L : Addr} {m : Str → Option Value} {s : Shared} {Q E : Value → Shared → Prop}
    (hR : R9 = L9 + k) (hx : x < 2 ^ (n * k)) (hxs : x < 100000) (hlen : R9 ≤ vs.length) (hlen2 : vs.length ≤ 100) (htx : Z → tx ≠ 0 ∧ @LT.lt Nat _ tx B0) (hi : ∃ ns, IntsAre vs ns) (hpos : 1 ≤ s.toks) (hap : ∀ p ∈ e1 :: rest, p.1 ≠ l) (Cd : CodeHd h₀ 48 44)
    (B : Below A₀ base outer h₀) (F : Fr h₀ L s.heap m) (X : (Mine.hd.heap_39 w.params).In h₀) (N : News h₀ L s.heap (e1 :: (l, listOf vs.toArray nn) :: rest)) (T : Top p loose mean mg mb h₀) (hk : cs.kind = .function)
    (hd : dp + (k + 1) < recursionLimit) (hu : un + 20 * (k + 1) < cLine)
    (ret : ∀ (vs' : List Value) (nn' : Nat) (h' : Heap) (tk' : Nat), Fr h₀ L h' m → News h₀ L h' (e1 :: (l, listOf vs'.toArray nn') :: rest) → Dug Z n x L9 R9 (max B0 tk') vs vs' → s.toks ≤ tk' → Q .none { s with heap := h', toks := tk' }) :
    wpAny (model Challenge.rw_wj0010_01.row.prog w) (ktrTop dp un gd cn cs L a ccd cl outer) (call (.ref f) [.int (x : Int) tx, .int (L9 : Int) tL, .int (R9 : Int) tR]) Q E s :=
  have sw : ∀ {h : Heap} {b : Addr × Obj} {c : Addr × Obj}, News h₀ L h (b :: c :: rest) → News h₀ L h (c :: b :: rest) := fun N p hp => N p (by
    rcases List.mem_cons.mp hp with rfl | hp
    · exact .tail _ (.head _)
    · rcases List.mem_cons.mp hp with rfl | hp
      · exact .head _
      · exact .tail _ (.tail _ hp))
  C.use hR hx hxs hlen hlen2 htx hi hpos hap Cd B F X (sw N) T hk hd hu fun vs' nn' h' tk' F' N' D' ht => ret vs' nn' h' tk' F' (sw N') D' ht
abbrev DigClaim (w : World) (p : Program) (loose : List Str) (mean : ExcName → Option Value) (mg mb : Str → Option Value) (news : List (Addr × Obj)) (Z : Prop) (n x B0 : Nat) (tx tn : Tok) : Prop :=
  ∀ (dp un : Nat) (gd : Option (List Code)) (cn : Str) (cs : Scope) (a : Addr) (ccd : Value) (cl : List (Str × Addr)) (outer : List Env) (A₀ : Around) (base h₀ : Heap) (L : Addr) (m : Str → Option Value) (s : Shared) (Q E : Value → Shared → Prop),
    CodeHd h₀ 48 44 → Below A₀ base outer h₀ → Fr h₀ L s.heap m → (Mine.hd.heap_39 w.params).In h₀ → News h₀ L s.heap news → Top p loose mean mg mb h₀ → cs.kind = .function →
    dp + 40 < recursionLimit → un + 800 < cLine →
    (∀ (l : Addr) (vs : List Value) (nn : Nat) (h' : Heap) (tk' : Nat), Fr h₀ L h' m → News h₀ L h' ((l, listOf vs.toArray nn) :: news) → (∀ p ∈ news, p.1 < l) → IntsAre vs (dig n x) → NzInts Z vs (max B0 tk') → Q (.ref l) { s with heap := h', toks := tk' }) →
      wpAny (model Challenge.rw_wj0010_01.row.prog w) (ktrTop dp un gd cn cs L a ccd cl outer) (call (.ref 49) [.int (x : Int) tx, .int (n : Int) tn]) Q E s
theorem DigClaim.use {w : World} {p : Program} {loose : List Str} {mean : ExcName → Option Value} {mg mb : Str → Option Value} {news : List (Addr × Obj)} {Z : Prop} {n x B0 : Nat} {tx tn : Tok} (C : DigClaim w p loose mean mg mb news Z n x B0 tx tn)
    {dp un : Nat} {gd : Option (List Code)} {cn : Str} {cs : Scope} {a : Addr} {ccd : Value} {cl : List (Str × Addr)} {outer : List Env} {A₀ : Around} {base h₀ : Heap} {L : Addr} {m : Str → Option Value} {s : Shared} {Q E : Value → Shared → Prop}
    (Cd : CodeHd h₀ 48 44) (B : Below A₀ base outer h₀) (F : Fr h₀ L s.heap m) (X : (Mine.hd.heap_39 w.params).In h₀) (N : News h₀ L s.heap news) (T : Top p loose mean mg mb h₀) (hk : cs.kind = .function)
    (hd : dp + 40 < recursionLimit) (hu : un + 800 < cLine)
    (ret : ∀ (l : Addr) (vs : List Value) (nn : Nat) (h' : Heap) (tk' : Nat), Fr h₀ L h' m → News h₀ L h' ((l, listOf vs.toArray nn) :: news) → (∀ p ∈ news, p.1 < l) → IntsAre vs (dig n x) → NzInts Z vs (max B0 tk') → Q (.ref l) { s with heap := h', toks := tk' }) :
    wpAny (model Challenge.rw_wj0010_01.row.prog w) (ktrTop dp un gd cn cs L a ccd cl outer) (call (.ref 49) [.int (x : Int) tx, .int (n : Int) tn]) Q E s :=
  C _ _ _ _ _ _ _ _ _ _ _ _ _ _ _ _ _ Cd B F X N T hk hd hu ret
theorem qual_is (sc : Scope) (L a : Addr) (cd : Value) (h : sc.names = [(Str.ofString "a", .local), (Str.ofString "n", .cell), (Str.ofString "a_digits", .cell), (Str.ofString "inner", .cell), (Str.ofString "len", .globalImplicit)]) :
    qualnameIn (envOfC (Str.ofString "_int2digits") sc L a cd) (Str.ofString "inner") (Str.ofString "inner") = Str.ofString "_int2digits.<locals>.inner" := by
  have e : Str.ofString "_int2digits" ++ Str.ofString ".<locals>." ++ Str.ofString "inner" = Str.ofString "_int2digits.<locals>.inner" := by decide +kernel
  rw [← e]
  have hk : (envOfC (Str.ofString "_int2digits") sc L a cd).kindOf (Str.ofString "inner") = some .cell := by
    show sc.names.lookup _ = _
    rw [h]; decide +kernel
  unfold qualnameIn
  rw [hk]
  rfl
local macro_rules | `(tactic| walk_at "mine pos") => `(tactic| first | assumption | omega | (dsimp only; omega))
local macro_rules | `(tactic| walk_at "execs cons") => `(tactic| ((with_reducible refine wpAny_execs_cons ?_); try dsimp only))
local macro_rules | `(tactic| walk_at "binaryOp FloorDiv int int") => `(tactic| (refine fdiv_is (by with_reducible assumption) (by omega) (by omega) ?_; intro _ _))
local macro_rules | `(tactic| k_mem) => `(tactic| first | with_reducible assumption | (refine List.mem_cons_of_mem _ ?_; k_mem))
local macro_rules | `(tactic| k_all) => `(tactic| exact all_ne (by assumption) (by omega))
local macro_rules | `(tactic| walk_at "call ref") => `(tactic| k_extra "call ref")
set_option maxRecDepth 100000 in
set_option maxHeartbeats 1000000 in
theorem dig_ctr (w : World) (p : Program) (loose : List Str) (mean : ExcName → Option Value) (mg mb : Str → Option Value) (news : List (Addr × Obj)) (Z : Prop) (n9 x9 B0 : Nat) (tx tn : Tok) (hn1 : 1 ≤ n9) (hn3 : n9 ≤ 3) (hx : x9 < 128) (htx : Z → tx ≠ 0 ∧ @LT.lt Nat _ tx B0)
    (c' : Addr) (oc : Obj) (vc : Array Value) (tq : Tok) (TI : TabIn news c' oc vc tq) : DigClaim w p loose mean mg mb news Z n9 x9 B0 tx tn := by
  unfold DigClaim
  k_fill
  k_with_none
  k_with "call ref" => refine hold ?_
  obtain ⟨t1, t2, t3, t4⟩ := TI
  intro dp un gd cn cs a ccd cl outer A₀ base h₀ L m s Q E C B F X N T hk hd hu hret
  refine wpAny_with_toks (Nat.le_refl s.toks) ?_
  refine wpAny_call ?_
  have e_div : ((Builtin.Int.intBits (x9 : Int) : Int) + (n9 : Int) - 1).fdiv (n9 : Int) = ((digN n9 x9 : Nat) : Int) := by
    rw [show ((Builtin.Int.intBits (x9 : Int) : Int) + (n9 : Int) - 1) = ((Builtin.Int.intBits (x9 : Int) + n9 - 1 : Nat) : Int) by omega, Int.fdiv_eq_ediv_of_nonneg _ (by omega)]
    unfold digN; rw [Int.natCast_ediv]
  have hD := digN_small hx hn1
  have hDp : 1 ≤ x9 → 1 ≤ digN n9 x9 := fun h => digN_pos h hn1
  have hDl := digN_lt n9 x9 hn1
  have dd := fun B vs0 vs => dug_digits (Z := Z) (n := n9) (x := x9) (B := B) (vs0 := vs0) (vs := vs)
  have hb7 := bits_small hx
  k_dflt (refine' code_defC ?k1 ?k2 ?k3 ?k4 ?k5 ?kA ?kF ?kK ?k6 ?k7 ?k8 ?k9 ?kB ?kD ?_ ?c2 ?c3 ?c4; (case kA => exact rfl); (case kF => exact rfl); (case kK => exact hk); (case k1 => exact B); (case k2 => exact F); (case k3 => exact X); (case k4 => exact N); (case k5 => exact T); (case k6 => k_is); (case k7 => k_is); (case k8 => ktr_room); (case k9 => exact BindsTo.of_eq rfl); (case kB => exact rfl); (case kD => decide +kernel); (case c2 => exact rfl); (case c3 => exact rfl); (case c4 => exact rfl); k_whole; intro g' L' h' tk' cells' FG' F' N' Y' B' X' T' l1; (try k_lt l1); k_cells Y'; (try simp only [List.cons_append, List.nil_append] at N'); (try dsimp only); (try k_lift B'); (try k_fold))
  have C2 : CodeHd g' 48 44 := C.keeps FG'.keep
  obtain ⟨m0, F2⟩ : ∃ m0, Fr g' L' h' (pins m0 [(Str.ofString "a", .int (x9 : Int) tx)]) := by
    refine ⟨_, fr_pins _ F' (fun p hp => ?_)⟩
    simp only [List.mem_cons, List.not_mem_nil, or_false] at hp
    rcases hp with rfl
    rfl
  clear F'
  have hz : (List.replicate (((digN n9 x9 : Nat) : Int)).toNat ([Value.int 0 tk'] : List Value)).flatten.length = digN n9 x9 := by simp
  k_steps
  · unfold Hold
    have hx1 : 1 ≤ x9 := by omega
    with_reducible rename IntsAre _ _ => i9
    with_reducible rename News _ _ _ _ => N9
    rw [qual_is _ _ _ _ rfl] at N9
    k_dflt (refine' InnerClaim.use2 (B0 := B0) (L9 := 0) (inner_ctr w _ _ _ _ _ _ _ _ _ _ c' _ _ _ oc _ tq vc _ _ _ n9 tn _ Z hn1 hn3 ?hA ?hN ?hI t3 t4 ?mA ?mN ?mI ?mC ?mF (digN n9 x9) (hDp hx1) (by omega)) ?hR hDl (by omega) ?hl1 ?hl2 htx ⟨_, i9⟩ ?hps ?hap ?hC ?u1a ?u1b ?u1c ?u1d ?u1e ?u1f ?u1g ?u1h ?u1i)
    case u1a => k_asm
    case u1b => k_asm
    case u1c => k_asm
    case u1d => k_asm
    case u1e => k_asm
    case u1f => first | exact rfl | assumption
    case u1g => ktr_room
    case u1h => ktr_units
    case mF =>
      simp only [innerStmt, Challenge.pw_wj0010_01, List.getD_cons_succ, List.getD_cons_zero, partsOf]
      exact List.Mem.head _
    case mA => k_mem
    case mN => k_mem
    case mI => k_mem
    case hA => assumption
    case hN => assumption
    case hI => assumption
    case mC => k_mem
    case hR => omega
    case hl1 => rw [hz]; omega
    case hl2 => rw [hz]; omega
    case hps => ((try dsimp only); omega)
    case hap => exact List.forall_mem_cons.mpr ⟨by k_ne, List.forall_mem_cons.mpr ⟨by k_ne, List.forall_mem_cons.mpr ⟨by k_ne, List.forall_mem_cons.mpr ⟨by k_ne, List.forall_mem_cons.mpr ⟨by k_ne, all_ne l1 (by omega)⟩⟩⟩⟩⟩
    case hC => exact C2
    intro vs2 nn2 h2 tk2 F2 N2 D2 htk2
    have D3 := dug_to D2 (show _ = digN n9 x9 by omega)
    (try dsimp only)
    (try k_fold)
    k_steps
    with_reducible rename News _ _ _ _ => kN9
    obtain ⟨r1, r2⟩ := dd _ _ _ hz D3
    (try intro _)
    refine hret _ vs2 nn2 _ _ (by assumption) (fun p hp => kN9 p ?_) (fun p hp => ?_) r1 r2
    · simp only [List.mem_cons] at hp ⊢
      rcases hp with h | h
      · exact Or.inr (Or.inl h)
      · simp [h]
    · exact Nat.lt_of_lt_of_le (l1 p hp) (by omega)
  · with_reducible rename News _ _ _ _ => kN9
    have hx0 : digN n9 x9 = 0 := by
      have : x9 = 0 := by omega
      subst this
      unfold digN
      rw [show Builtin.Int.intBits ((0 : Nat) : Int) = 0 by decide]
      exact Nat.div_eq_of_lt (by omega)
    refine hret _ [] 0 _ _ (by assumption) (fun p hp => kN9 p ?_) (fun p hp => ?_) ?_ (fun j v e => by simp at e)
    · simp only [List.mem_cons] at hp ⊢
      rcases hp with h | h
      · rw [hx0]; exact Or.inr (Or.inl h)
      · simp [h]
    · exact Nat.lt_of_lt_of_le (l1 p hp) (by omega)
    · unfold dig; rw [hx0]; exact .nil
end Mine
end
section
open PySem PySem.Spec PySem.Calls PySem.W PyProof.Rows
namespace Mine
section
variable {prog : Program} {w : World} {A : Around} {E : Value → Shared → Prop} {s : Shared} {env : Env}
/-- a loop over enumerate(list) that leaves at its turn 'stop' at the latest and stores nothing -/
theorem forEnum_find {R : Result → Shared → Prop} {xi xv : Str} {pi pv pt : Pos} {x1} {body orelse : List Stmt} {e it l : Addr} {items : Array Value} {m : Str → Option Value} {g : Heap} (stop : Nat)
    (hh : A.handled = none) (hxi : env.kindOf xi = some .local) (hxv : env.kindOf xv = some .local)
    (hp : (env.scope.kind == .class || (env.scope.kind == .module && env.locals != env.globals)) = false)
    (hei : e ≠ it) (heL : e ≠ env.locals) (hiL : it ≠ env.locals) (hlL : l ≠ env.locals) (hle : l ≠ e) (hli : l ≠ it) (he0 : g.get? e = none) (hi0 : g.get? it = none)
    (he : IsEnum s.heap e it 0 .none) (hit : s.heap.IsListIter it l 0) (hl : s.heap.IsList l items) (F : Fr g env.locals s.heap m) (hst : stop < items.size)
    (step : ∀ (i : Nat) (v : Value) (tk : Tok) (m₁ : Str → Option Value) (h₁ : Heap) (tk₁ : Nat), items[i]? = some v → i ≤ stop → (∀ y, y ≠ xi → y ≠ xv → m₁ y = m y) → Fr g env.locals h₁ (fun y => if y = xv then some v else if y = xi then some (.int i tk) else m₁ y) →
      wpAny (model prog w) A (execs body env) (fun f s₂ => match f with
        | .next | .cont => i < stop ∧ ∃ tk₂, s₂ = { s with heap := h₁, toks := tk₂ }
        | .brk => R (.ok .next) s₂
        | .ret v => R (.ok (.ret v)) s₂) (notedBy (model prog w) A env fun e s' => R (.error e) s') { s with heap := h₁, toks := tk₁ }) :
    codeAny (model prog w) A (.forLoop (.Tuple [.Name xi pi, .Name xv pv] x1 pt) (.ref e) body orelse env) R s := by
  refine codeAny_forLoop_any
    (fun k s' => ∃ h' tk m' i old, s' = { s with heap := h', toks := tk } ∧ IsEnum h' e it ((i : Nat) : Int) old ∧ h'.IsListIter it l i ∧ h'.IsList l items ∧ Fr g env.locals h' m' ∧ (∀ y, y ≠ xi → y ≠ xv → m' y = m y) ∧ i ≤ stop ∧ k = items.size + 1 - i) ?_ (items.size + 1)
    ⟨s.heap, s.toks, m, 0, .none, rfl, he, hit, hl, F, fun _ _ _ => rfl, Nat.zero_le _, rfl⟩
  rintro k s' ⟨H, tk, m', i, old, rfl, he', hit', hl', F', hm, hi, rfl⟩
  have hlt : i < items.size := Nat.lt_of_le_of_lt hi hst
  obtain ⟨v, hv⟩ : ∃ v, items[i]? = some v := ⟨_, Array.getElem?_eq_getElem hlt⟩
  have heH : e < H.objs.size := Heap.lt_size he'
  have hLH : env.locals < H.objs.size := F'.ns.lt
  obtain ⟨oi, hoi, _⟩ := id hit'
  obtain ⟨ol, hol, _⟩ := id hl'
  have hiH : it < H.objs.size := Heap.lt_size hoi
  have hlH : l < H.objs.size := Heap.lt_size hol
  refine wpAny_pyNext_enum_item he' hit' hl' hv hei fun h₁ heo hit₁ ht₁ hz₁ hk₁ => ?_
  refine wpAny_letOwnedTupleGo_enum heo fun h₂ he₂ hs₂ => ?_
  replace hs₂ : Heap.SameBut e h₁ h₂ := hs₂
  have ht₂ : h₂.IsTuple H.objs.size #[.int i tk, v] := ⟨_, (hs₂.2 _ (Nat.ne_of_gt heH)).trans ht₁, rfl, _, rfl⟩
  have hz₂ : h₂.objs.size = H.objs.size + 1 := hs₂.1.trans hz₁
  refine wpAny_assign_Tuple hh ht₂ rfl rfl fun h₃ hx₃ => ?_
  replace hx₃ : Heap.ExtBut h₂.objs.size h₂ h₃ := hx₃
  have old₃ : ∀ b o, b < H.objs.size → h₂.get? b = some o → h₃.get? b = some o := fun b o hb x => hx₃ b o (by rw [hz₂]; exact Nat.ne_of_lt (Nat.lt_succ_of_lt hb)) x
  have hn₃ : h₃.Ns env.locals m' := (F'.ns.at fun o x => hk₁ _ o (Ne.symm heL) (Ne.symm hiL) x).sameBut hs₂ (Ne.symm heL) |>.at fun o x => old₃ _ o hLH x
  have kg : ∀ b o, g.get? b = some o → h₃.get? b = some o := fun b o x => by
    have hb1 : b ≠ e := fun q => by rw [q, he0] at x; cases x
    have hb2 : b ≠ it := fun q => by rw [q, hi0] at x; cases x
    have y := F'.keep b o x
    exact old₃ b o (Heap.lt_size y) ((hs₂.2 b hb1).trans (hk₁ b o hb1 hb2 y))
  have F₃ : Fr g env.locals h₃ m' := ⟨hn₃, kg, F'.above⟩
  show wpAny _ A (do holding [v] (assign (.Name xi pi) env (.int i tk)); do holding [] (assign (.Name xv pv) env v); pure ()) _ _ _
  refine wpAny_bind (wpAny_holding (wpAny_assign_Name (wpAny_storeName_local hxi hn₃ (fun h₄ hn₄ hs₄ => ?_) hp)))
  replace hs₄ : Heap.SameBut env.locals h₃ h₄ := hs₄
  refine wpAny_bind (wpAny_holding (wpAny_assign_Name (wpAny_storeName_local hxv hn₄ (fun h₅ hn₅ hs₅ => wpAny_pure ?_) hp)))
  replace hs₅ : Heap.SameBut env.locals h₄ h₅ := hs₅
  have F₅ := (F₃.set hn₄ hs₄).set hn₅ hs₅
  refine wpAny_mono (step i v tk m' h₅ _ hv hi hm F₅) (fun f s₃ h₆ => ?_) fun _ _ x => x
  have up : ∀ b o, b ≠ env.locals → b < H.objs.size → h₂.get? b = some o → h₅.get? b = some o := fun b o hbL hb x => hs₅.extBut b o hbL (hs₄.extBut b o hbL (old₃ b o hb x))
  have again : (i < stop ∧ ∃ tk₂, s₃ = { s with heap := h₅, toks := tk₂ }) → ∃ m₀, m₀ < items.size + 1 - i ∧ ∃ h' tk m' i old, s₃ = { s with heap := h', toks := tk } ∧ IsEnum h' e it ((i : Nat) : Int) old ∧ h'.IsListIter it l i ∧ h'.IsList l items ∧ Fr g env.locals h' m' ∧ (∀ y, y ≠ xi → y ≠ xv → m' y = m y) ∧ i ≤ stop ∧ m₀ = items.size + 1 - i := by
    rintro ⟨his, tk₂, rfl⟩
    refine ⟨items.size + 1 - (i + 1), by omega, h₅, tk₂, _, i + 1, v, rfl, ?_, ?_, ?_, F₅, fun y h1 h2 => ?_, his, rfl⟩
    · have : ((i + 1 : Nat) : Int) = (i : Int) + 1 := by push_cast; rfl
      rw [this]; exact up e _ heL heH he₂
    · exact (hit₁.extBut hs₂.extBut (Ne.symm hei)).at fun o x => up it o hiL hiH x
    · exact ((hl'.at fun o x => hk₁ l o hle hli x).extBut hs₂.extBut hle).at fun o x => up l o hlL hlH x
    · rw [if_neg h2, if_neg h1]; exact hm y h1 h2
  cases f with
  | ret v => exact h₆
  | brk => exact h₆
  | next => exact again h₆
  | cont => exact again h₆
end
local macro_rules | `(tactic| walk_at "call type:enumerate") => `(tactic| refine hold ?_)
set_option maxRecDepth 100000 in
set_option maxHeartbeats 1000000 in
theorem indexOf_ctr (w : World) (p : Program) (loose : List Str) (mean : ExcName → Option Value) (mg mb : Str → Option Value) (news : List (Addr × Obj)) (lb : Addr) (vs : List Value) (nn i9 : Nat) (hmem : (lb, listOf vs.toArray nn) ∈ news)
    (hb : ∀ j, j < i9 → vs[j]? = some (.bool false)) (ha : vs[i9]? = some (.bool true)) :
    Ctr 2 w p loose mean mg mb 42 news [.ref lb, .bool true] (fun t => .int (i9 : Int) t) := by
  unfold Ctr CbRet
  k_fill
  k_with_none
  intro dp un gd cn cs a ccd cl outer A₀ base h₀ L m s Q E B F X N T hk hd hu hret
  refine wpAny_call ?_
  k_dflt (refine' code_def0 ?k1 ?k2 ?k3 ?k5 ?kA ?kF ?kK ?k6 ?k7 ?k8 ?k9 ?kB ?_ ?c2 ?c3 ?c4 ?c5; (case kA => exact rfl); (case kF => exact rfl); (case kK => exact hk); (case k1 => exact B); (case k2 => exact F); (case k3 => exact X); (case k5 => exact T); (case k6 => k_is); (case k7 => k_is); (case k8 => ktr_room); (case k9 => exact BindsTo.of_eq rfl); (case kB => exact locs rfl); (case c5 => decide); (case c2 => exact rfl); (case c3 => exact rfl); (case c4 => exact rfl); k_whole; intro L' h' F' B' X' T'; (try dsimp only); (try k_lift B'); (try k_fold))
  obtain ⟨m0, F2⟩ : ∃ m0, Fr s.heap L' h' (pins m0 [(Str.ofString "a", .ref lb), (Str.ofString "b", .bool true)]) := by
    refine ⟨_, fr_pins _ F' (fun p hp => ?_)⟩
    simp only [List.mem_cons, List.not_mem_nil, or_false] at hp
    rcases hp with rfl | rfl <;> rfl
  clear F'
  have N' : News s.heap L' h' [] := News.nil
  have ol := (N _ hmem).1
  have hl : s.heap.IsList lb vs.toArray := ⟨_, ol, rfl, _, rfl⟩
  refine wpAny_execs_cons ?_
  refine wpAny_For ?_ (by intro _; with_unfolding_all rfl)
  k_steps
  unfold Hold
  have hLn : L' < h'.objs.size := F2.ns.lt
  have hab : s.heap.objs.size ≤ L' := F2.above
  have hlb : lb < s.heap.objs.size := Heap.lt_size ol
  refine call_enumerate_list (hl.at fun o e => F2.keep _ o e) fun h2 he hit hsz hk2 => ?_
  show wpAny _ _ (pyIter (.ref _)) _ _ _
  refine wpAny_pyIter_enum he ?_
  refine forEnum_find (g := s.heap) (m := pins m0 [(Str.ofString "a", .ref lb), (Str.ofString "b", .bool true)]) (l := lb) (items := vs.toArray) i9 rfl rfl rfl rfl ?_ ?_ ?_ ?_ ?_ ?_ ?_ ?_ he hit ?_ (F2.keeps hk2) ?_ ?_
  · exact Nat.succ_ne_self _
  · exact Nat.ne_of_gt (Nat.lt_succ_of_lt hLn)
  · exact Nat.ne_of_gt hLn
  · exact Nat.ne_of_lt (Nat.lt_of_lt_of_le hlb hab)
  · exact Nat.ne_of_lt (Nat.lt_succ_of_lt (Nat.lt_trans (Nat.lt_of_lt_of_le hlb hab) hLn))
  · exact Nat.ne_of_lt (Nat.lt_trans (Nat.lt_of_lt_of_le hlb hab) hLn)
  · exact Heap.get?_none_of_le (Nat.le_succ_of_le (Nat.le_of_lt (Nat.lt_of_le_of_lt hab hLn)))
  · exact Heap.get?_none_of_le (Nat.le_of_lt (Nat.lt_of_le_of_lt hab hLn))
  · exact hl.at fun o e => hk2 _ _ (F2.keep _ o e)
  · rw [List.size_toArray]; exact (List.getElem?_eq_some_iff.mp ha).1
  · intro i v tk m₁ h₁ tk₁ hv hi hm F5
    have eb : m₁ (Str.ofString "b") = some (.bool true) := hm _ (by decide +kernel) (by decide +kernel)
    clear F2 hm
    obtain ⟨m2, F6⟩ : ∃ m2, Fr s.heap L' h₁ (pins m2 [(Str.ofString "j", v), (Str.ofString "i", .int (i : Int) tk), (Str.ofString "b", .bool true)]) := by
      refine ⟨_, fr_pins _ F5 (fun p hp => ?_)⟩
      simp only [List.mem_cons, List.not_mem_nil, or_false] at hp
      rcases hp with rfl | rfl | rfl
      · rfl
      · rfl
      · exact eb
    clear F5
    have N' : News s.heap L' h₁ [] := News.nil
    rw [List.getElem?_toArray] at hv
    by_cases c : i < i9
    · rw [hb i c] at hv
      cases hv
      k_steps
    · obtain rfl : i = i9 := by omega
      rw [ha] at hv
      cases hv
      k_steps
      exact hret _ _ _ (by assumption) (N.grown F6.keep)
end Mine
end
section
open PySem PySem.Spec PySem.Calls PySem.W PyProof.Rows
namespace Mine
section
variable {M : Model} {A : Around} {E : Value → Shared → Prop} {s : Shared} {Q : Value → Shared → Prop}
theorem isSame_ints {a b : Int} {t u : Tok} (hs : smallInt a = true) (ht : t ≠ 0) (hu : u ≠ 0) (hne : t ≠ u) {R : Bool → Shared → Prop} (h : R (a == b) s) : wpAny M A (isSame (.int a t) (.int b u)) R E s := by
  have ht' : (t == 0) = false := beq_false_of_ne ht
  have hu' : (u == 0) = false := beq_false_of_ne hu
  have hne' : (t == u) = false := beq_false_of_ne hne
  show wpAny M A (if (a == b && smallInt a) = true then isSame.cachedInt t u else isSame.created (a == b) t u) R E s
  by_cases e : a = b
  · subst e
    rw [if_pos (by simp [hs])]
    unfold isSame.cachedInt
    rw [beq_self_eq_true] at h
    simp only [ht', hu', Bool.or_self, Bool.false_eq_true, if_false]
    exact wpAny_bind (wpAny_rule (wpAny_pure h))
  · have eb : (a == b) = false := beq_false_of_ne e
    rw [eb] at h ⊢
    rw [if_neg (by simp)]
    unfold isSame.created
    simp only [ht', hu', hne', Bool.or_self, Bool.false_eq_true, if_false, Bool.not_false, if_true]
    exact wpAny_pure h
theorem is_ints {a b : Int} {t u : Tok} {c : Bool} (e : (a == b) = c) (hs : smallInt a = true) (ht : t ≠ 0) (hu : u ≠ 0) (hne : t ≠ u) (h : Q (.bool c) s) : wpAny M A (compareOp .Is (.int a t) (.int b u)) Q E s := by
  subst e
  show wpAny M A (do return .bool (← isSame _ _)) Q E s
  exact wpAny_bind (isSame_ints hs ht hu hne (wpAny_pure h))
end
def ones (ns : List Int) : Nat := (ns.filter (· == 1)).length
theorem ones_snoc (ns : List Int) (i : Nat) (a : Int) (h : ns[i]? = some a) : ones (ns.take (i + 1)) = ones (ns.take i) + if a = 1 then 1 else 0 := by
  unfold ones
  rw [List.take_add_one, h, List.filter_append, List.length_append]
  by_cases e : a = 1 <;> simp [e]
def DigitsAre (vs : List Value) (ns : List Int) (B : Nat) : Prop := IntsAre vs ns ∧ ∀ (j : Nat) (v : Value), vs[j]? = some v → ∃ (i : Int) (t : Tok), v = Value.int i t ∧ t ≠ 0 ∧ @LT.lt Nat _ t B ∧ 0 ≤ i ∧ i ≤ 200
local macro_rules | `(tactic| walk_at "compareOp Is int int") => `(tactic| (refine is_ints (by with_reducible assumption) (by with_reducible assumption) (by with_reducible assumption) (by with_reducible assumption) (by with_reducible assumption) ?_))
local macro_rules | `(tactic| walk_at "compareOp Eq int int") => `(tactic| first | (refine eq_int_yes (by omega) ?_) | (refine eq_int_no (by omega) ?_))
set_option maxRecDepth 100000 in
set_option maxHeartbeats 1000000 in
theorem countOf_ctr (w : World) (p : Program) (loose : List Str) (mean : ExcName → Option Value) (mg mb : Str → Option Value) (news : List (Addr × Obj)) (lb : Addr) (vs : List Value) (nn B9 : Nat) (ns : List Int) (tone : Tok) (hmem : (lb, listOf vs.toArray nn) ∈ news)
    (hD : DigitsAre vs ns B9) (hB : B9 ≤ tone) (h0 : tone ≠ 0) :
    Ctr 2 w p loose mean mg mb 35 news [.ref lb, .int 1 tone] (fun t => .int (ones ns : Nat) t) := by
  unfold Ctr CbRet
  k_fill
  k_with_none
  k_with "exec For" => refine hold ?_
  k_with "pyIter ref" => refine hold ?_
  intro dp un gd cn cs a ccd cl outer A₀ base h₀ L m s Q E B F X N T hk hd hu hret
  refine wpAny_call ?_
  k_dflt (refine' code_def0 ?k1 ?k2 ?k3 ?k5 ?kA ?kF ?kK ?k6 ?k7 ?k8 ?k9 ?kB ?_ ?c2 ?c3 ?c4 ?c5; (case kA => exact rfl); (case kF => exact rfl); (case kK => exact hk); (case k1 => exact B); (case k2 => exact F); (case k3 => exact X); (case k5 => exact T); (case k6 => k_is); (case k7 => k_is); (case k8 => ktr_room); (case k9 => exact BindsTo.of_eq rfl); (case kB => exact locs rfl); (case c5 => decide); (case c2 => exact rfl); (case c3 => exact rfl); (case c4 => exact rfl); k_whole; intro L' h' F' B' X' T'; (try dsimp only); (try k_lift B'); (try k_fold))
  obtain ⟨m0, F2⟩ : ∃ m0, Fr s.heap L' h' (pins m0 [(Str.ofString "a", .ref lb), (Str.ofString "b", .int 1 tone)]) := by
    refine ⟨_, fr_pins _ F' (fun p hp => ?_)⟩
    simp only [List.mem_cons, List.not_mem_nil, or_false] at hp
    rcases hp with rfl | rfl <;> rfl
  clear F'
  have N' : News s.heap L' h' [] := News.nil
  have ol := (N _ hmem).1
  have hl : s.heap.IsList lb vs.toArray := ⟨_, ol, rfl, _, rfl⟩
  k_steps
  unfold Hold
  (with_reducible rename Fr _ _ _ _ => F2)
  refine wpAny_pyIter_list (hl.at fun o e => F2.keep _ o e) ?_
  have hlb : lb < s.heap.objs.size := Heap.lt_size ol
  have hLn := F2.ns.lt
  have hab : s.heap.objs.size ≤ L' := F2.above
  have hb := F2.above
  have e1 := hD.1
  refine ⟨_, [_, lb], [_], vs.toArray.size, _, _, _, [], (fun i m₁ nw => nw = [] ∧ m₁ (Str.ofString "b") = some (.int 1 tone) ∧ ∃ t, m₁ (Str.ofString "count") = some (.int (ones (ns.take i) : Nat) t)), rfl, Walks.list rfl _ lb ?q1 vs.toArray, ?q2, ?q3, ?q4, ?q5, F2.push _, ?q7, ?q8, ?q9, ?q10⟩
  case q1 => exact Nat.ne_of_lt (Nat.lt_trans (Nat.lt_of_lt_of_le hlb hab) hLn)
  case q2 =>
    intro hm
    rcases List.mem_cons.mp hm with h | hm
    · exact Nat.ne_of_lt hLn h
    · exact Nat.ne_of_gt (Nat.lt_of_lt_of_le hlb hab) (List.mem_singleton.mp hm)
  case q3 => 
    intro b hb'
    rw [List.mem_singleton.mp hb']
    exact Heap.get?_none_of_le (Nat.le_of_lt (Nat.lt_of_le_of_lt hab hLn))
  case q4 => exact fun p hp => nomatch hp
  case q5 => exact ⟨⟨_, Heap.get?_push_size _ rfl, rfl, rfl⟩, (hl.at fun o e => Heap.get?_push_of_some _ (F2.keep _ o e))⟩
  case q7 => exact News.nil
  case q8 => exact ⟨rfl, rfl, _, rfl⟩
  case q9 =>
    rintro i v m₁ nw s₁ own ⟨h1, tk1, rfl⟩ hi hv ⟨rfl, eb, tc, ec⟩ _ _ _ _ hst F3 N3
    dsimp only at F3 N3
    clear F2
    obtain ⟨m2, F4⟩ : ∃ m2, Fr s.heap L' h1 (pins m2 [(Str.ofString "i", v), (Str.ofString "count", .int (ones (ns.take i) : Nat) tc), (Str.ofString "b", .int 1 tone)]) := by
      refine ⟨_, fr_pins _ F3 (fun p hp => ?_)⟩
      simp only [List.mem_cons, List.not_mem_nil, or_false] at hp
      rcases hp with rfl | rfl | rfl
      · rfl
      · exact ec
      · exact eb
    clear F3
    have hv2 : vs[i]? = some v := by rw [← hv]; simp
    obtain ⟨a, t, rfl, ht0, htB, ha0, ha2⟩ := hD.2 i v hv2
    obtain ⟨a', t', hva, hna⟩ := IntsAre.at e1 i _ hv2
    cases hva
    have hsm : smallInt a = true := by unfold smallInt; simp; omega
    have hne : t ≠ tone := Nat.ne_of_lt (Nat.lt_of_lt_of_le htB hB)
    have hsn := ones_snoc ns i a hna
    rw [List.append_nil] at N3
    by_cases c : a = 1
    · have ce : (a == 1) = true := by simpa using c
      rw [if_pos c] at hsn
      k_steps
      show LoopStepU _ _ _ _ _ _ _ _
      refine ⟨rfl, _, _, _, [], rfl, by assumption, ?n1, (fun p hp => nomatch hp), rfl, ?n2, ?n3⟩
      case n1 => rw [List.append_nil]; assumption
      case n2 => exact rfl
      case n3 => exact ⟨_, by rw [hsn]; rfl⟩
    · have ce : (a == 1) = false := by simpa using c
      rw [if_neg c] at hsn
      k_steps
      show LoopStepU _ _ _ _ _ _ _ _
      refine ⟨rfl, _, _, _, [], rfl, by assumption, ?n4, (fun p hp => nomatch hp), rfl, ?n5, ?n6⟩
      case n4 => rw [List.append_nil]; assumption
      case n5 => exact rfl
      case n6 => exact ⟨_, by rw [hsn]; rfl⟩
  case q10 =>
    rintro h1 tk1 m1 nw F3 N3 _ ⟨rfl, eb, tc, ec⟩
    rw [List.size_toArray, e1.length, List.take_length] at ec
    clear F2
    obtain ⟨m2, F4⟩ : ∃ m2, Fr s.heap L' h1 (pins m2 [(Str.ofString "count", .int (ones ns : Nat) tc)]) := by
      refine ⟨_, fr_pins _ F3 (fun p hp => ?_)⟩
      simp only [List.mem_cons, List.not_mem_nil, or_false] at hp
      rcases hp with rfl
      exact ec
    clear F3
    k_steps
    exact hret _ _ _ (by assumption) (N.grown F4.keep)
end Mine
end
section
open PySem PySem.Spec PySem.Calls PySem.W PyProof.Rows
namespace Mine
def BoolsAre (vs : List Value) (bs : List Bool) : Prop := vs = bs.map Value.bool
theorem bools_any (bs : List Bool) : bs.any (fun b => b == true) = bs.any id := by
  induction bs with
  | nil => rfl
  | cons b r ih => rw [List.any_cons, List.any_cons, ih]; cases b <;> rfl
local macro_rules | `(tactic| walk_at "compareOp In int ref") => `(tactic| refine hold ?_)
local macro_rules | `(tactic| walk_at "compareOp In bool ref") => `(tactic| refine hold ?_)
set_option maxRecDepth 100000 in
set_option maxHeartbeats 1000000 in
theorem containsInts_ctr (w : World) (p : Program) (loose : List Str) (mean : ExcName → Option Value) (mg mb : Str → Option Value) (news : List (Addr × Obj)) (lb : Addr) (vs : List Value) (nn : Nat) (ns : List Int) (k9 : Int) (t9 : Tok) (hi : IntsAre vs ns) (hmem : (lb, listOf vs.toArray nn) ∈ news) :
    Ctr 2 w p loose mean mg mb 28 news [.ref lb, .int k9 t9] (fun _ => .bool (ns.any (· == k9))) := by
  unfold Ctr CbRet
  k_fill
  k_with_none
  intro dp un gd cn cs a ccd cl outer A₀ base h₀ L m s Q E B F X N T hk hd hu hret
  refine wpAny_call ?_
  k_dflt (refine' code_def0 ?k1 ?k2 ?k3 ?k5 ?kA ?kF ?kK ?k6 ?k7 ?k8 ?k9 ?kB ?_ ?c2 ?c3 ?c4 ?c5; (case kA => exact rfl); (case kF => exact rfl); (case kK => exact hk); (case k1 => exact B); (case k2 => exact F); (case k3 => exact X); (case k5 => exact T); (case k6 => k_is); (case k7 => k_is); (case k8 => ktr_room); (case k9 => exact BindsTo.of_eq rfl); (case kB => exact locs rfl); (case c5 => decide); (case c2 => exact rfl); (case c3 => exact rfl); (case c4 => exact rfl); k_whole; intro L' h' F' B' X' T'; (try dsimp only); (try k_lift B'); (try k_fold))
  obtain ⟨m0, F2⟩ : ∃ m0, Fr s.heap L' h' (pins m0 [(Str.ofString "a", .ref lb), (Str.ofString "b", .int k9 t9)]) := by
    refine ⟨_, fr_pins _ F' (fun p hp => ?_)⟩
    simp only [List.mem_cons, List.not_mem_nil, or_false] at hp
    rcases hp with rfl | rfl <;> rfl
  clear F'
  have N' : News s.heap L' h' [] := News.nil
  have ol := (N _ hmem).1
  have hl : s.heap.IsList lb vs.toArray := ⟨_, ol, rfl, _, rfl⟩
  k_steps
  unfold Hold
  have hl2 := hl.at fun o e => F2.keep _ o e
  refine in_list_ints hl2 hi ?_
  k_steps
  exact hret 0 _ _ (by assumption) (N.grown F2.keep)
set_option maxRecDepth 100000 in
set_option maxHeartbeats 1000000 in
theorem containsBools_ctr (w : World) (p : Program) (loose : List Str) (mean : ExcName → Option Value) (mg mb : Str → Option Value) (news : List (Addr × Obj)) (lb : Addr) (vs : List Value) (nn : Nat) (bs : List Bool) (hb : BoolsAre vs bs) (hmem : (lb, listOf vs.toArray nn) ∈ news) :
    Ctr 2 w p loose mean mg mb 28 news [.ref lb, .bool true] (fun _ => .bool (bs.any id)) := by
  unfold Ctr CbRet
  k_fill
  k_with_none
  intro dp un gd cn cs a ccd cl outer A₀ base h₀ L m s Q E B F X N T hk hd hu hret
  refine wpAny_call ?_
  k_dflt (refine' code_def0 ?k1 ?k2 ?k3 ?k5 ?kA ?kF ?kK ?k6 ?k7 ?k8 ?k9 ?kB ?_ ?c2 ?c3 ?c4 ?c5; (case kA => exact rfl); (case kF => exact rfl); (case kK => exact hk); (case k1 => exact B); (case k2 => exact F); (case k3 => exact X); (case k5 => exact T); (case k6 => k_is); (case k7 => k_is); (case k8 => ktr_room); (case k9 => exact BindsTo.of_eq rfl); (case kB => exact locs rfl); (case c5 => decide); (case c2 => exact rfl); (case c3 => exact rfl); (case c4 => exact rfl); k_whole; intro L' h' F' B' X' T'; (try dsimp only); (try k_lift B'); (try k_fold))
  obtain ⟨m0, F2⟩ : ∃ m0, Fr s.heap L' h' (pins m0 [(Str.ofString "a", .ref lb), (Str.ofString "b", .bool true)]) := by
    refine ⟨_, fr_pins _ F' (fun p hp => ?_)⟩
    simp only [List.mem_cons, List.not_mem_nil, or_false] at hp
    rcases hp with rfl | rfl <;> rfl
  clear F'
  have N' : News s.heap L' h' [] := News.nil
  have ol := (N _ hmem).1
  have hl : s.heap.IsList lb vs.toArray := ⟨_, ol, rfl, _, rfl⟩
  k_steps
  unfold Hold
  have hl2 := hl.at fun o e => F2.keep _ o e
  refine SeqAt.in_listAt (fun y => match y with | .bool b => b == true | _ => false) hl2 ?_ ?_
  · intro y hy
    rw [hb] at hy
    simp only [List.mem_toArray, List.mem_map] at hy
    obtain ⟨b, _, rfl⟩ := hy
    exact SeqAt.EqAt.bool_bool b true
  · k_steps
    rw [show (vs.toArray.any fun y => match y with | .bool b => b == true | _ => false) = bs.any id from ?q]
    exact hret 0 _ _ (by assumption) (N.grown F2.keep)
    rw [← bools_any, hb, ← Array.any_toList]
    simp [List.any_map, Function.comp_def]
end Mine
end
section
open PySem PySem.Spec PySem.Calls PySem.W PyProof.Rows
namespace Mine
section
variable {prog : Program} {w : World} {A : Around} {h₀ : Heap} {L : Addr} {m : Str → Option Value} {env : Env} {elt : Expr} {x : Str} {scope : Scope} {cl : List (Str × Addr)} {s : Shared} {S : List (Addr × Obj) → Prop} {P : Nat → Value → Prop} {Fin : List Value → List (Addr × Obj) → Prop} {news : List (Addr × Obj)}
/-- the turns of a list comprehension, with a fact of the turn, the values so far and the ledger -/
theorem rest_J {n : Nat} (J : Nat → List Value → List (Addr × Obj) → Prop) (h0 : J 0 [] news)
    (turn : ∀ i v I oI C oC D m₂ ys nw h tk (E' : Value → Shared → Prop), i < n → P i v → J i ys nw → LCg.NsObj oC m₂ → m₂ x = some v → Fr h₀ L h m → News h₀ L h ((I, oI) :: (C, oC) :: (D, LCg.lst ys) :: nw) → LCg.Off3 I C D nw → ((@Ne Nat I C) ∧ (@Ne Nat I D) ∧ (@Ne Nat C D)) →
      wpAny (model prog w) A (eval elt (compEnvC scope cl C env)) (LCg.CompEnd h₀ L m { s with heap := h, toks := tk } I oI C oC D (LCg.lst ys) S (fun y nw' => J (i + 1) (ys ++ [y]) nw')) E' { s with heap := h, toks := tk })
    (fin : ∀ ys nw, J n ys nw → Fin ys nw) : LCg.CompRest prog w A h₀ L m env elt x scope cl s S P Fin n 0 [] news := by
  have key : ∀ (j i : Nat) (ys : List Value) (nw : List (Addr × Obj)), i + j = n → J i ys nw → LCg.CompRest prog w A h₀ L m env elt x scope cl s S P Fin j i ys nw := by
    intro j
    induction j with
    | zero =>
      intro i ys nw hi hy
      have e : i = n := by omega
      subst e
      exact LCg.CompRest.zero (fin ys nw hy)
    | succ j ih =>
      intro i ys nw hi hy
      refine LCg.CompRest.succ ?_
      intro v I oI C oC D m₂ h tk E' hv hC hx F N off ne
      refine wpAny_mono (turn i v I oI C oC D m₂ ys nw h tk E' (by omega) hv hy hC hx F N off ne) (fun y s₂ hq => ?_) fun _ _ e => e
      obtain ⟨h', tk', nw', e, F', N', off', hS, hn⟩ := hq
      exact ⟨h', tk', nw', e, F', N', off', hS, ih (i + 1) _ nw' (by omega) hn⟩
  exact key n 0 [] news (by omega) h0
end
/-- the place of the first figure that is no nought -/
def place (ns : List Int) : Nat := ns.findIdx (fun a => decide (0 < a))
def lostB (n x : Nat) : Bool := (dig n x).isEmpty || decide (place (dig n x) % 2 = 1)
theorem bools_next {ys : List Value} {ns : List Int} {i : Nat} {a : Int} (hb : BoolsAre ys ((ns.take i).map (fun a => decide (0 < a)))) (ha : ns[i]? = some a) :
    BoolsAre (ys ++ [.bool (decide (a > 0))]) ((ns.take (i + 1)).map (fun a => decide (0 < a))) := by
  unfold BoolsAre at *
  rw [List.take_add_one, ha, hb]; simp
theorem bools_before {ys : List Value} {ns : List Int} (hb : BoolsAre ys (ns.map (fun a => decide (0 < a)))) : ∀ j, j < place ns → ys[j]? = some (.bool false) := by
  intro j hj
  unfold place at hj
  have hl : j < ns.length := Nat.lt_of_lt_of_le hj List.findIdx_le_length
  have := List.not_of_lt_findIdx hj
  rw [hb, List.getElem?_map, List.getElem?_map, List.getElem?_eq_getElem hl]
  simp only [Option.map_some, Option.some.injEq]
  congr 1
theorem bools_at {ys : List Value} {ns : List Int} (hb : BoolsAre ys (ns.map (fun a => decide (0 < a)))) (h : ∃ a ∈ ns, 0 < a) : ys[place ns]? = some (.bool true) := by
  have hl : place ns < ns.length := List.findIdx_lt_length_of_exists (by simpa using h)
  have := List.findIdx_getElem (w := hl)
  rw [hb, List.getElem?_map, List.getElem?_map, List.getElem?_eq_getElem hl]
  simp only [Option.map_some, Option.some.injEq]
  congr 1
theorem dig_zero {n x k : Nat} (h : ∀ j, j < k → x / 2 ^ (n * j) % 2 ^ n = 0) : x % 2 ^ (n * k) = 0 := by
  induction k with
  | zero => simp [Nat.mod_one]
  | succ k ih =>
    have h1 := ih fun j hj => h j (by omega)
    have h2 := h k (by omega)
    rw [Nat.mul_succ, Nat.pow_add, Nat.mod_mul, h1, h2]
    simp
theorem dig_some {n x : Nat} (h : dig n x ≠ []) (hn : 1 ≤ n := by omega) : ∃ a ∈ dig n x, 0 < a := by
  apply Classical.byContradiction
  intro hc
  have hz : ∀ j, j < digN n x → x / 2 ^ (n * j) % 2 ^ n = 0 := by
    intro j hj
    have hm : ((x / 2 ^ (n * j) % 2 ^ n : Nat) : Int) ∈ dig n x := by
      unfold dig
      exact List.mem_map.mpr ⟨j, List.mem_range.mpr hj, rfl⟩
    have : ¬ 0 < ((x / 2 ^ (n * j) % 2 ^ n : Nat) : Int) := fun q => hc ⟨_, hm, q⟩
    omega
  have h1 := dig_zero hz
  rw [Nat.mod_eq_of_lt (digN_lt n x hn)] at h1
  subst h1
  apply h
  have : digN n 0 = 0 := by
    unfold digN
    rw [show Builtin.Int.intBits ((0 : Nat) : Int) = 0 by decide]
    exact Nat.div_eq_of_lt (by omega)
  unfold dig
  rw [this]; rfl
theorem lost_is {n x : Nat} (h : dig n x ≠ []) : lostB n x = (((place (dig n x) : Nat) : Int).fmod 2 == 1) := by
  unfold lostB
  have e : (dig n x).isEmpty = false := by simpa using h
  rw [e, Bool.false_or, show ((place (dig n x) : Nat) : Int).fmod 2 = ((place (dig n x) % 2 : Nat) : Int) by rw [Int.fmod_eq_emod_of_nonneg _ (by decide)]; rfl]
  by_cases c : place (dig n x) % 2 = 1
  · rw [c]; rfl
  · have : place (dig n x) % 2 = 0 := by omega
    rw [this]; rfl
abbrev LostClaim (w : World) (p : Program) (loose : List Str) (mean : ExcName → Option Value) (mg mb : Str → Option Value) (news : List (Addr × Obj)) (n x : Nat) (tx tn : Tok) : Prop :=
  ∀ (dp un : Nat) (gd : Option (List Code)) (cn : Str) (cs : Scope) (a : Addr) (ccd : Value) (cl : List (Str × Addr)) (outer : List Env) (A₀ : Around) (base h₀ : Heap) (L : Addr) (m : Str → Option Value) (s : Shared) (Q E : Value → Shared → Prop),
    CodeHd h₀ 48 44 → Below A₀ base outer h₀ → Fr h₀ L s.heap m → (Mine.hd.heap_39 w.params).In h₀ → News h₀ L s.heap news → Top p loose mean mg mb h₀ → cs.kind = .function →
    dp + 50 < recursionLimit → un + 1000 < cLine →
    (∀ (h' : Heap) (tk' : Nat), Fr h₀ L h' m → News h₀ L h' news → Q (.bool (lostB n x)) { s with heap := h', toks := tk' }) →
      wpAny (model Challenge.rw_wj0010_01.row.prog w) (ktrTop dp un gd cn cs L a ccd cl outer) (call (.ref 93) [.int (x : Int) tx, .int (n : Int) tn]) Q E s
theorem LostClaim.use {w : World} {p : Program} {loose : List Str} {mean : ExcName → Option Value} {mg mb : Str → Option Value} {news : List (Addr × Obj)} {n x : Nat} {tx tn : Tok} (C : LostClaim w p loose mean mg mb news n x tx tn)
    {dp un : Nat} {gd : Option (List Code)} {cn : Str} {cs : Scope} {a : Addr} {ccd : Value} {cl : List (Str × Addr)} {outer : List Env} {A₀ : Around} {base h₀ : Heap} {L : Addr} {m : Str → Option Value} {s : Shared} {Q E : Value → Shared → Prop}
    (Cd : CodeHd h₀ 48 44) (B : Below A₀ base outer h₀) (F : Fr h₀ L s.heap m) (X : (Mine.hd.heap_39 w.params).In h₀) (N : News h₀ L s.heap news) (T : Top p loose mean mg mb h₀) (hk : cs.kind = .function)
    (hd : dp + 50 < recursionLimit) (hu : un + 1000 < cLine)
    (ret : ∀ (h' : Heap) (tk' : Nat), Fr h₀ L h' m → News h₀ L h' news → Q (.bool (lostB n x)) { s with heap := h', toks := tk' }) :
    wpAny (model Challenge.rw_wj0010_01.row.prog w) (ktrTop dp un gd cn cs L a ccd cl outer) (call (.ref 93) [.int (x : Int) tx, .int (n : Int) tn]) Q E s :=
  C _ _ _ _ _ _ _ _ _ _ _ _ _ _ _ _ _ Cd B F X N T hk hd hu ret
set_option maxRecDepth 100000 in
set_option maxHeartbeats 1000000 in
theorem lost_ctr (w : World) (p : Program) (loose : List Str) (mean : ExcName → Option Value) (mg mb : Str → Option Value) (news : List (Addr × Obj)) (n9 x9 : Nat) (tx tn : Tok) (hn1 : 1 ≤ n9) (hn3 : n9 ≤ 3) (hx : x9 < 128)
    (c' : Addr) (oc : Obj) (vc : Array Value) (tq : Tok) (TI : TabIn news c' oc vc tq) : LostClaim w p loose mean mg mb news n9 x9 tx tn := by
  unfold LostClaim
  k_fill
  k_with_none
  k_with "call ref" => refine hold ?_
  k_with "CompSrc" => refine hold ?_
  k_with "CompEnd" => refine hold ?_
  intro dp un gd cn cs a ccd cl outer A₀ base h₀ L m s Q E C B F X N T hk hd hu hret
  refine wpAny_call ?_
  k_dflt cell_enter
  (with_reducible rename Fr h₀ L _ m => FG9)
  k_steps
  unfold Hold
  have C2 : CodeHd _ 48 44 := C.keeps FG9.keep
  k_dflt (refine' DigClaim.use (dig_ctr w _ _ _ _ _ _ False n9 x9 0 tx _ hn1 hn3 hx (fun z => z.elim) c' oc vc tq TI) C2 ?u1a ?u1b ?u1c ?u1d ?u1e ?u1f ?u1g ?u1h ?u1i)
  case u1a => k_asm
  case u1b => k_asm
  case u1c => k_asm
  case u1d => k_asm
  case u1e => k_asm
  case u1f => first | exact rfl | assumption
  case u1g => ktr_room
  case u1h => ktr_units
  intro l vs nn h1 tk1 F1 N1 hlt hi hz
  (try dsimp only)
  (try k_fold)
  have hlen := hi.length
  have hsmall := digN_small hx hn1
  have hdl : (dig n9 x9).length = digN n9 x9 := by unfold dig; simp
  have hsl : sizeLine = 16777216 := sizeLine_eq
  k_steps
  · with_reducible rename decide (dig n9 x9 = []) = true => z0
    have e : lostB n9 x9 = true := by
      have z1 : dig n9 x9 = [] := of_decide_eq_true z0
      unfold lostB; rw [z1]; rfl
    rw [e] at hret
    rw [z0]
    exact hret _ _ (by assumption) (fun p hp => by (with_reducible rename News h₀ L _ _ => kN9); exact kN9 p (.tail _ (.tail _ hp)))
  · unfold Hold
    with_reducible rename decide (dig n9 x9 = []) = false => z0
    k_dflt (refine LCg.CompSrc.ledger (by rfl) (by k_asm) (by k_asm) (by k_mem) (by rw [List.size_toArray, hlen, hdl]; omega) ?_)
    intro g1
    refine rest_J (fun i ys nw => nw = _ ∧ BoolsAre ys (((dig n9 x9).take i).map (fun a => decide (0 < a)))) ⟨rfl, ?b0⟩ ?b1 ?b2
    case b0 => exact rfl
    case b1 =>
      rintro i v I oI C oC D m₂ ys nw h3 tk3 E' hi3 hv ⟨rfl, hb⟩ hC hx3 F3 N3 off ne
      obtain ⟨a, t, rfl, ha⟩ := IntsAre.at hi i v (by simpa using hv)
      k_steps
      unfold Hold
      refine LCg.CompEnd.intro (by assumption) N3 _ (fun p hp => hp) off (Or.inr ⟨_, .tail _ (.head _), rfl, _, rfl⟩) ⟨rfl, ?b3⟩
      case b3 => exact bools_next hb ha
    case b2 =>
      rintro ys nw ⟨rfl, hb⟩
      rw [List.size_toArray, hlen, List.take_length] at hb
      k_steps
      unfold Hold
      have z1 : dig n9 x9 ≠ [] := of_decide_eq_false z0
      k_dflt (refine' Ctr.use (indexOf_ctr w _ _ _ _ _ _ _ ys ys.length (place (dig n9 x9)) (List.Mem.head _) (bools_before hb) (bools_at hb (dig_some z1))) ?u2a ?u2b ?u2c ?u2d ?u2e ?u2f ?u2g ?u2h ?u2i)
      case u2a => k_asm
      case u2b => k_asm
      case u2c => k_asm
      case u2d => k_asm
      case u2e => k_asm
      case u2f => first | exact rfl | assumption
      case u2g => ktr_room
      case u2h => ktr_units
      intro t4 h4 tk4 F4 N4
      (try dsimp only)
      (try k_fold)
      k_steps
      rw [← lost_is z1]
      exact hret _ _ (by assumption) (fun p hp => by (with_reducible rename News h₀ L _ _ => kN9); exact kN9 p (.tail _ (.tail _ (.tail _ hp))))
end Mine
end
section
open PySem PySem.Spec PySem.Calls PySem.W PyProof.Rows
namespace Mine
set_option maxRecDepth 100000 in
set_option maxHeartbeats 1000000 in
theorem least_ctr (w : World) (p : Program) (loose : List Str) (mean : ExcName → Option Value) (mg mb : Str → Option Value) (news : List (Addr × Obj)) (lb : Addr) (vs : List Value) (nn : Nat) (ns : List Int) (k9 : Nat) (hmem : (lb, listOf vs.toArray nn) ∈ news)
    (hi : IntsAre vs ns) (hin : ∀ j, j < k9 → ((j : Nat) : Int) ∈ ns) (hout : ((k9 : Nat) : Int) ∉ ns) :
    Ctr 5 w p loose mean mg mb 107 news [.ref lb] (fun t => .int (k9 : Int) t) := by
  unfold Ctr CbRet
  k_fill
  k_with_none
  k_with "exec While" => refine hold ?_
  k_with "exec While Call cons nil" => refine hold ?_
  k_with "call ref" => refine hold ?_
  intro dp un gd cn cs a ccd cl outer A₀ base h₀ L m s Q E B F X N T hk hd hu hret
  refine wpAny_call ?_
  k_dflt cell_enter
  k_steps
  unfold Hold
  (with_reducible rename Fr _ _ _ _ => F')
  (with_reducible rename News _ _ _ _ => N')
  refine While_inv2 (fun n m₁ nx => nx = news ∧ m₁ (Str.ofString "worths") = some (.ref lb) ∧ ∃ (k : Nat) (t : Tok), k ≤ k9 ∧ m₁ (Str.ofString "least") = some (.int (k : Int) t) ∧ n = k9 - k) (n₀ := k9) F' N' ?_ ?_
  · refine ⟨rfl, ?e1, 0, ?t1, Nat.zero_le _, ?e2, rfl⟩
    case e1 => exact rfl
    case e2 => exact rfl
  · rintro n m₁ news₁ h₁ tk₁ F₁ N₁ ⟨rfl, e1, k, t, hk2, e2, hn⟩
    have F₂ := fr_pins _ F₁ (pins_cons e1 (pins_cons e2 pins_nil))
    clear F₁ F' N'
    k_steps
    unfold Hold
    k_dflt (refine' Ctr.use (containsInts_ctr w _ _ _ _ _ _ lb vs nn ns (k : Int) t hi hmem) ?u1a ?u1b ?u1c ?u1d ?u1e ?u1f ?u1g ?u1h ?u1i)
    case u1a => k_asm
    case u1b => k_asm
    case u1c => k_asm
    case u1d => k_asm
    case u1e => k_asm
    case u1f => first | exact rfl | assumption
    case u1g => ktr_room
    case u1h => ktr_units
    intro t4 h4 tk4 F4 N4
    (try dsimp only)
    (try k_fold)
    by_cases c : k = k9
    · subst c
      have e : (ns.any fun x => x == (k : Int)) = false := by
        rw [List.any_eq_false]
        intro x hx he
        rw [beq_iff_eq] at he
        exact hout (he ▸ hx)
      rw [e]
      k_steps
      exact hret _ _ _ (by assumption) (by assumption)
    · have e : (ns.any fun x => x == (k : Int)) = true := by simpa using hin k (by omega)
      rw [e]
      k_steps
      (with_reducible rename Fr _ _ _ _ => F9); (with_reducible rename News _ _ _ _ => N9)
      refine ⟨_, _, _, _, k9 - (k + 1), rfl, F9, N9, by omega, rfl, ?ua, k + 1, ?ut, by omega, ?ub, rfl⟩
      case ua => exact rfl
      case ub => exact rfl
end Mine
end
section
open PySem PySem.Spec PySem.Calls PySem.W PyProof.Rows
namespace Mine
def rowInts (Wf : Nat → Nat) (m k : Nat) : List Int := (List.range k).map fun h => ((Wf m ^^^ h : Nat) : Int)
def RowsAre (Wf : Nat → Nat) (Wd k : Nat) (rows : List (Addr × Obj)) (tvs : List Value) : Prop :=
  tvs.length = k ∧ ∀ i, i < k → ∃ (a : Addr) (vs : List Value) (nn : Nat), tvs[i]? = some (.ref a) ∧ (a, listOf vs.toArray nn) ∈ rows ∧ IntsAre vs (rowInts Wf i Wd)
def movesInts (Wf : Nat → Nat) (m h : Nat) : List Int := rowInts Wf m h ++ if m = 0 then [] else [((Wf (m - 1) ^^^ h : Nat) : Int), ((Wf (m / 2) ^^^ h : Nat) : Int)]
def halfInts (H : Nat) : List Int := (List.range H).map fun m => ((m / 2 : Nat) : Int)
theorem moves_zero {Wf : Nat → Nat} {j : Nat} {vs : List Value} (h : IntsAre vs (rowInts Wf 0 j)) : IntsAre vs (movesInts Wf 0 j) := by
  unfold movesInts; rw [if_pos rfl, List.append_nil]; exact h
theorem moves_more {Wf : Nat → Nat} {i j : Nat} {vs : List Value} {t u : Tok} (h : IntsAre vs (rowInts Wf i j)) (hi : i ≠ 0) : IntsAre (vs ++ [.int ((Wf (i - 1) ^^^ j : Nat) : Int) t, .int ((Wf (i / 2) ^^^ j : Nat) : Int) u]) (movesInts Wf i j) := by
  unfold movesInts; rw [if_neg hi]; exact IntsAre.append h (.cons _ _ (.cons _ _ .nil))
theorem row_at {Wf : Nat → Nat} {i j Wd : Nat} {vs : List Value} (h : IntsAre vs (rowInts Wf i Wd)) (hj : j < Wd) : ∃ t, vs[(j : Int).toNat]? = some (.int ((Wf i ^^^ j : Nat) : Int) t) := by
  have hl : j < vs.length := by rw [h.length]; unfold rowInts; simpa using hj
  obtain ⟨k, t, e, hk⟩ := IntsAre.at h j _ (List.getElem?_eq_getElem hl)
  refine ⟨t, ?_⟩
  rw [Int.toNat_natCast, List.getElem?_eq_getElem hl, e]
  unfold rowInts at hk
  simp [hj] at hk
  rw [← hk]
theorem half_at {H i : Nat} {vs : List Value} (h : IntsAre vs (halfInts H)) (hi : i < H) : ∃ t, vs[(i : Int).toNat]? = some (.int ((i / 2 : Nat) : Int) t) := by
  have hl : i < vs.length := by rw [h.length]; unfold halfInts; simpa using hi
  obtain ⟨k, t, e, hk⟩ := IntsAre.at h i _ (List.getElem?_eq_getElem hl)
  refine ⟨t, ?_⟩
  rw [Int.toNat_natCast, List.getElem?_eq_getElem hl, e]
  unfold halfInts at hk
  simp [hi] at hk
  rw [← hk]; simp
theorem news_sub {h₀ h : Heap} {L : Addr} {l1 l2 : List (Addr × Obj)} (N : News h₀ L h l1) (hs : ∀ p ∈ l2, p ∈ l1) : News h₀ L h l2 := fun p hp => N p (hs p hp)
theorem row_next {Wf : Nat → Nat} {i j : Nat} {vs : List Value} {t : Tok} (h : IntsAre vs (rowInts Wf i j)) : IntsAre (vs ++ [.int ((Wf i ^^^ j : Nat) : Int) t]) (rowInts Wf i (j + 1)) := by
  unfold rowInts at *; rw [List.range_succ, List.map_append]; exact IntsAre.append h (.cons _ _ .nil)
theorem row_back {g h : Heap} {L Ra : Addr} {pre own2 rest rest2 : List (Addr × Obj)} {rvs : List Value} {x : Value} {k : Nat} {e : Addr × Obj} (N : News g L h (pre ++ (Ra, listOf (rvs.toArray.push x) k) :: e :: rest2)) (hs : own2 ++ rest = rest2) :
    News g L h (own2 ++ (Ra, listOf (rvs ++ [x]).toArray k) :: e :: rest) := by
  subst hs
  rw [List.push_toArray] at N
  refine news_sub N fun p hp => ?_
  simp only [List.mem_cons, List.mem_append] at hp ⊢
  grind
theorem table_back {g h : Heap} {L Ra Ta : Addr} {own rows news rest : List (Addr × Obj)} {rvs tvs : List Value} {x : Value} {nr k : Nat} (N : News g L h ((Ra, listOf rvs.toArray nr) :: (Ta, listOf (tvs.toArray.push x) k) :: rest)) (hs : own ++ (rows ++ news) = rest) :
    News g L h (own ++ (Ta, listOf (tvs ++ [x]).toArray k) :: (((Ra, listOf rvs.toArray nr) :: rows) ++ news)) := by
  subst hs
  rw [List.push_toArray] at N
  refine news_sub N fun p hp => ?_
  simp only [List.mem_cons, List.mem_append] at hp ⊢
  grind
theorem rows_next {Wf : Nat → Nat} {i Wd nr : Nat} {rows : List (Addr × Obj)} {rvs tvs : List Value} {Ra : Addr} (hR : RowsAre Wf Wd i rows tvs) (h : IntsAre rvs (rowInts Wf i Wd)) : RowsAre Wf Wd (i + 1) ((Ra, listOf rvs.toArray nr) :: rows) (tvs ++ [.ref Ra]) := by
  refine ⟨by rw [List.length_append, hR.1]; rfl, fun j hj => ?_⟩
  by_cases c : j < i
  · obtain ⟨a, vs, nn, e, hm, hi⟩ := hR.2 j c
    refine ⟨a, vs, nn, ?_, .tail _ hm, hi⟩
    rw [List.getElem?_append_left (by rw [hR.1]; exact c)]; exact e
  · obtain rfl : j = i := by omega
    refine ⟨Ra, rvs, nr, ?_, .head _, h⟩
    rw [List.getElem?_append_right (by rw [hR.1]; exact Nat.le_refl _), hR.1, Nat.sub_self]; rfl
abbrev TableClaim (w : World) (p : Program) (loose : List Str) (mean : ExcName → Option Value) (mg mb : Str → Option Value) (news : List (Addr × Obj)) (Wf : Nat → Nat) (H Wd : Nat) (lh : Addr) (tw : Tok) : Prop :=
  ∀ (dp un : Nat) (gd : Option (List Code)) (cn : Str) (cs : Scope) (a : Addr) (ccd : Value) (cl : List (Str × Addr)) (outer : List Env) (A₀ : Around) (base h₀ : Heap) (L : Addr) (m : Str → Option Value) (s : Shared) (Q E : Value → Shared → Prop),
    Below A₀ base outer h₀ → Fr h₀ L s.heap m → (Mine.hd.heap_39 w.params).In h₀ → News h₀ L s.heap news → Top p loose mean mg mb h₀ → cs.kind = .function →
    dp + 10 < recursionLimit → un + 200 < cLine →
    (∀ (T : Addr) (tvs : List Value) (nt : Nat) (rows : List (Addr × Obj)) (h' : Heap) (tk' : Nat), Fr h₀ L h' m → News h₀ L h' ((T, listOf tvs.toArray nt) :: (rows ++ news)) → RowsAre Wf Wd H rows tvs → Q (.ref T) { s with heap := h', toks := tk' }) →
      wpAny (model Challenge.rw_wj0010_01.row.prog w) (ktrTop dp un gd cn cs L a ccd cl outer) (call (.ref 114) [.ref lh, .int (Wd : Int) tw]) Q E s
section
variable {prog : Program} {w : World} {A : Around} {E : Value → Shared → Prop} {s : Shared} {h₀ : Heap} {L : Addr} {news : List (Addr × Obj)} {Q : Value → Shared → Prop}
theorem len_is {l : Addr} {vs : List Value} {n k : Nat} (N : News h₀ L s.heap news) (hm : (l, listOf vs.toArray n) ∈ news) (hk : vs.length = k) (hb : k ≤ 1000) (h : ∀ t tk, Q (.int (k : Int) t) { s with toks := tk }) :
    wpAny (model prog w) A (call (.builtin "len") [.ref l]) Q E s := by
  subst hk
  exact len_list ⟨_, (N _ hm).1, rfl, _, rfl⟩ (by rw [List.size_toArray]; omega) (h _ _)
theorem item_val {value slice : Expr} {l : Addr} {vs : List Value} {n : Nat} {k : Int} {u : Tok} {v : Value} (N : News h₀ L s.heap news) (hm : (l, listOf vs.toArray n) ∈ news) (hx : vs[k.toNat]? = some v) (h0 : 0 ≤ k) (hk : k ≤ 1000) (h : Q v s)
    (hs : subscripted slice false (.ref l) (.int k u) = operate [.ref l, .int k u] (getItem (.ref l) (.int k u)) := by with_unfolding_all rfl)
    (ht : ∀ r, letTemporaryGo value (.ref l) r = pure () := by intro _; with_unfolding_all rfl) :
    wpAny (model prog w) A (subscriptTail value slice (.ref l) (.int k u)) Q E s :=
  PyProof.Rows.item_list ⟨_, (N _ hm).1, rfl, _, rfl⟩ h0 (by omega) (by simpa using hx) h hs ht
theorem slice_whole {value slice : Expr} {l : Addr} {vs : List Value} {n : Nat} {m : Str → Option Value} (F : Fr h₀ L s.heap m) (N : News h₀ L s.heap news) (hm : (l, listOf vs.toArray n) ∈ news) (hsz : vs.length ≤ 1000)
    (h : ∀ D h', Fr h₀ L h' m → News h₀ L h' ((D, listOf vs.toArray 0) :: news) → (∀ p ∈ news, p.1 < D) → Q (.ref D) { s with heap := h' })
    (hs : subscripted slice false (.ref l) (.ref s.heap.objs.size) = operate [.ref s.heap.objs.size, .ref l] (getItem (.ref l) (.ref s.heap.objs.size)) := by with_unfolding_all rfl)
    (ht : ∀ r, letTemporaryGo value (.ref l) r = pure () := by intro _; with_unfolding_all rfl) :
    wpAny (model prog w) A (subscriptTail value slice (.ref l) (.ref s.heap.objs.size)) Q E { s with heap := s.heap.push { cls := .type "slice", data := .fields #[.none, .none, .none] } } := by
  have hz : sizeLine = 16777216 := sizeLine_eq
  refine slice_list (lo := none) (hi := none) F N ⟨_, (N _ hm).1, rfl, _, rfl⟩ .none .none (fun h' F' N' => ?_) hs ht (by rw [List.size_toArray]; omega)
  rw [slicePick_all] at N'
  exact h _ h' F' N' fun p hp => Nat.lt_succ_of_lt (Heap.lt_size (N p hp).1)
theorem add_val {l b : Addr} {vs ws : List Value} {n k : Nat} {m : Str → Option Value} (F : Fr h₀ L s.heap m) (N : News h₀ L s.heap news) (hm : (l, listOf vs.toArray n) ∈ news) (hb : (b, listOf ws.toArray k) ∈ news)
    (h : ∀ D h', Fr h₀ L h' m → News h₀ L h' ((D, listOf (vs ++ ws).toArray 0) :: news) → (∀ p ∈ news, p.1 < D) → Q (.ref D) { s with heap := h' }) (hz : vs.length + ws.length ≤ 1000) :
    wpAny (model prog w) A (binaryOp .Add (.ref l) (.ref b)) Q E s := by
  have hs : sizeLine = 16777216 := sizeLine_eq
  exact add_lists F N ⟨_, (N _ hm).1, rfl, _, rfl⟩ ⟨_, (N _ hb).1, rfl, _, rfl⟩ (fun h' F' N' => h _ h' F' N' fun p hp => Heap.lt_size (N p hp).1) (by omega)
end
section
variable {prog : Program} {w : World} {A : Around} {E : Value → Shared → Prop} {s : Shared} {env : Env} {g : Heap} {x : Str} {body : List Stmt} {Q : Flow → Shared → Prop}
/-- a loop over range(n), with a fact of the turn, the names and the ledger -/
theorem range_J {r : Addr} {n : Nat} {t u v : Tok} {m : Str → Option Value} {news : List (Addr × Obj)} (J : Nat → (Str → Option Value) → List (Addr × Obj) → Prop) (hh : A.handled = none) (hr : IsRange s.heap r 0 (n : Int) 1 t u v) (hn : n ≤ 1000)
    (F : Fr g env.locals s.heap m) (N : News g env.locals s.heap news) (h0 : J 0 m news)
    (turn : ∀ (i : Nat) (ti : Tok) (m₁ : Str → Option Value) (nw own : List (Addr × Obj)) (I : Addr) (h : Heap) (tk : Nat), i < n → J i m₁ nw → (∀ p ∈ nw, p.1 ≠ I) → (∀ p ∈ own, p.1 = I) → (∃ o, (I, o) ∈ own) → Fr g env.locals h (fun y => if y = x then some (.int (i : Int) ti) else m₁ y) → News g env.locals h (own ++ nw) →
      wpAny (model prog w) A (execs body env) (LoopStepV g env.locals [I] own (J (i + 1)) { s with heap := h, toks := tk } (fun v s' => Q (.ret v) s') fun s' => Q .next s') E { s with heap := h, toks := tk })
    (done : ∀ h' tk m' nw, Fr g env.locals h' m' → News g env.locals h' nw → J n m' nw → Q .next { s with heap := h', toks := tk }) :
    wpAny (model prog w) A (pyIter (.ref r)) (fun it s₂ => LoopAtV prog w A g env x body Q E it s₂) E s := by
  refine wpAny_pyIter_range hr (small_one (by omega) (by omega) (by omega) (by omega)) ?_
  have hLt := F.ns.lt
  refine ⟨_, [_], [_], n, _, _, _, news, J, rfl, (Walks.range hh _ 0 1 n).bound, ?q2, ?q3, ?q4, ?q5, F.push _, ?q7, h0, ?q9, ?q10⟩
  case q2 =>
    intro hm
    exact Nat.ne_of_lt hLt (List.mem_singleton.mp hm)
  case q3 =>
    intro b hb
    rw [List.mem_singleton.mp hb]
    exact next_is_new F
  case q4 =>
    intro p hp hm
    exact absurd (Heap.lt_size (N p hp).1) ((List.mem_singleton.mp hm) ▸ Nat.lt_irrefl _)
  case q5 =>
    show IsRangeIter _ _ _ _ _
    have e : Builtin.Range.rangeSize 0 (n : Int) 1 = (n : Int) := by rw [rangeSize_nat]; omega
    rw [e]
    simpa using Heap.get?_push_size _ rfl
  case q7 => exact fun p hp => ⟨Heap.get?_push_of_some _ (N p hp).1, (N p hp).2⟩
  case q9 =>
    rintro i v₁ m₁ nw s₁ own ⟨h1, tk1, rfl⟩ hi ⟨_, t, rfl⟩ hJ hoff hsub _ hall hst F₁ N₁
    have e : (0 : Int) + (i : Int) * 1 = (i : Int) := by omega
    rw [e] at F₁
    exact turn i t m₁ nw own _ h1 tk1 hi hJ (fun p hp q => hoff p hp (List.mem_singleton.mpr q)) (fun p hp => List.mem_singleton.mp (hsub p hp)) ⟨_, hall _ (.head _) (next_is_new F) _ hst⟩ F₁ N₁
  case q10 =>
    intro h' tk m' nw F' N' _ hJ
    exact done h' tk m' nw F' N' hJ
end
local macro_rules | `(tactic| walk_at "subscriptTail Name Slice ref ref") => `(tactic| (k_dflt (refine' slice_whole ?F ?N ?l ?z ?_ ?s ?t; (case F => k_asm); (case N => k_asm); (case l => k_mem); (case z => omega); (case s => with_unfolding_all rfl); (case t => kmk_pure)); intro D' h' F' N' l1; (try k_lt l1); (try k_sweep)))
local macro_rules | `(tactic| walk_at "subscriptTail Name BinOp ref int") => `(tactic| (k_dflt (refine' item_val ?N ?m ?x ?z ?z2 ?_ ?s ?t; (case N => k_asm); (case m => k_mem); (case x => with_reducible assumption); (case z => omega); (case z2 => omega); (case s => with_unfolding_all rfl); (case t => kmk_pure))))
local macro_rules | `(tactic| walk_at "subscriptTail Subscript Name ref int") => `(tactic| (k_dflt (refine' item_val ?N ?m ?x ?z ?z2 ?_ ?s ?t; (case N => k_asm); (case m => k_mem); (case x => with_reducible assumption); (case z => omega); (case z2 => omega); (case s => with_unfolding_all rfl); (case t => kmk_pure))))
local macro_rules | `(tactic| walk_at "subscriptTail Name Name ref int") => `(tactic| (k_dflt (refine' item_val ?N ?m ?x ?z ?z2 ?_ ?s ?t; (case N => k_asm); (case m => k_mem); (case x => with_reducible assumption); (case z => omega); (case z2 => omega); (case s => with_unfolding_all rfl); (case t => kmk_pure))))
local macro_rules | `(tactic| walk_at "subscriptTail Name Subscript ref int") => `(tactic| (k_dflt (refine' item_val ?N ?m ?x ?z ?z2 ?_ ?s ?t; (case N => k_asm); (case m => k_mem); (case x => with_reducible assumption); (case z => omega); (case z2 => omega); (case s => with_unfolding_all rfl); (case t => kmk_pure))))
local macro_rules | `(tactic| walk_at "binaryOp Add ref ref") => `(tactic| (k_dflt (refine' add_val ?F ?N ?a ?b ?_ ?z; (case F => k_asm); (case N => k_asm); (case a => k_mem); (case b => k_mem); (case z => ((try simp only [List.length_cons, List.length_nil]); omega))); intro D' h' F' N' l1; (try k_lt l1); (try k_sweep)))
local macro_rules | `(tactic| k_all) => `(tactic| first | with_reducible assumption | exact all_ne (by assumption) (by omega))
local macro_rules | `(tactic| walk_at "call builtin:list.append") => `(tactic| (k_dflt (refine' append_K ?F ?N ?U ?_ ?z; (case F => k_asm); (case N => k_asm); (case U => k_upd); (case z => (rw [List.size_toArray, sizeLine_eq]; omega))); intro h' F' N'; (try k_sweep)))
local macro_rules | `(tactic| walk_at "call builtin:len") => `(tactic| (refine len_is (by k_asm) (by k_mem) (by with_reducible assumption) (by omega) ?_; intro _ _))
local macro_rules | `(tactic| k_mem) => `(tactic| first | with_reducible assumption | (refine List.mem_cons_of_mem _ ?_; k_mem))
set_option maxRecDepth 100000 in
set_option maxHeartbeats 1000000 in
theorem table_ctr (w : World) (p : Program) (loose : List Str) (mean : ExcName → Option Value) (mg mb : Str → Option Value) (news : List (Addr × Obj)) (Wf : Nat → Nat) (H Wd : Nat) (hH : H ≤ 800) (hWd : Wd ≤ 800) (lh : Addr) (tw : Tok) (hv : List Value) (nh : Nat)
    (hmem : (lh, listOf hv.toArray nh) ∈ news) (hi : IntsAre hv (halfInts H))
    (hin : ∀ m h, m < H → h < Wd → ∀ j, j < Wf m ^^^ h → ((j : Nat) : Int) ∈ movesInts Wf m h) (hout : ∀ m h, m < H → h < Wd → ((Wf m ^^^ h : Nat) : Int) ∉ movesInts Wf m h) :
    TableClaim w p loose mean mg mb news Wf H Wd lh tw := by
  unfold TableClaim
  k_fill
  k_with_none
  k_with "pyIter ref" => refine hold ?_
  k_with "call ref" => refine hold ?_
  intro dp un gd cn cs a ccd cl outer A₀ base h₀ L m s Q E B F X N T hk hd hu hret
  refine wpAny_call ?_
  k_dflt cell_enter
  (with_reducible rename Fr h₀ L _ m => FG9)
  have hold9 : Hold (IntsAre hv (halfInts H)) := hi
  have hlen := hi.length
  have hlenH : hv.length = H := by rw [hi.length]; unfold halfInts; simp
  have hHl : (halfInts H).length = H := by unfold halfInts; simp
  k_steps
  unfold Hold
  (with_reducible rename Fr _ _ _ _ => F')
  (with_reducible rename News _ _ _ _ => N')
  (with_reducible rename IsRange _ _ _ _ _ _ _ _ => R')
  refine range_J (fun k m₁ nw => ∃ (T : Addr) (rows : List (Addr × Obj)) (tvs : List Value) (nt : Nat), nw = (T, listOf tvs.toArray nt) :: (rows ++ news) ∧ RowsAre Wf Wd k rows tvs ∧ (∀ p ∈ rows ++ news, p.1 ≠ T) ∧
    m₁ (Str.ofString "table") = some (.ref T) ∧ m₁ (Str.ofString "halves") = some (.ref lh) ∧ m₁ (Str.ofString "width") = some (.int (Wd : Int) tw)) rfl R' (by omega) F' N' ?h0 ?turn ?done
  case h0 =>
    refine ⟨_, [], [], 0, rfl, ⟨rfl, fun i hi => by omega⟩, ?z1, ?z2, ?z3, ?z4⟩
    case z1 =>
      (with_reducible rename ∀ p ∈ news, _ => l9)
      exact fun p hp => Nat.ne_of_lt (l9 p hp)
    case z2 => exact rfl
    case z3 => exact rfl
    case z4 => exact rfl
  case turn =>
    clear F' N' R'
    rintro i ti m₁ nw own I h5 tk5 hi5 ⟨Ta, rows, tvs, nt, rfl, hR, hT, eT, eH, eW⟩ hI hO ⟨oI, hoI⟩ F5 N5
    obtain ⟨m2, F6⟩ : ∃ m2, Fr _ _ h5 (pins m2 [(Str.ofString "marks", .int (i : Int) ti), (Str.ofString "table", .ref Ta), (Str.ofString "halves", .ref lh), (Str.ofString "width", .int (Wd : Int) tw)]) := by
      refine ⟨_, fr_pins _ F5 (fun p hp => ?_)⟩
      simp only [List.mem_cons, List.not_mem_nil, or_false] at hp
      rcases hp with rfl | rfl | rfl | rfl
      · rfl
      · exact eT
      · exact eH
      · exact eW
    clear F5
    have N6 := news_sub N5 (l2 := (Ta, listOf tvs.toArray nt) :: (own ++ (rows ++ news))) (by
      intro p hp
      simp only [List.mem_cons, List.mem_append] at hp ⊢
      grind)
    have hTr : ∀ p ∈ own ++ (rows ++ news), p.1 ≠ Ta := by
      intro p hp
      rcases List.mem_append.mp hp with hp | hp
      · rw [hO p hp]; exact Ne.symm (hI _ (.head _))
      · exact hT p hp
    have hmem2 : (lh, listOf hv.toArray nh) ∈ own ++ (rows ++ news) := List.mem_append.mpr (.inr (List.mem_append.mpr (.inr hmem)))
    have hrows2 : ∀ q ∈ rows, q ∈ own ++ (rows ++ news) := fun q hq => List.mem_append.mpr (.inr (List.mem_append.mpr (.inl hq)))
    clear N5
    generalize hrest : own ++ (rows ++ news) = rest at N6 hTr hmem2 hrows2
    k_steps
    unfold Hold
    (with_reducible rename Fr _ _ _ _ => F7)
    (with_reducible rename News _ _ _ _ => N7)
    (with_reducible rename IsRange _ _ _ _ _ _ _ _ => R7)
    (with_reducible rename _ ∧ AllLt _ rest => l7)
    refine range_J (fun j m₂ nw2 => ∃ (Ra : Addr) (rvs : List Value) (nr : Nat), nw2 = (Ra, listOf rvs.toArray nr) :: (Ta, listOf tvs.toArray nt) :: rest ∧ (Ra ≠ Ta ∧ ∀ p ∈ (Ta, listOf tvs.toArray nt) :: rest, p.1 ≠ Ra) ∧ IntsAre rvs (rowInts Wf i j) ∧ m₂ (Str.ofString "row") = some (.ref Ra) ∧
      m₂ (Str.ofString "marks") = some (.int (i : Int) ti) ∧ m₂ (Str.ofString "table") = some (.ref Ta) ∧ m₂ (Str.ofString "halves") = some (.ref lh) ∧ m₂ (Str.ofString "width") = some (.int (Wd : Int) tw)) rfl R7 (by omega) F7 N7 ?h1 ?turn1 ?done1
    case h1 =>
      refine ⟨_, [], 0, rfl, ⟨Nat.ne_of_gt l7.1, List.forall_mem_cons.mpr ⟨Nat.ne_of_lt l7.1, all_ne (allLt_all l7.2) (Nat.le_refl _)⟩⟩, .nil, ?y1, ?y2, ?y3, ?y4, ?y5⟩
      case y1 => exact rfl
      case y2 => exact rfl
      case y3 => exact rfl
      case y4 => exact rfl
      case y5 => exact rfl
    case turn1 =>
      clear F7 N7 R7 l7
      rintro j tj m₃ nw2 own2 I2 h6 tk6 hj ⟨Ra, rvs, nr, rfl, ⟨hRT, hRr⟩, hrv, eR, eM, eT2, eH2, eW2⟩ hI2 hO2 _ F8 N8
      obtain ⟨m4, F9⟩ : ∃ m4, Fr _ _ h6 (pins m4 [(Str.ofString "heap", .int (j : Int) tj), (Str.ofString "row", .ref Ra), (Str.ofString "marks", .int (i : Int) ti), (Str.ofString "table", .ref Ta), (Str.ofString "halves", .ref lh), (Str.ofString "width", .int (Wd : Int) tw)]) := by
        refine ⟨_, fr_pins _ F8 (fun p hp => ?_)⟩
        simp only [List.mem_cons, List.not_mem_nil, or_false] at hp
        rcases hp with rfl | rfl | rfl | rfl | rfl | rfl
        · rfl
        · exact eR
        · exact eM
        · exact eT2
        · exact eH2
        · exact eW2
      clear F8
      have N9 := news_sub N8 (l2 := (Ra, listOf rvs.toArray nr) :: (Ta, listOf tvs.toArray nt) :: (own2 ++ rest)) (by
        intro p hp
        simp only [List.mem_cons, List.mem_append] at hp ⊢
        grind)
      have hRall : ∀ p ∈ (Ta, listOf tvs.toArray nt) :: (own2 ++ rest), p.1 ≠ Ra := by
        intro p hp
        rcases List.mem_cons.mp hp with rfl | hp
        · exact hRr _ (.head _)
        · rcases List.mem_append.mp hp with hp | hp
          · rw [hO2 p hp]; exact Ne.symm (hI2 _ (.head _))
          · exact hRr _ (.tail _ hp)
      have hmem3 : (lh, listOf hv.toArray nh) ∈ own2 ++ rest := List.mem_append.mpr (.inr hmem2)
      have hrows3 : ∀ q ∈ rows, q ∈ own2 ++ rest := fun q hq => List.mem_append.mpr (.inr (hrows2 q hq))
      clear N8
      have hsub3 : ∀ q ∈ own2 ++ rest, q ∈ own2 ∨ q ∈ rest := fun q hq => List.mem_append.mp hq
      generalize hrest2 : own2 ++ rest = rest2 at N9 hRall hmem3 hrows3 hsub3
      have hrl : rvs.length = j := by rw [hrv.length]; unfold rowInts; simp
      by_cases ci : i = 0
      · subst ci
        k_steps
        unfold Hold
        k_dflt (refine' Ctr.use (least_ctr w _ _ _ _ _ _ _ _ _ _ (Wf 0 ^^^ j) (List.Mem.head _) (moves_zero hrv) (hin 0 j hi5 hj) (hout 0 j hi5 hj)) ?u1a ?u1b ?u1c ?u1d ?u1e ?u1f ?u1g ?u1h ?u1i)
        case u1a => k_asm
        case u1b => k_asm
        case u1c => k_asm
        case u1d => k_asm
        case u1e => k_asm
        case u1f => first | exact rfl | assumption
        case u1g => ktr_room
        case u1h => ktr_units
        intro t4 h4 tk4 F4 N4
        (try dsimp only)
        (try k_fold)
        k_steps
        (with_reducible rename Fr _ _ _ _ => F20)
        (with_reducible rename News _ _ _ _ => N20)
        refine ⟨rfl, _, _, _, _, rfl, F20, row_back (pre := [_]) N20 hrest2, fun p hp => ?pa1, Ra, _, _, rfl, ⟨hRT, hRr⟩, row_next hrv, ?pb1, ?pc1, ?pd1, ?pe1, ?pf1⟩
        case pa1 =>
          rcases List.mem_cons.mp hp with rfl | hp
          · exact fun q => hI2 _ (.head _) (List.mem_singleton.mp q)
          · exact fun q => hI2 _ (.tail _ hp) (List.mem_singleton.mp q)
        case pb1 => exact rfl
        case pc1 => exact rfl
        case pd1 => exact rfl
        case pe1 => exact rfl
        case pf1 => exact rfl
      · obtain ⟨a1, v1, n1, f1, g1, i1⟩ := hR.2 (i - 1) (by omega)
        obtain ⟨a2, v2, n2, f2, g2, i2⟩ := hR.2 (i / 2) (by omega)
        have f1' : tvs[((i : Int) - 1).toNat]? = some (.ref a1) := by rw [show ((i : Int) - 1).toNat = i - 1 by omega]; exact f1
        have f2' : tvs[((i / 2 : Nat) : Int).toNat]? = some (.ref a2) := f2
        obtain ⟨s1, f3⟩ := row_at i1 hj
        obtain ⟨s2, f4⟩ := row_at i2 hj
        obtain ⟨s3, f5⟩ := half_at (show IntsAre hv (halfInts H) from hold9) hi5
        have g1' := hrows3 _ g1
        have g2' := hrows3 _ g2
        k_steps
        unfold Hold
        rotate_left
        · omega
        k_dflt (refine' Ctr.use (least_ctr w _ _ _ _ _ _ _ _ _ _ (Wf i ^^^ j) (List.Mem.head _) (moves_more hrv ci) (hin i j hi5 hj) (hout i j hi5 hj)) ?u2a ?u2b ?u2c ?u2d ?u2e ?u2f ?u2g ?u2h ?u2i)
        case u2a => k_asm
        case u2b => k_asm
        case u2c => k_asm
        case u2d => k_asm
        case u2e => k_asm
        case u2f => first | exact rfl | assumption
        case u2g => ktr_room
        case u2h => ktr_units
        intro t4 h4 tk4 F4 N4
        (try dsimp only)
        (try k_fold)
        k_steps
        (with_reducible rename Fr _ _ _ _ => F20)
        (with_reducible rename News _ _ _ _ => N20)
        refine ⟨rfl, _, _, _, _, rfl, F20, row_back (pre := [_, _, _]) N20 hrest2, fun p hp => ?pa2, Ra, _, _, rfl, ⟨hRT, hRr⟩, row_next hrv, ?pb2, ?pc2, ?pd2, ?pe2, ?pf2⟩
        case pa2 =>
          rcases List.mem_cons.mp hp with rfl | hp
          · exact fun q => hI2 _ (.head _) (List.mem_singleton.mp q)
          · exact fun q => hI2 _ (.tail _ hp) (List.mem_singleton.mp q)
        case pb2 => exact rfl
        case pc2 => exact rfl
        case pd2 => exact rfl
        case pe2 => exact rfl
        case pf2 => exact rfl
    case done1 =>
      clear F7 N7 R7 l7
      rintro h6 tk6 m₃ nw2 F8 N8 ⟨Ra, rvs, nr, rfl, ⟨hRT, hRr⟩, hrv, eR, eM, eT2, eH2, eW2⟩
      obtain ⟨m4, F9⟩ : ∃ m4, Fr _ _ h6 (pins m4 [(Str.ofString "row", .ref Ra), (Str.ofString "table", .ref Ta), (Str.ofString "halves", .ref lh), (Str.ofString "width", .int (Wd : Int) tw)]) := by
        refine ⟨_, fr_pins _ F8 (fun p hp => ?_)⟩
        simp only [List.mem_cons, List.not_mem_nil, or_false] at hp
        rcases hp with rfl | rfl | rfl | rfl
        · exact eR
        · exact eT2
        · exact eH2
        · exact eW2
      clear F8
      have htl : tvs.length = i := hR.1
      k_steps
      (with_reducible rename Fr _ _ _ _ => F20)
      (with_reducible rename News _ _ _ _ => N20)
      have hIR : I ≠ Ra := hRr _ (.tail _ (by rw [← hrest]; exact List.mem_append.mpr (.inl hoI)))
      refine ⟨rfl, _, _, _, (Ta, listOf (tvs ++ [Value.ref Ra]).toArray (nt + 1)) :: (((Ra, listOf rvs.toArray nr) :: rows) ++ news), rfl, F20, table_back N20 hrest, fun p hp => ?qa, Ta, (Ra, listOf rvs.toArray nr) :: rows, tvs ++ [Value.ref Ra], nt + 1, rfl, rows_next (Ra := Ra) hR hrv, fun p hp => ?qb, ?qc, ?qd, ?qe⟩
      case qa =>
        intro q
        rcases List.mem_cons.mp hp with rfl | hp
        · exact hI _ (.head _) (List.mem_singleton.mp q)
        · rcases List.mem_cons.mp hp with rfl | hp
          · exact hIR (List.mem_singleton.mp q).symm
          · exact hI _ (.tail _ hp) (List.mem_singleton.mp q)
      case qb =>
        rcases List.mem_cons.mp hp with rfl | hp
        · exact hRT
        · exact hT p hp
      case qc => exact rfl
      case qd => exact rfl
      case qe => exact rfl
  case done =>
    clear F' N' R'
    rintro h5 tk5 m₁ nw F5 N5 ⟨Ta, rows, tvs, nt, rfl, hR, hT, eT, eH, eW⟩
    obtain ⟨m2, F6⟩ : ∃ m2, Fr _ _ h5 (pins m2 [(Str.ofString "table", .ref Ta)]) := by
      refine ⟨_, fr_pins _ F5 (fun p hp => ?_)⟩
      simp only [List.mem_cons, List.not_mem_nil, or_false] at hp
      rcases hp with rfl
      exact eT
    clear F5
    k_steps
    exact hret _ _ _ _ _ _ (by assumption) (by assumption) hR
end Mine
end
section
open PySem PySem.Spec PySem.Calls PySem.W PyProof.Rows
namespace Mine
def lessRows (k i : Nat) : List Nat := ((List.range i).filter (fun j => decide (1 + j ≤ k))).map fun j => k - (1 + j)
def rowsOf (n k : Nat) : List Nat := k / 2 ^ n :: lessRows k (2 ^ n - 1)
theorem told_law : ∀ n, 1 ≤ n → n ≤ 3 → ∀ k, 1 ≤ k → k ≤ 60 → ((rowsOf n k).map (lostB n)).any id = !lostB n k := by
  have h : ∀ n : Fin 4, 1 ≤ n.val → ∀ k : Fin 61, 1 ≤ k.val → ((rowsOf n.val k.val).map (lostB n.val)).any id = !lostB n.val k.val := by decide +kernel
  exact fun n h1 h3 k k1 k60 => h ⟨n, by omega⟩ h1 ⟨k, by omega⟩ k1
end Mine
end
section
open PySem PySem.Spec PySem.Calls PySem.W PyProof.Rows
namespace Mine
section
variable {prog : Program} {w : World} {A : Around} {h₀ : Heap} {L : Addr} {m : Str → Option Value} {env : Env} {ct elt : Expr} {x : Str} {scope : Scope} {cl : List (Str × Addr)} {s : Shared} {S : List (Addr × Obj) → Prop} {P : Nat → Value → Prop} {Fin : List Value → List (Addr × Obj) → Prop} {news : List (Addr × Obj)}
/-- the same for a comprehension with a test -/
theorem rest_JT {n : Nat} (J : Nat → List Value → List (Addr × Obj) → Prop) (h0 : J 0 [] news)
    (turn : ∀ i v I oI C oC D m₂ ys nw h tk (E' : Value → Shared → Prop), i < n → P i v → J i ys nw → LCg.NsObj oC m₂ → m₂ x = some v → Fr h₀ L h m → News h₀ L h ((I, oI) :: (C, oC) :: (D, LCg.lst ys) :: nw) → LCg.Off3 I C D nw → ((@Ne Nat I C) ∧ (@Ne Nat I D) ∧ (@Ne Nat C D)) →
      wpAny (model prog w) A (isTrue ct (compEnvC scope cl C env) (eval ct (compEnvC scope cl C env))) (fun ok s' => if ok = true then
        wpAny (model prog w) A (eval elt (compEnvC scope cl C env)) (LCg.CompEnd h₀ L m { s with heap := h, toks := tk } I oI C oC D (LCg.lst ys) S (fun y nw' => J (i + 1) (ys ++ [y]) nw')) E' s'
        else LCg.CompEnd h₀ L m { s with heap := h, toks := tk } I oI C oC D (LCg.lst ys) S (fun _ nw' => J (i + 1) ys nw') Value.none s') E' { s with heap := h, toks := tk })
    (fin : ∀ ys nw, J n ys nw → Fin ys nw) : LCt.CompRestT prog w A h₀ L m env ct elt x scope cl s S P Fin n 0 [] news := by
  have key : ∀ (j i : Nat) (ys : List Value) (nw : List (Addr × Obj)), i + j = n → J i ys nw → LCt.CompRestT prog w A h₀ L m env ct elt x scope cl s S P Fin j i ys nw := by
    intro j
    induction j with
    | zero =>
      intro i ys nw hi hy
      have e : i = n := by omega
      subst e
      exact LCt.CompRestT.zero (fin ys nw hy)
    | succ j ih =>
      intro i ys nw hi hy
      refine LCt.CompRestT.succ ?_
      intro v I oI C oC D m₂ h tk E' hv hC hx F N off ne
      refine wpAny_mono (turn i v I oI C oC D m₂ ys nw h tk E' (by omega) hv hy hC hx F N off ne) (fun ok s₂ hq => ?_) fun _ _ e => e
      cases ok with
      | true =>
        simp only [if_true] at hq ⊢
        refine wpAny_mono hq (fun y s₃ hr => ?_) fun _ _ e => e
        obtain ⟨h', tk', nw', e, F', N', off', hS, hn⟩ := hr
        exact ⟨h', tk', nw', e, F', N', off', hS, ih (i + 1) _ nw' (by omega) hn⟩
      | false =>
        simp only [Bool.false_eq_true, if_false] at hq ⊢
        obtain ⟨h', tk', nw', e, F', N', off', hS, hn⟩ := hq
        exact ⟨h', tk', nw', e, F', N', off', hS, ih (i + 1) _ nw' (by omega) hn⟩
  exact key n 0 [] news (by omega) h0
end
section
variable {prog : Program} {w : World} {A : Around} {E : Value → Shared → Prop} {s : Shared}
theorem pow_is {a n v : Int} {t u : Tok} {Q : Value → Shared → Prop} (e : a ^ n.toNat = v) (hn : 0 ≤ n ∧ n ≤ 1000) (ha : 0 ≤ a ∧ a < 100000) (h : ∀ t' k, Q (.int v t') { s with toks := k + 1 }) :
    wpAny (model prog w) A (binaryOp .Pow (.int a t) (.int n u)) Q E s := by
  have : (2 : Nat) ^ 64 = 18446744073709551616 := by decide
  exact pow_int_small hn.1 (by omega) (by omega) (by rw [e]; exact h _ _)
end
theorem less_next {k i : Nat} {ys : List Value} {t : Tok} (h : IntsAre ys ((lessRows k i).map fun y : Nat => (y : Int))) (c : 1 + i ≤ k) : IntsAre (ys ++ [.int ((k : Int) - (1 + (i : Int))) t]) ((lessRows k (i + 1)).map fun y : Nat => (y : Int)) := by
  have e : (lessRows k (i + 1)).map (fun y : Nat => (y : Int)) = (lessRows k i).map (fun y : Nat => (y : Int)) ++ [(k : Int) - (1 + (i : Int))] := by
    unfold lessRows
    rw [List.range_succ, List.filter_append, List.map_append, List.map_append]
    congr 1
    simp [c]; omega
  rw [e]
  exact IntsAre.append h (.cons _ _ .nil)
theorem less_same {k i : Nat} {ys : List Value} (h : IntsAre ys ((lessRows k i).map fun y : Nat => (y : Int))) (c : ¬ 1 + i ≤ k) : IntsAre ys ((lessRows k (i + 1)).map fun y : Nat => (y : Int)) := by
  have e : lessRows k (i + 1) = lessRows k i := by
    unfold lessRows
    rw [List.range_succ, List.filter_append, List.map_append]
    simp [c]
  rw [e]; exact h
theorem less_len (k i : Nat) : (lessRows k i).length ≤ i := by
  unfold lessRows
  rw [List.length_map]
  exact Nat.le_trans (List.length_filter_le _ _) (by simp)
theorem rows_le {n k : Nat} (h : k ≤ 60) : ∀ y ∈ rowsOf n k, y ≤ 60 := by
  intro y hy
  unfold rowsOf lessRows at hy
  rcases List.mem_cons.mp hy with rfl | hy
  · exact Nat.le_trans (Nat.div_le_self _ _) h
  · obtain ⟨j, _, rfl⟩ := List.mem_map.mp hy
    omega
theorem rows_at {vs : List Value} {rws : List Nat} {i : Nat} {v : Value} (h : IntsAre vs (rws.map fun y : Nat => (y : Int))) (hv : vs[i]? = some v) : ∃ (r : Nat) (t : Tok), v = .int (r : Int) t ∧ rws[i]? = some r := by
  obtain ⟨a, t, rfl, ha⟩ := IntsAre.at h i v hv
  rw [List.getElem?_map] at ha
  cases e : rws[i]? with
  | none => rw [e] at ha; cases ha
  | some r =>
    rw [e] at ha
    cases ha
    exact ⟨r, t, rfl, rfl⟩
theorem lost_next {n i r : Nat} {rws : List Nat} {bs : List Value} (h : BoolsAre bs ((rws.take i).map (lostB n))) (hr : rws[i]? = some r) : BoolsAre (bs ++ [.bool (lostB n r)]) ((rws.take (i + 1)).map (lostB n)) := by
  unfold BoolsAre at *
  rw [List.take_add_one, hr, h]; simp
theorem tabIn_mk {news : List (Addr × Obj)} {c' : Addr} {oc : Obj} {vc : Array Value} {tq : Tok} (h1 : (44, tabObj #[rawInt 22, rawInt 4, .ref c']) ∈ news) (h2 : (c', oc) ∈ news) (h3 : oc.data = .fields vc) (h4 : vc[1]? = some (.str (Str.ofString "_int2digits.<locals>.inner") tq)) : TabIn news c' oc vc tq := ⟨h1, h2, h3, h4⟩
section
variable {prog : Program} {w : World} {A : Around} {E : Value → Shared → Prop} {s : Shared}
theorem eq_bool_no {a b : Bool} {Q : Value → Shared → Prop} (e : (a == b) = false) (h : Q (.bool false) s) : wpAny (model prog w) A (compareOp .Eq (.bool a) (.bool b)) Q E s := eq_bool (by rw [e]; exact h)
end
abbrev ToldClaim (w : World) (p : Program) (loose : List Str) (mean : ExcName → Option Value) (mg mb : Str → Option Value) (news : List (Addr × Obj)) (n x c : Nat) (tx tn ts : Tok) : Prop :=
  ∀ (dp un : Nat) (gd : Option (List Code)) (cn : Str) (cs : Scope) (a : Addr) (ccd : Value) (cl : List (Str × Addr)) (outer : List Env) (A₀ : Around) (base h₀ : Heap) (L : Addr) (m : Str → Option Value) (s : Shared) (Q E : Value → Shared → Prop),
    CodeHd h₀ 48 44 → Below A₀ base outer h₀ → Fr h₀ L s.heap m → (Mine.hd.heap_39 w.params).In h₀ → News h₀ L s.heap news → Top p loose mean mg mb h₀ → cs.kind = .function →
    dp + 60 < recursionLimit → un + 1200 < cLine →
    (∀ (h' : Heap) (tk' : Nat), Fr h₀ L h' m → News h₀ L h' news → Q (.bool true) { s with heap := h', toks := tk' }) →
      wpAny (model Challenge.rw_wj0010_01.row.prog w) (ktrTop dp un gd cn cs L a ccd cl outer) (call (.ref 119) [.int (x : Int) tx, .int (n : Int) tn, .str ⟨#[c]⟩ ts]) Q E s
local macro_rules | `(tactic| k_mem) => `(tactic| first | with_reducible assumption | (refine List.mem_cons_of_mem _ ?_; k_mem))
local macro_rules | `(tactic| walk_at "eval ListComp") => `(tactic| refine hold ?_)
local macro_rules | `(tactic| walk_at "CompSrc") => `(tactic| refine hold ?_)
local macro_rules | `(tactic| walk_at "CompSrcT") => `(tactic| refine hold ?_)
local macro_rules | `(tactic| walk_at "compareOp Eq bool bool") => `(tactic| (refine eq_bool_no (by with_reducible assumption) ?_))
local macro_rules | `(tactic| k_all) => `(tactic| first | with_reducible assumption | exact all_ne (by assumption) (by omega))
local macro_rules | `(tactic| walk_at "CompEnd") => `(tactic| refine hold ?_)
local macro_rules | `(tactic| walk_at "binaryOp Pow int int") => `(tactic| (refine pow_is (by with_reducible assumption) (by omega) (by omega) ?_; intro _ _))
local macro_rules | `(tactic| walk_at "binaryOp Add ref ref") => `(tactic| (k_dflt (refine' add_val ?F ?N ?a ?b ?_ ?z; (case F => k_asm); (case N => k_asm); (case a => k_mem); (case b => k_mem); (case z => ((try simp only [List.length_cons, List.length_nil]); omega))); intro D' h' F' N' l1; (try k_lt l1); (try k_sweep)))
local macro_rules | `(tactic| walk_at "eval Name") => `(tactic| (k_dflt (refine' nameX_F ?N ?c ?m ?d ?_ ?a ?b; (case b => rfl); (case a => rfl); (case N => k_asm); (case c => rfl); (case m => k_mem); (case d => assumption))))
set_option maxRecDepth 100000 in
set_option maxHeartbeats 1000000 in
theorem told_ctr (w : World) (p : Program) (loose : List Str) (mean : ExcName → Option Value) (mg mb : Str → Option Value) (news : List (Addr × Obj)) (n9 x9 c9 : Nat) (tx tn ts : Tok) (hn1 : 1 ≤ n9) (hn3 : Hold (n9 ≤ 3)) (hx : x9 ≤ 60) (hc : c9 ≠ 34)
    (c' : Addr) (oc : Obj) (vc : Array Value) (tq : Tok) (TI : TabIn news c' oc vc tq) : ToldClaim w p loose mean mg mb news n9 x9 c9 tx tn ts := by
  unfold ToldClaim
  k_fill
  k_with_none
  k_with "call ref" => refine hold ?_
  k_with "exec While Compare cons nil" => refine hold ?_
  k_with "pyIter ref" => refine hold ?_
  obtain ⟨t1, t2', t3, t4⟩ := TI
  intro dp un gd cn cs a ccd cl outer A₀ base h₀ L m s Q E C B F X N T hk hd hu hret
  refine wpAny_call ?_
  k_dflt (refine' code_defC ?k1 ?k2 ?k3 ?k4 ?k5 ?kA ?kF ?kK ?k6 ?k7 ?k8 ?k9 ?kB ?kD ?_ ?c2 ?c3 ?c4; (case kA => exact rfl); (case kF => exact rfl); (case kK => exact hk); (case k1 => exact B); (case k2 => exact F); (case k3 => exact X); (case k4 => exact N); (case k5 => exact T); (case k6 => k_is); (case k7 => k_is); (case k8 => ktr_room); (case k9 => exact BindsTo.of_eq rfl); (case kB => exact rfl); (case kD => decide +kernel); (case c2 => exact rfl); (case c3 => exact rfl); (case c4 => exact rfl); k_whole; intro g' L' h' tk' cells' FG' F' N' Y' B' X' T' l1; (try k_lt l1); k_cells Y'; (try simp only [List.cons_append, List.nil_append] at N'); (try dsimp only); (try k_lift B'); (try k_fold))
  have C2 : CodeHd g' 48 44 := C.keeps FG'.keep
  obtain ⟨m0, F2⟩ : ∃ m0, Fr g' L' h' (pins m0 [(Str.ofString "sign", .str ⟨#[c9]⟩ ts)]) := by
    refine ⟨_, fr_pins _ F' (fun p hp => ?_)⟩
    simp only [List.mem_cons, List.not_mem_nil, or_false] at hp
    rcases hp with rfl
    rfl
  clear F'
  k_steps
  unfold Hold
  (with_reducible rename Fr _ _ _ _ => F')
  (with_reducible rename News _ _ _ _ => N')
  have hL1 : L' + 1 ≠ L' + 1 + 1 := Nat.ne_of_lt (Nat.lt_succ_self _)
  have ln := all_ne l1 (Nat.le_refl _)
  have hcM : ∀ p ∈ news, p.1 ≠ L' + 1 := fun p hp => Nat.ne_of_lt (Nat.lt_succ_of_lt (l1 p hp))
  have hcT : ∀ p ∈ news, p.1 ≠ L' + 1 + 1 := fun p hp => Nat.ne_of_lt (Nat.lt_succ_of_lt (Nat.lt_succ_of_lt (l1 p hp)))
  refine While_inv2 (fun n m₁ nx => ∃ (oT oM : Obj) (k : Nat) (t : Tok), nx = (L' + 1 + 1, oT) :: (L' + 1, oM) :: news ∧ oM.data = .cell (some (.int (k : Int) t)) ∧ oT.data = .cell (some (.int (n9 : Int) tn)) ∧ m₁ (Str.ofString "sign") = some (.str ⟨#[c9]⟩ ts) ∧ k ≤ 60 ∧ n = k) (n₀ := x9) F' N' ?_ ?_
  · refine ⟨_, _, x9, tx, rfl, ?d1, ?d2, ?d3, hx, rfl⟩
    case d1 => with_unfolding_all assumption
    case d2 => with_unfolding_all assumption
    case d3 => exact rfl
  · rintro n m₁ news₁ h₁ tk₁ F₁ N₁ ⟨oT, oM, k, t, rfl, dM, dT, e1, hk60, hn⟩
    have F₂ := fr_pins _ F₁ (pins_cons e1 pins_nil)
    clear F₁ F' N'
    by_cases k0 : k = 0
    · subst k0
      k_steps
      exact hret _ _ (by assumption) (fun p hp => by (with_reducible rename News h₀ L _ _ => kN9); exact kN9 p (.tail _ (.tail _ hp)))
    · k_steps
      unfold Hold
      (with_reducible rename Fr _ _ _ _ => F7)
      (with_reducible rename News _ _ _ _ => N7)
      (with_reducible rename IsRange _ _ _ _ _ _ _ _ => R7)
      have hn3' : n9 ≤ 3 := hn3
      refine range_J (fun i m₂ nw2 => nw2 = (L' + 1 + 1, oT) :: (L' + 1, oM) :: news ∧ m₂ (Str.ofString "sign") = some (.str ⟨#[c9]⟩ ts) ∧ ∃ t', m₂ (Str.ofString "half") = some (.int ((k / 2 ^ i : Nat) : Int) t')) rfl R7 (by omega) F7 N7 ?h1 ?turn1 ?done1
      case h1 =>
        refine ⟨rfl, ?y1, t, ?y2⟩
        case y1 => exact rfl
        case y2 => rw [Nat.pow_zero, Nat.div_one]; exact rfl
      case turn1 =>
        clear F7 N7 R7 hn3'
        rintro i ti m₂ nw2 own I h5 tk5 hi5 ⟨rfl, eS, t2, eH⟩ hI hO _ F8 N8
        obtain ⟨m3, F9⟩ : ∃ m3, Fr g' L' h5 (pins m3 [(Str.ofString "sign", .str ⟨#[c9]⟩ ts), (Str.ofString "half", .int ((k / 2 ^ i : Nat) : Int) t2)]) := by
          refine ⟨_, fr_pins _ F8 (fun p hp => ?_)⟩
          simp only [List.mem_cons, List.not_mem_nil, or_false] at hp
          rcases hp with rfl | rfl
          · exact eS
          · exact eH
        clear F8
        k_steps
        unfold Hold
        k_dflt (refine' Ctr.use (halved_ctr w _ _ _ _ _ _ (k / 2 ^ i) (Nat.le_trans (Nat.div_le_self _ _) hk60) c9 hc t2 ts) ?u1a ?u1b ?u1c ?u1d ?u1e ?u1f ?u1g ?u1h ?u1i)
        case u1a => k_asm
        case u1b => k_asm
        case u1c => k_asm
        case u1d => k_asm
        case u1e => k_asm
        case u1f => first | exact rfl | assumption
        case u1g => ktr_room
        case u1h => ktr_units
        intro t4 h4 tk4 F4 N4
        (try dsimp only)
        (try k_fold)
        k_steps
        (with_reducible rename Fr _ _ _ _ => F20)
        (with_reducible rename News _ _ _ _ => N20)
        refine ⟨rfl, _, _, _, _, rfl, F20, N20, fun p hp q => hI p hp (List.mem_singleton.mp q), rfl, ?w1, ?w3, ?w2⟩
        case w1 => exact rfl
        case w2 => rw [Nat.pow_succ, ← Nat.div_div_eq_div_mul]; exact rfl
      case done1 =>
        clear F7 N7 R7 hn3'
        rintro h5 tk5 m₂ nw2 F8 N8 ⟨rfl, eS, t2, eH⟩
        obtain ⟨m3, F9⟩ : ∃ m3, Fr g' L' h5 (pins m3 [(Str.ofString "sign", .str ⟨#[c9]⟩ ts), (Str.ofString "half", .int ((k / 2 ^ n9 : Nat) : Int) t2)]) := by
          refine ⟨_, fr_pins _ F8 (fun p hp => ?_)⟩
          simp only [List.mem_cons, List.not_mem_nil, or_false] at hp
          rcases hp with rfl | rfl
          · exact eS
          · exact eH
        clear F8
        have hh60 : k / 2 ^ n9 ≤ 60 := Nat.le_trans (Nat.div_le_self _ _) hk60
        generalize hhf : k / 2 ^ n9 = hf at F9 hh60
        k_steps
        unfold Hold
        have e_pow : (2 : Int) ^ ((n9 : Nat) : Int).toNat = ((2 ^ n9 : Nat) : Int) := by rw [Int.toNat_natCast]; simp
        have p2 : 2 ^ n9 ≤ 8 := Nat.pow_le_pow_right (n := 2) (j := 3) (by decide) hn3
        have p1 : 2 ≤ 2 ^ n9 := Nat.pow_le_pow_right (n := 2) (i := 1) (by decide) hn1
        have hsl : sizeLine = 16777216 := sizeLine_eq
        have hn999 : n9 ≤ 999 := Nat.le_trans hn3 (by decide)
        generalize hP9 : 2 ^ n9 = P9 at e_pow p1 p2
        have p2' : Hold (P9 ≤ 8) := p2
        clear p2
        have p2 : P9 ≤ 999 := Nat.le_trans p2' (by decide)
        k_dflt (refine LCt.ListComp_T (F₀ := by k_asm) (by with_unfolding_all rfl) (by decide) (by rfl) (by decide) (by rfl) ?_)
        k_steps
        unfold Hold
        (with_reducible rename IsRange _ _ _ _ _ _ _ _ => R9)
        k_dflt (refine LCt.CompSrcT.range (n := P9 - 1) (by rfl) (by k_asm) (by k_asm) R9 (small_one (by omega) (by omega) (by omega) (by omega)) (by rw [rangeSize_nat]; omega) (by omega) ?_)
        intro g1
        refine rest_JT (fun i ys nw => nw = _ ∧ IntsAre ys ((lessRows k i).map fun y : Nat => (y : Int))) ⟨rfl, .nil⟩ ?b1 ?b2
        case b1 =>
          rintro i v I oI C oC D m₂ ys nw h6 tk6 E' hi6 ⟨tv, rfl⟩ ⟨rfl, hb⟩ hC hx6 F6 N6 off ne
          by_cases cl : 1 + i ≤ k
          · k_steps
            unfold Hold
            exact LCg.CompEnd.intro (by assumption) N6 _ (fun p hp => hp) off trivial ⟨rfl, less_next hb cl⟩
          · k_steps
            unfold Hold
            exact LCg.CompEnd.intro (by assumption) N6 _ (fun p hp => hp) off trivial ⟨rfl, less_same hb cl⟩
        case b2 =>
          rintro ys nw ⟨rfl, hb⟩
          have hyl : ys.length ≤ 998 := by
            rw [hb.length, List.length_map]
            exact Nat.le_trans (less_len _ _) (by omega)
          k_steps
          unfold Hold
          have hrows : IntsAre ([Value.int (hf : Int) t2] ++ ys) ((rowsOf n9 k).map fun y : Nat => (y : Int)) := by
            unfold rowsOf
            rw [hhf, hP9, List.map_cons]
            exact IntsAre.append (.cons _ _ .nil) hb
          have hrl : ([Value.int (hf : Int) t2] ++ ys).length ≤ 999 := by rw [List.length_append, List.length_singleton]; omega
          have hr60 : ∀ y ∈ rowsOf n9 k, y ≤ 60 := rows_le hk60
          have hlaw : Hold (((rowsOf n9 k).map (lostB n9)).any id = !lostB n9 k) := told_law n9 hn1 hn3 k (by omega) hk60
          generalize rowsOf n9 k = rws at hrows hr60 hlaw
          k_dflt (refine LCg.ListComp_U (F₀ := by k_asm) (by with_unfolding_all rfl) (by decide) (by rfl) (by decide) (by rfl) ?_)
          k_steps
          unfold Hold
          k_dflt (refine LCg.CompSrc.ledger (by rfl) (by k_asm) (by k_asm) (by k_mem) (by rw [List.size_toArray]; omega) ?_)
          intro g2
          refine rest_J (fun i bs nw => nw = _ ∧ BoolsAre bs ((rws.take i).map (lostB n9))) ⟨rfl, rfl⟩ ?b3 ?b4
          case b3 =>
            rintro i v I oI C oC D m₂ bs nw h6 tk6 E' hi6 hv ⟨rfl, hb3⟩ hC hx6 F6 N6 off ne
            obtain ⟨r9, tr, rfl, hr9⟩ := rows_at hrows (by simpa using hv)
            have hr9' : r9 ≤ 60 := hr60 _ (List.mem_of_getElem? hr9)
            k_steps
            unfold Hold
            k_dflt (refine' LostClaim.use (lost_ctr w _ _ _ _ _ _ n9 r9 tr _ hn1 hn3 (Nat.lt_of_le_of_lt hr9' (by decide)) c' oc vc tq (tabIn_mk ?tm1 ?tm2 t3 t4)) C2 ?u2a ?u2b ?u2c ?u2d ?u2e ?u2f ?u2g ?u2h ?u2i)
            case u2a => k_asm
            case u2b => k_asm
            case u2c => k_asm
            case u2d => k_asm
            case u2e => k_asm
            case u2f => first | exact rfl | assumption
            case u2g => ktr_room
            case u2h => ktr_units
            case tm1 => k_mem
            case tm2 => k_mem
            intro h9 tk9 F9 N9
            (try dsimp only)
            (try k_fold)
            k_steps
            unfold Hold
            exact LCg.CompEnd.intro (by assumption) N9 _ (fun p hp => hp) off (Or.inr ⟨_, .head _, rfl, _, rfl⟩) ⟨rfl, lost_next hb3 hr9⟩
          case b4 =>
            rintro bs nw ⟨rfl, hb4⟩
            have hbs : BoolsAre bs (rws.map (lostB n9)) := by
              rw [List.size_toArray, hrows.length, List.length_map, List.take_length] at hb4
              exact hb4
            k_steps
            unfold Hold
            k_dflt (refine' Ctr.use (containsBools_ctr w _ _ _ _ _ _ _ bs bs.length _ hbs ?tm3) ?u3a ?u3b ?u3c ?u3d ?u3e ?u3f ?u3g ?u3h ?u3i)
            case u3a => k_asm
            case u3b => k_asm
            case u3c => k_asm
            case u3d => k_asm
            case u3e => k_asm
            case u3f => first | exact rfl | assumption
            case u3g => ktr_room
            case u3h => ktr_units
            case tm3 => exact List.Mem.head _
            intro t9 h9 tk9 F9 N9
            (try dsimp only)
            rw [show (rws.map (lostB n9)).any id = !lostB n9 k from hlaw]
            (try k_fold)
            k_steps
            unfold Hold
            k_dflt (refine' LostClaim.use (lost_ctr w _ _ _ _ _ _ n9 k t _ hn1 hn3 (Nat.lt_of_le_of_lt hk60 (by decide)) c' oc vc tq (tabIn_mk ?tm4 ?tm5 t3 t4)) C2 ?u4a ?u4b ?u4c ?u4d ?u4e ?u4f ?u4g ?u4h ?u4i)
            case u4a => k_asm
            case u4b => k_asm
            case u4c => k_asm
            case u4d => k_asm
            case u4e => k_asm
            case u4f => first | exact rfl | assumption
            case u4g => ktr_room
            case u4h => ktr_units
            case tm4 => k_mem
            case tm5 => k_mem
            intro h10 tk10 F10 N10
            (try dsimp only)
            (try k_fold)
            have hne : ((!lostB n9 k) == lostB n9 k) = false := by cases lostB n9 k <;> rfl
            have N11 := news_sub N10 (l2 := (L' + 1 + 1, oT) :: (L' + 1, oM) :: news) (fun p hp => .tail _ (.tail _ (.tail _ (.tail _ hp))))
            clear N10 N9
            have hlt : hf < k := by rw [← hhf, hP9]; exact Nat.div_lt_self (by omega) (by omega)
            k_steps
            (with_reducible rename Fr _ _ _ _ => F20)
            (with_reducible rename News _ _ _ _ => N20)
            refine ⟨_, _, _, _, hf, rfl, F20, N20, by omega, _, _, hf, t2, rfl, by assumption, dT, ?ua, hh60, rfl⟩
            case ua => exact rfl
end Mine
end
section
open PySem PySem.Spec PySem.Calls PySem.W PyProof.Rows
namespace Mine
def onesOf (x : Nat) : Nat := ((dig 1 x).filter (· == 1)).length
def worth (x : Nat) : Nat := if lostB 1 x then 0 else 2 - onesOf x % 2
def moves (m h : Nat) : List Nat := (List.range h).map (fun j => worth m ^^^ j) ++ if m = 0 then [] else [worth (m - 1) ^^^ h, worth (m / 2) ^^^ h]
theorem table_law : ∀ m, m < 12 → ∀ h, h < 12 → (∀ j, j < worth m ^^^ h → j ∈ moves m h) ∧ (worth m ^^^ h) ∉ moves m h := by
  have h : ∀ m : Fin 12, ∀ h : Fin 12, ((List.range (worth m.val ^^^ h.val)).all fun j => (moves m.val h.val).contains j) = true ∧ ((moves m.val h.val).contains (worth m.val ^^^ h.val)) = false := by decide +kernel
  intro m hm k hk
  have h1 := h ⟨m, hm⟩ ⟨k, hk⟩
  refine ⟨fun j hj => ?_, ?_⟩
  · have := List.all_eq_true.mp h1.1 j (List.mem_range.mpr hj)
    simpa using this
  · simpa using h1.2
end Mine
end
section
open PySem PySem.Spec PySem.Calls PySem.W PyProof.Rows
namespace Mine
theorem digits_are {x B : Nat} {vs : List Value} (h : IntsAre vs (dig 1 x)) (hz : NzInts True vs B) : DigitsAre vs (dig 1 x) B := by
  refine ⟨h, fun j v e => ?_⟩
  obtain ⟨i, t, rfl, ht⟩ := hz j v e
  obtain ⟨k, t', e', hk⟩ := IntsAre.at h j _ e
  cases e'
  obtain ⟨h1, h2⟩ := ht trivial
  unfold dig at hk
  rw [List.getElem?_map] at hk
  cases e9 : (List.range (digN 1 x))[j]? with
  | none => rw [e9] at hk; cases hk
  | some r =>
    rw [e9] at hk
    simp only [Option.map_some, Option.some.injEq] at hk
    have := Nat.mod_lt (x / 2 ^ (1 * r)) (show 0 < 2 ^ 1 by decide)
    exact ⟨_, t, rfl, h1, h2, by omega, by omega⟩
theorem ones_worth {x : Nat} (h : lostB 1 x = false) : (2 : Int) - ((ones (dig 1 x) : Nat) : Int).fmod 2 = ((worth x : Nat) : Int) := by
  unfold worth onesOf
  rw [h, Int.fmod_eq_emod_of_nonneg _ (by decide)]
  unfold ones
  simp only [Bool.false_eq_true, if_false]
  omega
abbrev WorthClaim (w : World) (p : Program) (loose : List Str) (mean : ExcName → Option Value) (mg mb : Str → Option Value) (news : List (Addr × Obj)) (x : Nat) (tx : Tok) : Prop :=
  ∀ (dp un : Nat) (gd : Option (List Code)) (cn : Str) (cs : Scope) (a : Addr) (ccd : Value) (cl : List (Str × Addr)) (outer : List Env) (A₀ : Around) (base h₀ : Heap) (L : Addr) (m : Str → Option Value) (s : Shared) (Q E : Value → Shared → Prop),
    CodeHd h₀ 48 44 → @LT.lt Nat _ tx s.toks → Below A₀ base outer h₀ → Fr h₀ L s.heap m → (Mine.hd.heap_39 w.params).In h₀ → News h₀ L s.heap news → Top p loose mean mg mb h₀ → cs.kind = .function →
    dp + 60 < recursionLimit → un + 1200 < cLine →
    (∀ (t' : Tok) (h' : Heap) (tk' : Nat), Fr h₀ L h' m → News h₀ L h' news → Q (.int ((worth x : Nat) : Int) t') { s with heap := h', toks := tk' }) →
      wpAny (model Challenge.rw_wj0010_01.row.prog w) (ktrTop dp un gd cn cs L a ccd cl outer) (call (.ref 100) [.int (x : Int) tx]) Q E s
theorem WorthClaim.use {w : World} {p : Program} {loose : List Str} {mean : ExcName → Option Value} {mg mb : Str → Option Value} {news : List (Addr × Obj)} {x : Nat} {tx : Tok} (C : WorthClaim w p loose mean mg mb news x tx)
    {dp un : Nat} {gd : Option (List Code)} {cn : Str} {cs : Scope} {a : Addr} {ccd : Value} {cl : List (Str × Addr)} {outer : List Env} {A₀ : Around} {base h₀ : Heap} {L : Addr} {m : Str → Option Value} {s : Shared} {Q E : Value → Shared → Prop}
    (Cd : CodeHd h₀ 48 44) (ht : @LT.lt Nat _ tx s.toks) (B : Below A₀ base outer h₀) (F : Fr h₀ L s.heap m) (X : (Mine.hd.heap_39 w.params).In h₀) (N : News h₀ L s.heap news) (T : Top p loose mean mg mb h₀) (hk : cs.kind = .function)
    (hd : dp + 60 < recursionLimit) (hu : un + 1200 < cLine)
    (ret : ∀ (t' : Tok) (h' : Heap) (tk' : Nat), Fr h₀ L h' m → News h₀ L h' news → Q (.int ((worth x : Nat) : Int) t') { s with heap := h', toks := tk' }) :
    wpAny (model Challenge.rw_wj0010_01.row.prog w) (ktrTop dp un gd cn cs L a ccd cl outer) (call (.ref 100) [.int (x : Int) tx]) Q E s :=
  C _ _ _ _ _ _ _ _ _ _ _ _ _ _ _ _ _ Cd ht B F X N T hk hd hu ret
local macro_rules | `(tactic| k_mem) => `(tactic| first | with_reducible assumption | (refine List.mem_cons_of_mem _ ?_; k_mem))
set_option maxRecDepth 100000 in
set_option maxHeartbeats 1000000 in
theorem worth_ctr (w : World) (p : Program) (loose : List Str) (mean : ExcName → Option Value) (mg mb : Str → Option Value) (news : List (Addr × Obj)) (x9 : Nat) (tx : Tok) (hx : x9 < 128) (htx : tx ≠ 0)
    (c' : Addr) (oc : Obj) (vc : Array Value) (tq : Tok) (TI : TabIn news c' oc vc tq) : WorthClaim w p loose mean mg mb news x9 tx := by
  unfold WorthClaim
  k_fill
  k_with_none
  k_with "call ref" => refine hold ?_
  obtain ⟨t1, t2', t3, t4⟩ := TI
  intro dp un gd cn cs a ccd cl outer A₀ base h₀ L m s Q E C htk B F X N T hk hd hu hret
  refine wpAny_with_toks (Nat.le_refl s.toks) ?_
  refine wpAny_call ?_
  k_dflt cell_enter
  (with_reducible rename Fr h₀ L _ m => FG9)
  have C2 : CodeHd _ 48 44 := C.keeps FG9.keep
  refine gen_toks2 (show s.toks ≤ _ from Nat.le_add_right _ _) (fun tk0 htk0 => ?_)
  k_steps
  unfold Hold
  refine wpAny_with_toks (n := s.toks) (Nat.le_trans htk0 (Nat.le_succ _)) ?_
  k_dflt (refine' LostClaim.use (lost_ctr w _ _ _ _ _ _ 1 x9 tx _ (by decide) (by decide) hx c' oc vc tq (tabIn_mk ?tm1 ?tm2 t3 t4)) C2 ?u1a ?u1b ?u1c ?u1d ?u1e ?u1f ?u1g ?u1h ?u1i)
  case u1a => k_asm
  case u1b => k_asm
  case u1c => k_asm
  case u1d => k_asm
  case u1e => k_asm
  case u1f => first | exact rfl | assumption
  case u1g => ktr_room
  case u1h => ktr_units
  case tm1 => k_mem
  case tm2 => k_mem
  intro h2 tk2 F2 N2 htk2
  (try dsimp only)
  cases hl : lostB 1 x9 with
  | true =>
    have e : worth x9 = 0 := by unfold worth; rw [hl]; rfl
    rw [e] at hret
    (try k_fold)
    k_steps
    exact hret _ _ _ (by assumption) (by assumption)
  | false =>
    have ew := ones_worth hl
    (try k_fold)
    k_steps
    unfold Hold
    refine wpAny_with_toks (n := s.toks) (by (try dsimp only at htk2 ⊢); omega) ?_
    k_dflt (refine' DigClaim.use (dig_ctr w _ _ _ _ _ _ True 1 x9 s.toks tx _ (by decide) (by decide) hx (fun _ => ⟨htx, htk⟩) c' oc vc tq (tabIn_mk ?tm3 ?tm4 t3 t4)) C2 ?u2a ?u2b ?u2c ?u2d ?u2e ?u2f ?u2g ?u2h ?u2i)
    case u2a => k_asm
    case u2b => k_asm
    case u2c => k_asm
    case u2d => k_asm
    case u2e => k_asm
    case u2f => first | exact rfl | assumption
    case u2g => ktr_room
    case u2h => ktr_units
    case tm3 => k_mem
    case tm4 => k_mem
    intro l vs nn h3 tk3 F3 N3 hlt hi hz htk3
    (try dsimp only)
    (try k_fold)
    k_steps
    unfold Hold
    have hD := digits_are hi hz
    k_dflt (refine' Ctr.use (countOf_ctr w _ _ _ _ _ _ l vs nn (max s.toks tk3) (dig 1 x9) tk3 (List.Mem.head _) hD (by (try dsimp only at htk3); omega) (Nat.ne_of_gt (Nat.lt_of_lt_of_le (Nat.lt_of_le_of_lt (Nat.zero_le _) htk) htk3))) ?u3a ?u3b ?u3c ?u3d ?u3e ?u3f ?u3g ?u3h ?u3i)
    case u3a => k_asm
    case u3b => k_asm
    case u3c => k_asm
    case u3d => k_asm
    case u3e => k_asm
    case u3f => first | exact rfl | assumption
    case u3g => ktr_room
    case u3h => ktr_units
    intro t4 h4 tk4 F4 N4
    (try dsimp only)
    (try k_fold)
    k_steps
    rw [ew]
    exact hret _ _ _ (by assumption) (fun p hp => by (with_reducible rename News h₀ L _ _ => kN9); exact kN9 p (.tail _ hp))
end Mine
end
section
open PySem PySem.Spec PySem.Calls PySem.W PyProof.Rows
namespace Mine
/-- making a comprehension's own frame -/
def NewEnv (prog : Program) (w : World) (A : Around) (env : Env) (scope : Scope) (cl : List (Str × Addr)) (cl' : Addr → List (Str × Addr)) (extra : Addr → List (Addr × Obj)) : Prop :=
  ∀ (s₃ : Shared) (Q' : Env → Shared → Prop) (E' : Value → Shared → Prop),
    (∀ (h' : Heap) (m' : Str → Option Value), h'.Ns s₃.heap.objs.size m' → (∀ b o, s₃.heap.get? b = some o → h'.get? b = some o) → (∀ p ∈ extra s₃.heap.objs.size, h'.get? p.1 = some p.2 ∧ @LT.lt Nat _ s₃.heap.objs.size p.1) →
      Q' (newEnv scope s₃.heap.objs.size env.globals (cl' s₃.heap.objs.size) env.qual none .none (some env) builtinsNs) { s₃ with heap := h' }) →
    wpAny (model prog w) A (newFunctionEnv scope env.globals cl [] env.qual none .none (some env)) Q' E' s₃
def CSt (h₀ : Heap) (L : Addr) (m : Str → Option Value) (I C D : Addr) (It : Nat → Obj → Prop) (ys : List Value) (i : Nat) (J : List (Addr × Obj) → Nat → Prop) (h : Heap) (tk : Nat) : Prop :=
  ∃ oI oC nw m₂, Fr h₀ L h m ∧ News h₀ L h ((I, oI) :: (C, oC) :: (D, LCg.lst ys) :: nw) ∧ LCg.Off3 I C D nw ∧ LCg.NsObj oC m₂ ∧ It i oI ∧ J nw tk
def CompAt (prog : Program) (w : World) (A : Around) (h₀ : Heap) (L : Addr) (m : Str → Option Value) (env : Env) (elt target : Expr) (y : Str) (scope : Scope) (cl' : Addr → List (Str × Addr)) (extra : Addr → List (Addr × Obj)) (Q : Flow → Shared → Prop) (it : Value) (s₂ : Shared) : Prop :=
  ∃ (I : Addr) (oI : Obj) (news : List (Addr × Obj)) (n : Nat) (It : Nat → Obj → Prop) (J : Addr → Nat → List Value → List (Addr × Obj) → Nat → Prop) (JF : List Value → List (Addr × Obj) → Prop),
      it = .ref I ∧ (∀ (s' : Shared) (Q' E' : Value → Shared → Prop), s'.heap.get? I = some oI → Q' (.ref I) s' → wpAny (model prog w) A (pyIter (.ref I)) Q' E' s') ∧
      Fr h₀ L s₂.heap m ∧ News h₀ L s₂.heap ((I, oI) :: news) ∧ (∀ p ∈ news, p.1 ≠ I) ∧ n ≤ sizeLine ∧ It 0 oI ∧ (∀ C, (∀ p ∈ news, @LT.lt Nat _ p.1 C) → J C 0 [] (extra C ++ news) s₂.toks) ∧
      (∀ (i : Nat) (C D : Addr) (ys : List Value) (h : Heap) (tk : Nat) (E' : Value → Shared → Prop), i < n → I ≠ C → I ≠ D → C ≠ D → CSt h₀ L m I C D It ys i (J C i ys) h tk →
        wpAny (model prog w) A (pyNext (.ref I)) (fun r t₁ => ∃ v, r = some v ∧ wpAny (model prog w) A (letOwnedTupleGo target (.ref I) v) (fun _ t₀ => wpAny (model prog w) A (assign target (compEnvC scope (cl' C) C env) v) (fun _ t₂ =>
          wpAny (model prog w) A (eval elt (compEnvC scope (cl' C) C env)) (fun x t₃ => ∃ h' tk', t₃ = { s₂ with heap := h', toks := tk' } ∧ CSt h₀ L m I C D It ys (i + 1) (J C (i + 1) (ys ++ [x])) h' tk') E' t₂) E' t₀) E' t₁) E' { s₂ with heap := h, toks := tk }) ∧
      (∀ (C D : Addr) (ys : List Value) (h : Heap) (tk : Nat) (E' : Value → Shared → Prop), I ≠ C → I ≠ D → C ≠ D → CSt h₀ L m I C D It ys n (J C n ys) h tk →
        wpAny (model prog w) A (pyNext (.ref I)) (fun r t₁ => r = none ∧ ∃ h' tk' oC nw m₂, t₁ = { s₂ with heap := h', toks := tk' } ∧ Fr h₀ L h' m ∧ News h₀ L h' ((C, oC) :: (D, LCg.lst ys) :: nw) ∧ LCg.Off3 I C D nw ∧ LCg.NsObj oC m₂ ∧ JF ys nw) E' { s₂ with heap := h, toks := tk }) ∧
      (∀ (D : Addr) (ys : List Value) (nw : List (Addr × Obj)) (h : Heap) (tk : Nat), JF ys nw → ys.length = n → Fr h₀ L h (fun z => if z = y then some (.ref D) else m z) → News h₀ L h ((D, LCg.lst ys) :: nw) → LCg.Off1 D nw → Q .next { s₂ with heap := h, toks := tk })
section
variable {prog : Program} {w : World} {A : Around} {E : Value → Shared → Prop} {s : Shared} {h₀ : Heap} {L : Addr} {m : Str → Option Value} {env : Env} {elt target iter : Expr} {y : Str} {py : Pos} {scope : Scope} {cl : List (Str × Addr)} {pos spos : Pos} {Q : Flow → Shared → Prop}
theorem newEnv_plain (hcell : ∀ z ∈ scope.names, z.2 ≠ .cell) (hkind : scope.kind = .function) : NewEnv prog w A env scope cl (fun _ => cl) (fun _ => []) := by
  intro s₃ Q' E' h
  refine wpAny_newFunctionEnv hcell (by intro z hz; simp at hz) (fun h₁ hns hsb => ?_) hkind
  refine h h₁ _ hns (fun b o e => ?_) (fun p hp => by cases hp)
  exact hsb.extBut b o (Nat.ne_of_lt (Heap.lt_size e)) (Heap.get?_push_of_some _ e)
theorem comp_assign {cl' : Addr → List (Str × Addr)} {extra : Addr → List (Addr × Obj)} (F₀ : Fr h₀ L s.heap m) (hL : env.locals = L)
    (hsw : swapsWith (.ListComp elt [⟨target, iter, [], 0⟩] scope pos) (some (.Name y py)) spos.line env = pure true)
    (hclos : closureFor scope env = pure cl) (hkind : scope.kind = .function) (hnames : ∀ z ∈ scope.names, z.2 = .local → scope.names.lookup z.1 = some .local)
    (hy : env.kindOf y = some .local) (hp : (env.scope.kind == .class || (env.scope.kind == .module && env.locals != env.globals)) = false)
    (hNew : NewEnv prog w A env scope cl cl' extra)
    (h : wpAny (model prog w) A (eval iter env) (fun xv s₁ => wpAny (model prog w) A (pyIter xv) (fun it s₂ => CompAt prog w A h₀ L m env elt target y scope cl' extra Q it s₂) E s₁) E s)
    (hs : ∀ x, foldedSetIterable iter env x = pure x := by intro _; rfl) :
    wpAny (model prog w) A (exec (.Assign [.Name y py] (.ListComp elt [⟨target, iter, [], 0⟩] scope pos) spos) env) Q E s := by
  subst hL
  rw [exec_Assign_Name_used _ _ _ _ hsw]
  refine wpAny_bind (wpAny_standAt (wpAny_bind ?_))
  show wpAny _ A (do let _ ← comprehension (.ListComp elt [⟨target, iter, [], 0⟩] scope pos) scope env _ (newList []) false (eval iter env) (some (assign (.Name y py) env))) _ _ s
  refine wpAny_bind (wpAny_mono (wpAny_comprehension_free (use := some (assign (.Name y py) env)) (Q := fun _ s' => Q .next s') rfl hs hclos hkind hnames
    (wpAny_mono h (fun xv s₁ h₁ => wpAny_mono h₁ (fun it s₂ h₂ => ?_) fun _ _ e => e) fun _ _ e => e)) (fun _ s' hq => wpAny_pure (wpAny_pure hq)) fun _ _ e => e)
  obtain ⟨I, oI, news, n, It, J, JF, rfl, self, F, N, offI, hsz, hIt, hJ, turn, done, fin⟩ := h₂
  refine wpAny_newObj_type ?_
  generalize hH2 : s₂.heap.push { cls := .type "list", dict := none, data := .seq ([] : List Value).toArray } = H2
  refine hNew _ _ _ fun h₁ m' hns up hex => ?_
  dsimp only at hns up hex ⊢
  have hC : H2.objs.size = s₂.heap.objs.size + 1 := by rw [← hH2, Heap.size_push]
  have hIlt : I < s₂.heap.objs.size := Heap.lt_size (N (I, oI) (.head _)).1
  have hLlt : env.locals < s₂.heap.objs.size := F.ns.lt
  have up2 : ∀ b o, s₂.heap.get? b = some o → h₁.get? b = some o := fun b o e => up b o (hH2 ▸ Heap.get?_push_of_some _ e)
  have hD : h₁.get? s₂.heap.objs.size = some (LCg.lst []) := up _ _ (hH2 ▸ Heap.get?_push_size _ rfl)
  have fresh₀ : ∀ a, s₂.heap.objs.size ≤ a → h₀.get? a = none := fun a ha => by
    cases e : h₀.get? a with
    | none => rfl
    | some o' => exact absurd (Heap.lt_size (F.keep a o' e)) (Nat.not_lt.mpr ha)
  have hIC : I ≠ H2.objs.size := by rw [hC]; exact Nat.ne_of_lt (Nat.lt_succ_of_lt hIlt)
  have hID : I ≠ s₂.heap.objs.size := Nat.ne_of_lt hIlt
  have hCD : H2.objs.size ≠ s₂.heap.objs.size := by rw [hC]; exact Nat.succ_ne_self _
  obtain ⟨oC, heC, hoC⟩ := LCg.ns_obj hns
  have old : ∀ p ∈ news, p.1 < s₂.heap.objs.size := fun p hp => Heap.lt_size (N p (.tail _ hp)).1
  have N₁ : News h₀ env.locals h₁ ((I, oI) :: (H2.objs.size, oC) :: (s₂.heap.objs.size, LCg.lst []) :: (extra H2.objs.size ++ news)) := by
    intro p hp
    rcases List.mem_cons.mp hp with rfl | hp
    · exact ⟨up2 _ _ (N _ (.head _)).1, (N _ (.head _)).2⟩
    rcases List.mem_cons.mp hp with rfl | hp
    · exact ⟨heC, by rw [hC]; exact Nat.ne_of_gt (Nat.lt_succ_of_lt hLlt), fresh₀ _ (by rw [hC]; exact Nat.le_succ _)⟩
    rcases List.mem_cons.mp hp with rfl | hp
    · exact ⟨hD, Nat.ne_of_gt hLlt, fresh₀ _ (Nat.le_refl _)⟩
    rcases List.mem_append.mp hp with hp | hp
    · obtain ⟨e, lt⟩ := hex p hp
      rw [hC] at lt
      have lt1 : s₂.heap.objs.size < p.1 := Nat.lt_of_succ_lt lt
      exact ⟨e, Nat.ne_of_gt (Nat.lt_trans hLlt lt1), fresh₀ _ (Nat.le_of_lt lt1)⟩
    · exact ⟨up2 _ _ (N _ (.tail _ hp)).1, (N _ (.tail _ hp)).2⟩
  have off₁ : LCg.Off3 I H2.objs.size s₂.heap.objs.size (extra H2.objs.size ++ news) := LCg.Off3.of fun p hp => by
    rcases List.mem_append.mp hp with hp | hp
    · have lt := (hex p hp).2
      have lt1 : s₂.heap.objs.size < p.1 := by rw [hC] at lt; exact Nat.lt_of_succ_lt lt
      exact ⟨Nat.ne_of_gt (Nat.lt_trans hIlt lt1), Nat.ne_of_gt lt, Nat.ne_of_gt lt1⟩
    · exact ⟨offI p hp, by rw [hC]; exact Nat.ne_of_lt (Nat.lt_succ_of_lt (old p hp)), Nat.ne_of_lt (old p hp)⟩
  have F₁ : Fr h₀ env.locals h₁ m := F.keeps up2
  have loop : codeAny (model prog w) A (.compLoop (.ListComp elt [⟨target, iter, [], 0⟩] scope pos) 0 (.ref I) (.ref s₂.heap.objs.size) (compEnvC scope (cl' H2.objs.size) H2.objs.size env))
      (compPost (model prog w) A E (some (assign (.Name y py) env)) (fun _ s' => Q .next s') (.ref s₂.heap.objs.size) H2.objs.size) { s₂ with heap := h₁ } := by
    refine kcp_loop (fun k s' => ∃ i ys h tk, s' = { s₂ with heap := h, toks := tk } ∧ i ≤ n ∧ k = n + 1 - i ∧ ys.length = i ∧ CSt h₀ env.locals m I H2.objs.size s₂.heap.objs.size It ys i (J H2.objs.size i ys) h tk) ?_ (n + 1)
      ⟨0, [], h₁, s₂.toks, rfl, Nat.zero_le _, rfl, rfl, oI, oC, _, m', F₁, N₁, off₁, hoC, hIt, hJ _ fun p hp => by rw [hC]; exact Nat.lt_succ_of_lt (old p hp)⟩
    rintro k s' ⟨i, ys, h2, tk, rfl, hi, rfl, hyl, st⟩
    by_cases hlt : i < n
    · refine wpAny_mono (turn i _ _ ys h2 tk _ hlt hIC hID hCD st) (fun r t₁ g₁ => ?_) (fun _ _ e => e)
      obtain ⟨v, rfl, g₁⟩ := g₁
      refine wpAny_mono g₁ (fun _ t₀ g₀ => wpAny_mono g₀ (fun _ t₂ g₂ => wpAny_mono g₂ (fun x t₃ g₃ => ?_) fun _ _ e => e) fun _ _ e => e) fun _ _ e => e
      obtain ⟨h', tk', rfl, oI', oC', nw, m₂, F', N', off, hC', hI', hJ'⟩ := g₃
      have zD := N' (s₂.heap.objs.size, LCg.lst ys) (.tail _ (.tail _ (.head _)))
      refine append_at (hsz := by show ys.toArray.size ≤ sizeLine; rw [List.size_toArray, hyl]; exact Nat.le_trans hi hsz) zD.1 fun h₅ hs₅ hD₅ => ?_
      have off3 := off.mem
      refine ⟨n + 1 - (i + 1), by omega, i + 1, ys ++ [x], h₅, tk', rfl, hlt, rfl, by rw [List.length_append, List.length_singleton, hyl], oI', oC', nw, m₂, F'.change hs₅ zD.2.1 zD.2.2, ?_, off, hC', hI', hJ'⟩
      refine News.setAt (own := [(I, oI'), (H2.objs.size, oC')]) N' (fun p hp => ?_) (fun p hp => (off3 p hp).2.2) hs₅ (hD₅.trans (congrArg some (LCg.lst_snoc ys x)))
      rcases List.mem_cons.mp hp with rfl | hp
      · exact hID
      · rw [List.mem_singleton.mp hp]; exact hCD
    · obtain rfl : i = n := Nat.le_antisymm hi (Nat.not_lt.mp hlt)
      refine wpAny_mono (done _ _ ys h2 tk _ hIC hID hCD st) (fun r t₁ g₁ => ?_) (fun _ _ e => e)
      obtain ⟨rfl, h', tk', oC', nw, m₂, rfl, F₂, N₂, off, hC', hJ'⟩ := g₁
      have off3 := off.mem
      have zC := N₂ (H2.objs.size, oC') (.head _)
      have nC : h'.Ns H2.objs.size m₂ := hC'.ns zC.1
      show wpAny _ A (assign (.Name y py) env (.ref s₂.heap.objs.size)) _ _ _
      refine wpAny_assign_Name (wpAny_storeName_local hy F₂.ns (fun h₃ hn₃ hs₃ => ?_) hp)
      have F₃ := F₂.set hn₃ hs₃
      have N₃ : News h₀ env.locals h₃ ((s₂.heap.objs.size, LCg.lst ys) :: nw) := fun p hp => (N₂.set hs₃) p (.tail _ hp)
      refine ⟨m₂, nC.sameBut hs₃ zC.2.1, fun h'' hs'' => fin _ ys nw h'' _ hJ' hyl (F₃.change hs'' zC.2.1 zC.2.2) (fun p hp => ?_) off.one⟩
      refine ⟨hs''.extBut _ _ ?_ (N₃ p hp).1, (N₃ p hp).2⟩
      rcases List.mem_cons.mp hp with rfl | hp
      · exact Ne.symm hCD
      · exact (off3 p hp).2.1
  exact codeAny_compStart_list loop (self _ _ _ (up2 _ _ (N _ (.head _)).1) loop)
end
end Mine
end
section
open PySem PySem.Spec PySem.Calls PySem.W PyProof.Rows
namespace Mine
section
variable {prog : Program} {w : World} {A : Around} {E : Value → Shared → Prop} {s₁ : Shared} {h₀ : Heap} {L : Addr} {m : Str → Option Value} {env : Env} {elt : Expr} {x y : Str} {px : Pos} {scope : Scope} {cl : List (Str × Addr)} {Q : Flow → Shared → Prop} {news : List (Addr × Obj)}
/-- range as a source, with what is known of an item's token -/
theorem CompAt.range {r : Addr} {n : Nat} {t u v : Tok} (hh : A.handled = none) (hkind : scope.kind = .function) (hx : scope.names.lookup x = some .local) (hr : IsRange s₁.heap r 0 (n : Int) 1 t u v) (hn : n ≤ 1000)
    (F : Fr h₀ L s₁.heap m) (N : News h₀ L s₁.heap news) (Z : Prop) (htk : Z → 1 ≤ s₁.toks) (J : Nat → List Value → List (Addr × Obj) → Prop) (h0 : J 0 [] news)
    (turn : ∀ (i : Nat) (ti : Tok) (I : Addr) (oI : Obj) (C : Addr) (oC : Obj) (D : Addr) (m₂ : Str → Option Value) (ys : List Value) (nw : List (Addr × Obj)) (h : Heap) (tk : Nat) (E' : Value → Shared → Prop), i < n → (Z → ti ≠ 0 ∧ @LT.lt Nat _ ti tk) → J i ys nw → LCg.NsObj oC m₂ → m₂ x = some (.int (i : Int) ti) →
      Fr h₀ L h m → News h₀ L h ((I, oI) :: (C, oC) :: (D, LCg.lst ys) :: nw) → LCg.Off3 I C D nw → ((@Ne Nat I C) ∧ (@Ne Nat I D) ∧ (@Ne Nat C D)) →
      wpAny (model prog w) A (eval elt (compEnvC scope cl C env)) (LCg.CompEnd h₀ L m { s₁ with heap := h, toks := tk } I oI C oC D (LCg.lst ys) (fun _ => True) (fun z nw' => J (i + 1) (ys ++ [z]) nw')) E' { s₁ with heap := h, toks := tk })
    (fin : ∀ (D : Addr) (ys : List Value) (nw : List (Addr × Obj)) (h : Heap) (tk : Nat), J n ys nw → ys.length = n → Fr h₀ L h (fun z => if z = y then some (.ref D) else m z) → News h₀ L h ((D, LCg.lst ys) :: nw) → LCg.Off1 D nw → Q .next { s₁ with heap := h, toks := tk }) :
    wpAny (model prog w) A (pyIter (.ref r)) (CompAt prog w A h₀ L m env elt (.Name x px) y scope (fun _ => cl) (fun _ => []) Q) E s₁ := by
  refine wpAny_pyIter_range hr (small_one (by omega) (by omega) (by omega) (by omega)) ?_
  refine ⟨s₁.heap.objs.size, _, news, n, fun i o => o = { cls := .type "range_iterator", dict := none, data := .fields #[rawInt (i : Int), rawInt ((n : Int) - (i : Int)), rawInt 1], slots := #[] }, fun _ i ys nw tk => J i ys nw ∧ (Z → 1 ≤ tk), J n, rfl, fun s' Q' E' e hq => ?self, F.push _, News.push F N _, fun p hp => Nat.ne_of_lt (Heap.lt_size (N p hp).1), ?sz, ?it0, fun _ _ => ⟨h0, htk⟩, ?turn, ?done, fin⟩
  case self => exact wpAny_pyIter_rangeiter (x := 0) (left := Builtin.Range.rangeSize 0 (n : Int) 1) (step := 1) e hq
  case sz =>
    have hz : sizeLine = 16777216 := sizeLine_eq
    omega
  case it0 =>
    have e : Builtin.Range.rangeSize 0 (n : Int) 1 = (n : Int) := by rw [rangeSize_nat]; omega
    rw [e]; simp
  case turn =>
    rintro i C D ys h tk E' hi hIC hID hCD ⟨oI, oC, nw, m₂, F', N', off, hC, rfl, hJ, htk'⟩
    have off3 := off.mem
    have zI := N' _ (.head _)
    have zC := N' (C, oC) (.tail _ (.head _))
    refine wpAny_pyNext_range_item (x := (i : Int)) (left := (n : Int) - (i : Int)) (step := 1) zI.1 (by omega) fun h' hit' hs' => ?_
    refine ⟨_, rfl, ?_⟩
    show wpAny _ _ (pure ()) _ _ _
    refine wpAny_pure ?_
    have nC : h'.Ns C m₂ := (hC.ns zC.1).sameBut hs' (Ne.symm hIC)
    refine wpAny_assign_Name (wpAny_storeName_local (lookup_relabel_local hx) nC (fun h₃ hn₃ hs₃ => ?_) (by simp [compEnvC, relabel, hkind]))
    replace hs₃ : Heap.SameBut C h' h₃ := hs₃
    replace hn₃ : h₃.Ns C _ := hn₃
    obtain ⟨oC', heC, hoC⟩ := LCg.ns_obj hn₃
    have N1 := News.setAt (own := []) N' (fun p hp => nomatch hp) (fun p hp => by
      rcases List.mem_cons.mp hp with rfl | hp
      · exact Ne.symm hIC
      rcases List.mem_cons.mp hp with rfl | hp
      · exact Ne.symm hID
      · exact (off3 p hp).1) hs' hit'
    have N2 := News.setAt (own := [(s₁.heap.objs.size, _)]) N1 (fun p hp => by rw [List.mem_singleton.mp hp]; exact hIC) (fun p hp => by
      rcases List.mem_cons.mp hp with rfl | hp
      · exact Ne.symm hCD
      · exact (off3 p hp).2.1) hs₃ heC
    have F2 := (F'.change hs' zI.2.1 zI.2.2).change hs₃ zC.2.1 zC.2.2
    refine wpAny_mono (wpAny_toks_of (n := 1) (Nat.succ_le_succ (Nat.zero_le _)) (turn i tk _ _ C oC' D _ ys nw h₃ _ _ hi (fun z => ⟨Nat.ne_of_gt (htk' z), Nat.lt_of_lt_of_le (Nat.lt_succ_self _) (Nat.le_succ _)⟩) hJ hoC (by simp) F2 N2 off ⟨hIC, hID, hCD⟩)) (fun z t₃ g => ?_) fun _ _ e => e.2
    obtain ⟨g1, h4, tk4, nw4, rfl, F4, N4, off4, _, hJ4⟩ := g
    refine ⟨h4, tk4, rfl, _, oC', nw4, _, F4, N4, off4, hoC, ?_, hJ4, fun _ => g1⟩
    have e1 : (i : Int) + 1 = ((i + 1 : Nat) : Int) := by push_cast; rfl
    have e2 : (n : Int) - (i : Int) - 1 = (n : Int) - ((i + 1 : Nat) : Int) := by push_cast; omega
    rw [e1, e2]
  case done =>
    rintro C D ys h tk E' hIC hID hCD ⟨oI, oC, nw, m₂, F', N', off, hC, rfl, hJ, htk'⟩
    have off3 := off.mem
    have zI := N' _ (.head _)
    refine wpAny_pyNext_range_end hh (x := (n : Int)) (left := (n : Int) - (n : Int)) (step := 1) zI.1 (by omega) fun h' he => ⟨rfl, h', tk, oC, nw, m₂, rfl, ?_, ?_, off, hC, hJ⟩
    · exact LCg.fr_but F' (fun b o hb e => he b o (by simpa using hb) e) (Ne.symm zI.2.1) zI.2.2
    · exact LCg.news_but (fun p hp => N' p (.tail _ hp)) (fun b o hb e => he b o (by simpa using hb) e) (fun p hp => by
        rcases List.mem_cons.mp hp with rfl | hp
        · exact Ne.symm hIC
        rcases List.mem_cons.mp hp with rfl | hp
        · exact Ne.symm hID
        · exact (off3 p hp).1)
end
end Mine
end
section
open PySem PySem.Spec PySem.Calls PySem.W PyProof.Rows
namespace Mine
section
variable {prog : Program} {w : World} {A : Around} {E : Value → Shared → Prop} {s₁ : Shared} {h₀ : Heap} {L : Addr} {m : Str → Option Value} {env : Env} {elt : Expr} {x y : Str} {px : Pos} {scope : Scope} {cl : List (Str × Addr)} {Q : Flow → Shared → Prop} {news : List (Addr × Obj)}
/-- a frame with one name that an inner block closes over -/
theorem newEnv_cell (hkind : scope.kind = .function) (hc : ∀ a, cellsFrom a scope.names cl = (x, a) :: cl) (hp : ∀ h, pushCells h scope.names = h.push { cls := .type "cell", data := .cell none }) :
    NewEnv prog w A env scope cl (fun C => (x, C + 1) :: cl) (fun C => [(C + 1, { cls := .type "cell", data := .cell none })]) := by
  intro s₃ Q' E' h
  simp only [newFunctionEnv, Option.isSome_some, if_true]
  refine wpAny_bind (wpAny_alloc ?_)
  refine wpAny_bind (wpAny_layCells _ (fun name kind cells => by cases hkc : kind == NameKind.cell <;> simp [hkc]) _ _ _ _ ?_)
  rw [hc, hp]
  refine wpAny_bind ?_
  rw [List.forIn_nil]
  refine wpAny_pure (wpAny_pure ?_)
  have hz : (s₃.heap.push { cls := .type "dict", data := .dict #[] }).objs.size = s₃.heap.objs.size + 1 := Heap.size_push ..
  rw [show ({ s₃ with heap := s₃.heap.push { cls := .type "dict", data := .dict #[] } } : Shared).heap.objs.size = s₃.heap.objs.size + 1 from hz]
  refine h _ (fun _ => none) ((Heap.Ns.new s₃.heap (.type "dict")).keeps fun b o e => Heap.get?_push_of_some _ e) (fun b o e => Heap.get?_push_of_some _ (Heap.get?_push_of_some _ e)) (fun p hp => ?_)
  rw [List.mem_singleton.mp hp]
  refine ⟨?_, Nat.lt_succ_self _⟩
  have := Heap.get?_push_size (s₃.heap.push { cls := .type "dict", data := .dict #[] }) (o := { cls := .type "cell", data := .cell none }) rfl
  rw [hz] at this
  exact this
/-- a list of the ledger as a source, the block's name a cell -/
theorem CompAt.listCell {ax : Addr} {its : List Value} {k : Nat} (hh : A.handled = none) (hx : ∀ C, (compEnvC scope ((x, C + 1) :: cl) C env).kindOf x = some .cell) (hkind : scope.kind = .function)
    (F : Fr h₀ L s₁.heap m) (N : News h₀ L s₁.heap news) (hm : (ax, listOf its.toArray k) ∈ news) (hn : its.length ≤ 1000)
    (J : Nat → List Value → List (Addr × Obj) → Prop) (h0 : J 0 [] news) (hJm : ∀ i ys nw, J i ys nw → (ax, listOf its.toArray k) ∈ nw)
    (turn : ∀ (i : Nat) (v : Value) (I : Addr) (oI : Obj) (C : Addr) (oC : Obj) (D : Addr) (c : Addr) (oc : Obj) (m₂ : Str → Option Value) (ys : List Value) (nw : List (Addr × Obj)) (h : Heap) (tk : Nat) (E' : Value → Shared → Prop), its[i]? = some v → oc.data = .cell (some v) → c = C + 1 → J i ys nw → LCg.NsObj oC m₂ →
      Fr h₀ L h m → News h₀ L h ((I, oI) :: (C, oC) :: (D, LCg.lst ys) :: (c, oc) :: nw) → LCg.Off3 I C D ((c, oc) :: nw) → (∀ p ∈ nw, p.1 ≠ c) → ((@Ne Nat I C) ∧ (@Ne Nat I D) ∧ (@Ne Nat C D)) →
      wpAny (model prog w) A (eval elt (compEnvC scope ((x, c) :: cl) C env)) (LCg.CompEnd h₀ L m { s₁ with heap := h, toks := tk } I oI C oC D (LCg.lst ys) (fun _ => True) (fun z nw' => ∃ oc' nw2, nw' = (c, oc') :: nw2 ∧ oc'.data = .cell (some v) ∧ (∀ p ∈ nw2, p.1 ≠ c) ∧ J (i + 1) (ys ++ [z]) nw2)) E' { s₁ with heap := h, toks := tk })
    (fin : ∀ (D : Addr) (ys : List Value) (nw : List (Addr × Obj)) (h : Heap) (tk : Nat), J its.length ys nw → ys.length = its.length → Fr h₀ L h (fun z => if z = y then some (.ref D) else m z) → News h₀ L h ((D, LCg.lst ys) :: nw) → LCg.Off1 D nw → Q .next { s₁ with heap := h, toks := tk }) :
    wpAny (model prog w) A (pyIter (.ref ax)) (CompAt prog w A h₀ L m env elt (.Name x px) y scope (fun C => (x, C + 1) :: cl) (fun C => [(C + 1, { cls := .type "cell", data := .cell none })]) Q) E s₁ := by
  have hl : s₁.heap.IsList ax its.toArray := ⟨_, (N _ hm).1, rfl, _, rfl⟩
  refine wpAny_pyIter_list hl ?_
  refine ⟨s₁.heap.objs.size, _, news, its.length, fun i o => o.cls = .type "list_iterator" ∧ o.data = .fields #[.ref ax, .int i 0], fun C i ys nw _ => ∃ oc nw2, nw = (C + 1, oc) :: nw2 ∧ (∃ v₀, oc.data = .cell v₀) ∧ (∀ p ∈ nw2, p.1 ≠ C + 1) ∧ J i ys nw2, J its.length, rfl, fun s' Q' E' e hq => ?self, F.push _, News.push F N _, fun p hp => Nat.ne_of_lt (Heap.lt_size (N p hp).1), ?sz, ⟨rfl, rfl⟩, fun C hC => ⟨_, news, rfl, ⟨_, rfl⟩, fun p hp => Nat.ne_of_lt (Nat.lt_succ_of_lt (hC p hp)), h0⟩, ?turn, ?done, fin⟩
  case self => exact wpAny_pyIter_listiter (i := 0) (l := ax) ⟨_, e, rfl, rfl⟩ hq
  case sz =>
    have hz : sizeLine = 16777216 := sizeLine_eq
    omega
  case turn =>
    rintro i C D ys h tk E' hi hIC hID hCD ⟨oI, oC, _, m₂, F', N', off, hC, ⟨hI1, hI2⟩, oc, nw, rfl, ⟨v₀, hoc⟩, hne, hJ⟩
    have off3 := off.mem
    have zI := N' _ (.head _)
    have zC := N' (C, oC) (.tail _ (.head _))
    have zc := N' (C + 1, oc) (.tail _ (.tail _ (.tail _ (.head _))))
    have zl := N' _ (.tail _ (.tail _ (.tail _ (.tail _ (hJm _ _ _ hJ)))))
    obtain ⟨v, hv⟩ : ∃ v, its[i]? = some v := ⟨_, List.getElem?_eq_getElem hi⟩
    refine wpAny_pyNext_list_item (l := ax) (i := i) (items := its.toArray) (x := v) ⟨_, zI.1, hI1, hI2⟩ ⟨_, zl.1, rfl, _, rfl⟩ (by simpa using hv) fun h' hit' hs' => ?_
    refine ⟨_, rfl, ?_⟩
    show wpAny _ _ (pure ()) _ _ _
    refine wpAny_pure ?_
    obtain ⟨oI', heI, hI1', hI2'⟩ := hit'
    have hcI : C + 1 ≠ s₁.heap.objs.size := (off3 _ (.head _)).1
    have zc' : h'.get? (C + 1) = some oc := (hs'.2 _ hcI).trans zc.1
    refine wpAny_assign_Name (wpAny_storeName_cell hkind (hx C) (c := C + 1) (by show List.lookup x ((x, C + 1) :: cl) = _; simp [List.lookup_cons]) ⟨oc, zc', hoc⟩ fun h₃ hv₃ hs₃ => ?_)
    obtain ⟨oc', heC, hoc'⟩ := hv₃
    have N1 := News.setAt (own := []) N' (fun p hp => nomatch hp) (fun p hp => by
      rcases List.mem_cons.mp hp with rfl | hp
      · exact Ne.symm hIC
      rcases List.mem_cons.mp hp with rfl | hp
      · exact Ne.symm hID
      · exact (off3 p hp).1) hs' heI
    have N2 := News.setAt (own := [(s₁.heap.objs.size, oI'), (C, oC), (D, LCg.lst ys)]) N1 (fun p hp => by
      rcases List.mem_cons.mp hp with rfl | hp
      · exact Ne.symm hcI
      rcases List.mem_cons.mp hp with rfl | hp
      · exact Nat.ne_of_lt (Nat.lt_succ_self _)
      rw [List.mem_singleton.mp hp]; exact Ne.symm (off3 _ (.head _)).2.2) hne hs₃ heC
    have F2 := (F'.change hs' zI.2.1 zI.2.2).change hs₃ zc.2.1 zc.2.2
    refine wpAny_mono (turn i v _ oI' C oC D (C + 1) oc' m₂ ys nw h₃ _ _ hv hoc' rfl hJ hC F2 N2 ⟨off.1, off.2⟩ hne ⟨hIC, hID, hCD⟩) (fun z t₃ g => ?_) fun _ _ e => e
    obtain ⟨h4, tk4, nw4, rfl, F4, N4, off4, _, oc4, nw5, rfl, hd4, hne4, hJ4⟩ := g
    exact ⟨h4, tk4, rfl, oI', oC, _, _, F4, N4, off4, hC, ⟨hI1', hI2'⟩, oc4, nw5, rfl, ⟨_, hd4⟩, hne4, hJ4⟩
  case done =>
    rintro C D ys h tk E' hIC hID hCD ⟨oI, oC, _, m₂, F', N', off, hC, ⟨hI1, hI2⟩, oc, nw, rfl, ⟨v₀, hoc⟩, hne, hJ⟩
    have off3 := off.mem
    have zI := N' _ (.head _)
    have zl := N' _ (.tail _ (.tail _ (.tail _ (.tail _ (hJm _ _ _ hJ)))))
    refine wpAny_pyNext_list_end hh (l := ax) (i := its.length) (items := its.toArray) ⟨_, zI.1, hI1, hI2⟩ ⟨_, zl.1, rfl, _, rfl⟩ (by simp) fun h' he => ⟨rfl, h', tk, oC, nw, m₂, rfl, ?_, ?_, off.2, hC, hJ⟩
    · exact LCg.fr_but F' (fun b o hb e => he b o (by simpa using hb) e) (Ne.symm zI.2.1) zI.2.2
    · refine LCg.news_but (I := s₁.heap.objs.size) (fun p hp => N' p ?_) (fun b o hb e => he b o (by simpa using hb) e) (fun p hp => ?_)
      · rcases List.mem_cons.mp hp with rfl | hp
        · exact .tail _ (.head _)
        rcases List.mem_cons.mp hp with rfl | hp
        · exact .tail _ (.tail _ (.head _))
        · exact .tail _ (.tail _ (.tail _ (.tail _ hp)))
      · rcases List.mem_cons.mp hp with rfl | hp
        · exact Ne.symm hIC
        rcases List.mem_cons.mp hp with rfl | hp
        · exact Ne.symm hID
        · exact (off3 p (.tail _ hp)).1
end
end Mine
end
section
open PySem PySem.Spec PySem.Calls PySem.W PyProof.Rows
namespace Mine
section
variable {prog : Program} {w : World} {A : Around} {E : Value → Shared → Prop} {s₁ : Shared} {h₀ : Heap} {L : Addr} {m : Str → Option Value} {env : Env} {elt : Expr} {a b y : Str} {pa pb tp : Pos} {kk : Nat} {scope : Scope} {cl : List (Str × Addr)} {Q : Flow → Shared → Prop} {news : List (Addr × Obj)}
/-- enumerate(list) as a source -/
theorem CompAt.enum {e it l : Addr} {its : List Value} {k : Nat} (hh : A.handled = none) (hkind : scope.kind = .function) (ha : scope.names.lookup a = some .local) (hb : scope.names.lookup b = some .local)
    (he : IsEnum s₁.heap e it 0 .none) (hit : s₁.heap.IsListIter it l 0) (F : Fr h₀ L s₁.heap m) (N : News h₀ L s₁.heap news) (hm : (l, listOf its.toArray k) ∈ news) (hn : its.length ≤ 1000)
    (he0 : h₀.get? e = none) (hi0 : h₀.get? it = none) (heL : e ≠ L) (hiL : it ≠ L) (hei : e ≠ it) (hne : ∀ p ∈ news, p.1 ≠ e) (hni : ∀ p ∈ news, p.1 ≠ it)
    (J : Nat → List Value → List (Addr × Obj) → Prop) (h0 : J 0 [] news) (hJm : ∀ i ys nw, J i ys nw → (l, listOf its.toArray k) ∈ nw)
    (turn : ∀ (i : Nat) (v : Value) (ti : Tok) (I : Addr) (oI : Obj) (C : Addr) (oC : Obj) (D : Addr) (oit : Obj) (m₂ : Str → Option Value) (ys : List Value) (nw : List (Addr × Obj)) (h : Heap) (tk : Nat) (E' : Value → Shared → Prop), its[i]? = some v → J i ys nw → LCg.NsObj oC m₂ → m₂ a = some (.int (i : Int) ti) ∨ a = b → m₂ b = some v →
      Fr h₀ L h m → News h₀ L h ((I, oI) :: (C, oC) :: (D, LCg.lst ys) :: (it, oit) :: nw) → LCg.Off3 I C D ((it, oit) :: nw) → (∀ p ∈ nw, p.1 ≠ it) → ((@Ne Nat I C) ∧ (@Ne Nat I D) ∧ (@Ne Nat C D)) →
      wpAny (model prog w) A (eval elt (compEnvC scope cl C env)) (LCg.CompEnd h₀ L m { s₁ with heap := h, toks := tk } I oI C oC D (LCg.lst ys) (fun _ => True) (fun z nw' => ∃ nw2, nw' = (it, oit) :: nw2 ∧ (∀ p ∈ nw2, p.1 ≠ it) ∧ J (i + 1) (ys ++ [z]) nw2)) E' { s₁ with heap := h, toks := tk })
    (fin : ∀ (D : Addr) (ys : List Value) (nw : List (Addr × Obj)) (h : Heap) (tk : Nat), J its.length ys nw → ys.length = its.length → Fr h₀ L h (fun z => if z = y then some (.ref D) else m z) → News h₀ L h ((D, LCg.lst ys) :: nw) → LCg.Off1 D nw → Q .next { s₁ with heap := h, toks := tk }) :
    wpAny (model prog w) A (pyIter (.ref e)) (CompAt prog w A h₀ L m env elt (.Tuple [.Name a pa, .Name b pb] kk tp) y scope (fun _ => cl) (fun _ => []) Q) E s₁ := by
  refine wpAny_pyIter_enum he ?_
  obtain ⟨oit0, hg0, hc0, hd0⟩ := hit
  refine ⟨e, _, (it, oit0) :: news, its.length, fun i o => ∃ old, o = { cls := .type "enumerate", dict := none, data := .fields #[.none, .bool false, .ref it, rawInt (i : Int), .none, old], slots := #[] }, fun _ i ys nw _ => ∃ oit nw2, nw = (it, oit) :: nw2 ∧ (oit.cls = .type "list_iterator" ∧ oit.data = .fields #[.ref l, .int i 0]) ∧ (∀ p ∈ nw2, p.1 ≠ it) ∧ J i ys nw2, J its.length, rfl, fun s' Q' E' g hq => wpAny_pyIter_enum (i := 0) (old := .none) (it := it) g hq, F, ?n0, ?off0, ?sz, ⟨_, rfl⟩, fun C hC => ⟨oit0, news, rfl, ⟨hc0, hd0⟩, hni, h0⟩, ?turn, ?done, fin⟩
  case n0 =>
    intro p hp
    rcases List.mem_cons.mp hp with rfl | hp
    · exact ⟨he, heL, he0⟩
    rcases List.mem_cons.mp hp with rfl | hp
    · exact ⟨hg0, hiL, hi0⟩
    · exact N p hp
  case off0 =>
    intro p hp
    rcases List.mem_cons.mp hp with rfl | hp
    · exact Ne.symm hei
    · exact hne p hp
  case sz =>
    have hz : sizeLine = 16777216 := sizeLine_eq
    omega
  case turn =>
    rintro i C D ys h tk E' hi hIC hID hCD ⟨oI, oC, _, m₂, F', N', off, hC, ⟨old, rfl⟩, oit, nw, rfl, ⟨hi1, hi2⟩, hni', hJ⟩
    have off3 := off.mem
    have zI := N' _ (.head _)
    have zC := N' (C, oC) (.tail _ (.head _))
    have zD := N' (D, _) (.tail _ (.tail _ (.head _)))
    have zi := N' (it, oit) (.tail _ (.tail _ (.tail _ (.head _))))
    have zl := N' _ (.tail _ (.tail _ (.tail _ (.tail _ (hJm _ _ _ hJ)))))
    have zn : ∀ p ∈ nw, h.get? p.1 = some p.2 ∧ p.1 ≠ L ∧ h₀.get? p.1 = none := fun p hp => N' p (.tail _ (.tail _ (.tail _ (.tail _ hp))))
    have hiC : it ≠ C := (off3 _ (.head _)).2.1
    have hiD : it ≠ D := (off3 _ (.head _)).2.2
    obtain ⟨v, hv⟩ : ∃ v, its[i]? = some v := ⟨_, List.getElem?_eq_getElem hi⟩
    refine wpAny_pyNext_enum_item (l := l) (i := i) (items := its.toArray) (x := v) zI.1 ⟨oit, zi.1, hi1, hi2⟩ ⟨_, zl.1, rfl, _, rfl⟩ (by simpa using hv) hei fun h₁ heo hit₁ ht₁ hz₁ hk₁ => ?_
    refine ⟨_, rfl, ?_⟩
    refine wpAny_letOwnedTupleGo_enum heo fun h₂ he₂ hs₂ => ?_
    replace hs₂ : Heap.SameBut e h₁ h₂ := hs₂
    have heH : e < h.objs.size := Heap.lt_size zI.1
    have ht₂ : h₂.IsTuple h.objs.size #[.int i tk, v] := ⟨_, (hs₂.2 _ (Nat.ne_of_gt heH)).trans ht₁, rfl, _, rfl⟩
    have up2 : ∀ c o, c ≠ e → c ≠ it → h.get? c = some o → h₂.get? c = some o := fun c o h1 h2 g => (hs₂.2 c h1).trans (hk₁ c o h1 h2 g)
    have nC : h₂.Ns C m₂ := (hC.ns zC.1).at' fun o g => up2 C o (Ne.symm hIC) (Ne.symm hiC) g
    refine kcp_assign (env := compEnvC scope cl C env) hh ht₂ (lookup_relabel_local ha) (lookup_relabel_local hb) (by simp [compEnvC, relabel, hkind]) nC fun h₃ tk₃ hn₃ hk₃ => ?_
    replace hn₃ : h₃.Ns C _ := hn₃
    replace hk₃ : ∀ c o, c ≠ C → h₂.get? c = some o → h₃.get? c = some o := hk₃
    obtain ⟨oC', heC, hoC⟩ := LCg.ns_obj hn₃
    obtain ⟨oit', hgi, hi1', hi2'⟩ := hit₁
    have up3 : ∀ c o, c ≠ e → c ≠ it → c ≠ C → h.get? c = some o → h₃.get? c = some o := fun c o h1 h2 h3 g => hk₃ c o h3 (up2 c o h1 h2 g)
    have F3 : Fr h₀ L h₃ m := ⟨F'.ns.at' fun o g => up3 L o (Ne.symm heL) (Ne.symm hiL) (Ne.symm zC.2.1) g, fun c o g => up3 c o (fun q => by rw [q, he0] at g; cases g) (fun q => by rw [q, hi0] at g; cases g) (fun q => by rw [q, zC.2.2] at g; cases g) (F'.keep c o g), F'.above⟩
    have N3 : News h₀ L h₃ ((e, { cls := .type "enumerate", dict := none, data := .fields #[.none, .bool false, .ref it, rawInt ((i : Int) + 1), .none, v], slots := #[] }) :: (C, oC') :: (D, LCg.lst ys) :: (it, oit') :: nw) := by
      intro p hp
      rcases List.mem_cons.mp hp with rfl | hp
      · exact ⟨hk₃ _ _ hIC he₂, heL, he0⟩
      rcases List.mem_cons.mp hp with rfl | hp
      · exact ⟨heC, zC.2⟩
      rcases List.mem_cons.mp hp with rfl | hp
      · exact ⟨up3 _ _ (Ne.symm hID) (Ne.symm hiD) (Ne.symm hCD) zD.1, zD.2⟩
      rcases List.mem_cons.mp hp with rfl | hp
      · exact ⟨hk₃ _ _ hiC ((hs₂.2 _ (Ne.symm hei)).trans hgi), hiL, hi0⟩
      · have o3 := off3 p (.tail _ hp)
        exact ⟨up3 _ _ o3.1 (hni' p hp) o3.2.1 (zn p hp).1, (zn p hp).2⟩
    refine wpAny_mono (turn i v tk e _ C oC' D oit' _ ys nw h₃ _ _ hv hJ hoC ?_ (by simp) F3 N3 ⟨off.1, off.2⟩ hni' ⟨hIC, hID, hCD⟩) (fun z t₃ g => ?_) fun _ _ g => g
    · by_cases c : a = b
      · exact .inr c
      · exact .inl (by simp [c])
    obtain ⟨h4, tk4, nw4, rfl, F4, N4, off4, _, nw5, rfl, hne4, hJ4⟩ := g
    refine ⟨h4, tk4, rfl, _, oC', _, _, F4, N4, off4, hoC, ⟨v, ?_⟩, oit', nw5, rfl, ⟨hi1', hi2'⟩, hne4, hJ4⟩
    have e1 : (i : Int) + 1 = ((i + 1 : Nat) : Int) := by push_cast; rfl
    rw [e1]
  case done =>
    rintro C D ys h tk E' hIC hID hCD ⟨oI, oC, _, m₂, F', N', off, hC, ⟨old, rfl⟩, oit, nw, rfl, ⟨hi1, hi2⟩, hni', hJ⟩
    have off3 := off.mem
    have zI := N' _ (.head _)
    have zi := N' (it, oit) (.tail _ (.tail _ (.tail _ (.head _))))
    have zl := N' _ (.tail _ (.tail _ (.tail _ (.tail _ (hJm _ _ _ hJ)))))
    refine wpAny_pyNext_enum_end hh (l := l) (i := its.length) (items := its.toArray) zI.1 ⟨oit, zi.1, hi1, hi2⟩ ⟨_, zl.1, rfl, _, rfl⟩ (by simp) fun h' he' => ⟨rfl, h', tk, oC, nw, m₂, rfl, ?_, ?_, off.2, hC, hJ⟩
    · exact LCg.fr_but (I := it) F' (fun c o hb g => he' c o (by simpa using hb) g) (Ne.symm hiL) hi0
    · refine LCg.news_but (I := it) (fun p hp => N' p ?_) (fun c o hb g => he' c o (by simpa using hb) g) (fun p hp => ?_)
      · rcases List.mem_cons.mp hp with rfl | hp
        · exact .tail _ (.head _)
        rcases List.mem_cons.mp hp with rfl | hp
        · exact .tail _ (.tail _ (.head _))
        · exact .tail _ (.tail _ (.tail _ (.tail _ hp)))
      · rcases List.mem_cons.mp hp with rfl | hp
        · exact Ne.symm (off3 _ (.head _)).2.1
        rcases List.mem_cons.mp hp with rfl | hp
        · exact Ne.symm (off3 _ (.head _)).2.2
        · exact hni' p hp
end
end Mine
end
section
open PySem PySem.Spec PySem.Calls PySem.W PyProof.Rows
namespace Mine
theorem ints_of_all : ∀ {l : List Value}, (∀ v ∈ l, ∃ k t, v = Value.int k t) → ∃ ns, IntsAre l ns
  | [], _ => ⟨[], .nil⟩
  | v :: r, h => by
    obtain ⟨k, t, rfl⟩ := h v (.head _)
    obtain ⟨ns, hn⟩ := ints_of_all (l := r) fun x hx => h x (.tail _ hx)
    exact ⟨k :: ns, .cons _ _ hn⟩
theorem ints_mem {vs : List Value} {ns : List Int} (h : IntsAre vs ns) : ∀ v ∈ vs, ∃ k t, v = Value.int k t := by
  intro v hv
  obtain ⟨i, hi⟩ := List.getElem?_of_mem hv
  obtain ⟨k, t, e, _⟩ := IntsAre.at h i v hi
  exact ⟨k, t, e⟩
section
variable {prog : Program} {w : World} {A : Around} {E : Value → Shared → Prop} {s : Shared} {h₀ : Heap} {L : Addr} {m : Str → Option Value} {news : List (Addr × Obj)} {Q : Value → Shared → Prop}
theorem sum_any {l : Addr} {vs : List Value} {ns : List Int} {n : Nat} (hh : A.handled = none) (F : Fr h₀ L s.heap m) (N : News h₀ L s.heap news) (hm : (l, listOf vs.toArray n) ∈ news) (hi : IntsAre vs ns)
    (h : ∀ (k : Int) (t' : Tok) (h' : Heap) (tk : Nat), Fr h₀ L h' m → News h₀ L h' news → Q (.int k t') { s with heap := h', toks := tk }) :
    wpAny (model prog w) A (call (.builtin "sum") [.ref l]) Q E s := by
  have hl : s.heap.IsList l vs.toArray := ⟨_, (N _ hm).1, rfl, _, rfl⟩
  have hlt : l < s.heap.objs.size := Heap.lt_size (N _ hm).1
  refine call_sum_walkG ?_
  refine wpAny_pyIter_list hl ?_
  refine ⟨s.heap.objs.size, _, _, vs.toArray.size, _, _, fun i => ns.getD i 0, rfl, Walks.list (A := A.in1) hh _ l (Nat.ne_of_lt hlt) vs.toArray, ⟨⟨_, Heap.get?_push_size _ rfl, rfl, rfl⟩, hl.push _⟩, fun b hb => ?_, fun i v hv => ?_, fun h' tk t' hk => ?_⟩
  · show b < (s.heap.push _).objs.size
    rw [Heap.size_push]
    rcases List.mem_cons.mp hb with rfl | hb
    · exact Nat.lt_succ_self _
    · rw [List.mem_singleton.mp hb]; exact Nat.lt_succ_of_lt hlt
  · obtain ⟨k, t, rfl, hk⟩ := IntsAre.at hi i v (by simpa using hv)
    refine ⟨t, ?_⟩
    show Value.int k t = Value.int (ns.getD i 0) t
    rw [List.getD_eq_getElem?_getD, hk]; rfl
  · have up : ∀ b o, s.heap.get? b = some o → h'.get? b = some o := fun b o e => hk b o (by simpa using Nat.ne_of_lt (Heap.lt_size e)) (Heap.get?_push_of_some _ e)
    exact h _ t' h' tk (F.keeps up) (N.grown up)
theorem slice_any {value slice : Expr} {l : Addr} {vs : List Value} {ns : List Int} {n : Nat} {i st : Int} {ti ts : Tok} {ops : List Value} (F : Fr h₀ L s.heap m) (N : News h₀ L s.heap news) (hm : (l, listOf vs.toArray n) ∈ news) (hi : IntsAre vs ns) (hz : vs.length ≤ 1000) (hst : st ≠ 0)
    (h : ∀ D h' vs' ns', Fr h₀ L h' m → News h₀ L h' ((D, listOf vs'.toArray 0) :: news) → (∀ p ∈ news, p.1 < D) → IntsAre vs' ns' → Q (.ref D) { s with heap := h' })
    (hs : subscripted slice false (.ref l) (.ref s.heap.objs.size) = operate ops (getItem (.ref l) (.ref s.heap.objs.size)) := by with_unfolding_all rfl)
    (ht : ∀ r, letTemporaryGo value (.ref l) r = pure () := by intro _; with_unfolding_all rfl) :
    wpAny (model prog w) A (subscriptTail value slice (.ref l) (.ref s.heap.objs.size)) Q E { s with heap := s.heap.push { cls := .type "slice", data := .fields #[.int i ti, .none, .int st ts] } } := by
  have hl : s.heap.IsList l vs.toArray := ⟨_, (N _ hm).1, rfl, _, rfl⟩
  have hsl : sizeLine = 16777216 := sizeLine_eq
  refine slice_list3 (lo := some i) (hi := none) (st := some st) F N hl (.int _ _) .none (.int _ _) (by simpa using hst) (fun h' F' N' => ?_) hs ht (by rw [List.size_toArray]; omega)
  obtain ⟨ns', hn⟩ := ints_of_all (l := (slicePick vs.toArray (some i) none (some st)).toList) (fun v hv => by
    unfold slicePick at hv
    rw [List.toList_toArray] at hv
    obtain ⟨j, _, hj⟩ := List.mem_filterMap.mp hv
    exact ints_mem hi v (by simpa using Array.mem_of_getElem? hj))
  exact h _ h' (slicePick vs.toArray (some i) none (some st)).toList ns' F' (by simpa using N') (fun p hp => Nat.lt_succ_of_lt (Heap.lt_size (N p hp).1)) hn
end
end Mine
end
section
open PySem PySem.Spec PySem.Calls PySem.W PyProof.Rows
namespace Mine
/-- a call that finds the table of codes empty, and fills it -/
abbrev Claim0 (lv : Nat) (w : World) (p : Program) (loose : List Str) (mean : ExcName → Option Value) (mg mb : Str → Option Value) (news : List (Addr × Obj)) (f : Addr) (vs : List Value) (G : Value → List (Addr × Obj) → Prop) : Prop :=
  ∀ (dp un : Nat) (gd : Option (List Code)) (cn : Str) (cs : Scope) (a : Addr) (ccd : Value) (cl : List (Str × Addr)) (outer : List Env) (A₀ : Around) (base h₀ : Heap) (L : Addr) (m : Str → Option Value) (s : Shared) (Q E : Value → Shared → Prop),
    CodeHd h₀ 48 44 → Below A₀ base outer h₀ → Fr h₀ L s.heap m → (Mine.hd.heap_39 w.params).In h₀ → News h₀ L s.heap ((44, tabObj #[]) :: news) → Top p loose mean mg mb h₀ → cs.kind = .function →
    dp + lv < recursionLimit → un + 20 * lv < cLine →
    (∀ (v : Value) (own : List (Addr × Obj)) (h' : Heap) (tk' : Nat) (c' : Addr) (oc : Obj) (vc : Array Value) (tq : Tok), G v own → Fr h₀ L h' m → News h₀ L h' (own ++ (44, tabObj #[rawInt 22, rawInt 4, .ref c']) :: (c', oc) :: news) → (∀ p ∈ (44, tabObj #[]) :: news, @LT.lt Nat _ p.1 c') → oc.data = .fields vc → vc[1]? = some (.str (Str.ofString "_int2digits.<locals>.inner") tq) → Q v { s with heap := h', toks := tk' }) →
      wpAny (model Challenge.rw_wj0010_01.row.prog w) (ktrTop dp un gd cn cs L a ccd cl outer) (call (.ref f) vs) Q E s
theorem Claim0.use {lv : Nat} {w : World} {p : Program} {loose : List Str} {mean : ExcName → Option Value} {mg mb : Str → Option Value} {news : List (Addr × Obj)} {f : Addr} {vs : List Value} {G : Value → List (Addr × Obj) → Prop} (C0 : Claim0 lv w p loose mean mg mb news f vs G)
    {dp un : Nat} {gd : Option (List Code)} {cn : Str} {cs : Scope} {a : Addr} {ccd : Value} {cl : List (Str × Addr)} {outer : List Env} {A₀ : Around} {base h₀ : Heap} {L : Addr} {m : Str → Option Value} {s : Shared} {Q E : Value → Shared → Prop}
    (Cd : CodeHd h₀ 48 44) (B : Below A₀ base outer h₀) (F : Fr h₀ L s.heap m) (X : (Mine.hd.heap_39 w.params).In h₀) (N : News h₀ L s.heap ((44, tabObj #[]) :: news)) (T : Top p loose mean mg mb h₀) (hk : cs.kind = .function)
    (hd : dp + lv < recursionLimit) (hu : un + 20 * lv < cLine)
    (ret : ∀ (v : Value) (own : List (Addr × Obj)) (h' : Heap) (tk' : Nat) (c' : Addr) (oc : Obj) (vc : Array Value) (tq : Tok), G v own → Fr h₀ L h' m → News h₀ L h' (own ++ (44, tabObj #[rawInt 22, rawInt 4, .ref c']) :: (c', oc) :: news) → (∀ p ∈ (44, tabObj #[]) :: news, @LT.lt Nat _ p.1 c') → oc.data = .fields vc → vc[1]? = some (.str (Str.ofString "_int2digits.<locals>.inner") tq) → Q v { s with heap := h', toks := tk' }) :
    wpAny (model Challenge.rw_wj0010_01.row.prog w) (ktrTop dp un gd cn cs L a ccd cl outer) (call (.ref f) vs) Q E s :=
  C0 _ _ _ _ _ _ _ _ _ _ _ _ _ _ _ _ _ Cd B F X N T hk hd hu ret
local macro_rules | `(tactic| k_mem) => `(tactic| first | with_reducible assumption | (refine List.mem_cons_of_mem _ ?_; k_mem))
local macro_rules | `(tactic| k_all) => `(tactic| first | with_reducible assumption | exact all_ne (by assumption) (by omega))
local macro_rules | `(tactic| walk_at "call ref") => `(tactic| k_extra "call ref")
local macro_rules | `(tactic| walk_at "binaryOp FloorDiv int int") => `(tactic| (refine fdiv_is (by with_reducible assumption) (by omega) (by omega) ?_; intro _ _))
set_option maxRecDepth 100000 in
set_option maxHeartbeats 2000000 in
theorem dig0_ctr (w : World) (p : Program) (loose : List Str) (mean : ExcName → Option Value) (mg mb : Str → Option Value) (news : List (Addr × Obj)) (tx tn : Tok) (hap : ∀ p ∈ news, p.1 ≠ 44) : Claim0 3 w p loose mean mg mb news 49 [.int 0 tx, .int 1 tn] (fun v own => ∃ l nn, v = .ref l ∧ own = [(l, listOf #[] nn)]) := by
  unfold Claim0
  k_fill
  k_with_none
  intro dp un gd cn cs a ccd cl outer A₀ base h₀ L m s Q E C B F X N T hk hd hu hret
  refine wpAny_call ?_
  k_dflt (refine' code_defC ?k1 ?k2 ?k3 ?k4 ?k5 ?kA ?kF ?kK ?k6 ?k7 ?k8 ?k9 ?kB ?kD ?_ ?c2 ?c3 ?c4; (case kA => exact rfl); (case kF => exact rfl); (case kK => exact hk); (case k1 => exact B); (case k2 => exact F); (case k3 => exact X); (case k4 => exact N); (case k5 => exact T); (case k6 => k_is); (case k7 => k_is); (case k8 => ktr_room); (case k9 => exact BindsTo.of_eq rfl); (case kB => exact rfl); (case kD => decide +kernel); (case c2 => exact rfl); (case c3 => exact rfl); (case c4 => exact rfl); k_whole; intro g' L' h' tk' cells' FG' F' N' Y' B' X' T' l1; (try k_lt l1); k_cells Y'; (try simp only [List.cons_append, List.nil_append] at N'); (try dsimp only); (try k_lift B'); (try k_fold))
  have C2 : CodeHd g' 48 44 := C.keeps FG'.keep
  have l2 := allLt_all l1.2
  have e_div : (((Builtin.Int.intBits 0 : Nat) : Int) + 1 - 1).fdiv 1 = 0 := by decide
  k_steps
  with_reducible rename News h₀ L _ _ => kN9
  with_reducible rename _ < _ ∧ _ < _ ∧ _ < _ ∧ _ < _ ∧ _ < _ ∧ _ < _ ∧ AllLt _ news => l9
  with_reducible rename _ = some (Value.str (qualnameIn _ _ _) _) => q9
  rw [qual_is _ _ _ _ rfl] at q9
  refine' hret _ [(_, listOf #[] 0)] _ _ _ _ _ _ ⟨_, 0, rfl, rfl⟩ ?r1 ?r2 ?r3 ?r4 q9
  case r4 => assumption
  case r1 => assumption
  case r3 =>
    intro p hp
    rcases List.mem_cons.mp hp with rfl | hp
    · exact l9.2.2.2.2.2.1
    · exact allLt_all l9.2.2.2.2.2.2 p hp
  case r2 =>
    refine fun p hp => kN9 p ?_
    rcases List.mem_cons.mp hp with rfl | hp
    · exact .tail _ (.tail _ (.head _))
    rcases List.mem_cons.mp hp with rfl | hp
    · exact .tail _ (.tail _ (.tail _ (.tail _ (.tail _ (.tail _ (.tail _ (.head _)))))))
    rcases List.mem_cons.mp hp with rfl | hp
    · exact .tail _ (.head _)
    · exact .tail _ (.tail _ (.tail _ (.tail _ (.tail _ (.tail _ (.tail _ (.tail _ hp)))))))
set_option maxRecDepth 100000 in
set_option maxHeartbeats 2000000 in
theorem lost0_ctr (w : World) (p : Program) (loose : List Str) (mean : ExcName → Option Value) (mg mb : Str → Option Value) (news : List (Addr × Obj)) (tx tn : Tok) (hap : ∀ p ∈ news, p.1 ≠ 44) : Claim0 5 w p loose mean mg mb news 93 [.int 0 tx, .int 1 tn] (fun v own => v = .bool true ∧ own = []) := by
  unfold Claim0
  k_fill
  k_with_none
  k_with "call ref" => refine hold ?_
  intro dp un gd cn cs a ccd cl outer A₀ base h₀ L m s Q E C B F X N T hk hd hu hret
  refine wpAny_call ?_
  k_dflt cell_enter
  (with_reducible rename Fr h₀ L _ m => FG9)
  have C2 : CodeHd _ 48 44 := C.keeps FG9.keep
  k_steps
  unfold Hold
  k_dflt (refine' Claim0.use (dig0_ctr w _ _ _ _ _ _ tx _ hap) C2 ?u1a ?u1b ?u1c ?u1d ?u1e ?u1f ?u1g ?u1h ?u1i)
  case u1a => k_asm
  case u1b => k_asm
  case u1c => k_asm
  case u1d => k_asm
  case u1e => k_asm
  case u1f => first | exact rfl | assumption
  case u1g => ktr_room
  case u1h => ktr_units
  rintro v own h2 tk2 c' oc vc tq ⟨l, nn, rfl, rfl⟩ F2 N2 l2 ho hv
  simp only [List.cons_append, List.nil_append] at N2
  (try dsimp only)
  (try k_fold)
  k_steps
  with_reducible rename News h₀ L _ _ => kN9
  exact hret _ [] _ _ c' oc vc tq ⟨rfl, rfl⟩ (by assumption) (fun p hp => kN9 p (.tail _ (.tail _ hp))) l2 ho hv
set_option maxRecDepth 100000 in
set_option maxHeartbeats 2000000 in
theorem worth0_ctr (w : World) (p : Program) (loose : List Str) (mean : ExcName → Option Value) (mg mb : Str → Option Value) (news : List (Addr × Obj)) (tx : Tok) (hap : ∀ p ∈ news, p.1 ≠ 44) : Claim0 7 w p loose mean mg mb news 100 [.int 0 tx] (fun v own => (∃ t, v = .int 0 t) ∧ own = []) := by
  unfold Claim0
  k_fill
  k_with_none
  k_with "call ref" => refine hold ?_
  intro dp un gd cn cs a ccd cl outer A₀ base h₀ L m s Q E C B F X N T hk hd hu hret
  refine wpAny_call ?_
  k_dflt cell_enter
  (with_reducible rename Fr h₀ L _ m => FG9)
  have C2 : CodeHd _ 48 44 := C.keeps FG9.keep
  k_steps
  unfold Hold
  k_dflt (refine' Claim0.use (lost0_ctr w _ _ _ _ _ _ tx _ hap) C2 ?u2a ?u2b ?u2c ?u2d ?u2e ?u2f ?u2g ?u2h ?u2i)
  case u2a => k_asm
  case u2b => k_asm
  case u2c => k_asm
  case u2d => k_asm
  case u2e => k_asm
  case u2f => first | exact rfl | assumption
  case u2g => ktr_room
  case u2h => ktr_units
  rintro v own h2 tk2 c' oc vc tq ⟨rfl, rfl⟩ F2 N2 l2 ho hv
  simp only [List.nil_append] at N2
  (try dsimp only)
  (try k_fold)
  k_steps
  with_reducible rename News h₀ L _ _ => kN9
  exact hret _ [] _ _ c' oc vc tq ⟨⟨_, rfl⟩, rfl⟩ (by assumption) (fun p hp => kN9 p hp) l2 ho hv
end Mine
end
section
open PySem PySem.Spec PySem.Calls PySem.W PyProof.Rows
namespace Mine
section
variable {prog : Program} {w : World} {A : Around} {E : Value → Shared → Prop} {s : Shared} {Q : Value → Shared → Prop}
theorem xor_gen {a b v : Int} {t u : Tok} (e : Builtin.bitXor a b = v) (h : ∀ t' k, Q (.int v t') { s with toks := k }) : wpAny (model prog w) A (binaryOp .BitXor (.int a t) (.int b u)) Q E s :=
  xor_int (by rw [e]; exact h _ _)
end
local macro_rules | `(tactic| walk_at "binaryOp BitXor int int") => `(tactic| (refine xor_gen (by with_reducible assumption) ?_; intro _ _))
set_option maxRecDepth 100000 in
set_option maxHeartbeats 1000000 in
theorem xor_ctr (w : World) (p : Program) (loose : List Str) (mean : ExcName → Option Value) (mg mb : Str → Option Value) (news : List (Addr × Obj)) (x y v : Int) (ta tb : Tok) (e : Builtin.bitXor x y = v) :
    Ctr 2 w p loose mean mg mb 21 news [.int x ta, .int y tb] (fun t => .int v t) := by
  unfold Ctr CbRet
  k_fill
  k_with_none
  intro dp un gd cn cs a ccd cl outer A₀ base h₀ L m s Q E B F X N T hk hd hu hret
  refine wpAny_call ?_
  k_dflt cell_enter
  k_steps
  exact hret _ _ _ (by assumption) (by assumption)
end Mine
end
section
open PySem PySem.Spec PySem.Calls PySem.W PyProof.Rows
namespace Mine
theorem ints_next {ys : List Value} {k : Int} {t : Tok} (h : ∃ ns, IntsAre ys ns) : ∃ ns, IntsAre (ys ++ [.int k t]) ns := by
  obtain ⟨ns, h⟩ := h
  exact ⟨_, IntsAre.append h (.cons _ _ .nil)⟩
theorem pick8 {h₀ h : Heap} {L : Addr} {a0 a1 a2 a3 a4 a5 a6 a7 : Addr × Obj} (N : News h₀ L h [a0, a1, a2, a3, a4, a5, a6, a7]) : News h₀ L h [a0, a4, a5, a7] := by
  refine news_sub N fun p hp => ?_
  simp only [List.mem_cons, List.not_mem_nil, or_false] at hp ⊢
  grind
theorem four {ys : List Value} {ns : List Int} (h : IntsAre ys ns) (hl : ys.length = 4) : ∃ d0 d1 d2 d3 t0 t1 t2 t3, ys = [.int d0 t0, .int d1 t1, .int d2 t2, .int d3 t3] := by
  match ys, ns, h, hl with
  | _, _, .cons k0 t0 (.cons k1 t1 (.cons k2 t2 (.cons k3 t3 .nil))), _ => exact ⟨k0, k1, k2, k3, t0, t1, t2, t3, rfl⟩
section
variable {prog : Program} {w : World} {A : Around} {E : Value → Shared → Prop} {s : Shared} {Q : Value → Shared → Prop}
theorem add_is {a b v : Int} {t u : Tok} (e : a + b = v) (h : Q (.int v s.toks) { s with toks := s.toks + 1 }) : wpAny (model prog w) A (binaryOp .Add (.int a t) (.int b u)) Q E s := by
  subst e; exact add_int h
theorem chr_is {i : Int} {c : Nat} {t : Tok} (e : i = (c : Int)) (hc : c ≤ 60000) (h : Q (.str ⟨#[c]⟩ s.toks) { s with toks := s.toks + 1 }) : wpAny (model prog w) A (call (.builtin "chr") [.int i t]) Q E s := by
  subst e
  refine PyProof.Rows.chr_of_range (by omega) (by omega) ?_
  rw [Int.toNat_natCast]; exact h
end
theorem rem_nat (a d k : Int) (n : Nat) (hd : 0 < d) (hk : k = (n : Int)) : ∃ r : Nat, k + a.fmod d = ((n + r : Nat) : Int) ∧ (r : Int) < d := by
  refine ⟨(a.fmod d).toNat, ?_, ?_⟩
  · have := Int.emod_nonneg a (show d ≠ 0 by omega)
    rw [Int.fmod_eq_emod_of_nonneg _ (by omega)]
    omega
  · have := Int.emod_nonneg a (show d ≠ 0 by omega)
    have := Int.emod_lt_of_pos a hd
    rw [Int.fmod_eq_emod_of_nonneg _ (by omega)]
    omega
theorem pins2 {h₀ h : Heap} {L : Addr} {m : Str → Option Value} {a b : Str} {v u : Value} (F : Fr h₀ L h (fun y => if y = a then some v else pins m [(b, u)] y)) (hab : b ≠ a) : ∃ m', Fr h₀ L h (pins m' [(a, v), (b, u)]) := by
  refine ⟨_, fr_pins [(a, v), (b, u)] F ?_⟩
  intro p hp
  rcases List.mem_cons.mp hp with rfl | hp
  · show (if a = a then some v else pins m [(b, u)] a) = some v
    rw [if_pos rfl]
  · rw [List.mem_singleton.mp hp]
    show (if b = a then some v else (if b = b then some u else pins m [] b)) = some u
    rw [if_neg hab, if_pos rfl]
theorem half_next {i : Nat} {ys : List Value} {t : Tok} (h : IntsAre ys (halfInts i)) : IntsAre (ys ++ [.int ((i / 2 : Nat) : Int) t]) (halfInts (i + 1)) := by
  unfold halfInts at *
  rw [List.range_succ, List.map_append]
  exact IntsAre.append h (.cons _ _ .nil)
theorem pick6 {h₀ h : Heap} {L : Addr} {a0 a1 a2 a3 a4 a5 : Addr × Obj} (N : News h₀ L h [a0, a1, a2, a3, a4, a5]) : News h₀ L h [a0, a2, a3, a4, a5] := by
  refine news_sub N fun p hp => ?_
  simp only [List.mem_cons, List.not_mem_nil, or_false] at hp ⊢
  grind
theorem pins_more {h₀ h : Heap} {L : Addr} {m : Str → Option Value} {a : Str} {v : Value} {ps : List (Str × Value)} (F : Fr h₀ L h (fun y => if y = a then some v else pins m ps y)) : ∃ m', Fr h₀ L h (pins m' ((a, v) :: ps)) := by
  refine ⟨m, ?_⟩
  have e : pins m ((a, v) :: ps) = fun y => if y = a then some v else pins m ps y := by funext y; rfl
  rw [e]; exact F
theorem no_minus (n : Nat) : ((halfInts n).any fun x => x == -1) = false := by
  rw [List.any_eq_false]
  intro x hx
  unfold halfInts at hx
  obtain ⟨j, _, rfl⟩ := List.mem_map.mp hx
  simp; omega
theorem split44 {h₀ h : Heap} {L : Addr} {a0 a1 a2 a3 b : Addr × Obj} (N : News h₀ L h [a0, a1, a2, a3, b]) : ∃ nw1, nw1 = [a0, a1, a2, a3] ∧ News h₀ L h (b :: nw1) := by
  refine ⟨_, rfl, news_sub N fun p hp => ?_⟩
  simp only [List.mem_cons, List.not_mem_nil, or_false] at hp ⊢
  grind
def worthInts (n : Nat) : List Int := (List.range n).map fun m => ((worth m : Nat) : Int)
theorem worth_next {i : Nat} {ys : List Value} {t : Tok} (h : IntsAre ys (worthInts i)) : IntsAre (ys ++ [.int ((worth i : Nat) : Int) t]) (worthInts (i + 1)) := by
  unfold worthInts at *
  rw [List.range_succ, List.map_append]
  exact IntsAre.append h (.cons _ _ .nil)
theorem worth_first {t : Tok} : IntsAre [.int 0 t] (worthInts 1) := by
  have e : worthInts 1 = [0] := by decide +kernel
  rw [e]; exact .cons _ _ .nil
/-- what is known behind turn i: the table of codes is filled from the first turn on -/
def WorthJ (nw1 : List (Addr × Obj)) (i : Nat) (ys : List Value) (nw : List (Addr × Obj)) : Prop :=
  (i = 0 ∧ ys = [] ∧ nw = (44, tabObj #[]) :: nw1) ∨ (0 < i ∧ IntsAre ys (worthInts i) ∧ ∃ (c' : Addr) (oc : Obj) (vc : Array Value) (tq : Tok), nw = (44, tabObj #[rawInt 22, rawInt 4, .ref c']) :: (c', oc) :: nw1 ∧
    oc.data = .fields vc ∧ vc[1]? = some (.str (Str.ofString "_int2digits.<locals>.inner") tq) ∧ (∀ p ∈ nw1, p.1 ≠ c') ∧ 44 ≠ c')
theorem xor_small {a b : Nat} (ha : a < 3) (hb : b < 12) : Builtin.bitXor (a : Int) (b : Int) = ((a ^^^ b : Nat) : Int) := by
  have h : ∀ a : Fin 3, ∀ b : Fin 12, Builtin.bitXor (a.val : Int) (b.val : Int) = ((a.val ^^^ b.val : Nat) : Int) := by decide +kernel
  exact h ⟨a, ha⟩ ⟨b, hb⟩
theorem worth_small (m : Nat) : worth m < 3 := by
  unfold worth
  split <;> omega
theorem split7 {h₀ h : Heap} {L : Addr} {l : List (Addr × Obj)} (N : News h₀ L h l) : ∃ nw, nw = l ∧ News h₀ L h nw := ⟨_, rfl, N⟩
theorem mem6 {α : Type} {l : List α} {a0 a1 a2 a3 a4 a5 a6 : α} (e : l = [a0, a1, a2, a3, a4, a5, a6]) : a6 ∈ l := by
  rw [e]; simp
/-- behind turn i: as many rows, each of the worth's xors -/
def MeantJ (Wd : Nat) (NW : List (Addr × Obj)) (i : Nat) (ys : List Value) (nw : List (Addr × Obj)) : Prop := ∃ rows, nw = rows ++ NW ∧ RowsAre worth Wd i rows ys
theorem worths_at {n i : Nat} {vs : List Value} {v : Value} (h : IntsAre vs (worthInts n)) (hv : vs[i]? = some v) : ∃ t, v = .int ((worth i : Nat) : Int) t ∧ i < n := by
  obtain ⟨k, t, rfl, hk⟩ := IntsAre.at h i v hv
  unfold worthInts at hk
  rw [List.getElem?_map] at hk
  cases e9 : (List.range n)[i]? with
  | none => rw [e9] at hk; cases hk
  | some r =>
    rw [e9] at hk
    have hi : i < n := by
      have := (List.getElem?_eq_some_iff.mp e9).1
      simpa using this
    have : r = i := by
      have := List.getElem?_eq_some_iff.mp e9
      obtain ⟨_, e⟩ := this
      simpa using e.symm
    subst this
    cases hk
    exact ⟨t, rfl, hi⟩
theorem TableClaim.use {w : World} {p : Program} {loose : List Str} {mean : ExcName → Option Value} {mg mb : Str → Option Value} {news : List (Addr × Obj)} {Wf : Nat → Nat} {H Wd : Nat} {lh : Addr} {tw : Tok} (C : TableClaim w p loose mean mg mb news Wf H Wd lh tw)
    {dp un : Nat} {gd : Option (List Code)} {cn : Str} {cs : Scope} {a : Addr} {ccd : Value} {cl : List (Str × Addr)} {outer : List Env} {A₀ : Around} {base h₀ : Heap} {L : Addr} {m : Str → Option Value} {s : Shared} {Q E : Value → Shared → Prop}
    (B : Below A₀ base outer h₀) (F : Fr h₀ L s.heap m) (X : (Mine.hd.heap_39 w.params).In h₀) (N : News h₀ L s.heap news) (T : Top p loose mean mg mb h₀) (hk : cs.kind = .function)
    (hd : dp + 10 < recursionLimit) (hu : un + 200 < cLine)
    (ret : ∀ (T : Addr) (tvs : List Value) (nt : Nat) (rows : List (Addr × Obj)) (h' : Heap) (tk' : Nat), Fr h₀ L h' m → News h₀ L h' ((T, listOf tvs.toArray nt) :: (rows ++ news)) → RowsAre Wf Wd H rows tvs → Q (.ref T) { s with heap := h', toks := tk' }) :
    wpAny (model Challenge.rw_wj0010_01.row.prog w) (ktrTop dp un gd cn cs L a ccd cl outer) (call (.ref 114) [.ref lh, .int (Wd : Int) tw]) Q E s :=
  C _ _ _ _ _ _ _ _ _ _ _ _ _ _ _ _ _ B F X N T hk hd hu ret
theorem ToldClaim.use {w : World} {p : Program} {loose : List Str} {mean : ExcName → Option Value} {mg mb : Str → Option Value} {news : List (Addr × Obj)} {n x c : Nat} {tx tn ts : Tok} (C : ToldClaim w p loose mean mg mb news n x c tx tn ts)
    {dp un : Nat} {gd : Option (List Code)} {cn : Str} {cs : Scope} {a : Addr} {ccd : Value} {cl : List (Str × Addr)} {outer : List Env} {A₀ : Around} {base h₀ : Heap} {L : Addr} {m : Str → Option Value} {s : Shared} {Q E : Value → Shared → Prop}
    (Cd : CodeHd h₀ 48 44) (B : Below A₀ base outer h₀) (F : Fr h₀ L s.heap m) (X : (Mine.hd.heap_39 w.params).In h₀) (N : News h₀ L s.heap news) (T : Top p loose mean mg mb h₀) (hk : cs.kind = .function)
    (hd : dp + 60 < recursionLimit) (hu : un + 1200 < cLine)
    (ret : ∀ (h' : Heap) (tk' : Nat), Fr h₀ L h' m → News h₀ L h' news → Q (.bool true) { s with heap := h', toks := tk' }) :
    wpAny (model Challenge.rw_wj0010_01.row.prog w) (ktrTop dp un gd cn cs L a ccd cl outer) (call (.ref 119) [.int (x : Int) tx, .int (n : Int) tn, .str ⟨#[c]⟩ ts]) Q E s :=
  C _ _ _ _ _ _ _ _ _ _ _ _ _ _ _ _ _ Cd B F X N T hk hd hu ret
theorem datAll_of {news : List (Addr × Obj)} : ∀ {vs : List Value} {ds : List Dat}, vs.length = ds.length → (∀ (i : Nat) (v : Value) (d : Dat), vs[i]? = some v → ds[i]? = some d → DatIn news v d) → DatAll news vs ds
  | [], [], _, _ => .nil
  | [], _ :: _, h, _ => by cases h
  | _ :: _, [], h, _ => by cases h
  | v :: vs, d :: ds, h, k => .cons (k 0 v d rfl rfl) (datAll_of (by simpa using h) fun i v' d' h1 h2 => k (i + 1) v' d' (by simpa using h1) (by simpa using h2))
theorem ints_dat {news : List (Addr × Obj)} : ∀ {vs : List Value} {ns : List Int}, IntsAre vs ns → DatAll news vs (ns.map Dat.int)
  | _, _, .nil => .nil
  | _, _, .cons k t r => .cons (.int k t) (ints_dat r)
def rowsDat (Wf : Nat → Nat) (Wd k : Nat) : List Dat := (List.range k).map fun m => Dat.list ((rowInts Wf m Wd).map Dat.int)
theorem rows_dat {Wf : Nat → Nat} {Wd k : Nat} {rows : List (Addr × Obj)} {tvs : List Value} (h : RowsAre Wf Wd k rows tvs) : DatAll rows tvs (rowsDat Wf Wd k) := by
  refine datAll_of (by rw [h.1]; unfold rowsDat; simp) fun i v d h1 h2 => ?_
  have hi : i < k := by rw [← h.1]; exact (List.getElem?_eq_some_iff.mp h1).1
  obtain ⟨a, vs, nn, e, hm, hz⟩ := h.2 i hi
  rw [h1] at e
  cases e
  unfold rowsDat at h2
  simp [hi] at h2
  rw [← h2]
  exact .list hm (ints_dat hz)
theorem rows_ok {Wf : Nat → Nat} {Wd k : Nat} : ∀ d ∈ rowsDat Wf Wd k, kqdOk 8 d = true := by
  intro d hd
  unfold rowsDat at hd
  obtain ⟨m, _, rfl⟩ := List.mem_map.mp hd
  simp [kqdOk]
theorem rows_ne {prog : Program} {w : World} {A : Around} {E : Value → Shared → Prop} {s : Shared} {h₀ : Heap} {L a b : Addr} {news r1 r2 : List (Addr × Obj)} {xs ys : List Value} {ka kb : Nat} {Wf : Nat → Nat} {Wd k : Nat} {Q : Value → Shared → Prop}
    (N : News h₀ L s.heap news) (ma : (a, listOf xs.toArray ka) ∈ news) (Da : RowsAre Wf Wd k r1 xs) (sa : ∀ p ∈ r1, p ∈ news) (mb : (b, listOf ys.toArray kb) ∈ news) (Db : RowsAre Wf Wd k r2 ys) (sb : ∀ p ∈ r2, p ∈ news)
    (hu : A.units + 64 < cLine) (h : Q (.bool false) s) : wpAny (model prog w) A (compareOp .NotEq (.ref a) (.ref b)) Q E s := by
  refine kqd_ne N ma rfl rfl (rows_dat Da) sa mb rfl rfl (rows_dat Db) sb rows_ok rows_ok hu ?_
  simpa using h
theorem moves_eq (m h : Nat) : movesInts worth m h = (moves m h).map fun n : Nat => (n : Int) := by
  unfold movesInts moves rowInts
  rw [List.map_append, List.map_map]
  congr 1
  split <;> simp
theorem table_in {m h : Nat} (hm : m < 12) (hh : h < 12) : ∀ j, j < worth m ^^^ h → ((j : Nat) : Int) ∈ movesInts worth m h := by
  intro j hj
  rw [moves_eq]
  exact List.mem_map.mpr ⟨j, (table_law m hm h hh).1 j hj, rfl⟩
theorem table_out {m h : Nat} (hm : m < 12) (hh : h < 12) : ((worth m ^^^ h : Nat) : Int) ∉ movesInts worth m h := by
  rw [moves_eq]
  intro hc
  obtain ⟨n, hn, e⟩ := List.mem_map.mp hc
  have : n = worth m ^^^ h := by exact_mod_cast e
  rw [this] at hn
  exact (table_law m hm h hh).2 hn
theorem mems7 {α : Type} {l : List α} {a0 a1 a2 a3 a4 a5 a6 : α} (rows : List α) (e : l = [a0, a1, a2, a3, a4, a5, a6]) : a1 ∈ rows ++ l ∧ a2 ∈ rows ++ l ∧ a3 ∈ rows ++ l ∧ a4 ∈ rows ++ l ∧ a5 ∈ rows ++ l ∧ a6 ∈ rows ++ l := by
  rw [e]; simp
local macro_rules | `(tactic| k_mem) => `(tactic| first | with_reducible assumption | (refine List.mem_cons_of_mem _ ?_; k_mem))
local macro_rules | `(tactic| walk_at "CompEnd") => `(tactic| k_extra "CompEnd")
local macro_rules | `(tactic| walk_at "CompSrc") => `(tactic| k_extra "CompSrc")
local macro_rules | `(tactic| walk_at "binaryOp Add int int") => `(tactic| k_extra "binaryOp Add int int")
local macro_rules | `(tactic| walk_at "call builtin:chr") => `(tactic| k_extra "call builtin:chr")
local macro_rules | `(tactic| walk_at "call builtin:sum") => `(tactic| k_extra "call builtin:sum")
local macro_rules | `(tactic| walk_at "call ref") => `(tactic| k_extra "call ref")
local macro_rules | `(tactic| walk_at "call type:enumerate") => `(tactic| k_extra "call type:enumerate")
local macro_rules | `(tactic| walk_at "compareOp NotEq ref ref") => `(tactic| k_extra "compareOp NotEq ref ref")
local macro_rules | `(tactic| walk_at "eval ListComp") => `(tactic| k_extra "eval ListComp")
local macro_rules | `(tactic| walk_at "exec Assign") => `(tactic| k_extra "exec Assign")
local macro_rules | `(tactic| walk_at "exec Assign cons ListComp") => `(tactic| k_extra "exec Assign cons ListComp")
local macro_rules | `(tactic| walk_at "subscriptTail") => `(tactic| k_extra "subscriptTail")
local macro_rules | `(tactic| walk_at "subscriptTail Name Constant ref int") => `(tactic| k_extra "subscriptTail Name Constant ref int")
local macro_rules | `(tactic| walk_at "subscriptTail Name Slice ref ref") => `(tactic| k_extra "subscriptTail Name Slice ref ref")
set_option maxRecDepth 100000 in
set_option maxHeartbeats 16000000 in
theorem law_holds : PySem.Challenge.rw_wj0010_01.Holds := Mine.hd (by
  k_go0
  (all_goals try k_fold)
  k_with_none
  k_with "exec Assign cons ListComp" => ((with_reducible show wpAny _ _ (exec (Stmt.Assign [Expr.Name (Str.ofString "drawn") _] _ _) _) _ _ _); refine hold ?_)
  k_with "exec Assign" => ((with_reducible show wpAny _ _ (exec (Stmt.Assign [Expr.Name (Str.ofString "drawn") _] _ _) _) _ _ _); refine hold ?_)
  k_with "call type:enumerate" => refine hold ?_
  k_steps
  unfold Hold
  (with_reducible rename Fr _ _ _ _ => F1)
  obtain ⟨m0, F2⟩ : ∃ m0, Fr _ _ _ (pins m0 []) := ⟨_, F1⟩
  clear F1
  k_with "pyIter ref" => refine hold ?_
  k_dflt (refine' comp_assign ?cF ?cL ?c1 ?c2 ?c3 ?c4 ?c5 ?c6 ?cN ?_ ?cs)
  case cF => k_asm
  case cL => rfl
  case c1 => with_unfolding_all rfl
  case c2 => with_unfolding_all rfl
  case c3 => rfl
  case c4 => decide
  case c5 => rfl
  case c6 => rfl
  case cN => exact newEnv_plain (by decide) rfl
  case cs => intro _; rfl
  k_steps
  unfold Hold
  k_with_none
  k_with "subscriptTail" => ((with_reducible show wpAny _ _ (subscriptTail (Expr.Name (Str.ofString "cells") _) _ _ _) _ _ _); refine hold ?_)
  k_with "subscriptTail Name Slice ref ref" => refine hold ?_
  k_with "call builtin:sum" => refine hold ?_
  k_with "CompEnd" => refine hold ?_
  (with_reducible rename News _ _ _ _ => N9)
  (with_reducible rename Fr _ _ _ _ => F9)
  (with_reducible rename IntsAre _ (List.map _ _) => i9)
  have hlen9 := i9.length
  rw [List.length_map, List.length_take] at hlen9
  refine call_enumerate_list ⟨_, (N9 _ (.head _)).1, rfl, _, rfl⟩ fun h2 he hit hsz hk2 => ?_
  (try dsimp only)
  have hL9 := F9.ns.lt
  have hA9 := F9.above
  refine CompAt.enum rfl rfl (by rfl) (by rfl) he hit (F9.keeps hk2) (N9.grown hk2) (List.Mem.head _) (Nat.le_of_ble_eq_true rfl) ?he0 ?hi0 ?heL ?hiL ?hei ?hne ?hni (fun i ys nw => nw = _ ∧ ∃ ns, IntsAre ys ns) ⟨rfl, _, .nil⟩ ?hJm ?turn ?fin
  case he0 => exact Heap.get?_none_of_le (Nat.le_succ_of_le (Nat.le_of_lt (Nat.lt_of_le_of_lt hA9 hL9)))
  case hi0 => exact Heap.get?_none_of_le (Nat.le_of_lt (Nat.lt_of_le_of_lt hA9 hL9))
  case heL => exact Nat.ne_of_gt (Nat.lt_succ_of_lt hL9)
  case hiL => exact Nat.ne_of_gt hL9
  case hei => exact Nat.succ_ne_self _
  case hne => exact fun p hp => Nat.ne_of_lt (Nat.lt_succ_of_lt (Heap.lt_size (N9 p hp).1))
  case hni => exact fun p hp => Nat.ne_of_lt (Heap.lt_size (N9 p hp).1)
  case hJm => rintro i ys nw ⟨rfl, _⟩; exact List.Mem.head _
  case turn =>
    rintro i v ti I oI C oC D oit m₂ ys nw h tk E' hv ⟨rfl, hns⟩ hC ha hb F N off hni ne
    have ha' := ha.resolve_right (by decide)
    obtain ⟨k, t, rfl, _⟩ := IntsAre.at (.cons _ _ (.cons _ _ (.cons _ _ (.cons _ _ .nil)))) i v hv
    k_steps
    unfold Hold
    k_dflt (refine' slice_any ?kF ?kN ?km i9 ?kz (by decide) ?_ ?ks ?kt)
    case kF => k_asm
    case kN => k_asm
    case km => k_mem
    case kz => omega
    case ks => with_unfolding_all rfl
    case kt => kmk_pure
    intro D2 h2 vs2 ns2 F2 N2 l2 i2
    k_steps
    unfold Hold
    refine sum_any (by with_unfolding_all rfl) (by k_asm) (by k_asm) (List.Mem.head _) i2 ?_
    intro k3 t3 h3 tk3 F3 N3
    (try dsimp only)
    k_steps
    unfold Hold
    exact LCg.CompEnd.intro (by assumption) N3 _ (fun p hp => .tail _ hp) off trivial ⟨_, rfl, hni, rfl, ints_next hns⟩
  case fin =>
    rintro D ys nw h tk ⟨rfl, ns, hns⟩ hl4 F N off
    have N4 := pick8 N
    have o1 : 44 ≠ D := (show LCg.Off1 D _ from off).2.2.2.2.2.2.1
    have o2 := (show LCg.Off1 D _ from off).2.2.2.2.1
    have o3 := (show LCg.Off1 D _ from off).2.2.2.1
    obtain ⟨d0, d1, d2, d3, t0, t1, t2, t3, rfl⟩ := four hns hl4
    clear N off hns hl4 hsz he hit hk2 hlen9 i9 N9 F9 hL9 hA9
    dsimp only
    k_with_none
    k_with "binaryOp Add int int" => (refine add_is (by first | with_reducible assumption | with_unfolding_all assumption) ?_)
    k_with "call builtin:chr" => (refine chr_is rfl (by omega) ?_)
    k_with "exec Assign cons ListComp" => refine hold ?_
    obtain ⟨rH, eH, bH⟩ := rem_nat d0 4 8 8 (by decide) rfl
    obtain ⟨rW, eW, bW⟩ := rem_nat d1 4 5 5 (by decide) rfl
    obtain ⟨rC, eC, bC⟩ := rem_nat d2 50000 35 35 (by decide) rfl
    obtain ⟨rK, eK, bK⟩ := rem_nat d2 24 20 20 (by decide) rfl
    obtain ⟨rT, eT, bT⟩ := rem_nat d3 3 1 1 (by decide) rfl
    obtain ⟨m1, F5⟩ : ∃ m1, Fr _ _ h (pins m1 [(Str.ofString "drawn", .ref D)]) := ⟨_, fr_pins [(Str.ofString "drawn", .ref D)] F (fun p hp => by rw [List.mem_singleton.mp hp]; rfl)⟩
    clear F
    k_steps
    unfold Hold
    generalize hHn : 8 + rH = Hn at *
    generalize hWn : 5 + rW = Wn at *
    generalize hCn : 35 + rC = Cn at *
    generalize hKn : 20 + rK = Kn at *
    generalize hTn : 1 + rT = Tn at *
    have qH : Hn ≤ 11 := by omega
    have qH1 : 1 ≤ Hn := by omega
    have qW : Wn ≤ 8 := by omega
    have qC : Cn ≠ 34 := by omega
    have qK : Kn ≤ 60 := by omega
    have qT : 1 ≤ Tn := by omega
    have qT3 : Hold (Tn ≤ 3) := (by omega : Tn ≤ 3)
    clear eH eW eC bH bW bC bK bT hHn hWn hCn hKn hTn
    (with_reducible rename Fr _ _ _ _ => F9)
    obtain ⟨m2, F10⟩ := pins2 F9 (by decide +kernel)
    clear F9
    k_with_none
    k_with "CompEnd" => refine hold ?_
    k_with "pyIter ref" => refine hold ?_
    k_with "call ref" => refine hold ?_
    k_dflt (refine' comp_assign ?cF ?cL ?c1 ?c2 ?c3 ?c4 ?c5 ?c6 ?cN ?_ ?cs)
    case cF => k_asm
    case cL => rfl
    case c1 => with_unfolding_all rfl
    case c2 => with_unfolding_all rfl
    case c3 => rfl
    case c4 => decide
    case c5 => rfl
    case c6 => rfl
    case cN => exact newEnv_plain (by decide) rfl
    case cs => intro _; rfl
    k_steps
    unfold Hold
    (with_reducible rename IsRange _ _ _ _ _ _ _ _ => R9)
    refine CompAt.range rfl rfl (by rfl) R9 (by omega) (by k_asm) (by k_asm) False (fun z => z.elim) (fun i ys nw => nw = _ ∧ IntsAre ys (halfInts i)) ⟨rfl, .nil⟩ ?turn ?fin
    case turn =>
      rintro i ti I oI C oC D' m₂ ys nw h' tk' E' hi _ ⟨rfl, hys⟩ hC hx F0 N0 off ne
      k_steps
      unfold Hold
      k_dflt (refine' Ctr.use (halved_ctr _ _ _ _ _ _ _ i (by omega) Cn qC ti _) ?ud171a ?ud171b ?ud171c ?ud171d ?ud171e ?ud171f ?ud171g ?ud171h ?ud171i)
      case ud171a => k_asm
      case ud171b => k_asm
      case ud171c => k_asm
      case ud171d => k_asm
      case ud171e => k_asm
      case ud171f => first | exact rfl | assumption
      case ud171g => ktr_room
      case ud171h => ktr_units
      intro t4 h4 tk4 F4 N4
      (try dsimp only)
      k_steps
      unfold Hold
      exact LCg.CompEnd.intro (by assumption) N4 _ (fun p hp => hp) off trivial ⟨rfl, half_next hys⟩
    case fin =>
      rintro D2 ys nw h' tk' ⟨rfl, hys⟩ hl4 F0 N0 off
      have N1 := pick6 N0
      obtain ⟨m3, F1⟩ := pins_more F0
      have off1 := (show LCg.Off1 D2 [_, _, _, _, _] from off).2
      simp only [LCg.Off1, and_true] at off1
      clear N0 F0 off R9
      dsimp only
      k_with_none
      k_with "exec Assign cons ListComp" => refine hold ?_
      k_with "CompEnd" => refine hold ?_
      k_with "pyIter ref" => refine hold ?_
      k_with "call ref" => refine hold ?_
      k_steps
      unfold Hold
      refine wpAny_with_toks (n := 1) (Nat.succ_le_succ (Nat.zero_le _)) ?_
      k_dflt (refine' Ctr.use (containsInts_ctr _ _ _ _ _ _ _ D2 ys ys.length (halfInts Hn) (-1) _ hys (List.Mem.head _)) ?ud181a ?ud181b ?ud181c ?ud181d ?ud181e ?ud181f ?ud181g ?ud181h ?ud181i)
      case ud181a => k_asm
      case ud181b => k_asm
      case ud181c => k_asm
      case ud181d => k_asm
      case ud181e => k_asm
      case ud181f => first | exact rfl | assumption
      case ud181g => ktr_room
      case ud181h => ktr_units
      intro t5 h5 tk5 F5 N5 htk5
      (try dsimp only)
      rw [no_minus]
      k_steps
      unfold Hold
      k_dflt (refine' comp_assign ?cF ?cL ?c1 ?c2 ?c3 ?c4 ?c5 ?c6 ?cN ?_ ?cs)
      case cF => k_asm
      case cL => rfl
      case c1 => with_unfolding_all rfl
      case c2 => with_unfolding_all rfl
      case c3 => rfl
      case c4 => decide
      case c5 => rfl
      case c6 => rfl
      case cN => exact newEnv_plain (by decide) rfl
      case cs => intro _; rfl
      refine wpAny_with_toks (n := 1) htk5 ?_
      k_steps
      unfold Hold
      (with_reducible rename News _ _ _ _ => N9)
      (with_reducible rename IsRange _ _ _ _ _ _ _ _ => R9)
      (with_reducible rename 1 ≤ _ => htk9)
      (with_reducible rename CodeHd _ _ _ => C9)
      obtain ⟨nw1, e1, N10⟩ := split44 N9
      have ne44 : ∀ p ∈ nw1, p.1 ≠ 44 := by
        rw [e1]
        exact List.forall_mem_cons.mpr ⟨Ne.symm off1.2.2.2, List.forall_mem_cons.mpr ⟨Ne.symm o1, List.forall_mem_cons.mpr ⟨Nat.ne_of_gt (Nat.lt_succ_of_lt (Nat.lt_succ_of_lt (Nat.lt_succ_of_lt (by assumption)))), List.forall_mem_cons.mpr ⟨Nat.ne_of_gt (Nat.lt_succ_of_lt (Nat.lt_succ_of_lt (by assumption))), List.forall_mem_nil _⟩⟩⟩⟩
      refine CompAt.range rfl rfl (by rfl) R9 (by omega) (by k_asm) N10 True (fun _ => htk9) (WorthJ nw1) (.inl ⟨rfl, rfl, rfl⟩) ?turn ?fin
      case turn =>
        clear N9 N10 R9 htk9
        rintro i ti I oI C oC D' m₂ ys' nw h' tk' E' hi ht hJ hC hx F0 N0 off ne
        obtain ⟨ht0, htk⟩ := ht trivial
        have off3 := off.mem
        rcases hJ with ⟨rfl, rfl, rfl⟩ | ⟨hi0, hys', c', oc, vc, tq, rfl, ho, hv, hne1, hne2⟩
        · have n1 : 44 ≠ I ∧ 44 ≠ C ∧ 44 ≠ D' := off3 _ (.head _)
          have hap : ∀ p ∈ (I, oI) :: (C, oC) :: (D', LCg.lst []) :: nw1, p.1 ≠ 44 :=
            List.forall_mem_cons.mpr ⟨Ne.symm n1.1, List.forall_mem_cons.mpr ⟨Ne.symm n1.2.1, List.forall_mem_cons.mpr ⟨Ne.symm n1.2.2, ne44⟩⟩⟩
          have N1 := news_sub N0 (l2 := (44, tabObj #[]) :: (I, oI) :: (C, oC) :: (D', LCg.lst []) :: nw1) (fun p hp => by
            simp only [List.mem_cons] at hp ⊢
            grind)
          have hx' : m₂ (Str.ofString "marks") = some (.int 0 ti) := hx
          clear N0 hx
          k_steps
          unfold Hold
          k_dflt (refine' Claim0.use (worth0_ctr _ _ _ _ _ _ ((I, oI) :: (C, oC) :: (D', LCg.lst []) :: nw1) ti hap) C9 ?ud182a ?ud182b ?ud182c ?ud182d ?ud182e ?ud182f ?ud182g ?ud182h ?ud182i)
          case ud182a => k_asm
          case ud182b => k_asm
          case ud182c => k_asm
          case ud182d => k_asm
          case ud182e => k_asm
          case ud182f => first | exact rfl | assumption
          case ud182g => ktr_room
          case ud182h => ktr_units
          rintro v own h2 tk2 c' oc' vc tq ⟨⟨t, rfl⟩, rfl⟩ F2 N2 l2 ho hv
          simp only [List.nil_append] at N2
          (try dsimp only)
          k_steps
          unfold Hold
          have lI := l2 _ (.tail _ (.head _))
          have lC := l2 _ (.tail _ (.tail _ (.head _)))
          have lD := l2 _ (.tail _ (.tail _ (.tail _ (.head _))))
          have l44 := l2 _ (.head _)
          refine LCg.CompEnd.intro F2 N2 ((44, tabObj #[rawInt 22, rawInt 4, .ref c']) :: (c', oc') :: nw1) (fun p hp => ?_) ⟨n1, ⟨Nat.ne_of_gt lI, Nat.ne_of_gt lC, Nat.ne_of_gt lD⟩, off.2⟩ trivial (.inr ⟨Nat.succ_pos _, worth_first, c', oc', vc, tq, rfl, ho, hv, fun p hp => Nat.ne_of_lt (l2 p (.tail _ (.tail _ (.tail _ (.tail _ hp))))), Nat.ne_of_lt l44⟩)
          simp only [List.mem_cons] at hp ⊢
          grind
        · k_steps
          unfold Hold
          k_dflt (refine' WorthClaim.use (worth_ctr _ _ _ _ _ _ _ i ti (by omega) ht0 c' oc vc tq (tabIn_mk ?tm1 ?tm2 ho hv)) C9 htk ?ud183a ?ud183b ?ud183c ?ud183d ?ud183e ?ud183f ?ud183g ?ud183h ?ud183i)
          case ud183a => k_asm
          case ud183b => k_asm
          case ud183c => k_asm
          case ud183d => k_asm
          case ud183e => k_asm
          case ud183f => first | exact rfl | assumption
          case ud183g => ktr_room
          case ud183h => ktr_units
          case tm1 => k_mem
          case tm2 => k_mem
          intro t' h2 tk2 F2 N2
          (try dsimp only)
          k_steps
          unfold Hold
          exact LCg.CompEnd.intro F2 N2 _ (fun p hp => hp) off trivial (.inr ⟨Nat.succ_pos _, worth_next hys', c', oc, vc, tq, rfl, ho, hv, hne1, hne2⟩)
      case fin =>
        rintro D3 ys' nw h' tk' hJ hl F0 N0 off
        rcases hJ with ⟨h0, _, _⟩ | ⟨hi0, hys', c', oc, vc, tq, rfl, ho, hv, hne1, hne2⟩
        · omega
        obtain ⟨m4, F11⟩ := pins_more F0
        have off2 := off
        rw [e1] at N0 off2
        rw [e1] at hne1
        have hne3 := hne1
        simp only [LCg.Off1, and_true] at off2
        simp only [List.forall_mem_cons, List.forall_mem_nil, and_true, List.not_mem_nil, false_implies, implies_true] at hne3
        clear F0 off N9 N10 R9 hne1 ne44 e1
        clear nw1
        dsimp only
        k_with_none
        k_with "eval ListComp" => refine hold ?_
        k_with "CompEnd" => refine hold ?_
        k_with "CompSrc" => refine hold ?_
        k_with "pyIter ref" => refine hold ?_
        k_with "call ref" => refine hold ?_
        k_with "exec Assign cons ListComp" => refine hold ?_
        k_steps
        unfold Hold
        obtain ⟨NW, eNW, N1⟩ := split7 N0
        have hmD : (D3, listOf ys'.toArray ys'.length) ∈ NW := by rw [eNW]; exact .head _
        k_dflt (refine' comp_assign ?cF ?cL ?c1 ?c2 ?c3 ?c4 ?c5 ?c6 ?cN ?_ ?cs)
        case cF => k_asm
        case cL => rfl
        case c1 => with_unfolding_all rfl
        case c2 => with_unfolding_all rfl
        case c3 => rfl
        case c4 => decide
        case c5 => rfl
        case c6 => rfl
        case cN => exact newEnv_cell rfl (fun _ => rfl) (fun _ => rfl)
        case cs => intro _; rfl
        k_steps
        unfold Hold
        refine CompAt.listCell (its := ys') (k := ys'.length) rfl (fun _ => rfl) rfl (by k_asm) N1 hmD (by omega) (MeantJ Wn NW) ⟨[], rfl, rfl, fun j hj => absurd hj (Nat.not_lt_zero _)⟩ (fun i ys nw hJ => by obtain ⟨rows, rfl, _⟩ := hJ; exact List.mem_append.mpr (.inr hmD)) ?turn ?fin
        case turn =>
          rintro i v I oI C oC D' c oc2 m₂ zs nw h2 tk2 E' hv2 hoc hc ⟨rows, rfl, hR⟩ hC F N off hne ne
          obtain ⟨tv, rfl, hi⟩ := worths_at hys' hv2
          have hmw := List.mem_append.mpr (.inr (mem6 eNW) : _ ∈ rows ∨ _ ∈ NW)
          generalize hrest : rows ++ NW = rest at N off hne hmw
          have hsl : sizeLine = 16777216 := sizeLine_eq
          k_dflt (refine LCg.ListComp_U (F₀ := by k_asm) (by with_unfolding_all rfl) (by decide) (by rfl) (by decide) (by rfl) ?_)
          k_steps
          unfold Hold
          (with_reducible rename IsRange _ _ _ _ _ _ _ _ => R9)
          k_dflt (refine LCg.CompSrc.range (n := Wn) (by rfl) (by k_asm) (by k_asm) R9 (small_one (by omega) (by omega) (by omega) (by omega)) (by rw [rangeSize_nat]; omega) (by omega) ?_)
          intro g1
          refine rest_J (fun j zs2 nw => nw = _ ∧ IntsAre zs2 (rowInts worth i j)) ⟨rfl, .nil⟩ ?b1 ?b2
          case b1 =>
            rintro j v I2 oI2 C2 oC2 D2' m₃ zs2 nw h3 tk3 E2 hj ⟨tv2, rfl⟩ ⟨rfl, hz⟩ hC2 hx2 F2 N2 off2' ne2
            have ex : Builtin.bitXor ((worth i : Nat) : Int) (0 + (j : Int)) = ((worth i ^^^ j : Nat) : Int) := by rw [Int.zero_add]; exact xor_small (worth_small i) (by omega)
            k_steps
            unfold Hold
            k_dflt (refine' Ctr.use (xor_ctr _ _ _ _ _ _ _ _ _ _ tv tv2 ex) ?ud201a ?ud201b ?ud201c ?ud201d ?ud201e ?ud201f ?ud201g ?ud201h ?ud201i)
            case ud201a => k_asm
            case ud201b => k_asm
            case ud201c => k_asm
            case ud201d => k_asm
            case ud201e => k_asm
            case ud201f => first | exact rfl | assumption
            case ud201g => ktr_room
            case ud201h => ktr_units
            intro t4 h4 tk4 F4 N4
            (try dsimp only)
            (try k_fold)
            k_steps
            unfold Hold
            exact LCg.CompEnd.intro F4 N4 _ (fun p hp => hp) off2' trivial ⟨rfl, row_next hz⟩
          case b2 =>
            rintro zs2 nw ⟨rfl, hz⟩
            k_steps
            unfold Hold
            (with_reducible rename News _ _ _ _ => N9)
            (with_reducible rename _ ∧ _ ∧ _ ∧ _ ∧ LCg.Off1 _ rest => o9)
            refine LCg.CompEnd.intro (by assumption) N9 ((c, oc2) :: (_, LCg.lst zs2) :: rest) (fun p hp => ?_) ⟨off.1, ⟨Ne.symm o9.1, Ne.symm o9.2.1, Ne.symm o9.2.2.1⟩, off.2⟩ trivial ⟨oc2, (_, LCg.lst zs2) :: rest, rfl, hoc, List.forall_mem_cons.mpr ⟨Ne.symm o9.2.2.2.1, hne⟩, (_, LCg.lst zs2) :: rows, by rw [← hrest]; rfl, rows_next hR hz⟩
            simp only [List.mem_cons] at hp ⊢
            grind
        case fin =>
          rintro D4 zs nw h2 tk2 ⟨rows, rfl, hR⟩ hl4 F N off
          rw [hl] at hR
          obtain ⟨m5, F12⟩ := pins_more F
          clear F hmD hl4 N1 N0
          dsimp only
          k_with_none
          k_with "binaryOp Add int int" => (refine add_is (by first | with_reducible assumption | with_unfolding_all assumption) ?_)
          k_with "subscriptTail Name Constant ref int" => (k_dflt (refine' item_val ?N ?m ?x ?z ?z2 ?_ ?s ?t; (case N => k_asm); (case m => k_mem); (case x => exact rfl); (case z => omega); (case z2 => omega); (case s => with_unfolding_all rfl); (case t => kmk_pure)))
          k_with "compareOp NotEq ref ref" => refine hold ?_
          k_with "pyIter ref" => refine hold ?_
          k_with "call ref" => refine hold ?_
          obtain ⟨hm44, hmc, hmh, hmd, hms, hmw⟩ := mems7 rows eNW
          have hrs : ∀ p ∈ rows, p ∈ rows ++ NW := fun p hp => List.mem_append.mpr (.inl hp)
          generalize hrest : rows ++ NW = rest at N off hm44 hmc hmh hmd hms hmw hrs
          k_steps
          unfold Hold
          (with_reducible rename CodeHd _ _ _ => C9)
          k_dflt (refine' TableClaim.use (table_ctr _ _ _ _ _ _ _ worth Hn Wn (by omega) (by omega) D2 _ ys ys.length (.tail _ hmh) hys (fun m h hm hh => table_in (by omega) (by omega)) (fun m h hm hh => table_out (by omega) (by omega))) ?ud221a ?ud221b ?ud221c ?ud221d ?ud221e ?ud221f ?ud221g ?ud221h ?ud221i)
          case ud221a => k_asm
          case ud221b => k_asm
          case ud221c => k_asm
          case ud221d => k_asm
          case ud221e => k_asm
          case ud221f => first | exact rfl | assumption
          case ud221g => ktr_room
          case ud221h => ktr_units
          intro T2 tvs nt rows2 h3 tk3 F3 N3 hR2
          (try dsimp only)
          k_steps
          unfold Hold
          have sub1 : ∀ p ∈ rows2, p ∈ (T2, listOf tvs.toArray nt) :: (rows2 ++ (D4, LCg.lst zs) :: rest) := fun p hp => .tail _ (List.mem_append.mpr (.inl hp))
          have sub2 : ∀ p ∈ (D4, LCg.lst zs) :: rest, p ∈ (T2, listOf tvs.toArray nt) :: (rows2 ++ (D4, LCg.lst zs) :: rest) := fun p hp => .tail _ (List.mem_append.mpr (.inr hp))
          refine rows_ne N3 (.head _) hR2 sub1 (sub2 _ (.head _)) hR (fun p hp => sub2 p (.tail _ (hrs p hp))) (by units_room) ?_
          have N4 := news_sub N3 (l2 := rest) (fun p hp => sub2 p (.tail _ hp))
          clear N3 sub1 sub2 N
          k_steps
          unfold Hold
          k_dflt (refine' ToldClaim.use (told_ctr _ _ _ _ _ _ _ Tn Kn Cn _ _ _ qT qT3 qK qC c' oc vc tq (tabIn_mk ?tm1 ?tm2 ho hv)) C9 ?ud222a ?ud222b ?ud222c ?ud222d ?ud222e ?ud222f ?ud222g ?ud222h ?ud222i)
          case ud222a => k_asm
          case ud222b => k_asm
          case ud222c => k_asm
          case ud222d => k_asm
          case ud222e => k_asm
          case ud222f => first | exact rfl | assumption
          case ud222g => ktr_room
          case ud222h => ktr_units
          case tm1 => k_mem
          case tm2 => k_mem
          intro h5 tk5 F5 N5
          (try dsimp only)
          k_steps)
end Mine
end
theorem PySem.Challenge.cw_wj0010_01_holds : PySem.Challenge.rw_wj0010_01.Holds := by
  exact Mine.law_holds
