import PyProof.Rows.All
import Wide.All
import OpenK.AllK
import Wide.FinOn
import PySem.Challenge.RW_tr0039_01

set_option Elab.async false
set_option linter.unusedVariables false
set_option linter.unusedSimpArgs false
namespace Mine
open PySem PySem.W PyProof.Rows PySem.Calls
-- TrTop
section
open PySem PySem.W PyProof.Rows
set_option maxRecDepth 100000 in
set_option maxHeartbeats 8000000 in
open_top hd for PySem.Challenge.rw_tr0039_01
end
-- TrBase
section
open PySem PySem.W PyProof.Rows PySem.Calls
abbrev ClmV (w : World) (p : PySem.Program) (loose : List Str) (mean : ExcName → Option Value) (mg mb : Str → Option Value) (f : Addr) (dk uk : Nat) (news : List (Addr × Obj)) (vs : List Value) (R : Tok → Value) : Prop :=
  ∀ (dp un : Nat) (gd : Option (List Code)) (cn : Str) (cs : Scope) (a : Addr) (ccd : Value) (cl : List (Str × Addr)) (outer : List Env) (A₀ : Around) (base h₀ : Heap) (L : Addr) (m : Str → Option Value) (s : Shared) (Q E : Value → Shared → Prop),
    Below A₀ base outer h₀ → Fr h₀ L s.heap m → Frag.In (Mine.hd.heap_39 w.params) h₀ → News h₀ L s.heap news → Top p loose mean mg mb h₀ → cs.kind = .function →
    dp + dk < recursionLimit → un + uk < cLine →
    (∀ (t : Tok) (h' : Heap) (tk' : Nat), Fr h₀ L h' m → News h₀ L h' news → Q (R t) { s with heap := h', toks := tk' }) →
      wpAny (model PySem.Challenge.rw_tr0039_01.row.prog w) (ktrTop dp un gd cn cs L a ccd cl outer) (call (.ref f) vs) Q E s
abbrev ClmL (w : World) (p : PySem.Program) (loose : List Str) (mean : ExcName → Option Value) (mg mb : Str → Option Value) (f : Addr) (dk uk : Nat) (news : List (Addr × Obj)) (vs : List Value) (ms : List Int) : Prop :=
  ∀ (dp un : Nat) (gd : Option (List Code)) (cn : Str) (cs : Scope) (a : Addr) (ccd : Value) (cl : List (Str × Addr)) (outer : List Env) (A₀ : Around) (base h₀ : Heap) (L : Addr) (m : Str → Option Value) (s : Shared) (Q E : Value → Shared → Prop),
    Below A₀ base outer h₀ → Fr h₀ L s.heap m → Frag.In (Mine.hd.heap_39 w.params) h₀ → News h₀ L s.heap news → Top p loose mean mg mb h₀ → cs.kind = .function →
    dp + dk < recursionLimit → un + uk < cLine →
    (∀ (l : Addr) (us : List Value) (n : Nat) (h' : Heap) (tk' : Nat), Fr h₀ L h' m → News h₀ L h' ((l, listOf us.toArray n) :: news) → (∀ q ∈ news, q.1 ≠ l) → IntsAre us ms → Q (.ref l) { s with heap := h', toks := tk' }) →
      wpAny (model PySem.Challenge.rw_tr0039_01.row.prog w) (ktrTop dp un gd cn cs L a ccd cl outer) (call (.ref f) vs) Q E s
structure StopHere (p : Prop) : Prop where
  go : p
theorem room0 {a n lim : Nat} (h : a + n < lim) : a < lim := Nat.lt_of_le_of_lt (Nat.le_add_right a n) h
theorem room1 {a k n lim : Nat} (h : a + n < lim) (hk : Nat.ble k n = true) : a + k < lim := Nat.lt_of_le_of_lt (Nat.add_le_add_left (Nat.le_of_ble_eq_true hk) a) h
theorem room2 {a b k n lim : Nat} (h : a + n < lim) (hk : Nat.ble (b + k) n = true) : a + b + k < lim := Nat.add_assoc a b k ▸ room1 h hk
theorem room3 {a b c k n lim : Nat} (h : a + n < lim) (hk : Nat.ble (b + (c + k)) n = true) : a + b + c + k < lim := Nat.add_assoc (a + b) c k ▸ room2 h hk
theorem le_up {a n m : Nat} (h : a ≤ n) (hk : Nat.ble n m = true) : a ≤ m := Nat.le_trans h (Nat.le_of_ble_eq_true hk)
section
variable {w : World} {p : PySem.Program} {loose : List Str} {mean : ExcName → Option Value} {mg mb : Str → Option Value} {f : Addr} {dk uk : Nat} {news : List (Addr × Obj)} {vs : List Value} {R : Tok → Value} {ms : List Int}
    {dp un : Nat} {gd : Option (List Code)} {cn : Str} {cs : Scope} {a : Addr} {ccd : Value} {cl : List (Str × Addr)} {outer : List Env} {A₀ : Around} {base h₀ : Heap} {L : Addr} {m : Str → Option Value} {s : Shared} {Q E : Value → Shared → Prop}
theorem useV (C : ClmV w p loose mean mg mb f dk uk news vs R)
    (B : Below A₀ base outer h₀) (F : Fr h₀ L s.heap m) (X : Frag.In (Mine.hd.heap_39 w.params) h₀) (N : News h₀ L s.heap news) (T : Top p loose mean mg mb h₀) (hk : cs.kind = .function) (hd : dp + dk < recursionLimit) (hu : un + uk < cLine)
    (ret : ∀ (t : Tok) (h' : Heap) (tk' : Nat), Fr h₀ L h' m → News h₀ L h' news → Q (R t) { s with heap := h', toks := tk' }) : wpAny (model PySem.Challenge.rw_tr0039_01.row.prog w) (ktrTop dp un gd cn cs L a ccd cl outer) (call (.ref f) vs) Q E s :=
  C dp un gd cn cs a ccd cl outer A₀ base h₀ L m s Q E B F X N T hk hd hu ret
theorem useL (C : ClmL w p loose mean mg mb f dk uk news vs ms)
    (B : Below A₀ base outer h₀) (F : Fr h₀ L s.heap m) (X : Frag.In (Mine.hd.heap_39 w.params) h₀) (N : News h₀ L s.heap news) (T : Top p loose mean mg mb h₀) (hk : cs.kind = .function) (hd : dp + dk < recursionLimit) (hu : un + uk < cLine)
    (ret : ∀ (l : Addr) (us : List Value) (n : Nat) (h' : Heap) (tk' : Nat), Fr h₀ L h' m → News h₀ L h' ((l, listOf us.toArray n) :: news) → (∀ q ∈ news, q.1 ≠ l) → IntsAre us ms → Q (.ref l) { s with heap := h', toks := tk' }) :
    wpAny (model PySem.Challenge.rw_tr0039_01.row.prog w) (ktrTop dp un gd cn cs L a ccd cl outer) (call (.ref f) vs) Q E s :=
  C dp un gd cn cs a ccd cl outer A₀ base h₀ L m s Q E B F X N T hk hd hu ret
theorem useV2 (B : Below A₀ base outer h₀) (F : Fr h₀ L s.heap m) (X : Frag.In (Mine.hd.heap_39 w.params) h₀) (N : News h₀ L s.heap news) (T : Top p loose mean mg mb h₀) (hk : cs.kind = .function) (hd : dp + dk < recursionLimit) (hu : un + uk < cLine)
    (C : ClmV w p loose mean mg mb f dk uk news vs R)
    (ret : ∀ (t : Tok) (h' : Heap) (tk' : Nat), Fr h₀ L h' m → News h₀ L h' news → Q (R t) { s with heap := h', toks := tk' }) : wpAny (model PySem.Challenge.rw_tr0039_01.row.prog w) (ktrTop dp un gd cn cs L a ccd cl outer) (call (.ref f) vs) Q E s := useV C B F X N T hk hd hu ret
theorem useL2 (B : Below A₀ base outer h₀) (F : Fr h₀ L s.heap m) (X : Frag.In (Mine.hd.heap_39 w.params) h₀) (N : News h₀ L s.heap news) (T : Top p loose mean mg mb h₀) (hk : cs.kind = .function) (hd : dp + dk < recursionLimit) (hu : un + uk < cLine)
    (C : ClmL w p loose mean mg mb f dk uk news vs ms)
    (ret : ∀ (l : Addr) (us : List Value) (n : Nat) (h' : Heap) (tk' : Nat), Fr h₀ L h' m → News h₀ L h' ((l, listOf us.toArray n) :: news) → (∀ q ∈ news, q.1 ≠ l) → IntsAre us ms → Q (.ref l) { s with heap := h', toks := tk' }) :
    wpAny (model PySem.Challenge.rw_tr0039_01.row.prog w) (ktrTop dp un gd cn cs L a ccd cl outer) (call (.ref f) vs) Q E s := useL C B F X N T hk hd hu ret
end
end
local macro_rules | `(tactic| walk_at $s:str) => `(tactic| k_extra $s)
local macro_rules | `(tactic| ktr_room) => `(tactic| first | exact room2 (by assumption) rfl | exact room1 (by assumption) rfl | exact room0 (by assumption) | exact room3 (by assumption) rfl)
local macro_rules | `(tactic| ktr_units) => `(tactic| ktr_room)
local macro_rules | `(tactic| k_ne) => `(tactic| (refine neN ?_; (try dsimp only); with_reducible first | (apply Nat.ne_of_lt; apply And.left; (iterate 14 (first | done | assumption | apply And.right)); done) | (apply Nat.ne_of_gt; apply And.left; (iterate 14 (first | done | assumption | apply And.right)); done) | (apply Nat.ne_of_lt; (iterate 14 (first | done | assumption | apply And.right)); done) | (apply Nat.ne_of_gt; (iterate 14 (first | done | assumption | apply And.right)); done)))
local macro_rules | `(tactic| news_mem) => `(tactic| assumption)
local macro_rules | `(tactic| k_mem) => `(tactic| first | assumption | exact List.mem_append_left _ (by assumption))
local macro_rules | `(tactic| k_all) => `(tactic| assumption)
local macro_rules | `(tactic| size_fits) => `(tactic| exact Nat.le_of_ble_eq_true rfl)
-- TrL
section
open PySem PySem.W PyProof.Rows PySem.Calls
noncomputable def nameL : List Nat → List Nat
  | [] => []
  | c :: r => if c = 34 then (match r with | 34 :: r' => 34 :: nameL r' | _ => []) else c :: nameL r
termination_by l => l.length
noncomputable def nameS (x : Str) : Str := ⟨(nameL (x.cps.toList.drop 5)).toArray⟩
def PInv (x : Str) (i : Int) (d : Str) : Prop := d.cps.toList ++ nameL (x.cps.toList.drop i.toNat) = nameL (x.cps.toList.drop 5)
theorem item_code {x : Str} {i : Int} (h0 : 0 ≤ i) (h1 : i < x.length) : Txt.item x i = ⟨#[x.cps.toList.getD i.toNat 0]⟩ := by
  rw [item_meets ⟨h0, h1⟩]
  congr 2
  simp [Array.getD_eq_getD_getElem?, List.getD_eq_getElem?_getD]
theorem drop_code {x : Str} {i : Int} (h0 : 0 ≤ i) (h1 : i < x.length) : x.cps.toList.drop i.toNat = x.cps.toList.getD i.toNat 0 :: x.cps.toList.drop (i + 1).toNat := by
  have h : i.toNat < x.cps.toList.length := by
    exact (Int.toNat_lt h0).mpr h1
  rw [List.drop_eq_getElem_cons h]
  have e : (i + 1).toNat = i.toNat + 1 := Int.toNat_add h0 (by decide)
  rw [e, List.getD_eq_getElem?_getD, List.getElem?_eq_getElem h]
  rfl
theorem quote_is : (Str.ofString "\"") = ⟨#[34]⟩ := by decide +kernel
theorem is_quote {c : Nat} : ((⟨#[c]⟩ : Str) == Str.ofString "\"") = decide (c = 34) := by
  rw [quote_is]
  by_cases h : c = 34
  · subst h; rfl
  · have : (⟨#[c]⟩ : Str) ≠ ⟨#[34]⟩ := by
      intro e; injection e with e; simp at e; exact h e
    rw [decide_eq_false h]
    exact beq_eq_false_iff_ne.mpr this
theorem nameL_other {c : Nat} {r : List Nat} (h : c ≠ 34) : nameL (c :: r) = c :: nameL r := by unfold nameL; simp only [h, if_false]; rw [← nameL.eq_def]
theorem nameL_pair {r : List Nat} : nameL (34 :: 34 :: r) = 34 :: nameL r := by rw [nameL]; simp
theorem nameL_end {r : List Nat} (h : r.head? ≠ some 34) : nameL (34 :: r) = [] := by
  unfold nameL
  cases r with
  | nil => rfl
  | cons c r =>
    have : c ≠ 34 := fun e => h (by rw [e]; rfl)
    simp only [if_true]
    split
    · rename_i e; cases e; exact absurd rfl this
    · rfl
theorem nameL_nil : nameL [] = [] := by rw [nameL]
section
variable {x d : Str} {i : Int}
theorem pst_less (h : 5 ≤ i) (h2 : i < (x.length : Int)) : x.length - (i + 1).toNat < x.length - i.toNat := by
  have h0 : 0 ≤ i := Int.le_trans (by decide) h
  rw [show (i + 1).toNat = i.toNat + 1 from Int.toNat_add h0 (by decide)]
  exact Nat.sub_lt_sub_left ((Int.toNat_lt h0).mpr h2) (Nat.lt_succ_self _)
theorem pst_less2 (h : 5 ≤ i) (h4 : ¬ (x.length : Int) ≤ i + 1) : x.length - (i + 1 + 1).toNat < x.length - i.toNat := by
  have h0 : 0 ≤ i := Int.le_trans (by decide) h
  rw [show (i + 1 + 1).toNat = i.toNat + 1 + 1 from (Int.toNat_add (Int.le_add_one h0) (by decide)).trans (congrArg (· + 1) (Int.toNat_add h0 (by decide)))]
  exact Nat.sub_lt_sub_left ((Int.toNat_lt h0).mpr (Int.lt_trans (Int.lt_add_one_of_le (Int.le_refl i)) (Int.not_le.mp h4))) (Nat.lt_succ_of_lt (Nat.lt_succ_self _))
theorem snoc_len (d : Str) (c : Nat) : (d ++ (⟨#[c]⟩ : Str)).length = d.length + 1 := by
  show (d.cps ++ #[c]).size = _
  rw [Array.size_append]; rfl
theorem snoc_list (d : Str) (c : Nat) : (d ++ (⟨#[c]⟩ : Str)).cps.toList = d.cps.toList ++ [c] := Array.toList_append
theorem five0 (h : 5 ≤ i) : 0 ≤ i := Int.le_trans (by decide) h
theorem pst_start (hl : 5 ≤ x.length) : 5 ≤ (5:Int) ∧ (5:Int) ≤ (x.length : Int) ∧ ((Str.ofString "").length : Int) ≤ 5 ∧ PInv x 5 (Str.ofString "") :=
  ⟨Int.le_refl _, Int.ofNat_le.mpr hl, by decide, rfl⟩
theorem pst_plain (h : 5 ≤ i) (h2 : i < (x.length : Int)) (h3 : (d.length : Int) ≤ i) (hp : PInv x i d) (hq : (Txt.item x i == Str.ofString "\"") = false) :
    5 ≤ i + 1 ∧ i + 1 ≤ (x.length : Int) ∧ ((d ++ Txt.item x i).length : Int) ≤ i + 1 ∧ PInv x (i + 1) (d ++ Txt.item x i) := by
  unfold PInv at hp ⊢
  rw [item_code (five0 h) h2] at hq ⊢
  rw [is_quote, decide_eq_false_iff_not] at hq
  rw [snoc_len, snoc_list, ← hp, drop_code (five0 h) h2, nameL_other hq, List.append_assoc]
  exact ⟨Int.le_add_one h, h2, Int.add_le_add_right h3 1, rfl⟩
theorem pst_pair (h : 5 ≤ i) (h2 : i < (x.length : Int)) (h3 : (d.length : Int) ≤ i) (hp : PInv x i d) (hq : (Txt.item x i == Str.ofString "\"") = true) (h4 : ¬ (x.length : Int) ≤ i + 1) (hr : (Txt.item x (i + 1) != Str.ofString "\"") = false) :
    5 ≤ i + 1 + 1 ∧ i + 1 + 1 ≤ (x.length : Int) ∧ ((d ++ Txt.item x i).length : Int) ≤ i + 1 + 1 ∧ PInv x (i + 1 + 1) (d ++ Txt.item x i) := by
  unfold PInv at hp ⊢
  rw [item_code (five0 h) h2] at hq ⊢
  rw [item_code (Int.le_add_one (five0 h)) (Int.not_le.mp h4)] at hr
  rw [is_quote, decide_eq_true_eq] at hq
  rw [bne, is_quote, Bool.not_eq_false', decide_eq_true_eq] at hr
  rw [snoc_len, snoc_list, ← hp, drop_code (five0 h) h2, drop_code (i := i + 1) (Int.le_add_one (five0 h)) (Int.not_le.mp h4), hq, hr, nameL_pair, List.append_assoc]
  exact ⟨Int.le_add_one (Int.le_add_one h), Int.not_le.mp h4, Int.le_add_one (Int.add_le_add_right h3 1), rfl⟩
theorem str_of_list {d : Str} {l : List Nat} (h : d.cps.toList = l) : d = ⟨l.toArray⟩ := by
  subst h; cases d; simp
theorem pst_end1 (hp : PInv x i d) (h2 : ¬ i < (x.length : Int)) : d = nameS x := by
  unfold PInv at hp
  rw [List.drop_eq_nil_of_le, nameL_nil, List.append_nil] at hp
  · exact str_of_list hp
  · exact (Int.le_toNat (Int.le_trans (Int.natCast_nonneg _) (Int.not_lt.mp h2))).mpr (Int.not_lt.mp h2)
theorem pst_end2 (h : 5 ≤ i) (hp : PInv x i d) (h2 : i < (x.length : Int)) (hq : (Txt.item x i == Str.ofString "\"") = true) (h4 : (x.length : Int) ≤ i + 1) : d = nameS x := by
  unfold PInv at hp
  rw [item_code (five0 h) h2] at hq
  rw [is_quote, decide_eq_true_eq] at hq
  rw [drop_code (five0 h) h2, hq, List.drop_eq_nil_of_le (i := (i+1).toNat), nameL_end (r := []) (fun e => nomatch e), List.append_nil] at hp
  · exact str_of_list hp
  · exact (Int.le_toNat (Int.le_add_one (five0 h))).mpr h4
theorem pst_end3 (h : 5 ≤ i) (hp : PInv x i d) (h2 : i < (x.length : Int)) (hq : (Txt.item x i == Str.ofString "\"") = true) (h4 : ¬ (x.length : Int) ≤ i + 1) (hr : (Txt.item x (i + 1) != Str.ofString "\"") = true) : d = nameS x := by
  unfold PInv at hp
  rw [item_code (five0 h) h2] at hq
  rw [item_code (Int.le_add_one (five0 h)) (Int.not_le.mp h4)] at hr
  rw [is_quote, decide_eq_true_eq] at hq
  rw [bne, is_quote, Bool.not_eq_true', decide_eq_false_iff_not] at hr
  rw [drop_code (five0 h) h2, hq, drop_code (i := i + 1) (Int.le_add_one (five0 h)) (Int.not_le.mp h4), nameL_end (r := _ :: _) (fun e => hr (Option.some.inj e)), List.append_nil] at hp
  exact str_of_list hp
end
end
-- TrP
section
open PySem PySem.W PyProof.Rows PySem.Calls
set_option maxRecDepth 100000 in
set_option maxHeartbeats 8000000 in
theorem parse_spec (w : World) (p : PySem.Program) (loose : List Str) (mean : ExcName → Option Value) (mg mb : Str → Option Value) (news : List (Addr × Obj)) (x : Str) (t : Tok)
   (hlen : x.length ≤ 1000) (hlen5 : 5 ≤ x.length) (hs1 : Txt.slice x none (some 3) = "257") (hs2 : Txt.slice x (some 3) (some 5) = " \"") :
   ClmV w p loose mean mg mb 53 2 100 news [Value.str x t] (fun t => Value.str (nameS x) t) := by
  dsimp only [ClmV]
  w_top off
  k_with_none
  k_fill
  intros; rename_i hret
  refine wpAny_call ?_
  k_dflt cell_enter
  k_with "exec While Compare cons nil" => k_while_given ["resp"] (fun resp script i d => 5 ≤ i ∧ i ≤ (resp.length : Int) ∧ d.length ≤ i ∧ PInv resp i d) (fun resp script i d => resp.length - i.toNat) "i" "dirname"
  k_with "measure" => first | exact pst_less (by assumption) (by assumption) | exact pst_less2 (by assumption) (by assumption)
  k_with "state" => first | exact pst_start (by assumption) | exact pst_plain (by assumption) (by assumption) (by assumption) (by assumption) (by assumption) | exact pst_pair (by assumption) (by assumption) (by assumption) (by assumption) (by assumption) (by assumption) (by assumption)
  k_steps
  all_goals first
    | (exfalso; rename ((Txt.slice _ _ _ != _) = true) => hh; rw [hs1] at hh; exact absurd hh (by decide +kernel))
    | (exfalso; rename ((Txt.slice _ _ _ != _) = true) => hh; rw [hs2] at hh; exact absurd hh (by decide +kernel))
    | (refine cb_retS hret ?_ (by k_asm) (by k_asm); first | exact pst_end1 (by assumption) (by assumption) | exact pst_end2 (by assumption) (by assumption) (by assumption) (by assumption) (by assumption) | exact pst_end3 (by assumption) (by assumption) (by assumption) (by assumption) (by assumption) (by assumption))
    | skip
end
-- TrO
section
open PySem PySem.W PyProof.Rows PySem.Calls
noncomputable def oddN (ns : List Int) : Nat → Int → Bool
  | 0, _ => false
  | k + 1, c => if ns.getD k 0 = c then !(oddN ns k c) else false
theorem odd_flip (k : Nat) : decide ((k + 1) % 2 = 1) = !(decide (k % 2 = 1)) := by
  rcases Nat.mod_two_eq_zero_or_one k with h | h
  · rw [Nat.add_mod, h]; rfl
  · rw [Nat.add_mod, h]; rfl
theorem oddN_run (ns : List Int) (c : Int) (a : Nat) : ∀ k : Nat, (∀ j : Nat, j < k → ns.getD (a + j) 0 = c) → oddN ns (a + k) c = ((decide (k % 2 = 1)) != oddN ns a c)
  | 0, _ => (Bool.false_bne (oddN ns a c)).symm
  | k + 1, h => by
    show (if ns.getD (a + k) 0 = c then !(oddN ns (a + k) c) else false) = _
    rw [if_pos (h k (Nat.lt_succ_self k)), oddN_run ns c a k (fun j hj => h j (Nat.lt_succ_of_lt hj)), odd_flip]
    cases decide (k % 2 = 1) <;> cases oddN ns a c <;> rfl
theorem sub_ix (P K : Nat) : (((P : Int) - 1 - (K : Int))).toNat = P - 1 - K := by
  rw [Int.sub_sub]; exact (Int.toNat_sub P (1 + K)).trans (Nat.sub_sub P 1 K).symm
theorem odd_count {ns : List Int} {place number k : Int} (hp0 : 0 ≤ place) (h0 : 0 ≤ k) (h1 : k ≤ max 0 place)
    (h2 : ∀ j : Int, 0 ≤ j → j < k → (if j < place then if (ns.getD (place - 1 - j).toNat 0 == number) = true then true else false else false) = true)
    (h3 : (if k < place then if (ns.getD (place - 1 - k).toNat 0 == number) = true then true else false else false) = false) :
    (k.fmod 2 == 1) = oddN ns place.toNat number := by
  obtain ⟨P, rfl⟩ := Int.eq_ofNat_of_zero_le hp0
  obtain ⟨K, rfl⟩ := Int.eq_ofNat_of_zero_le h0
  rw [Int.max_eq_right hp0] at h1
  have hk : K ≤ P := Int.ofNat_le.mp h1
  obtain ⟨a, rfl⟩ := Nat.exists_eq_add_of_le' hk
  have run := oddN_run ns number a K (by
    intro j hj
    have hj' : K - 1 - j < K := Nat.lt_of_le_of_lt (Nat.sub_le _ _) (Nat.sub_lt (Nat.lt_of_le_of_lt (Nat.zero_le j) hj) Nat.one_pos)
    have := h2 ((K - 1 - j : Nat) : Int) (Int.natCast_nonneg _) (Int.ofNat_lt.mpr hj')
    rw [if_pos (Int.ofNat_lt.mpr (Nat.lt_of_lt_of_le hj' hk)), sub_ix] at this
    have e : a + K - 1 - (K - 1 - j) = a + j := by rw [Nat.add_sub_assoc (Nat.lt_of_le_of_lt (Nat.zero_le j) hj), Nat.add_sub_assoc (Nat.sub_le _ _), Nat.sub_sub_self (Nat.le_sub_one_of_lt hj)]
    rw [e] at this
    split at this
    · rename_i h; exact eq_of_beq h
    · cases this)
  have last : oddN ns a number = false := by
    cases a with
    | zero => rfl
    | succ a =>
      rw [if_pos (Int.ofNat_lt.mpr (Nat.lt_add_of_pos_left (Nat.succ_pos a))), sub_ix] at h3
      have e : a + 1 + K - 1 - K = a := by rw [Nat.add_right_comm, Nat.add_sub_cancel, Nat.add_sub_cancel]
      rw [e] at h3
      rw [oddN, if_neg]
      intro h
      rw [h] at h3
      simp at h3
  rw [Int.toNat_natCast, run, last, Int.fmod_eq_emod_of_nonneg _ (by decide)]
  show (((K % 2 : Nat) : Int) == 1) = _
  rcases Nat.mod_two_eq_zero_or_one K with h | h <;> rw [h] <;> rfl
set_option maxRecDepth 100000 in
set_option maxHeartbeats 8000000 in
theorem odd_spec (w : World) (p : PySem.Program) (loose : List Str) (mean : ExcName → Option Value) (mg mb : Str → Option Value) (news : List (Addr × Obj)) (l : Addr) (vs : List Value) (n : Nat) (ns : List Int) (place number : Int) (t1 t2 : Tok)
   (hmem : (l, listOf vs.toArray n) ∈ news) (hints : IntsAre vs ns) (hlen : ns.length ≤ 1000) (hp0 : 0 ≤ place) (hp1 : place ≤ ns.length) (hn0 : 0 ≤ number) (hn1 : number ≤ 256) :
   ClmV w p loose mean mg mb 147 2 100 news [Value.ref l, Value.int place t1, Value.int number t2] (fun _ => Value.bool (oddN ns place.toNat number)) := by
  dsimp only [ClmV]
  w_top off
  k_with_none
  k_fill
  intros; rename_i hret
  refine wpAny_call ?_
  k_dflt cell_enter
  k_steps
  exact cb_retB hret (odd_count hp0 (by assumption) (by assumption) (by assumption) (by assumption)) (by k_asm) (by k_asm)
end
-- TrEL
section
open PySem PySem.W PyProof.Rows PySem.Calls
noncomputable def firstOf (f : Nat → Bool) (n : Nat) : Nat := ((List.range n).find? f).getD n
theorem firstOf_at {f : Nat → Bool} {n k : Nat} (h : ∀ j, j < k → f j = false) (hk : f k = true) (hn : k < n) : firstOf f n = k := by
  unfold firstOf
  have : (List.range n).find? f = some k := by
    rw [List.find?_range_eq_some]
    exact ⟨hk, by simpa using hn, fun j hj => by simp [h j hj]⟩
  rw [this]; rfl
theorem firstOf_end {f : Nat → Bool} {n : Nat} (h : ∀ j, j < n → f j = false) : firstOf f n = n := by
  unfold firstOf
  have : (List.range n).find? f = none := by
    rw [List.find?_eq_none]
    intro j hj
    simp [h j (by simpa using hj)]
  rw [this]; rfl
theorem firstOf_le (f : Nat → Bool) (n : Nat) : firstOf f n ≤ n := by
  unfold firstOf
  cases h : (List.range n).find? f with
  | none => exact Nat.le_refl _
  | some k =>
    have := List.mem_of_find?_eq_some h
    exact Nat.le_of_lt (by simpa using this)
noncomputable def stopN (ns : List Int) (k : Nat) : Bool := (ns.getD k 0 == 0) && !(decide ((ns.drop (k+1)).take 1 = [0])) && !(oddN ns k 0)
noncomputable def stopW (ns : List Int) (k : Nat) : Bool := (decide (0 < ns.getD k 0) && decide (ns.getD k 0 < 5)) && !(oddN ns k 256)
theorem sub0 (n : Nat) : ((n : Int) - 0).toNat = n := by rw [Int.sub_zero]; exact Int.toNat_natCast n
theorem kn_nat {k : Int} {p : Nat} (h : k = 0 + (p : Int)) : k.toNat = p := by rw [h, Int.zero_add]; exact Int.toNat_natCast p
theorem kn_nonneg {k : Int} {p : Nat} (h : k = 0 + (p : Int)) : 0 ≤ k := by rw [h, Int.zero_add]; exact Int.natCast_nonneg p
theorem comp_lt {K n i : Nat} (h : K ≤ n) (hi : i < ((K : Int) - 0).toNat) : (0 : Int) + (i : Int) < (n : Int) := by
  rw [sub0] at hi
  rw [Int.zero_add]; exact Int.ofNat_lt.mpr (Nat.lt_of_lt_of_le hi h)
theorem comp_fit {K n i : Nat} (h : K ≤ n) (hn : n ≤ 1000) (hi : i < ((K : Int) - 0).toNat) : (0 : Int) + (i : Int) < 2 ^ 63 := Int.lt_of_lt_of_le (comp_lt (Nat.le_trans h hn) hi) (by decide)
theorem comp_nonneg (i : Nat) : (0 : Int) ≤ (0 : Int) + (i : Int) := kn_nonneg rfl
theorem kn_lt {n p : Nat} {k : Int} (h1 : k = 0 + (p : Int)) (h2 : p < ((n : Int) - 0).toNat) : k < (n : Int) := h1 ▸ comp_lt (Nat.le_refl n) h2
theorem kn_le {n p : Nat} {k : Int} (h1 : k = 0 + (p : Int)) (h2 : p < ((n : Int) - 0).toNat) : k ≤ (n : Int) := Int.le_of_lt (kn_lt h1 h2)
theorem kn_fit {n p : Nat} {k : Int} (hn : n ≤ 1000) (h1 : k = 0 + (p : Int)) (h2 : p < ((n : Int) - 0).toNat) : k < 2 ^ 63 := h1 ▸ comp_fit (Nat.le_refl n) hn h2
theorem pre_step {f : Nat → Bool} {pre : List Int} {kN : Int} (hk : kN = 0 + (pre.length : Int)) (h : ∀ j, j < pre.length → f j = false) (hs : f kN.toNat = false) : ∀ j, j < (pre ++ [kN]).length → f j = false := by
  intro j hj
  rw [List.length_append] at hj
  by_cases e : j < pre.length
  · exact h j e
  · exact ((kn_nat hk).trans (Nat.le_antisymm (Nat.le_of_not_lt e) (Nat.le_of_lt_succ hj))) ▸ hs
section
variable {ns : List Int} {kN : Int}
theorem cut_one (h0 : 0 ≤ kN) : List.take (min (kN + 2).toNat ns.length - (kN + 1).toNat) (List.drop (kN + 1).toNat ns) = (ns.drop (kN.toNat + 1)).take 1 := by
  obtain ⟨p, rfl⟩ := Int.eq_ofNat_of_zero_le h0
  show List.take (min (p + 2) ns.length - (p + 1)) (List.drop (p + 1) ns) = (ns.drop (p + 1)).take 1
  rw [← Nat.sub_min_sub_right, Nat.add_sub_add_left, ← List.length_drop]
  exact List.take_eq_take_min.symm
theorem sn_A (h0 : 0 ≤ kN) (h : List.take (min (kN + 2).toNat ns.length - (kN + 1).toNat) (List.drop (kN + 1).toNat ns) = [0]) : stopN ns kN.toNat = false := by
  rw [cut_one h0] at h
  unfold stopN; rw [h]; simp
theorem sn_B (h : oddN ns kN.toNat 0 = true) : stopN ns kN.toNat = false := by unfold stopN; rw [h]; simp
theorem sn_C (h : ns.getD kN.toNat 0 ≠ 0) : stopN ns kN.toNat = false := by
  unfold stopN
  have : (ns.getD kN.toNat 0 == 0) = false := by simpa using h
  rw [this]; rfl
theorem sn_D (h0 : 0 ≤ kN) (h1 : ns.getD kN.toNat 0 = 0) (h : ¬ List.take (min (kN + 2).toNat ns.length - (kN + 1).toNat) (List.drop (kN + 1).toNat ns) = [0]) (h2 : oddN ns kN.toNat 0 = false) : stopN ns kN.toNat = true := by
  rw [cut_one h0] at h
  unfold stopN; rw [h1, h2, decide_eq_false h]; rfl
theorem nend_ret {pre : List Int} (hk : kN = 0 + (pre.length : Int)) (hlt : pre.length < ((ns.length : Int) - 0).toNat) (h : ∀ j, j < pre.length → stopN ns j = false) (h1 : ns.getD kN.toNat 0 = 0) (h3 : ¬ List.take (min (kN + 2).toNat ns.length - (kN + 1).toNat) (List.drop (kN + 1).toNat ns) = [0]) (h2 : oddN ns kN.toNat 0 = false) :
    kN = (firstOf (stopN ns) ns.length : Nat) := by
  have e : kN.toNat = pre.length := kn_nat hk
  rw [firstOf_at (k := pre.length) h (e ▸ sn_D (kn_nonneg hk) h1 h3 h2) ((sub0 ns.length) ▸ hlt)]
  exact hk.trans (Int.zero_add _)
theorem end_ret {f : Nat → Bool} (h : ∀ j, j < (rangeKs 0 ((ns.length : Int) - 0).toNat).length → f j = false) : (ns.length : Int) = (firstOf f ns.length : Nat) := by
  rw [firstOf_end]
  intro j hj
  refine h j ?_
  rw [rangeKs_length, sub0]; exact hj
theorem sw_B (h : oddN ns kN.toNat 256 = true) : stopW ns kN.toNat = false := by unfold stopW; rw [h]; simp
theorem sw_C (h : ¬ 0 < ns.getD kN.toNat 0) : stopW ns kN.toNat = false := by unfold stopW; rw [decide_eq_false h]; rfl
theorem sw_E (h : ¬ ns.getD kN.toNat 0 < 5) : stopW ns kN.toNat = false := by unfold stopW; rw [decide_eq_false h]; simp
theorem sw_D (h1 : 0 < ns.getD kN.toNat 0) (h3 : ns.getD kN.toNat 0 < 5) (h2 : oddN ns kN.toNat 256 = false) : stopW ns kN.toNat = true := by
  unfold stopW; rw [h2, decide_eq_true h1, decide_eq_true h3]; rfl
theorem wend_ret {pre : List Int} (hk : kN = 0 + (pre.length : Int)) (hlt : pre.length < ((ns.length : Int) - 0).toNat) (h : ∀ j, j < pre.length → stopW ns j = false) (h1 : 0 < ns.getD kN.toNat 0) (h3 : ns.getD kN.toNat 0 < 5) (h2 : oddN ns kN.toNat 256 = false) :
    kN = (firstOf (stopW ns) ns.length : Nat) := by
  have e : kN.toNat = pre.length := kn_nat hk
  rw [firstOf_at (k := pre.length) h (e ▸ sw_D h1 h3 h2) ((sub0 ns.length) ▸ hlt)]
  exact hk.trans (Int.zero_add _)
end
noncomputable def keepUpto (ns : List Int) (c : Int) (i : Nat) : List Int := ((List.range i).filter (fun k => !decide (ns.getD k 0 = c) || oddN ns k c)).map (fun k => ns.getD k 0)
theorem keepUpto_zero (ns : List Int) (c : Int) : keepUpto ns c 0 = [] := rfl
theorem keepUpto_succ (ns : List Int) (c : Int) (i : Nat) : keepUpto ns c (i + 1) = keepUpto ns c i ++ (if (!decide (ns.getD i 0 = c) || oddN ns i c) = true then [ns.getD i 0] else []) := by
  unfold keepUpto
  rw [List.range_succ, List.filter_append, List.map_append]
  congr 1
  simp only [List.filter_cons, List.filter_nil]
  split <;> rfl
theorem idx0 (i : Nat) : (0 + (i : Int)).toNat = i := kn_nat rfl
theorem ints_snoc {ys : List Value} {ms : List Int} {x : Int} {t : Tok} (h : IntsAre ys ms) : IntsAre (ys ++ [Value.int x t]) (ms ++ [x]) := IntsAre.append h (IntsAre.cons _ _ IntsAre.nil)
section
variable {ns : List Int} {c : Int} {i : Nat} {ys : List Value} {t : Tok}
theorem keep_y1 (h : IntsAre ys (keepUpto ns c i)) (h1 : ns.getD (0 + (i : Int)).toNat 0 ≠ c) : IntsAre (ys ++ [Value.int (ns.getD (0 + (i : Int)).toNat 0) t]) (keepUpto ns c (i + 1)) := by
  rw [idx0] at h1 ⊢
  rw [keepUpto_succ, if_pos (by rw [decide_eq_false h1]; rfl)]
  exact ints_snoc h
theorem keep_y2 (h : IntsAre ys (keepUpto ns c i)) (h1 : oddN ns (0 + (i : Int)).toNat c = true) : IntsAre (ys ++ [Value.int (ns.getD (0 + (i : Int)).toNat 0) t]) (keepUpto ns c (i + 1)) := by
  rw [idx0] at h1 ⊢
  rw [keepUpto_succ, if_pos (by rw [h1, Bool.or_true])]
  exact ints_snoc h
theorem keep_no (h : IntsAre ys (keepUpto ns c i)) (h1 : ns.getD (0 + (i : Int)).toNat 0 = c) (h2 : oddN ns (0 + (i : Int)).toNat c = false) : IntsAre ys (keepUpto ns c (i + 1)) := by
  rw [idx0] at h1 h2
  rw [keepUpto_succ, if_neg (by rw [h2, decide_eq_true h1]; decide), List.append_nil]
  exact h
theorem off1_mem {D : Addr} : ∀ {l : List (Addr × Obj)}, LCg.Off1 D l → ∀ p ∈ l, p.1 ≠ D
  | [], _, _, h => nomatch h
  | _ :: _, x, p, h => by
    rcases List.mem_cons.mp h with rfl | h
    · exact x.1
    · exact off1_mem x.2 p h
end
end
-- TrE
section
open PySem PySem.W PyProof.Rows PySem.Calls
set_option maxRecDepth 100000 in
set_option maxHeartbeats 8000000 in
theorem nend_spec (w : World) (p : PySem.Program) (loose : List Str) (mean : ExcName → Option Value) (mg mb : Str → Option Value) (news : List (Addr × Obj)) (l : Addr) (vs : List Value) (n : Nat) (ns : List Int)
   (hmem : (l, listOf vs.toArray n) ∈ news) (hints : IntsAre vs ns) (hlen : ns.length ≤ 1000) :
   ClmV w p loose mean mg mb 154 4 150 news [Value.ref l] (fun t => Value.int (firstOf (stopN ns) ns.length : Nat) t) := by
  dsimp only [ClmV]
  w_top off
  k_with_none
  k_with "call ref" => (k_here; (with_reducible show wpAny _ _ (call (Value.ref 147) _) _ _ _); (refine useV2 (by k_asm) (by k_asm) (by k_asm) (by k_asm) (by k_asm) (by first | exact rfl | assumption) (by ktr_room) (by ktr_units) (odd_spec _ _ _ _ _ _ _ _ _ _ _ _ _ _ _ (by k_mem) (by l_ints) (by assumption) (by first | exact kn_nonneg (by assumption) | omega) (by first | exact kn_le (by assumption) (by assumption) | omega) (by decide) (by decide)) ?_); intro t9 h9 tk9 F9 N9; (try dsimp only); (try k_fold))
  k_fill
  intros; rename_i hret
  refine wpAny_call ?_
  k_dflt cell_enter
  k_with "pyIter ref" => k_search (fun pre => ∀ j, j < pre.length → stopN ns j = false)
  k_with "state" => first | exact (fun j h => absurd h (Nat.not_lt_zero _)) | exact pre_step (by assumption) (by assumption) (sn_C (by assumption)) | exact pre_step (by assumption) (by assumption) (sn_A (kn_nonneg (by assumption)) (by assumption)) | exact pre_step (by assumption) (by assumption) (sn_B (by assumption))
  k_steps
  all_goals first
    | (refine cb_retI hret (nend_ret (by assumption) (by assumption) (by assumption) (by assumption) (by assumption) (by assumption)) (by k_asm) (cb_drop (by k_asm) (fun q hq => by k_mem)); done)
    | (refine cb_retI hret (end_ret (by assumption)) (by k_asm) (by k_asm); done)
    | skip
set_option maxRecDepth 100000 in
set_option maxHeartbeats 8000000 in
theorem wend_spec (w : World) (p : PySem.Program) (loose : List Str) (mean : ExcName → Option Value) (mg mb : Str → Option Value) (news : List (Addr × Obj)) (l : Addr) (vs : List Value) (n : Nat) (ns : List Int)
   (hmem : (l, listOf vs.toArray n) ∈ news) (hints : IntsAre vs ns) (hlen : ns.length ≤ 1000) :
   ClmV w p loose mean mg mb 161 4 150 news [Value.ref l] (fun t => Value.int (firstOf (stopW ns) ns.length : Nat) t) := by
  dsimp only [ClmV]
  w_top off
  k_with_none
  k_with "call ref" => (k_here; (with_reducible show wpAny _ _ (call (Value.ref 147) _) _ _ _); (refine useV2 (by k_asm) (by k_asm) (by k_asm) (by k_asm) (by k_asm) (by first | exact rfl | assumption) (by ktr_room) (by ktr_units) (odd_spec _ _ _ _ _ _ _ _ _ _ _ _ _ _ _ (by k_mem) (by l_ints) (by assumption) (by first | exact kn_nonneg (by assumption) | omega) (by first | exact kn_le (by assumption) (by assumption) | omega) (by decide) (by decide)) ?_); intro t9 h9 tk9 F9 N9; (try dsimp only); (try k_fold))
  k_fill
  intros; rename_i hret
  refine wpAny_call ?_
  k_dflt cell_enter
  k_with "pyIter ref" => k_search (fun pre => ∀ j, j < pre.length → stopW ns j = false)
  k_with "state" => first | exact (fun j h => absurd h (Nat.not_lt_zero _)) | exact pre_step (by assumption) (by assumption) (sw_C (by assumption)) | exact pre_step (by assumption) (by assumption) (sw_E (by assumption)) | exact pre_step (by assumption) (by assumption) (sw_B (by assumption))
  k_steps
  all_goals first
    | (refine cb_retI hret (wend_ret (by assumption) (by assumption) (by assumption) (by assumption) (by assumption) (by assumption)) (by k_asm) (cb_drop (by k_asm) (fun q hq => by k_mem)); done)
    | (refine cb_retI hret (end_ret (by assumption)) (by k_asm) (by k_asm); done)
    | skip
end
-- TrCI
section
open PySem PySem.W PyProof.Rows PySem.Calls PyProof.Rows.LCg PyProof.Rows.LCt
section
variable {prog : PySem.Program} {w : World} {A : Around} {s : Shared} {h₀ : Heap} {L : Addr} {m : Str → Option Value} {env : Env}
theorem compEnd_mono {s₁ : Shared} {I : Addr} {oI : Obj} {C : Addr} {oC : Obj} {D : Addr} {oD : Obj} {S : List (Addr × Obj) → Prop} {r r' : Value → List (Addr × Obj) → Prop} {y : Value} {s₂ : Shared}
    (h : CompEnd h₀ L m s₁ I oI C oC D oD S r y s₂) (hr : ∀ n', r y n' → r' y n') : CompEnd h₀ L m s₁ I oI C oC D oD S r' y s₂ := by
  obtain ⟨h', tk, news', e, F, N, off, hS, hy⟩ := h
  exact ⟨h', tk, news', e, F, N, off, hS, hr _ hy⟩
theorem compT_ind {ct elt : Expr} {x : Str} {scope : Scope} {cl : List (Str × Addr)} {S : List (Addr × Obj) → Prop} {P : Nat → Value → Prop} {Fin : List Value → List (Addr × Obj) → Prop} {news : List (Addr × Obj)} {n : Nat}
    (J : Nat → List Value → Prop) (h0 : J 0 []) (hfin : ∀ ys, J n ys → Fin ys news)
    (turn : ∀ i ys v I oI C oC D m₂ h tk (E' : Value → Shared → Prop), i < n → J i ys → P i v → NsObj oC m₂ → m₂ x = some v → Fr h₀ L h m → News h₀ L h ((I, oI) :: (C, oC) :: (D, lst ys) :: news) → Off3 I C D news → ((@Ne Nat I C) ∧ (@Ne Nat I D) ∧ (@Ne Nat C D)) →
      wpAny (model prog w) A (isTrue ct (compEnvC scope cl C env) (eval ct (compEnvC scope cl C env))) (fun ok s' => if ok = true then
        wpAny (model prog w) A (eval elt (compEnvC scope cl C env)) (CompEnd h₀ L m { s with heap := h, toks := tk } I oI C oC D (lst ys) S (fun y news' => news' = news ∧ J (i + 1) (ys ++ [y]))) E' s'
        else CompEnd h₀ L m { s with heap := h, toks := tk } I oI C oC D (lst ys) S (fun _ news' => news' = news ∧ J (i + 1) ys) Value.none s') E' { s with heap := h, toks := tk }) :
    CompRestT prog w A h₀ L m env ct elt x scope cl s S P Fin n 0 [] news := by
  have all : ∀ k i ys, k + i = n → J i ys → CompRestT prog w A h₀ L m env ct elt x scope cl s S P Fin k i ys news := by
    intro k
    induction k with
    | zero => intro i ys e j; exact CompRestT.zero (hfin ys (by rw [← e, Nat.zero_add]; exact j))
    | succ k ih =>
      intro i ys e j
      refine CompRestT.succ fun v I oI C oC D m₂ h tk E' hP hC hx F N off ne => ?_
      refine wpAny_mono (turn i ys v I oI C oC D m₂ h tk E' (by omega) j hP hC hx F N off ne) (fun ok s' q => ?_) fun _ _ x => x
      cases ok with
      | true =>
        simp only [if_true] at q ⊢
        refine wpAny_mono q (fun y s₂ z => compEnd_mono z ?_) fun _ _ x => x
        rintro n' ⟨rfl, hj⟩
        exact ih (i + 1) _ (by omega) hj
      | false =>
        simp only [Bool.false_eq_true, if_false] at q ⊢
        refine compEnd_mono q ?_
        rintro n' ⟨rfl, hj⟩
        exact ih (i + 1) _ (by omega) hj
  exact all n 0 [] (Nat.add_zero n) h0
end
end
-- TrN
section
open PySem PySem.W PyProof.Rows PySem.Calls
set_option maxRecDepth 100000 in
set_option maxHeartbeats 8000000 in
theorem name_spec (w : World) (p : PySem.Program) (loose : List Str) (mean : ExcName → Option Value) (mg mb : Str → Option Value) (news : List (Addr × Obj)) (l : Addr) (vs : List Value) (n : Nat) (ns : List Int)
   (hmem : (l, listOf vs.toArray n) ∈ news) (hints : IntsAre vs ns) (hlen : ns.length ≤ 1000) :
   ClmL w p loose mean mg mb 166 8 200 news [Value.ref l] (keepUpto ns 0 (firstOf (stopN ns) ns.length)) := by
  dsimp only [ClmL]
  w_top off
  k_with_none
  k_with "call ref" => (k_here; (with_reducible show wpAny _ _ (call (Value.ref 147) _) _ _ _); (refine useV2 (by k_asm) (by k_asm) (by k_asm) (by k_asm) (by k_asm) (by first | exact rfl | assumption) (by ktr_room) (by ktr_units) (odd_spec _ _ _ _ _ _ _ _ _ _ _ _ _ _ _ (by k_mem) (by l_ints) (by assumption) (by first | exact comp_nonneg _ | omega) (by first | exact Int.le_of_lt (comp_lt (by assumption) (by assumption)) | omega) (by decide) (by decide)) ?_); intro t9 h9 tk9 F9 N9; (try dsimp only); (try k_fold))
  k_with "call ref" => (k_here; (with_reducible show wpAny _ _ (call (Value.ref 154) _) _ _ _); (refine useV2 (by k_asm) (by k_asm) (by k_asm) (by k_asm) (by k_asm) (by first | exact rfl | assumption) (by ktr_room) (by ktr_units) (nend_spec _ _ _ _ _ _ _ _ _ _ _ (by k_mem) (by l_ints) (by assumption)) ?_); intro t9 h9 tk9 F9 N9; (try dsimp only); (try k_fold))
  k_with "eval ListComp" => (k_here; k_dflt (refine LCt.ListComp_T (F₀ := by k_asm) (by with_unfolding_all rfl) (by decide) (by rfl) (by decide) (by rfl) ?_))
  k_with "CompSrcT" => (k_here; k_dflt (refine LCt.CompSrcT.range (by rfl) (by k_asm) (by k_asm) (by assumption) (small_one (by omega) (by omega) (by omega) (by omega)) (by first | exact rangeSize_nat _ _ | rfl) (by size_fits) ?_; intro g'))
  k_with "call ref" => (k_here; (with_reducible show wpAny _ _ (call (Value.ref 161) _) _ _ _); (refine useV2 (by k_asm) (by k_asm) (by k_asm) (by k_asm) (by k_asm) (by first | exact rfl | assumption) (by ktr_room) (by ktr_units) (wend_spec _ _ _ _ _ _ _ _ _ _ _ (by k_mem) (by l_ints) (by assumption)) ?_); intro t9 h9 tk9 F9 N9; (try dsimp only); (try k_fold))
  k_fill
  intros; rename_i hret
  refine wpAny_call ?_
  k_dflt (refine' code_defC ?k1 ?k2 ?k3 ?k4 ?k5 ?kA ?kF ?kK ?k6 ?k7 ?k8 ?k9 ?kB ?kD ?_ ?c2 ?c3 ?c4; (case kA => exact rfl); (case kF => exact rfl); (case kK => assumption); (case k1 => k_asm); (case k2 => k_asm); (case k3 => k_asm); (case k4 => k_asm); (case k5 => k_asm); (case k6 => k_is); (case k7 => k_is); (case k8 => ktr_room); (case k9 => exact BindsTo.of_eq rfl); (case kB => exact rfl); (case kD => decide +kernel); (case c2 => exact rfl); (case c3 => exact rfl); (case c4 => exact rfl); k_whole; intro g' L' h' tk' cells' FG' F' N' Y' B' X' T' l1; k_cells Y'; (try simp only [List.cons_append, List.nil_append] at N'); (try dsimp only); (try k_lift B'); (try k_fold))
  have hfb := firstOf_le (stopN ns) ns.length
  k_steps
  refine compT_ind (J := fun i ys => IntsAre ys (keepUpto ns 0 i)) IntsAre.nil ?_ ?_
  · intro ys hys D h tk F N off
    simp only [Int.sub_zero, Int.toNat_natCast] at hys
    k_steps
    exact hret _ _ _ _ _ (by k_asm) (cb_drop (by k_asm) (fun q hq => by first | (rcases List.mem_cons.mp hq with rfl | hq; exact .head _; exact .tail _ (.tail _ hq)))) (fun q hq => off1_mem off q (.tail _ hq)) hys
  · intro i ys v I oI C oC D m₂ h tk E' hi hJ hP hC hx F N off ne
    obtain ⟨t, rfl⟩ := hP
    have hi1 := comp_lt hfb hi
    have hi2 : (0 : Int) + (i : Int) < 2 ^ 63 := comp_fit hfb hlen hi
    have hi3 := Int.le_of_lt hi1
    clear hi ne
    k_steps
    all_goals (refine LCg.CompEnd.intro (by k_asm) (by k_asm) _ (fun q hq => hq) off True.intro ⟨rfl, ?_⟩; first | exact keep_y1 hJ (by assumption) | exact keep_y2 hJ (by assumption) | exact keep_no hJ (by assumption) (by assumption))
set_option maxRecDepth 100000 in
set_option maxHeartbeats 8000000 in
theorem word_spec (w : World) (p : PySem.Program) (loose : List Str) (mean : ExcName → Option Value) (mg mb : Str → Option Value) (news : List (Addr × Obj)) (l : Addr) (vs : List Value) (n : Nat) (ns : List Int)
   (hmem : (l, listOf vs.toArray n) ∈ news) (hints : IntsAre vs ns) (hlen : ns.length ≤ 1000) :
   ClmL w p loose mean mg mb 171 8 200 news [Value.ref l] (keepUpto ns 256 (firstOf (stopW ns) ns.length)) := by
  dsimp only [ClmL]
  w_top off
  k_with_none
  k_with "call ref" => (k_here; (with_reducible show wpAny _ _ (call (Value.ref 147) _) _ _ _); (refine useV2 (by k_asm) (by k_asm) (by k_asm) (by k_asm) (by k_asm) (by first | exact rfl | assumption) (by ktr_room) (by ktr_units) (odd_spec _ _ _ _ _ _ _ _ _ _ _ _ _ _ _ (by k_mem) (by l_ints) (by assumption) (by first | exact comp_nonneg _ | omega) (by first | exact Int.le_of_lt (comp_lt (by assumption) (by assumption)) | omega) (by decide) (by decide)) ?_); intro t9 h9 tk9 F9 N9; (try dsimp only); (try k_fold))
  k_with "call ref" => (k_here; (with_reducible show wpAny _ _ (call (Value.ref 154) _) _ _ _); (refine useV2 (by k_asm) (by k_asm) (by k_asm) (by k_asm) (by k_asm) (by first | exact rfl | assumption) (by ktr_room) (by ktr_units) (nend_spec _ _ _ _ _ _ _ _ _ _ _ (by k_mem) (by l_ints) (by assumption)) ?_); intro t9 h9 tk9 F9 N9; (try dsimp only); (try k_fold))
  k_with "eval ListComp" => (k_here; k_dflt (refine LCt.ListComp_T (F₀ := by k_asm) (by with_unfolding_all rfl) (by decide) (by rfl) (by decide) (by rfl) ?_))
  k_with "CompSrcT" => (k_here; k_dflt (refine LCt.CompSrcT.range (by rfl) (by k_asm) (by k_asm) (by assumption) (small_one (by omega) (by omega) (by omega) (by omega)) (by first | exact rangeSize_nat _ _ | rfl) (by size_fits) ?_; intro g'))
  k_with "call ref" => (k_here; (with_reducible show wpAny _ _ (call (Value.ref 161) _) _ _ _); (refine useV2 (by k_asm) (by k_asm) (by k_asm) (by k_asm) (by k_asm) (by first | exact rfl | assumption) (by ktr_room) (by ktr_units) (wend_spec _ _ _ _ _ _ _ _ _ _ _ (by k_mem) (by l_ints) (by assumption)) ?_); intro t9 h9 tk9 F9 N9; (try dsimp only); (try k_fold))
  k_fill
  intros; rename_i hret
  refine wpAny_call ?_
  k_dflt (refine' code_defC ?k1 ?k2 ?k3 ?k4 ?k5 ?kA ?kF ?kK ?k6 ?k7 ?k8 ?k9 ?kB ?kD ?_ ?c2 ?c3 ?c4; (case kA => exact rfl); (case kF => exact rfl); (case kK => assumption); (case k1 => k_asm); (case k2 => k_asm); (case k3 => k_asm); (case k4 => k_asm); (case k5 => k_asm); (case k6 => k_is); (case k7 => k_is); (case k8 => ktr_room); (case k9 => exact BindsTo.of_eq rfl); (case kB => exact rfl); (case kD => decide +kernel); (case c2 => exact rfl); (case c3 => exact rfl); (case c4 => exact rfl); k_whole; intro g' L' h' tk' cells' FG' F' N' Y' B' X' T' l1; k_cells Y'; (try simp only [List.cons_append, List.nil_append] at N'); (try dsimp only); (try k_lift B'); (try k_fold))
  have hfb := firstOf_le (stopW ns) ns.length
  k_steps
  refine compT_ind (J := fun i ys => IntsAre ys (keepUpto ns 256 i)) IntsAre.nil ?_ ?_
  · intro ys hys D h tk F N off
    simp only [Int.sub_zero, Int.toNat_natCast] at hys
    k_steps
    exact hret _ _ _ _ _ (by k_asm) (cb_drop (by k_asm) (fun q hq => by first | (rcases List.mem_cons.mp hq with rfl | hq; exact .head _; exact .tail _ (.tail _ hq)))) (fun q hq => off1_mem off q (.tail _ hq)) hys
  · intro i ys v I oI C oC D m₂ h tk E' hi hJ hP hC hx F N off ne
    obtain ⟨t, rfl⟩ := hP
    have hi1 := comp_lt hfb hi
    have hi2 : (0 : Int) + (i : Int) < 2 ^ 63 := comp_fit hfb hlen hi
    have hi3 := Int.le_of_lt hi1
    clear hi ne
    k_steps
    all_goals (refine LCg.CompEnd.intro (by k_asm) (by k_asm) _ (fun q hq => hq) off True.intro ⟨rfl, ?_⟩; first | exact keep_y1 hJ (by assumption) | exact keep_y2 hJ (by assumption) | exact keep_no hJ (by assumption) (by assumption))
end
-- TrOps
section
open PySem PySem.W PyProof.Rows PySem.Calls
noncomputable def opsList : List (Str × Int) := [(⟨#[33]⟩, 54), (⟨#[33, 61]⟩, 28), (⟨#[37]⟩, 24), (⟨#[37, 61]⟩, 40), (⟨#[38]⟩, 19), (⟨#[38, 61]⟩, 41), (⟨#[40]⟩, 7), (⟨#[41]⟩, 8), (⟨#[42]⟩, 16), (⟨#[42, 42]⟩, 35), (⟨#[42, 42, 61]⟩, 46), (⟨#[42, 61]⟩, 38), (⟨#[43]⟩, 14), (⟨#[43, 61]⟩, 36), (⟨#[44]⟩, 12), (⟨#[45]⟩, 15), (⟨#[45, 61]⟩, 37), (⟨#[45, 62]⟩, 51), (⟨#[46]⟩, 23), (⟨#[46, 46, 46]⟩, 52), (⟨#[47]⟩, 17), (⟨#[47, 47]⟩, 47), (⟨#[47, 47, 61]⟩, 48), (⟨#[47, 61]⟩, 39), (⟨#[58]⟩, 11), (⟨#[58, 61]⟩, 53), (⟨#[59]⟩, 13), (⟨#[60]⟩, 20), (⟨#[60, 60]⟩, 33), (⟨#[60, 60, 61]⟩, 44), (⟨#[60, 61]⟩, 29), (⟨#[61]⟩, 22), (⟨#[61, 61]⟩, 27), (⟨#[62]⟩, 21), (⟨#[62, 61]⟩, 30), (⟨#[62, 62]⟩, 34), (⟨#[62, 62, 61]⟩, 45), (⟨#[64]⟩, 49), (⟨#[64, 61]⟩, 50), (⟨#[91]⟩, 9), (⟨#[93]⟩, 10), (⟨#[94]⟩, 32), (⟨#[94, 61]⟩, 43), (⟨#[123]⟩, 25), (⟨#[124]⟩, 18), (⟨#[124, 61]⟩, 42), (⟨#[125]⟩, 26), (⟨#[126]⟩, 31)]
noncomputable def opsD : List (Str × PyData) := opsList.map fun p => (p.1, PyData.int p.2)
noncomputable def opsT : List (PyData × PyData) := opsD.map fun p => (PyData.str p.1, p.2)
noncomputable def opOf (x : Str) : Option Int := (opsList.find? (fun p => p.1 == x)).map (·.2)
theorem lookup_opsL (x : Str) : ∀ l : List (Str × Int), PySem.Spec.lookup (.str x) ((l.map fun p => (p.1, PyData.int p.2)).map fun p => (PyData.str p.1, p.2)) = ((l.find? (fun p => p.1 == x)).map (·.2)).map PyData.int
  | [] => by simp [PySem.Spec.lookup]
  | p :: l => by
    have ih := lookup_opsL x l
    simp only [List.map_cons, PySem.Spec.lookup, List.find?_cons, PySem.Spec.same]
    by_cases h : (p.1 == x) = true
    · simp [h]
    · have h' : (p.1 == x) = false := by simpa using h
      simp only [h', Bool.false_eq_true, if_false]
      exact ih
theorem lookup_ops (x : Str) : PySem.Spec.lookup (.str x) opsT = (opOf x).map PyData.int := lookup_opsL x opsList
theorem ops_tab (w : World) {h : Heap} (X : Frag.In (Mine.hd.heap_39 w.params) h) : StrTab PySem.Challenge.rw_tr0039_01.row.prog w h 96 opsT :=
  kt_tab_in (a := 96) (D := opsD) PySem.Challenge.rw_tr0039_01.row.prog w X (by kernel_rfl) (by decide +kernel) (by kernel_rfl)
section
variable {w : World} {A : Around} {E : Value → Shared → Prop} {s : Shared} {x : Str} {t : Tok} {Q : Value → Shared → Prop}
theorem in_ops (X : Frag.In (Mine.hd.heap_39 w.params) s.heap) (h : Q (.bool (opOf x).isSome) { s with toks := s.toks + 1 }) :
    wpAny (model PySem.Challenge.rw_tr0039_01.row.prog w) A (compareOp .In (.str x t) (.ref 96)) Q E s :=
  in_strTab (ops_tab w X) (by rw [lookup_ops, Option.isSome_map]; exact h)
theorem item_ops {value slice : PySem.Expr} (X : Frag.In (Mine.hd.heap_39 w.params) s.heap) (hl : (opOf x).isSome = true) (h : ∀ t', Q (.int ((opOf x).getD 0) t') { s with toks := s.toks + 1 })
    (hs : subscripted slice false (.ref 96) (.str x t) = operate [.ref 96, .str x t] (getItem (.ref 96) (.str x t)) ) (hg : ∀ r, letTemporaryGo value (.ref 96) r = pure () ) :
    wpAny (model PySem.Challenge.rw_tr0039_01.row.prog w) A (subscriptTail value slice (.ref 96) (.str x t)) Q E s := by
  cases hq : opOf x with
  | none => rw [hq] at hl; cases hl
  | some n =>
    rw [hq] at h
    refine item_strTab (ops_tab w X) (dv := PyData.int n) (by rw [lookup_ops, hq]; rfl) (fun v hv => ?_) hs hg
    obtain ⟨t', rfl⟩ := PyProof.V.Flat.int_inv hv
    exact h _
end
end
-- TrLoop
section
open PySem PySem.W PyProof.Rows PySem.Calls
def BEnd (h₀ : Heap) (L : Addr) (x : Str) (m₀ : Str → Option Value) (l : Addr) (news own : List (Addr × Obj)) (G' : List Value → Prop) (us : List Value) (s₁ : Shared) (fl : Flow) (s₂ : Shared) : Prop :=
  match fl with
  | .ret _ => False
  | .brk => False
  | _ => ∀ R : Prop, (∀ v h' tk' m', s₂ = { s₁ with heap := h', toks := tk' } → Fr h₀ L h' m' → (∀ z, z ≠ x → m' z = m₀ z) → News h₀ L h' ((l, listOf (us.toArray.push v) (us.length + 1)) :: (news ++ own)) → G' (us ++ [v]) → R) → R
theorem bend {h₀ : Heap} {L : Addr} {x : Str} {m₀ m' : Str → Option Value} {l : Addr} {news own : List (Addr × Obj)} {G' : List Value → Prop} {us : List Value} {s₁ : Shared} {h' : Heap} {tk' : Nat} {v : Value}
    (F : Fr h₀ L h' m') (hm : ∀ z, z ≠ x → m' z = m₀ z) (N : News h₀ L h' ((l, listOf (us.toArray.push v) (us.length + 1)) :: (news ++ own))) (hG : G' (us ++ [v])) :
    BEnd h₀ L x m₀ l news own G' us s₁ .next { s₁ with heap := h', toks := tk' } := fun _ K => K v h' tk' m' rfl F hm N hG
theorem listOf_snoc (us : List Value) (v : Value) : listOf (us.toArray.push v) (us.length + 1) = listOf (us ++ [v]).toArray (us ++ [v]).length := by
  rw [List.length_append, List.length_singleton, List.push_toArray]
section
variable {prog : PySem.Program} {w : World} {A : Around} {E : Value → Shared → Prop} {s : Shared} {env : Env} {h₀ : Heap} {x : Str} {body : List Stmt} {Q : Flow → Shared → Prop}
theorem build_post {m₀ m₁ : Str → Option Value} {l : Addr} {news own : List (Addr × Obj)} {P : List Int → List Value → Prop} {pre : List Int} {us : List Value} {s₁ : Shared} {fl : Flow} {s₂ : Shared}
    (h : BEnd h₀ env.locals x m₁ l news own (P pre) us s₁ fl s₂) (hm : ∀ z, z ≠ x → m₁ z = m₀ z) :
    InvPostN h₀ env.locals (KstS (fun us : List Value => (l, listOf us.toArray us.length) :: news) (fun _ => []) (fun _ => True) x [] m₀ P pre) own (l :: news.map (·.1)) s₁ Q fl s₂ := by
  cases fl with
  | ret v => exact h.elim
  | brk => exact h.elim
  | next =>
    refine h _ fun v h' tk' m' e F hm' N hG => ?_
    subst e
    rw [listOf_snoc] at N
    exact ⟨h', tk', m', _, (l, listOf (us ++ [v]).toArray (us ++ [v]).length) :: news, rfl, F, N, fun p hp => (List.mem_cons.mp hp).elim (fun e => e ▸ List.mem_cons_self) (fun e => List.mem_cons_of_mem _ (List.mem_append_left _ e)),
      fun p hp => List.mem_cons_of_mem _ (List.mem_append_right _ hp), rfl, us ++ [v], rfl, trivial, (fun _ hp => nomatch hp), fun z hz _ _ => (hm' z hz).trans (hm z hz), hG⟩
  | cont =>
    refine h _ fun v h' tk' m' e F hm' N hG => ?_
    subst e
    rw [listOf_snoc] at N
    exact ⟨h', tk', m', _, (l, listOf (us ++ [v]).toArray (us ++ [v]).length) :: news, rfl, F, N, fun p hp => (List.mem_cons.mp hp).elim (fun e => e ▸ List.mem_cons_self) (fun e => List.mem_cons_of_mem _ (List.mem_append_left _ e)),
      fun p hp => List.mem_cons_of_mem _ (List.mem_append_right _ hp), rfl, us ++ [v], rfl, trivial, (fun _ hp => nomatch hp), fun z hz _ _ => (hm' z hz).trans (hm z hz), hG⟩
theorem kstB_none {m₀ u : Str → Option Value} : kstB (fun z => if ([] : List Str).contains z then u z else m₀ z) [] = m₀ := by
  funext z; simp [kstB]
theorem build_text {xt : Str} {tx : Tok} {m₀ : Str → Option Value} {l : Addr} {news : List (Addr × Obj)} (P : List Int → List Value → Prop)
    (hh : A.handled = none) (F : Fr h₀ env.locals s.heap m₀) (N : News h₀ env.locals s.heap ((l, listOf #[] 0) :: news)) (hp : P [] [])
    (turn : ∀ (us : List Value) (pre post : List Int) (n : Nat) t h tk own, KStt.codes xt = pre ++ (n : Int) :: post → OwnOff own (l :: news.map (·.1)) → P pre us →
      Fr h₀ env.locals h (fun y => if y = x then some (.str ⟨#[n]⟩ t) else m₀ y) → News h₀ env.locals h ((l, listOf us.toArray us.length) :: (news ++ own)) →
      wpAny (model prog w) A (execs body env) (BEnd h₀ env.locals x (fun y => if y = x then some (.str ⟨#[n]⟩ t) else m₀ y) l news own (P (pre ++ [(n : Int)])) us { s with heap := h, toks := tk }) E { s with heap := h, toks := tk })
    (done : ∀ (us : List Value) (u : Str → Option Value) h tk, P (KStt.codes xt) us → Fr h₀ env.locals h (fun y => if y = x then u y else m₀ y) → News h₀ env.locals h ((l, listOf us.toArray us.length) :: news) → Q .next { s with heap := h, toks := tk }) :
    wpAny (model prog w) A (pyIter (.str xt tx)) (fun it s₂ => LoopAtV prog w A h₀ env x body Q E it s₂) E s := by
  refine KStt.kst_text (fun us : List Value => (l, listOf us.toArray us.length) :: news) (fun _ => []) (fun _ => True) [] P [] hh F N trivial (fun _ h => nomatch h) hp ?_ ?_
  · intro us pre post n t u h tk own e off _ hP F₁ N₁
    rw [kstB_none] at F₁
    refine wpAny_mono (turn us pre post n t h tk own e off hP F₁ N₁) (fun fl s₂ q => build_post q (fun z hz => by simp [hz])) fun _ _ e => e
  · intro us u h tk _ hP F₁ N₁
    rw [kstB_none] at F₁
    exact done us u h tk hP F₁ N₁
theorem build_listL {r : Addr} {vs : List Value} {ns : List Int} {nn : Nat} {m₀ : Str → Option Value} {l : Addr} {news : List (Addr × Obj)} (P : List Int → List Value → Prop)
    (hh : A.handled = none) (hr : (r, listOf vs.toArray nn) ∈ news) (hi : IntsAre vs ns) (F : Fr h₀ env.locals s.heap m₀) (N : News h₀ env.locals s.heap ((l, listOf #[] 0) :: news)) (hp : P [] [])
    (turn : ∀ (us : List Value) (pre post : List Int) (n : Int) t h tk own, ns = pre ++ n :: post → OwnOff own (l :: news.map (·.1)) → P pre us →
      Fr h₀ env.locals h (fun y => if y = x then some (.int n t) else m₀ y) → News h₀ env.locals h ((l, listOf us.toArray us.length) :: (news ++ own)) →
      wpAny (model prog w) A (execs body env) (BEnd h₀ env.locals x (fun y => if y = x then some (.int n t) else m₀ y) l news own (P (pre ++ [n])) us { s with heap := h, toks := tk }) E { s with heap := h, toks := tk })
    (done : ∀ (us : List Value) (u : Str → Option Value) h tk, P ns us → Fr h₀ env.locals h (fun y => if y = x then u y else m₀ y) → News h₀ env.locals h ((l, listOf us.toArray us.length) :: news) → Q .next { s with heap := h, toks := tk }) :
    wpAny (model prog w) A (pyIter (.ref r)) (fun it s₂ => LoopAtV prog w A h₀ env x body Q E it s₂) E s := by
  refine kst_listL (fun us : List Value => (l, listOf us.toArray us.length) :: news) (fun _ => []) (fun _ => True) [] P [] hh (fun _ => List.mem_cons_of_mem _ hr) hi F N trivial (fun _ h => nomatch h) hp ?_ ?_
  · intro us pre post n t u h tk own e _ off _ hP F₁ N₁
    rw [kstB_none] at F₁
    refine wpAny_mono (turn us pre post n t h tk own e off hP F₁ N₁) (fun fl s₂ q => build_post q (fun z hz => by simp [hz])) fun _ _ e => e
  · intro us u h tk _ hP F₁ N₁
    rw [kstB_none] at F₁
    exact done us u h tk hP F₁ N₁
end
theorem off_tail {l : Addr} {news own : List (Addr × Obj)} {adr : List Addr} (h1 : ∀ p ∈ news, p.1 < l) (off : OwnOff own (l :: adr)) : ∀ p ∈ news ++ own, p.1 ≠ l := by
  intro p hp
  rcases List.mem_append.mp hp with h | h
  · exact Nat.ne_of_lt (h1 p h)
  · exact off p h l List.mem_cons_self
theorem map_snoc_ints {f : Int → Int} {pre : List Int} {us : List Value} {n v : Int} {t : Tok} (h : IntsAre us (pre.map f)) (e : v = f n) : IntsAre (us ++ [Value.int v t]) ((pre ++ [n]).map f) := by
  rw [List.map_append, e]
  exact IntsAre.append h (IntsAre.cons _ _ IntsAre.nil)
end
-- TrR
section
open PySem PySem.W PyProof.Rows PySem.Calls
noncomputable def rowN (n : Nat) : Int :=
  if ((⟨#[n]⟩ : Str) == Str.ofString "\"") = true then 0 else if ((⟨#[n]⟩ : Str) == Str.ofString "\\") = true then 256 else if (opOf ⟨#[n]⟩).isSome = true then (opOf ⟨#[n]⟩).getD 0 else 1 + Txt.find (Str.ofString "\n\t\r ") ⟨#[n]⟩
noncomputable def rowI (c : Int) : Int := rowN c.toNat
def rowG (pre : List Int) (us : List Value) : Prop := IntsAre us (pre.map rowI)
theorem row_size {x : Str} {pre post : List Int} {n : Int} {us : List Value} (e : KStt.codes x = pre ++ n :: post) (h : rowG pre us) (hl : x.length ≤ 1000) : us.toArray.size ≤ sizeLine := by
  have h1 := IntsAre.length h
  have h2 := congrArg List.length e
  rw [KStt.codes_length] at h2
  simp only [List.length_append, List.length_cons, List.length_map, List.size_toArray, PySem.sizeLine_eq] at *
  omega
section
variable {pre : List Int} {us : List Value} {n : Nat} {t : Tok}
theorem row_g1 (h : rowG pre us) (h1 : ((⟨#[n]⟩ : Str) == Str.ofString "\"") = true) : rowG (pre ++ [(n : Int)]) (us ++ [Value.int 0 t]) :=
  map_snoc_ints h (by unfold rowI rowN; rw [Int.toNat_natCast, if_pos h1])
theorem row_g2 (h : rowG pre us) (h1 : ((⟨#[n]⟩ : Str) == Str.ofString "\"") = false) (h2 : ((⟨#[n]⟩ : Str) == Str.ofString "\\") = true) : rowG (pre ++ [(n : Int)]) (us ++ [Value.int 256 t]) :=
  map_snoc_ints h (by unfold rowI rowN; rw [Int.toNat_natCast, h1, h2]; rfl)
theorem row_g3 (h : rowG pre us) (h1 : ((⟨#[n]⟩ : Str) == Str.ofString "\"") = false) (h2 : ((⟨#[n]⟩ : Str) == Str.ofString "\\") = false) (h3 : (opOf ⟨#[n]⟩).isSome = true) : rowG (pre ++ [(n : Int)]) (us ++ [Value.int ((opOf ⟨#[n]⟩).getD 0) t]) :=
  map_snoc_ints h (by unfold rowI rowN; rw [Int.toNat_natCast, h1, h2, h3]; rfl)
theorem row_g4 (h : rowG pre us) (h1 : ((⟨#[n]⟩ : Str) == Str.ofString "\"") = false) (h2 : ((⟨#[n]⟩ : Str) == Str.ofString "\\") = false) (h3 : (opOf ⟨#[n]⟩).isSome = false) : rowG (pre ++ [(n : Int)]) (us ++ [Value.int (1 + Txt.find (Str.ofString "\n\t\r ") ⟨#[n]⟩) t]) :=
  map_snoc_ints h (by unfold rowI rowN; rw [Int.toNat_natCast, h1, h2, h3]; rfl)
end
set_option maxRecDepth 100000 in
set_option maxHeartbeats 8000000 in
theorem row_spec (w : World) (p : PySem.Program) (loose : List Str) (mean : ExcName → Option Value) (mg mb : Str → Option Value) (news : List (Addr × Obj)) (x : Str) (t : Tok)
   (hlen : x.length ≤ 1000) :
   ClmL w p loose mean mg mb 140 4 150 news [Value.str x t] ((KStt.codes x).map rowI) := by
  dsimp only [ClmL]
  w_top off
  k_with_none
  k_with "compareOp In str ref" => (k_here; (with_reducible show wpAny _ _ (compareOp CmpOp.In (Value.str _ _) (Value.ref 96)) _ _ _); (refine in_ops (by k_in) ?_))
  k_with "subscriptTail" => (k_here; (with_reducible show wpAny _ _ (subscriptTail _ _ (Value.ref 96) (Value.str _ _)) _ _ _); (refine item_ops (by k_in) (by assumption) ?_ (by with_unfolding_all rfl) (by intro _; with_unfolding_all rfl)); intro t9)
  k_with "exec For Name Name cons nil" => (k_here; (rename Fr _ _ _ _ => lF'); (with_unfolding_all refine For_invVF lF' (by exact rfl) (by exact rfl) ?_; k_whole))
  k_with "pyIter str" => (k_here; (with_unfolding_all refine build_text rowG (by rfl) (by k_asm) (by k_asm) (by exact IntsAre.nil) ?_ ?_))
  k_with "call builtin:list.append" => (k_here; k_dflt (refine append_K (by k_asm) (by k_asm) (Upd.head (by exact off_tail (by assumption) (by assumption))) ?_ (by exact row_size (by assumption) (by assumption) (by assumption)); k_whole); intro h' F' N')
  k_fill
  intros; rename_i hret
  refine wpAny_call ?_
  k_dflt cell_enter
  k_steps
  all_goals first
    | (refine bend (by k_asm) (fun z hz => rfl) (by k_asm) ?_; first | exact row_g1 (by assumption) (by assumption) | exact row_g2 (by assumption) (by assumption) (by assumption) | exact row_g3 (by assumption) (by assumption) (by assumption) (by assumption) | exact row_g4 (by assumption) (by assumption) (by assumption) (by assumption))
    | (exact hret _ _ _ _ _ (by k_asm) (by k_asm) (fun q hq => Nat.ne_of_lt (by first | exact (by assumption : ∀ p ∈ _, p.1 < _) q hq)) (by assumption))
    | skip
end
-- TrI
section
open PySem PySem.W PyProof.Rows PySem.Calls
set_option maxRecDepth 100000 in
set_option maxHeartbeats 8000000 in
theorem eof_spec (w : World) (p : PySem.Program) (loose : List Str) (mean : ExcName → Option Value) (mg mb : Str → Option Value) (news : List (Addr × Obj)) (n : Int) (t : Tok) :
   ClmV w p loose mean mg mb 112 2 100 news [Value.int n t] (fun _ => Value.bool (n == 0)) := by
  dsimp only [ClmV]
  w_top off
  k_with_none
  k_fill
  intros; rename_i hret
  refine wpAny_call ?_
  k_dflt cell_enter
  k_steps
  exact cb_retB hret rfl (by k_asm) (by k_asm)
set_option maxRecDepth 100000 in
set_option maxHeartbeats 8000000 in
theorem nonterm_spec (w : World) (p : PySem.Program) (loose : List Str) (mean : ExcName → Option Value) (mg mb : Str → Option Value) (news : List (Addr × Obj)) (n : Int) (t : Tok) :
   ClmV w p loose mean mg mb 105 2 100 news [Value.int n t] (fun _ => Value.bool (decide (256 ≤ n))) := by
  dsimp only [ClmV]
  w_top off
  k_with_none
  k_fill
  intros; rename_i hret
  refine wpAny_call ?_
  k_dflt cell_enter
  k_steps
  exact cb_retB hret rfl (by k_asm) (by k_asm)
end
-- TrTx
section
open PySem PySem.W PyProof.Rows PySem.Calls PyProof.V
noncomputable def revT : List (PyData × PyData) := opsList.map fun p => (PyData.int p.2, PyData.str p.1)
noncomputable def signOf (n : Int) : Option Str := (opsList.find? (fun p => p.2 == n)).map (·.1)
theorem lookup_revL (n : Int) : ∀ l : List (Str × Int), PySem.Spec.lookup (.int n) (l.map fun p => (PyData.int p.2, PyData.str p.1)) = ((l.find? (fun p => p.2 == n)).map (·.1)).map PyData.str
  | [] => by simp [PySem.Spec.lookup]
  | p :: l => by
    have ih := lookup_revL n l
    simp only [List.map_cons, PySem.Spec.lookup, List.find?_cons, PySem.Spec.same]
    by_cases h : (p.2 == n) = true
    · simp [h]
    · have h' : (p.2 == n) = false := by simpa using h
      simp only [h', Bool.false_eq_true, if_false]
      exact ih
theorem lookup_rev (n : Int) : PySem.Spec.lookup (.int n) revT = (signOf n).map PyData.str := lookup_revL n opsList
def OpsObj (w : World) (o : Obj) : Prop := ∃ kvs, o.IsDictOf (PySem.intKind PySem.Challenge.rw_tr0039_01.row.prog w) kvs ∧ FlatPairs PyData.int kvs revT
section
variable {w : World} {A : Around} {E : Value → Shared → Prop} {s : Shared} {n : Int} {t : Tok} {Q : Value → Shared → Prop} {h₀ : Heap} {L d : Addr} {news : List (Addr × Obj)} {od : Obj}
theorem item_rev {value slice : PySem.Expr} (N : News h₀ L s.heap news) (hop : (d, od) ∈ news) (hd : OpsObj w od) (hlo : (d == sysModules) = false) (hl : (signOf n).isSome = true) (h : ∀ t', Q (.str ((signOf n).getD Str.empty) t') { s with toks := s.toks + 1 })
    (hs : subscripted slice false (.ref d) (.int n t) = operate [.ref d, .int n t] (getItem (.ref d) (.int n t)) ) (hg : ∀ r, letTemporaryGo value (.ref d) r = pure () ) :
    wpAny (model PySem.Challenge.rw_tr0039_01.row.prog w) A (subscriptTail value slice (.ref d) (.int n t)) Q E s := by
  obtain ⟨kvs, h1, h2⟩ := hd
  have T : IntTab PySem.Challenge.rw_tr0039_01.row.prog w s.heap d revT := TabAt.ofNews N hop hlo h1 h2
  cases hq : signOf n with
  | none => rw [hq] at hl; cases hl
  | some x =>
    rw [hq] at h
    refine item_intTab T (dv := PyData.str x) (by rw [lookup_rev, hq]; rfl) (fun v hv => ?_) hs hg
    obtain ⟨t', rfl⟩ := PyProof.V.Flat.str_inv hv
    exact h _
end
noncomputable def singles : List Int := [7, 8, 9, 10, 11, 12, 13, 14, 15, 16, 17, 18, 19, 20, 21, 22, 23, 24, 25, 26, 31, 32, 49, 54]
noncomputable def okList : List Int := [0, 256, 1, 2, 3, 4] ++ singles
structure okSym (n : Int) : Prop where
  mem : n ∈ okList
theorem okSym_def {n : Int} : okSym n ↔ n ∈ okList := ⟨fun h => h.mem, fun h => ⟨h⟩⟩
noncomputable def signS (n : Int) : Str := if n = 0 then Str.ofString "\"" else if 256 ≤ n then Str.ofString "\\" else if n < 5 then Txt.item (Str.ofString "\n\t\r ") (n - 1) else (signOf n).getD Str.empty
noncomputable def symN (n : Int) : Nat := (signS n).cps.getD 0 0
theorem ok_nonneg {n : Int} (h : okSym n) : 0 ≤ n := by
  rw [okSym_def] at h
  have : ∀ n ∈ okList, 0 ≤ n := by decide
  exact this n h
theorem ok_sign {n : Int} (h : okSym n) (h1 : ¬ 256 ≤ n) (h2 : ¬ n < 5) : (signOf n).isSome = true := by
  rw [okSym_def] at h
  have : ∀ n ∈ okList, ¬ 256 ≤ n → ¬ n < 5 → (signOf n).isSome = true := by decide +kernel
  exact this n h h1 h2
theorem ok_one {n : Int} (h : okSym n) : signS n = ⟨#[symN n]⟩ := by
  rw [okSym_def] at h
  have : ∀ n ∈ okList, signS n = ⟨#[symN n]⟩ := by decide +kernel
  exact this n h
theorem ok_in {ns pre post : List Int} {n : Int} (h : ∀ n ∈ ns, okSym n) (e : ns = pre ++ n :: post) : okSym n := h n (by rw [e]; simp)
noncomputable def textS (ns : List Int) : Str := ⟨(ns.map symN).toArray⟩
theorem text_join {ns : List Int} (h : ∀ n ∈ ns, okSym n) : Txt.join (Str.ofString "") (ns.map signS) = textS ns := by
  have e : ns.map signS = (ns.map symN).map fun k => (⟨#[k]⟩ : Str) := by
    rw [List.map_map]
    exact List.map_congr_left fun n hn => ok_one (h n hn)
  have e2 : Txt.join (Str.ofString "") (ns.map signS) = Str.join (Str.ofString "") (ns.map signS) := eq_of_beq (join_closes rfl)
  rw [e2, e]
  exact join_ones _
theorem ones_weight : ∀ {l : List Int}, (∀ n ∈ l, okSym n) → ((l.map signS).map (·.length)).sum = l.length
  | [], _ => rfl
  | n :: l, h => by
    have ih := ones_weight (l := l) fun m hm => h m (List.mem_cons_of_mem _ hm)
    have h1 : (signS n).length = 1 := by rw [ok_one (h n List.mem_cons_self)]; rfl
    simp only [List.map_cons, List.sum_cons, List.length_cons, h1]
    rw [ih]; omega
theorem text_weight {ns : List Int} (h : ∀ n ∈ ns, okSym n) (hl : ns.length ≤ 1000) : ((ns.map signS).map (·.length)).sum + (ns.map signS).length ≤ 1048576 := by
  rw [ones_weight h, List.length_map]; omega
end
-- TrT
section
open PySem PySem.W PyProof.Rows PySem.Calls
def textG (pre : List Int) (us : List Value) : Prop := StrsAre us (pre.map signS)
theorem text_size {ns pre post : List Int} {n : Int} {us : List Value} (e : ns = pre ++ n :: post) (h : textG pre us) (hl : ns.length ≤ 1000) : us.toArray.size ≤ sizeLine := by
  have h1 := StrsAre.length h
  subst e
  simp only [List.length_append, List.length_cons, List.length_map, List.size_toArray, PySem.sizeLine_eq] at *
  omega
theorem text_snoc {pre : List Int} {us : List Value} {n : Int} {x : Str} {t : Tok} (h : textG pre us) (e : x = signS n) : textG (pre ++ [n]) (us ++ [Value.str x t]) := by
  unfold textG
  rw [List.map_append, e]
  exact KStt.strs_snoc h
section
variable {pre : List Int} {us : List Value} {n : Int} {t : Tok}
theorem text_g1 (h : textG pre us) (h1 : n = 0) : textG (pre ++ [n]) (us ++ [Value.str (Str.ofString "\"") t]) := text_snoc h (by unfold signS; rw [if_pos h1])
theorem text_g2 (h : textG pre us) (h1 : ¬ n = 0) (h2 : 256 ≤ n) : textG (pre ++ [n]) (us ++ [Value.str (Str.ofString "\\") t]) := text_snoc h (by unfold signS; rw [if_neg h1, if_pos h2])
theorem text_g3 (h : textG pre us) (h1 : ¬ n = 0) (h2 : ¬ 256 ≤ n) (h3 : n < 5) : textG (pre ++ [n]) (us ++ [Value.str (Txt.item (Str.ofString "\n\t\r ") (n - 1)) t]) := text_snoc h (by unfold signS; rw [if_neg h1, if_neg h2, if_pos h3])
theorem text_g4 (h : textG pre us) (h1 : ¬ n = 0) (h2 : ¬ 256 ≤ n) (h3 : ¬ n < 5) : textG (pre ++ [n]) (us ++ [Value.str ((signOf n).getD Str.empty) t]) := text_snoc h (by unfold signS; rw [if_neg h1, if_neg h2, if_neg h3])
end
set_option maxRecDepth 100000 in
set_option maxHeartbeats 8000000 in
theorem text_spec (w : World) (p : PySem.Program) (loose : List Str) (mean : ExcName → Option Value) (mg mb : Str → Option Value) (news : List (Addr × Obj)) (l : Addr) (vs : List Value) (n : Nat) (ns : List Int) (d : Addr) (od : Obj)
   (hmem : (l, listOf vs.toArray n) ∈ news) (hints : IntsAre vs ns) (hlen : ns.length ≤ 1000) (hok : ∀ n ∈ ns, okSym n) (hop : (d, od) ∈ news) (hd : OpsObj w od) (hlo : (d == sysModules) = false) :
   ClmV w p loose mean mg mb 133 4 150 news [Value.ref l, Value.ref d] (fun t => Value.str (textS ns) t) := by
  dsimp only [ClmV]
  w_top off
  k_with_none
  k_with "subscriptTail" => (k_here; (with_reducible show wpAny _ _ (subscriptTail _ _ (Value.ref _) (Value.int _ _)) _ _ _); (refine item_rev (by k_asm) (by k_mem) (by assumption) (by assumption) (by exact ok_sign (by assumption) (by omega) (by omega)) ?_ (by with_unfolding_all rfl) (by intro _; with_unfolding_all rfl); k_whole); intro t9)
  k_with "exec For Name Name cons nil" => (k_here; (rename Fr _ _ _ _ => lF'); (with_unfolding_all refine For_invVF lF' (by exact rfl) (by exact rfl) ?_; k_whole))
  k_with "pyIter ref" => (k_here; (with_unfolding_all refine build_listL textG (by rfl) (by k_mem) (by assumption) (by k_asm) (by k_asm) (by exact StrsAre.nil) ?_ ?_); (focus (intro us pre post n t h tk own e off hP F N; (have hokn := ok_in (by assumption) e); (have hokp := ok_nonneg hokn))))
  k_with "call builtin:list.append" => (k_here; k_dflt (refine append_K (by k_asm) (by k_asm) (Upd.head (by exact off_tail (by assumption) (by assumption))) ?_ (by exact text_size (by assumption) (by assumption) (by assumption)); k_whole); intro h' F' N')
  k_with "call builtin:str.join" => (k_here; k_dflt (refine join_listW (by is_list) (by exact (by assumption : textG _ _)) (by decide +kernel) (by exact text_weight (by assumption) (by assumption)) ?_; k_whole); intro t9 tk9)
  k_with "call ref" => (k_here; (with_reducible show wpAny _ _ (call (Value.ref 112) _) _ _ _); (refine useV2 (by k_asm) (by k_asm) (by k_asm) (by k_asm) (by k_asm) (by first | exact rfl | assumption) (by ktr_room) (by ktr_units) (eof_spec _ _ _ _ _ _ _ _ _) ?_); intro t9 h9 tk9 F9 N9; (try dsimp only); (try k_fold))
  k_with "call ref" => (k_here; (with_reducible show wpAny _ _ (call (Value.ref 105) _) _ _ _); (refine useV2 (by k_asm) (by k_asm) (by k_asm) (by k_asm) (by k_asm) (by first | exact rfl | assumption) (by ktr_room) (by ktr_units) (nonterm_spec _ _ _ _ _ _ _ _ _) ?_); intro t9 h9 tk9 F9 N9; (try dsimp only); (try k_fold))
  k_fill
  intros; rename_i hret
  refine wpAny_call ?_
  k_dflt cell_enter
  k_steps
  all_goals first
    | (refine bend (by k_asm) (fun z hz => rfl) (by k_asm) ?_; first | exact text_g1 (by assumption) (by assumption) | exact text_g2 (by assumption) (by assumption) (by assumption) | exact text_g3 (by assumption) (by assumption) (by assumption) (by assumption) | exact text_g4 (by assumption) (by assumption) (by assumption) (by assumption))
    | (refine cb_retS hret (text_join hok) (by k_asm) (cb_drop (by k_asm) (fun q hq => List.mem_cons_of_mem _ hq)); done)
    | skip
end
-- TrFn
section
open PySem PySem.W PyProof.Rows PySem.Calls Builtin Builtin.ObjectAttr
set_option maxRecDepth 100000
theorem store_function : StoreFacts "function" [.type "function", .type "object"] "object.__setattr__" "object" where
  mro := by kernel_rfl
  slot := .of (owner := "object") (n := "__setattr__") (by rw [typeLookup_type, builtinLookup_eq_fast]; kernel_rfl) (by decide +kernel) (by decide +kernel) (by decide +kernel)
    (by first | exact .inl (by decide +kernel) | exact .inr (by decide +kernel)) (by rw [isSubtype_type]; kernel_rfl)
  entry := PySem.F.entry_object_sa
  kind := by decide +kernel
  split := by decide +kernel
  hasOwner := by decide +kernel
  args := fun a b c => by unfold argsOk; kernel_rfl
  passes := fun self => by kernel_rfl
theorem fn_no_read : typeLookup (.type "function") (Str.ofString "read") = pure none := by rw [typeLookup_type, builtinLookup_eq_fast]; kernel_rfl
noncomputable abbrev fnObj (dct : Option Addr) (fd : FuncData) (sl : Array (Option Value)) : Obj := ⟨.type "function", dct, .func fd, sl⟩
section
variable {prog : PySem.Program} {w : World} {A : Around} {E : Value → Shared → Prop} {s : Shared} {h₀ : Heap} {L f : Addr} {m : Str → Option Value} {fd : FuncData} {sl : Array (Option Value)} {v : Value}
theorem fn_setattr {news : List (Addr × Obj)} {g : Obj → List (Addr × Obj)} {Q : Unit → Shared → Prop} (F : Fr h₀ L s.heap m) (N : News h₀ L s.heap news) (U : UpdF f (fnObj none fd sl) news g)
    (h : ∀ d h' (tk : Tok) tk', Fr h₀ L h' m → News h₀ L h' ((d, dictOf [⟨PyData.keyHash w.params (Str.ofString "read"), .str (Str.ofString "read") tk, v⟩] 1) :: g (fnObj (some d) fd sl)) → (∀ p ∈ news, p.1 < d) → Q () { s with heap := h', toks := tk' }) :
    wpAny (model prog w) A (setAttr (.ref f) (Str.ofString "read") v) Q E s := by
  obtain ⟨pre, post, rfl, hg, ha, hb⟩ := U.split
  have hm : (f, fnObj none fd sl) ∈ pre ++ (f, fnObj none fd sl) :: post := List.mem_append_right _ (.head _)
  have hf := (N _ hm).1
  have SF := store_function
  have hT : s.TypeIs (.ref f) "function" := ⟨_, hf, rfl⟩
  unfold setAttr
  refine wpAny_bind (wpAny_mkText (wpAny_bind (wpAny_callSpecial?_slot (name := Str.ofString "__setattr__") ⟨_, hf, rfl⟩ SF.slot (wpAny_call_entry SF.slot ⟨_, hf, rfl⟩ SF.entry ?_ (SF.args _ _ _)))))
  rw [osa_eq, refuse_eq]
  refine wpAny_bind (wpAny_bind (wpAny_typeOf ⟨_, hf, rfl⟩ ?_))
  rw [SF.mro]
  refine wpAny_bind (wpAny_pure ?_)
  rw [SF.passes]
  refine wpAny_pure (wpAny_bind (wpAny_typeOf ⟨_, hf, rfl⟩ (wpAny_bind ?_)))
  rw [fn_no_read]
  refine wpAny_pure (wpAny_bind (wpAny_pure ?_))
  show wpAny _ _ (storeInOwnDict (.ref f) (.type "function") _ _ v false) _ _ _
  unfold storeInOwnDict
  refine wpAny_bind (m := ownStreamTells _ _) (wpAny_of_eq (a := ()) (by kernel_rfl) ?_)
  rw [if_neg (by decide)]
  refine wpAny_bind ?_
  show wpAny _ _ (instanceDict f true) _ _ _
  unfold instanceDict
  refine wpAny_bind (wpAny_loadPart (o := fnObj none fd sl) hf ?_)
  show wpAny _ _ (if (!true || !typeHasDict (.type "function")) = true then _ else _) _ _ _
  rw [if_neg (by decide +kernel)]
  refine wpAny_bind (wpAny_alloc ?_)
  have F₁ := F.push { cls := .type "dict", data := .dict #[] }
  have N₁ := News.push F N { cls := .type "dict", data := .dict #[] }
  have hfs : f < s.heap.objs.size := Heap.lt_size hf
  obtain ⟨U1, U2⟩ := news_upd (pre := (s.heap.objs.size, { cls := .type "dict", data := .dict #[] }) :: pre) (f := fun o : Obj => { o with dict := some s.heap.objs.size }) (o' := fnObj (some s.heap.objs.size) fd sl) F₁ N₁ (List.forall_mem_cons.mpr ⟨Nat.ne_of_gt hfs, ha⟩) hb rfl rfl
  refine wpAny_bind (wpAny_update (Heap.get?_push_of_some _ hf) ?_)
  show wpAny _ _ (dictMade (.type "function") f s.heap.objs.size) _ _ _
  refine wpAny_of_eq (a := some s.heap.objs.size) (by kernel_rfl) ?_
  show wpAny _ _ (storeInDict s.heap.objs.size _ _ v) _ _ _
  unfold storeInDict newKeyGuard
  refine wpAny_bind (wpAny_pure (wpAny_bind ?_))
  have D := (U2 _ (.head _)).1
  obtain ⟨V1, V2⟩ := news_upd (pre := []) (f := Obj.putName (Str.ofString "read") (PyData.keyHash w.params (Str.ofString "read")) (.str (Str.ofString "read") (s.toks + 1)) v) (o' := dictOf [⟨PyData.keyHash w.params (Str.ofString "read"), .str (Str.ofString "read") (s.toks + 1), v⟩] 1) U1 U2 (fun _ h => nomatch h) (fun p hp => by
    rcases List.mem_append.mp hp with q | q
    · exact Nat.ne_of_lt (Heap.lt_size (N p (List.mem_append_left _ q)).1)
    · rcases List.mem_cons.mp q with rfl | q
      · exact Nat.ne_of_lt hfs
      · exact Nat.ne_of_lt (Heap.lt_size (N p (List.mem_append_right _ (List.mem_cons_of_mem _ q))).1)) rfl rfl
  unfold nsSet
  refine wpAny_bind ?_
  refine wpAny_bind (wpAny_askSetting (wpAny_pure ?_))
  refine wpAny_bind (wpAny_mkText (wpAny_bind (wpAny_loadPart D ?_)))
  dsimp only
  rw [aRefKeyMayBeTheName_at, if_neg (by decide +kernel)]
  refine wpAny_updatePart D ?_
  refine wpAny_bind (wpAny_lookBehind (V2 _ (.head _)).1 (pastItsLine_dict (by simp [sizeLine_eq])) ?_)
  refine wpAny_pure ⟨_, rfl, wpAny_pure ?_⟩
  refine h s.heap.objs.size _ (s.toks + 1) _ V1 ?_ (fun p hp => Heap.lt_size (N p hp).1)
  rw [hg]
  exact V2
theorem slot_fn_get : Slot "function" "__getattribute__" "object.__getattribute__" :=
  .of (owner := "object") (n := "__getattribute__") (by rw [typeLookup_type, builtinLookup_eq_fast]; kernel_rfl) (by decide +kernel) (by decide +kernel) (by decide +kernel)
    (by first | exact .inl (by decide +kernel) | exact .inr (by decide +kernel)) (by rw [isSubtype_type]; kernel_rfl)
theorem entry_get : entryFor table "object.__getattribute__" = some Builtin.«object.__getattribute__» := entryFor_of_tree (by kernel_rfl)
theorem args_get (a b : Value) : argsOk "object.__getattribute__" ⟨[a, b], []⟩ := by unfold argsOk; kernel_rfl
theorem fn_no_getattr : typeLookup (.type "function") (Str.ofString "__getattr__") = pure none := by rw [typeLookup_type, builtinLookup_eq_fast]; kernel_rfl
theorem fn_getMethod {ds : Addr} {e : DictEntry} {tk : Tok} {pl : Sem Bool} {Q : Value × List Value → Shared → Prop} {rd : Addr} (hf : s.heap.get? f = some (fnObj (some ds) fd sl)) (hd : s.heap.get? ds = some (dictOf [⟨e.hash, .str (Str.ofString "read") tk, .ref rd⟩] 1))
    (h : ∀ tk', Q (.ref rd, []) { s with toks := tk' }) : wpAny (model prog w) A (getMethod (.ref f) (Str.ofString "read") pl) Q E s := by
  have hT : s.TypeIs (.ref f) "function" := ⟨_, hf, rfl⟩
  unfold getMethod
  refine wpAny_bind (wpAny_specialOf hT slot_fn_get.lookup ?_)
  dsimp only
  rw [if_neg (by decide +kernel)]
  refine wpAny_bind (wpAny_specialOf hT fn_no_getattr ?_)
  rw [if_neg (by decide)]
  refine wpAny_bind (wpAny_specialOf hT fn_no_read ?_)
  dsimp only
  refine wpAny_bind ?_
  unfold getAttr getAttrBy
  refine wpAny_bind (wpAny_mkText (wpAny_holding (wpAny_bind (wpAny_typeOf ⟨_, hf, rfl⟩ (wpAny_bind ?_)))))
  rw [slot_fn_get.lookup]
  refine wpAny_pure ?_
  dsimp only
  rw [if_neg (by decide)]
  unfold getAttrByItsOwn
  refine wpAny_bind (wpAny_of_eq (a := none) (by kernel_rfl) ?_)
  refine wpAny_bind (wpAny_attempt (wpAny_holding ?_))
  show wpAny _ _ (boundAndCalled _ _ _) _ _ _
  unfold boundAndCalled
  rw [slot_fn_get.bind]
  refine wpAny_bind (wpAny_pure ?_)
  refine wpAny_call_entry slot_fn_get ⟨_, hf, rfl⟩ entry_get ?_ (args_get _ _)
  unfold Builtin.«object.__getattribute__»
  refine wpAny_bind (m := slotArgs _ _ _) (wpAny_of_eq (a := (Value.ref f, [Value.str (Str.ofString "read") s.toks])) (by first | rfl | kernel_rfl) ?_)
  dsimp only
  refine wpAny_bind (m := attrName _) (wpAny_of_eq (a := Str.ofString "read") (by first | rfl | kernel_rfl) ?_)
  refine wpAny_bind (wpAny_typeOf ⟨_, hf, rfl⟩ (wpAny_bind ?_))
  unfold find
  refine wpAny_bind ?_
  rw [fn_no_read]
  refine wpAny_pure (wpAny_bind (wpAny_pure (wpAny_bind (wpAny_pure ?_))))
  show wpAny _ _ (ownThenClass _ _ _ _) _ _ _
  unfold ownThenClass inOwnDict Builtin.ObjectAttr.ownDict instanceDict
  refine wpAny_bind (wpAny_bind (wpAny_bind (wpAny_loadPart hf ?_)))
  dsimp only
  refine wpAny_bind (wpAny_loadPart hf ?_)
  dsimp only
  refine wpAny_pure ?_
  show wpAny _ _ (nsGet ds _) _ _ _
  unfold nsGet
  refine wpAny_bind (wpAny_loadPart hd ?_)
  refine wpAny_of_eq (a := some (Value.ref rd)) (by first | rfl | kernel_rfl) ?_
  refine wpAny_bind (wpAny_rule (wpAny_pure ?_))
  dsimp only
  exact wpAny_pure ⟨_, rfl, wpAny_pure (wpAny_pure (h _))⟩
end
end
-- TrCI2
section
open PySem PySem.W PyProof.Rows PySem.Calls Builtin Builtin.ObjectAttr Builtin.SmallTypes
set_option maxRecDepth 100000
noncomputable abbrev citer (a b c : Value) : Obj := { cls := .type "callable_iterator", data := .fields #[a, b, c] }
theorem slot_ci_iter : Slot "callable_iterator" "__iter__" "callable_iterator.__iter__" :=
  .of (owner := "callable_iterator") (n := "__iter__") (by rw [typeLookup_type, builtinLookup_eq_fast]; kernel_rfl) (by decide +kernel) (by decide +kernel) (by decide +kernel)
    (by first | exact .inl (by decide +kernel) | exact .inr (by decide +kernel)) (by rw [isSubtype_type]; kernel_rfl)
theorem slot_ci_next : Slot "callable_iterator" "__next__" "callable_iterator.__next__" :=
  .of (owner := "callable_iterator") (n := "__next__") (by rw [typeLookup_type, builtinLookup_eq_fast]; kernel_rfl) (by decide +kernel) (by decide +kernel) (by decide +kernel)
    (by first | exact .inl (by decide +kernel) | exact .inr (by decide +kernel)) (by rw [isSubtype_type]; kernel_rfl)
theorem entry_ci_iter : entryFor table "callable_iterator.__iter__" = some Builtin.«dict_keyiterator.__iter__» :=
  entryFor_alias (id' := "dict_keyiterator.__iter__") (by kernel_rfl) (by first | rfl | decide +kernel) (by decide +kernel) (by kernel_rfl)
theorem entry_ci_next : entryFor table "callable_iterator.__next__" = some Builtin.«callable_iterator.__next__» := entryFor_of_tree (by kernel_rfl)
theorem args_ci_iter (a : Value) : argsOk "callable_iterator.__iter__" ⟨[a], []⟩ := by unfold argsOk; kernel_rfl
theorem args_ci_next (a : Value) : argsOk "callable_iterator.__next__" ⟨[a], []⟩ := by unfold argsOk; kernel_rfl
theorem args_iter2 (a b : Value) : argsOk "iter" ⟨[a, b], []⟩ := by unfold argsOk; kernel_rfl
theorem meth_call : ∃ v, typeLookup (.type "method") (Str.ofString "__call__") = pure (some v) := ⟨.builtin "method.__call__", by rw [typeLookup_type, builtinLookup_eq_fast]; kernel_rfl⟩
theorem news_push2 {h₀ h : Heap} {L : Addr} {m : Str → Option Value} {news : List (Addr × Obj)} (F : Fr h₀ L h m) (N : News h₀ L h news) (o o' : Obj) (ho : o.isFreed = false) (ho' : o'.isFreed = false) : News h₀ L ((h.push o).push o') news := by
  have N₁ := News.push F N o ho
  have N₂ := News.push (F.push o) N₁ o' ho'
  exact fun p hp => N₂ p (List.mem_cons_of_mem _ (List.mem_cons_of_mem _ hp))
section
variable {prog : PySem.Program} {w : World} {A : Around} {E : Value → Shared → Prop} {s : Shared} {h₀ : Heap} {L q g I : Addr} {m : Str → Option Value} {news : List (Addr × Obj)} {self sent a b c : Value}
theorem iter_callable {Q : Value → Shared → Prop} (F : Fr h₀ L s.heap m) (N : News h₀ L s.heap news) (hq : (q, methodObj (.ref g) self) ∈ news)
    (h : ∀ I h', Fr h₀ L h' m → News h₀ L h' ((I, citer (.ref q) sent (.bool false)) :: news) → (∀ p ∈ news, p.1 < I) → Q (.ref I) { s with heap := h' }) :
    wpAny (model prog w) A (call (.builtin "iter") [.ref q, sent]) Q E s := by
  refine call_function_entry (by decide +kernel) (by decide +kernel) kdk_entry_iter (args_iter2 _ _) ?_
  unfold Builtin.«iter»
  refine wpAny_bind (m := someArgs "iter" 1 2 _) (wpAny_of_eq (a := [Value.ref q, sent]) (by first | rfl | kernel_rfl!) ?_)
  dsimp only
  obtain ⟨v, hv⟩ := meth_call
  refine wpAny_bind (wpAny_specialOf (T := "method") ⟨_, (N _ hq).1, rfl⟩ hv ?_)
  rw [if_neg (by simp)]
  refine wpAny_bind (wpAny_rule ?_)
  refine wpAny_bind (wpAny_newObj_type (wpAny_pure ⟨_, rfl, h _ _ (F.push _) (News.push F N _) (fun p hp => Heap.lt_size (N p hp).1)⟩))
theorem pyIter_callable {Q : Value → Shared → Prop} (hI : s.heap.get? I = some (citer a b c)) (h : Q (.ref I) s) : wpAny (model prog w) A (pyIter (.ref I)) Q E s := by
  refine wpAny_pyIter_slot ⟨_, hI, rfl⟩ slot_ci_iter (wpAny_call_entry slot_ci_iter ⟨_, hI, rfl⟩ entry_ci_iter ?_ (args_ci_iter _))
  exact wpAny_pure ⟨_, rfl, "callable_iterator", _, ⟨_, hI, rfl⟩, slot_ci_next.lookup, h⟩
theorem wpAny_callBorrowed {f : Value} {pos : List Value} {Q : Value → Shared → Prop} (h : wpAny (model prog w) A (call f pos) Q E s) : wpAny (model prog w) A (callBorrowed f pos) Q E s := fun Γ p hΓ => by
  have h1 := h Γ p hΓ
  unfold call at h1
  rw [Sem.wp_runValue] at h1
  unfold callBorrowed
  rw [Sem.wp_call]
  refine wpCode_mono (fun r s' hr => ?_) h1
  cases r with
  | error e => exact hr
  | ok f => cases f <;> exact hr
theorem borrows_meth {fd : FuncData} {og : Obj} {Q : Bool → Shared → Prop} (hq : s.heap.get? q = some (methodObj (.ref g) self)) (hg : s.heap.get? g = some og) (hfd : og.data = .func fd) (h : Q true s) :
    wpAny (model prog w) A (borrowsExactly (.ref q)) Q E s := by
  unfold borrowsExactly
  refine wpAny_bind (wpAny_load hq ?_)
  dsimp only
  rw [if_pos (by decide)]
  refine wpAny_bind (wpAny_load hg ?_)
  rw [hfd]
  exact wpAny_pure h
theorem stop_end {α : Type} {Q : Option Value → Shared → Prop} (hh : A.handled = none) (F : Fr h₀ L s.heap m) (N : News h₀ L s.heap news)
    (h : ∀ h', Fr h₀ L h' m → News h₀ L h' news → Q none { s with heap := h' }) :
    wpAny (model prog w) A.in1 (stopIteration : Sem α) (fun _ _ => False) (fun e s' => wpAny (model prog w) A (do if ← isInstance e (.type "StopIteration") then pure none else throw e) Q E s') s := by
  unfold stopIteration
  show wpAny _ _ (newExc (.type "StopIteration") [] >>= _) _ _ _
  refine wpAny_bind ?_
  simp only [newExc, newTuple]
  refine wpAny_bind (wpAny_newObj_type ?_ (by size_fits))
  refine wpAny_bind (m := firstArgMember _ _) (wpAny_of_eq (a := Value.none) (by first | rfl | (simp only [firstArgMember]; rfl)) ?_)
  refine wpAny_newObj_type ?_ (by size_fits)
  refine wpAny_bind (m := handled) (wpAny_handled_none hh ?_)
  refine wpAny_bind (wpAny_pure (wpAny_throw ?_))
  refine wpAny_bind (wpAny_isInstance (T := "StopIteration") (b := true) ⟨_, Heap.get?_push_size _ rfl, rfl⟩ isSubtype_stop ?_)
  exact wpAny_pure (h _ ((F.push _).push _) (news_push2 F N _ _ rfl rfl))
theorem next_end {Q : Option Value → Shared → Prop} (hh : A.handled = none) (F : Fr h₀ L s.heap m) (N : News h₀ L s.heap news) (hI : (I, citer a b (.bool true)) ∈ news)
    (h : ∀ h', Fr h₀ L h' m → News h₀ L h' news → Q none { s with heap := h' }) : wpAny (model prog w) A (pyNext (.ref I)) Q E s := by
  have hi := (N _ hI).1
  unfold pyNext
  refine wpAny_bind (wpAny_attempt (wpAny_callSpecial?_slot (name := Str.ofString "__next__") ⟨_, hi, rfl⟩ slot_ci_next
    (wpAny_call_entry slot_ci_next ⟨_, hi, rfl⟩ entry_ci_next ?_ (args_ci_next _))))
  show wpAny _ _ (field (.ref I) 2 >>= _) _ _ s
  refine wpAny_bind (wpAny_field hi rfl (x := .bool true) rfl ?_)
  rw [if_pos (by simp)]
  refine wpAny_bind (wpAny_rule ?_)
  refine wpAny_bind (wpAny_mono (stop_end hh F N h) (fun _ _ x => x.elim) (fun _ _ x => x))
def NextP (h₀ : Heap) (L : Addr) (m : Str → Option Value) (I q g : Addr) (self : Value) (sx : Str) (sent : Value) (Q : Option Value → Shared → Prop) (r : Value) (s₁ : Shared) : Prop :=
  ∀ R : Prop, (∀ y u news₁ og fd, r = .str y u → Fr h₀ L s₁.heap m → News h₀ L s₁.heap ((I, citer (.ref q) sent (.bool false)) :: news₁) → (∀ p ∈ news₁, p.1 ≠ I) → (q, methodObj (.ref g) self) ∈ news₁ →
    s₁.heap.get? g = some og → og.data = .func fd → (sx ≠ y → Q (some (.str y u)) s₁) →
    (sx = y → ∀ h', Fr h₀ L h' m → News h₀ L h' ((I, citer .none .none (.bool true)) :: news₁) → Q none { s₁ with heap := h' }) → R) → R
theorem next_call {Q : Option Value → Shared → Prop} {sx : Str} {tx : Tok} {fd : FuncData} {og : Obj} (hh : A.handled = none) (N : News h₀ L s.heap news) (hI : (I, citer (.ref q) (.str sx tx) (.bool false)) ∈ news)
    (hq : (q, methodObj (.ref g) self) ∈ news) (hg : s.heap.get? g = some og) (hfd : og.data = .func fd)
    (h : ∀ E : Value → Shared → Prop, codeAny (model prog w) A.in1 (.call (.ref g) ⟨[self], []⟩) (fun r s' => match r with | .ok (.ret v) => NextP h₀ L m I q g self sx (.str sx tx) Q v s' | .ok _ => False | .error e => E e s') s) : wpAny (model prog w) A (pyNext (.ref I)) Q E s := by
  have hi := (N _ hI).1
  unfold pyNext
  refine wpAny_bind (wpAny_attempt (wpAny_callSpecial?_slot (name := Str.ofString "__next__") ⟨_, hi, rfl⟩ slot_ci_next
    (wpAny_call_entry slot_ci_next ⟨_, hi, rfl⟩ entry_ci_next ?_ (args_ci_next _))))
  show wpAny _ _ (field (.ref I) 2 >>= _) _ _ s
  refine wpAny_bind (wpAny_field hi rfl (x := .bool false) rfl ?_)
  rw [if_neg (by simp)]
  refine wpAny_bind (wpAny_field hi rfl (x := .ref q) rfl ?_)
  refine wpAny_bind (wpAny_attempt ?_)
  unfold callOutOfASlot
  refine wpAny_bind (borrows_meth (N _ hq).1 hg hfd ?_)
  rw [if_pos rfl]
  refine wpAny_callBorrowed ?_
  refine wpAny_mono (call_meth (E := fun _ _ => False) N hq (h _)) ?_ (fun _ _ x => x.elim)
  intro v s₁ P
  refine P _ fun y u news₁ og₁ fd₁ e F₁ N₁ ne₁ hq₁ hg₁ hfd₁ k1 k2 => ?_
  subst e
  have hi₁ := (N₁ _ (.head _)).1
  dsimp only
  refine wpAny_bind (wpAny_field hi₁ rfl (x := .bool false) rfl ?_)
  rw [if_neg (by simp)]
  refine wpAny_bind (wpAny_field hi₁ rfl (x := .str sx tx) rfl ?_)
  refine wpAny_bind (wpAny_holding (eqBool_str ?_))
  by_cases e : sx = y
  · rw [if_neg (by simp [e])]
    refine wpAny_bind (wpAny_rule ?_)
    show wpAny _ _ ((do slotLetsGo "callable_iterator.__next__" (← field (.ref I) 0) _; setField (.ref I) 0 .none; setField (.ref I) 1 .none; setField (.ref I) 2 (.bool true)) >>= fun _ => stopIteration) _ _ _
    refine wpAny_bind (wpAny_bind (wpAny_field hi₁ rfl (x := .ref q) rfl (wpAny_bind ?_)))
    unfold slotLetsGo
    dsimp only
    refine wpAny_bind (borrows_meth (N₁ _ (List.mem_cons_of_mem _ hq₁)).1 hg₁ hfd₁ ?_)
    rw [if_pos rfl]
    refine wpAny_pure ?_
    obtain ⟨A1, A2⟩ := news_upd (pre := []) (f := Obj.mapFields (·.setIfInBounds 0 .none)) (o' := citer .none (.str sx tx) (.bool false)) F₁ N₁ (fun _ h => nomatch h) ne₁ rfl rfl
    obtain ⟨B1, B2⟩ := news_upd (pre := []) (f := Obj.mapFields (·.setIfInBounds 1 .none)) (o' := citer .none .none (.bool false)) A1 A2 (fun _ h => nomatch h) ne₁ rfl rfl
    obtain ⟨C1, C2⟩ := news_upd (pre := []) (f := Obj.mapFields (·.setIfInBounds 2 (.bool true))) (o' := citer .none .none (.bool true)) B1 B2 (fun _ h => nomatch h) ne₁ rfl rfl
    refine wpAny_bind (wpAny_setField hi₁ rfl (by simp) ?_)
    refine wpAny_bind (wpAny_setField (A2 _ (.head _)).1 rfl (by simp) ?_)
    refine wpAny_setField (B2 _ (.head _)).1 rfl (by simp) ?_
    refine wpAny_mono (stop_end (Q := Q) hh C1 C2 (fun h' F' N' => k2 e h' F' N')) (fun _ _ x => x.elim) (fun _ _ x => x)
  · rw [if_pos (by simpa using e)]
    exact wpAny_bind (wpAny_pure (wpAny_pure ⟨_, rfl, wpAny_pure (k1 e)⟩))
end
end
-- TrQ
section
open PySem PySem.W PyProof.Rows PySem.Calls
abbrev ClmC (w : World) (p : PySem.Program) (loose : List Str) (mean : ExcName → Option Value) (mg mb : Str → Option Value) (f : Addr) (dk uk : Nat) (news : List (Addr × Obj)) (vs : List Value) (RET : Heap → Addr → (Str → Option Value) → Shared → (Value → Shared → Prop) → Prop) : Prop :=
  ∀ (dp un : Nat) (gd : Option (List Code)) (cn : Str) (cs : Scope) (a : Addr) (ccd : Value) (cl : List (Str × Addr)) (outer : List Env) (A₀ : Around) (base h₀ : Heap) (L : Addr) (m : Str → Option Value) (s : Shared) (Q E : Value → Shared → Prop),
    Below A₀ base outer h₀ → Fr h₀ L s.heap m → Frag.In (Mine.hd.heap_39 w.params) h₀ → News h₀ L s.heap news → Top p loose mean mg mb h₀ → cs.kind = .function →
    dp + dk < recursionLimit → un + uk < cLine →
    RET h₀ L m s Q →
      codeAny (model PySem.Challenge.rw_tr0039_01.row.prog w) (ktrTop dp un gd cn cs L a ccd cl outer) (.call (.ref f) ⟨vs, []⟩) (fun r s' => match r with | .ok (.ret v) => Q v s' | .ok _ => False | .error e => E e s') s
section
variable {w : World} {p : PySem.Program} {loose : List Str} {mean : ExcName → Option Value} {mg mb : Str → Option Value} {f : Addr} {dk uk : Nat} {news : List (Addr × Obj)} {vs : List Value} {RET : Heap → Addr → (Str → Option Value) → Shared → (Value → Shared → Prop) → Prop}
    {dp un : Nat} {gd : Option (List Code)} {cn : Str} {cs : Scope} {a : Addr} {ccd : Value} {cl : List (Str × Addr)} {outer : List Env} {A₀ : Around} {base h₀ : Heap} {L : Addr} {m : Str → Option Value} {s : Shared} {Q E : Value → Shared → Prop}
theorem useC (C : ClmC w p loose mean mg mb f dk uk news vs RET)
    (B : Below A₀ base outer h₀) (F : Fr h₀ L s.heap m) (X : Frag.In (Mine.hd.heap_39 w.params) h₀) (N : News h₀ L s.heap news) (T : Top p loose mean mg mb h₀) (hk : cs.kind = .function) (hd : dp + dk < recursionLimit) (hu : un + uk < cLine)
    (ret : RET h₀ L m s Q) : wpAny (model PySem.Challenge.rw_tr0039_01.row.prog w) (ktrTop dp un gd cn cs L a ccd cl outer) (call (.ref f) vs) Q E s :=
  wpAny_call (C dp un gd cn cs a ccd cl outer A₀ base h₀ L m s Q E B F X N T hk hd hu ret)
theorem useC2 (B : Below A₀ base outer h₀) (F : Fr h₀ L s.heap m) (X : Frag.In (Mine.hd.heap_39 w.params) h₀) (N : News h₀ L s.heap news) (T : Top p loose mean mg mb h₀) (hk : cs.kind = .function) (hd : dp + dk < recursionLimit) (hu : un + uk < cLine)
    (C : ClmC w p loose mean mg mb f dk uk news vs RET)
    (ret : RET h₀ L m s Q) : wpAny (model PySem.Challenge.rw_tr0039_01.row.prog w) (ktrTop dp un gd cn cs L a ccd cl outer) (call (.ref f) vs) Q E s := useC C B F X N T hk hd hu ret
end
theorem ret_eq {Q : Value → Shared → Prop} {a b : Value} {s : Shared} (e : a = b) (h : Q b s) : Q a s := e ▸ h
noncomputable def readOf (K : Frag) : Option (Arguments × List Stmt × Scope) :=
  match K.lookup 119 with
  | some o => match o.data with
    | .func fd => match fd.body with
      | .stmts (_ :: .FunctionDef _ ps b _ _ _ sc _ _ _ :: _) => some (ps, b, sc)
      | _ => none
    | _ => none
  | none => none
local macro_rules | `(tactic| k_mem) => `(tactic| (apply List.mem_cons_of_mem; assumption))
set_option maxRecDepth 100000 in
set_option maxHeartbeats 8000000 in
theorem read_spec (w : World) (p : PySem.Program) (loose : List Str) (mean : ExcName → Option Value) (mg mb : Str → Option Value) (news : List (Addr × Obj)) (x : Str) (tx : Tok) (k : Int) (ta : Tok) (n : Nat) (t1 : Tok)
   (ps : Arguments) (b : List Stmt) (sc : Scope) (qual : Str) (ct ca at' c1 rd : Addr) (oct oca oc1 : Obj) (dc pm cv : Value) (vs : Array Value) (tq : Tok)
   (hp : readOf (Mine.hd.heap_39 w.params) = some (ps, b, sc))
   (hrd : (rd, fnMade (Str.ofString "read") qual ps b sc [(Str.ofString "text", ct), (Str.ofString "at", ca)] dc pm c1 cv) ∈ news)
   (hc1 : (c1, oc1) ∈ news) (hoc1 : oc1.data = .fields vs) (hvs : vs[1]? = some (.str qual tq))
   (hct : (ct, oct) ∈ news) (hoct : oct.data = .cell (some (.str x tx))) (hca : (ca, oca) ∈ news) (hoca : oca.data = .cell (some (.ref at')))
   (hat : ∀ q ∈ news, q.1 ≠ at') (hlen : x.length ≤ 1000) (hk0 : 0 ≤ k) (hk1 : k ≤ 2000) :
   ClmC w p loose mean mg mb rd 2 50 ((at', listOf #[Value.int k ta] n) :: news) [Value.int 1 t1] (fun h₀ L m s Q => ∀ (t : Tok) (h' : Heap) (tk' : Nat) (ta' : Tok) (n' : Nat), Fr h₀ L h' m → News h₀ L h' ((at', listOf #[Value.int (k + 1) ta'] n') :: news) → Q (Value.str (Txt.slice x (some k) (some (k + 1))) t) { s with heap := h', toks := tk' }) := by
  have hp2 : some _ = some (ps, b, sc) := hp
  have hp3 := Option.some.inj hp2
  obtain ⟨rfl, hp4⟩ := Prod.mk.inj hp3
  obtain ⟨rfl, rfl⟩ := Prod.mk.inj hp4
  clear hp hp2 hp3 hp4
  dsimp only [ClmC]
  w_top off
  k_with_none
  k_with "eval Name" => (k_here; k_dflt (refine nameX_F (by k_asm) (by rfl) (by exact List.mem_cons_of_mem _ (by assumption)) (by assumption) ?_ (by rfl) (by rfl); k_whole))
  k_fill
  intros; rename_i hret
  k_dflt (refine' code_nest ?k1 ?k2 ?k3 ?k4 ?k5 ?kA ?kF ?kK ?k6 ?k7 ?k8 ?k9 ?kB ?_ ?c2 ?c3 ?c4 ?c5; (case kA => exact rfl); (case kF => exact rfl); (case kK => assumption); (case k1 => k_asm); (case k2 => k_asm); (case k3 => k_asm); (case k4 => k_asm); (case k5 => k_asm); (case k6 => k_mem); (case k7 => exact codeRec_news (by k_asm) (by k_mem) (by assumption) (by assumption)); (case k8 => ktr_room); (case k9 => exact BindsTo.of_eq rfl); (case c5 => decide); (case kB => exact locs rfl); (case c2 => exact rfl); (case c3 => exact rfl); (case c4 => exact rfl); k_whole; intro g' L' h' FG' F' N' B' X' T'; (try dsimp only); (try k_lift B'); (try k_fold))
  k_steps
  all_goals exact ret_eq (congrArg (fun z => Value.str (Txt.slice x (some z) (some (k + 1))) _) (Int.add_sub_cancel k 1)) (hret _ _ _ _ _ (by k_asm) (by k_asm))
end
-- TrLx
section
open PySem PySem.W PyProof.Rows PySem.Calls
set_option genInjectivity false in
set_option genSizeOf false in
structure LexA where
  z : Addr
  d : Addr
  ds : Addr
  f : Addr
  rd : Addr
  at' : Addr
  pb : Addr
  fd : FuncData
  t1 : Tok
  t2 : Tok
  t3 : Tok
  t4 : Tok
  tw : Tok
  tr : Tok
noncomputable abbrev lexDict (P : Params) (t1 t2 t3 t4 : Tok) (ln : Int) (tl : Tok) (f : Addr) (tw : Tok) (pb : Addr) : Obj :=
  dictOf [⟨PyData.keyHash P (Str.ofString "lineno"), .str (Str.ofString "lineno") t1, .int ln tl⟩, ⟨PyData.keyHash P (Str.ofString "instream"), .str (Str.ofString "instream") t2, .ref f⟩,
    ⟨PyData.keyHash P (Str.ofString "whitespace"), .str (Str.ofString "whitespace") t3, .str (Str.ofString "\n\t\r ") tw⟩, ⟨PyData.keyHash P (Str.ofString "pushback"), .str (Str.ofString "pushback") t4, .ref pb⟩] 4
structure ReadOk (w : World) (x : Str) (rd at' : Addr) (news : List (Addr × Obj)) (tx : Tok) (ps : Arguments) (b : List Stmt) (sc : Scope) (qual : Str) (ct ca c1 : Addr) (oct oca oc1 : Obj) (dc pm cv : Value) (vs : Array Value) (tq : Tok) : Prop where
   hp : readOf (Mine.hd.heap_39 w.params) = some (ps, b, sc)
   hrd : (rd, fnMade (Str.ofString "read") qual ps b sc [(Str.ofString "text", ct), (Str.ofString "at", ca)] dc pm c1 cv) ∈ news
   hc1 : (c1, oc1) ∈ news
   hoc1 : oc1.data = .fields vs
   hvs : vs[1]? = some (.str qual tq)
   hct : (ct, oct) ∈ news
   hoct : oct.data = .cell (some (.str x tx))
   hca : (ca, oca) ∈ news
   hoca : oca.data = .cell (some (.ref at'))
def ReadEx (w : World) (x : Str) (rd at' : Addr) (news : List (Addr × Obj)) : Prop := ∀ P : Prop, (∀ tx ps b sc qual ct ca c1 oct oca oc1 dc pm cv vs tq, ReadOk w x rd at' news tx ps b sc qual ct ca c1 oct oca oc1 dc pm cv vs tq → P) → P
structure LexOk (w : World) (x : Str) (Z : LexA) (news : List (Addr × Obj)) : Prop where
  hz : (Z.z, instObj 91 Z.d) ∈ news
  hds : (Z.ds, dictOf [⟨PyData.keyHash w.params (Str.ofString "read"), .str (Str.ofString "read") Z.tr, .ref Z.rd⟩] 1) ∈ news
  hf : (Z.f, fnObj (some Z.ds) Z.fd #[]) ∈ news
  hpb : (Z.pb, listOf #[] 0) ∈ news
  hread : ReadEx w x Z.rd Z.at' news
  hat : ∀ q ∈ news, q.1 ≠ Z.at'
  hd : ∀ q ∈ news, q.1 ≠ Z.d
  hne : Z.d ≠ Z.at'
  hlen : x.length ≤ 1000
theorem ReadOk.more {w : World} {x : Str} {rd at' : Addr} {news : List (Addr × Obj)} {tx : Tok} {ps : Arguments} {b : List Stmt} {sc : Scope} {qual : Str} {ct ca c1 : Addr} {oct oca oc1 : Obj} {dc pm cv : Value} {vs : Array Value} {tq : Tok}
   (R : ReadOk w x rd at' news tx ps b sc qual ct ca c1 oct oca oc1 dc pm cv vs tq) {e : Addr × Obj} : ReadOk w x rd at' (e :: news) tx ps b sc qual ct ca c1 oct oca oc1 dc pm cv vs tq :=
  ⟨R.hp, List.mem_cons_of_mem _ R.hrd, List.mem_cons_of_mem _ R.hc1, R.hoc1, R.hvs, List.mem_cons_of_mem _ R.hct, R.hoct, List.mem_cons_of_mem _ R.hca, R.hoca⟩
theorem read_more {w : World} {x : Str} {rd at' : Addr} {news : List (Addr × Obj)} {e : Addr × Obj} (h : ReadEx w x rd at' news) : ReadEx w x rd at' (e :: news) :=
  fun P k => h P fun tx ps b sc qual ct ca c1 oct oca oc1 dc pm cv vs tq r => k tx ps b sc qual ct ca c1 oct oca oc1 dc pm cv vs tq r.more
theorem LexOk.more {w : World} {x : Str} {Z : LexA} {news : List (Addr × Obj)} (R : LexOk w x Z news) {e : Addr × Obj} (h1 : e.1 ≠ Z.at') (h2 : e.1 ≠ Z.d) : LexOk w x Z (e :: news) := by
  exact ⟨List.mem_cons_of_mem _ R.hz, List.mem_cons_of_mem _ R.hds, List.mem_cons_of_mem _ R.hf, List.mem_cons_of_mem _ R.hpb, read_more R.hread,
    List.forall_mem_cons.mpr ⟨h1, R.hat⟩, List.forall_mem_cons.mpr ⟨h2, R.hd⟩, R.hne, R.hlen⟩
noncomputable abbrev LexN (w : World) (Z : LexA) (k : Int) (ta : Tok) (n : Nat) (ln : Int) (tl : Tok) (news : List (Addr × Obj)) : List (Addr × Obj) :=
  (Z.at', listOf #[Value.int k ta] n) :: (Z.d, lexDict w.params Z.t1 Z.t2 Z.t3 Z.t4 ln tl Z.f Z.tw Z.pb) :: news
theorem read_spec' (w : World) (p : PySem.Program) (loose : List Str) (mean : ExcName → Option Value) (mg mb : Str → Option Value) (news : List (Addr × Obj)) (x : Str) (rd at' : Addr) (k : Int) (ta : Tok) (n : Nat) (t1 : Tok)
   (hread : ReadEx w x rd at' news) (hat : ∀ q ∈ news, q.1 ≠ at') (hlen : x.length ≤ 1000) (hk0 : 0 ≤ k) (hk1 : k ≤ 2000) :
   ClmC w p loose mean mg mb rd 2 50 ((at', listOf #[Value.int k ta] n) :: news) [Value.int 1 t1] (fun h₀ L m s Q => ∀ (t : Tok) (h' : Heap) (tk' : Nat) (ta' : Tok) (n' : Nat), Fr h₀ L h' m → News h₀ L h' ((at', listOf #[Value.int (k + 1) ta'] n') :: news) → Q (Value.str (Txt.slice x (some k) (some (k + 1))) t) { s with heap := h', toks := tk' }) := by
  refine hread _ fun tx ps b sc qual ct ca c1 oct oca oc1 dc pm cv vs tq r => ?_
  exact read_spec w p loose mean mg mb news x tx k ta n t1 ps b sc qual ct ca at' c1 rd oct oca oc1 dc pm cv vs tq r.hp r.hrd r.hc1 r.hoc1 r.hvs r.hct r.hoct r.hca r.hoca hat hlen hk0 hk1
local macro_rules | `(tactic| k_mem) => `(tactic| (apply List.mem_cons_of_mem; apply List.mem_cons_of_mem; assumption))
local macro_rules | `(tactic| k_upd) => `(tactic| exact Upd.tail (Ne.symm (by assumption)) (Upd.head (by assumption)))
theorem fn_getMethodN {prog : PySem.Program} {w : World} {A : Around} {E : Value → Shared → Prop} {s : Shared} {h₀ : Heap} {L f : Addr} {fd : FuncData} {sl : Array (Option Value)} {news : List (Addr × Obj)} {ds : Addr} {hs : Int} {tk : Tok} {pl : Sem Bool} {Q : Value × List Value → Shared → Prop} {rd : Addr}
    (N : News h₀ L s.heap news) (hf : (f, fnObj (some ds) fd sl) ∈ news) (hd : (ds, dictOf [⟨hs, .str (Str.ofString "read") tk, .ref rd⟩] 1) ∈ news)
    (h : ∀ tk', Q (.ref rd, []) { s with toks := tk' }) : wpAny (model prog w) A (getMethod (.ref f) (Str.ofString "read") pl) Q E s :=
  fn_getMethod (e := ⟨hs, .none, .none⟩) (N _ hf).1 (N _ hd).1 h
set_option maxRecDepth 100000 in
set_option maxHeartbeats 8000000 in
theorem rchar_spec (w : World) (p : PySem.Program) (loose : List Str) (mean : ExcName → Option Value) (mg mb : Str → Option Value) (news : List (Addr × Obj)) (x : Str) (Z : LexA) (k : Int) (ta : Tok) (n : Nat) (ln : Int) (tl : Tok)
   (H : LexOk w x Z news) (hk0 : 0 ≤ k) (hk1 : k ≤ 2000) (hl0 : 0 ≤ ln) (hl1 : ln ≤ k + 1) :
   ClmC w p loose mean mg mb 74 4 100 (LexN w Z k ta n ln tl news) [Value.ref Z.z] (fun h₀ L m s Q => ∀ (t : Tok) (h' : Heap) (tk' : Nat) (ta' : Tok) (n' : Nat) (ln' : Int) (tl' : Tok), Fr h₀ L h' m → News h₀ L h' (LexN w Z (k + 1) ta' n' ln' tl' news) → 0 ≤ ln' → ln' ≤ k + 2 → Q (Value.str (Txt.slice x (some k) (some (k + 1))) t) { s with heap := h', toks := tk' }) := by
  obtain ⟨z, d, ds, f, rd, at', pb, fd, t1, t2, t3, t4, tw, tr⟩ := Z
  obtain ⟨hz, hds, hf, hpb, hread, hat, hd, hne, hlen⟩ := H
  dsimp only [LexN] at *
  dsimp only [ClmC]
  w_top off
  k_with_none
  k_with "getMethod ref" => (k_here; (with_reducible show wpAny _ _ (getMethod (Value.ref _) _ _) _ _ _); k_dflt (refine fn_getMethodN (by k_asm) (by k_mem) (by k_mem) ?_; k_whole); intro tk9; (try dsimp only))
  k_with "callWith ref" => (k_here; k_dflt (refine callWith_F (by exact FnAt.of (by k_asm) (List.mem_cons_of_mem _ (List.mem_cons_of_mem _ (by assumption)))) ?_; k_whole))
  k_with "call ref" => (k_here; (with_reducible show wpAny _ _ (call (Value.ref _) [Value.int _ _]) _ _ _); (refine useC2 (by k_asm) (by k_asm) (by k_asm) (by k_asm) (by k_asm) (by first | exact rfl | assumption) (by ktr_room) (by ktr_units) (read_spec' _ _ _ _ _ _ _ _ _ _ _ _ _ _ (by exact read_more (by assumption)) (by exact List.forall_mem_cons.mpr ⟨by assumption, by assumption⟩) (by assumption) (by assumption) (by assumption)) ?_); intro t9 h9 tk9 ta9 n9 F9 N9; (try dsimp only); (try k_fold))
  k_fill
  intros; rename_i hret
  k_dflt (refine' code_def ?k1 ?k2 ?k3 ?k4 ?k5 ?kA ?kF ?kK ?k6 ?k7 ?k8 ?k9 ?kB ?_ ?c2 ?c3 ?c4 ?c5; (case kA => exact rfl); (case kF => exact rfl); (case kK => assumption); (case k1 => k_asm); (case k2 => k_asm); (case k3 => k_asm); (case k4 => k_asm); (case k5 => k_asm); (case k6 => k_is); (case k7 => k_is); (case k8 => ktr_room); (case k9 => exact BindsTo.of_eq rfl); (case c5 => decide); (case kB => exact locs rfl); (case c2 => exact rfl); (case c3 => exact rfl); (case c4 => exact rfl); k_whole; intro g' L' h' FG' F' N' B' X' T'; (try dsimp only); (try k_lift B'); (try k_fold))
  refine hread _ fun tx ps b sc qual ct ca c1 oct oca oc1 dc pm cv vs tq hR => ?_
  have hrdm := hR.hrd
  clear hR
  k_steps
  all_goals exact hret _ _ _ _ _ _ _ (by k_asm) (by k_asm) (by omega) (by omega)
end
-- TrTk
section
open PySem PySem.W PyProof.Rows PySem.Calls
noncomputable def isWs (c : Nat) : Bool := c = 10 || c = 9 || c = 13 || c = 32
noncomputable def tokL : List Nat → List Nat
  | [] => []
  | c :: r => if isWs c then [] else if c = 92 then (match r with | [] => [] | e :: r' => e :: tokL r') else c :: tokL r
termination_by l => l.length
theorem tokL_nil : tokL [] = [] := by rw [tokL]
theorem tokL_ws {c : Nat} {r : List Nat} (h : isWs c = true) : tokL (c :: r) = [] := by rw [tokL.eq_def]; simp [h]
theorem tokL_esc {r : List Nat} : tokL (92 :: r) = r.take 1 ++ tokL (r.drop 1) := by
  rw [tokL.eq_def]
  cases r with
  | nil => simp [isWs, tokL_nil]
  | cons e r' => simp [isWs]
theorem tokL_other {c : Nat} {r : List Nat} (h : isWs c = false) (h2 : c ≠ 92) : tokL (c :: r) = c :: tokL r := by rw [tokL.eq_def]; simp [h, h2]
theorem clip_nat (k n : Nat) : (if (k : Int) < 0 then (k : Int) + n else k) = (k : Int) := if_neg (Int.not_lt.mpr (Int.natCast_nonneg k))
theorem ssi_to (k n : Nat) : Builtin.Str.strSliceIndices none (some (k : Int)) 1 n = PySem.sliceRange 0 (max 0 (min (k : Int) (n : Int))) 1 := by
  show PySem.sliceRange 0 (max 0 (min (if (k : Int) < 0 then (k : Int) + n else k) (n : Int))) 1 = _
  rw [clip_nat]
theorem ssi_both (j k n : Nat) : Builtin.Str.strSliceIndices (some (j : Int)) (some (k : Int)) 1 n = PySem.sliceRange (max 0 (min (j : Int) (n : Int))) (max 0 (min (k : Int) (n : Int))) 1 := by
  show PySem.sliceRange (max 0 (min (if (j : Int) < 0 then (j : Int) + n else j) (n : Int))) (max 0 (min (if (k : Int) < 0 then (k : Int) + n else k) (n : Int))) 1 = _
  rw [clip_nat, clip_nat]
theorem str_len (x : Str) : x.cps.toList.length = x.length := Array.length_toList
theorem slice_far {x : Str} {j k : Nat} (h : x.length ≤ j) (hk : j ≤ k) : Txt.slice x (some (j : Int)) (some (k : Int)) = Txt.slice x (some ((x.length : Nat) : Int)) (some ((x.length : Nat) : Int)) := by
  unfold Txt.slice
  rw [ssi_both, ssi_both, Int.min_eq_right (Int.ofNat_le.mpr h), Int.min_eq_right (Int.ofNat_le.mpr (Nat.le_trans h hk)), Int.min_self]
theorem slice_one {x : Str} {k : Nat} : Txt.slice x (some (k : Int)) (some ((k : Int) + 1)) = ⟨((x.cps.toList.drop k).take 1).toArray⟩ := by
  show Txt.slice x (some (k : Int)) (some ((k + 1 : Nat) : Int)) = _
  by_cases h : k < x.length
  · rw [eq_of_beq (slice_closesL (x := x) (i := (k : Nat)) (j := (k + 1 : Nat)) (Int.natCast_nonneg k) (Int.ofNat_le.mpr (Nat.le_succ k)) (Int.ofNat_le.mpr h))]
    have : (((k + 1 : Nat) : Int) - (k : Int)).toNat = 1 := by clear h; omega
    rw [this, Int.toNat_natCast]
  · have h := Nat.le_of_not_lt h
    rw [List.drop_of_length_le (by rw [str_len]; exact h), List.take_nil, slice_far h (Nat.le_succ k),
      eq_of_beq (slice_closesL (x := x) (i := (x.length : Nat)) (j := (x.length : Nat)) (Int.natCast_nonneg _) (Int.le_refl _) (Int.le_refl _)), Int.sub_self]
    rfl
theorem slice_char {x : Str} {k : Nat} {c : Nat} {r : List Nat} (h : x.cps.toList.drop k = c :: r) : Txt.slice x (some (k : Int)) (some ((k : Int) + 1)) = ⟨#[c]⟩ := by rw [slice_one, h]; rfl
theorem slice_none {x : Str} {k : Nat} (h : x.cps.toList.drop k = []) : Txt.slice x (some (k : Int)) (some ((k : Int) + 1)) = Str.ofString "" := by rw [slice_one, h]; rfl
theorem drop_succ_of {α : Type} {l : List α} {k : Nat} {c : α} {r : List α} (h : l.drop k = c :: r) : l.drop (k + 1) = r := by
  rw [← List.drop_drop, h]; rfl
theorem drop_lt {α : Type} {l : List α} {k : Nat} {c : α} {r : List α} (h : l.drop k = c :: r) : k < l.length := by
  apply Decidable.byContradiction
  intro hn
  rw [List.drop_of_length_le (by omega)] at h
  cases h
def TInv (cs : List Nat) (k : Nat) (T : Str) : Prop := T.cps.toList ++ tokL (cs.drop k) = tokL cs ∧ T.length ≤ k
theorem str_app (T : Str) (l : List Nat) : (T ++ (⟨l.toArray⟩ : Str)).cps.toList = T.cps.toList ++ l := by
  show (T.cps ++ l.toArray).toList = _
  simp
theorem str_app_len (T U : Str) : (T ++ U).length = T.length + U.length := by
  show (T.cps ++ U.cps).size = _
  rw [Array.size_append]; rfl
section
variable {cs : List Nat} {k : Nat} {T : Str} {c : Nat} {r : List Nat}
theorem tinv_end (h : TInv cs k T) (hd : cs.drop k = []) : T = ⟨(tokL cs).toArray⟩ := by
  have := h.1
  rw [hd, tokL_nil, List.append_nil] at this
  rw [← this]
theorem tinv_ws (h : TInv cs k T) (hd : cs.drop k = c :: r) (hw : isWs c = true) : T = ⟨(tokL cs).toArray⟩ := by
  have := h.1
  rw [hd, tokL_ws hw, List.append_nil] at this
  rw [← this]
theorem tinv_step (h : TInv cs k T) (hd : cs.drop k = c :: r) (hw : isWs c = false) (h92 : c ≠ 92) : TInv cs (k + 1) (T ++ (⟨#[c]⟩ : Str)) := by
  refine ⟨?_, ?_⟩
  · rw [drop_succ_of hd]
    have := h.1
    rw [hd, tokL_other hw h92] at this
    rw [show (⟨#[c]⟩ : Str) = ⟨[c].toArray⟩ from rfl, str_app, List.append_assoc]
    exact this
  · rw [str_app_len]
    have := h.2
    have : (⟨#[c]⟩ : Str).length = 1 := rfl
    omega
theorem tinv_esc {x : Str} (h : TInv x.cps.toList k T) (hd : x.cps.toList.drop k = 92 :: r) : TInv x.cps.toList (k + 2) (T ++ Txt.slice x (some ((k : Int) + 1)) (some ((k : Int) + 1 + 1))) := by
  have e := slice_one (x := x) (k := k + 1)
  rw [drop_succ_of hd] at e
  have e' : ((k + 1 : Nat) : Int) = (k : Int) + 1 := by omega
  rw [e'] at e
  rw [e]
  refine ⟨?_, ?_⟩
  · have := h.1
    rw [hd, tokL_esc] at this
    rw [str_app, List.append_assoc, show x.cps.toList.drop (k + 2) = r.drop 1 by rw [← drop_succ_of hd, List.drop_drop]]
    exact this
  · rw [str_app_len]
    have := h.2
    have : (⟨(r.take 1).toArray⟩ : Str).length ≤ 1 := by show (r.take 1).toArray.size ≤ 1; simp; omega
    omega
end
theorem ws_cps : Str.ofString "\n\t\r " = ⟨#[10, 9, 13, 32]⟩ := by decide +kernel
theorem subAt_one {l : List Nat} {c : Nat} {i : Nat} : Builtin.Str.subAt ⟨l.toArray⟩ ⟨#[c]⟩ i = (l[i]? == some c) := by
  unfold Builtin.Str.subAt
  show ((l.toArray).extract i (i + 1) == #[c]) = _
  rw [List.extract_toArray, List.extract_eq_take_drop, show i + 1 - i = 1 by omega]
  cases hd : l.drop i with
  | nil =>
    have : l.length ≤ i := by simpa using hd
    rw [List.getElem?_eq_none this]; rfl
  | cons e r =>
    have : l[i]? = some e := by
      have h1 : (l.drop i)[0]? = some e := by rw [hd]; rfl
      simpa using h1
    rw [this]
    show (#[e] == #[c]) = (some e == some c)
    by_cases h : e = c
    · subst h; simp
    · have h1 : (#[e] : Array Nat) ≠ #[c] := by intro q; exact h (by simpa using q)
      have h2 : some e ≠ some c := by intro q; exact h (by simpa using q)
      rw [beq_eq_false_iff_ne.mpr h1, beq_eq_false_iff_ne.mpr h2]
theorem occ_ws {c : Nat} : (Builtin.Str.occurrences (Str.ofString "\n\t\r ") ⟨#[c]⟩ 0 (Str.ofString "\n\t\r ").length 1).isEmpty = !(isWs c) := by
  rw [ws_cps]
  by_cases h1 : c = 10
  · subst h1; decide +kernel
  by_cases h2 : c = 9
  · subst h2; decide +kernel
  by_cases h3 : c = 13
  · subst h3; decide +kernel
  by_cases h4 : c = 32
  · subst h4; decide +kernel
  have hw : isWs c = false := by simp [isWs, h1, h2, h3, h4]
  rw [hw]
  have hs : ∀ i, Builtin.Str.subAt ⟨#[10, 9, 13, 32]⟩ ⟨#[c]⟩ i = false := by
    intro i
    rw [show (#[10, 9, 13, 32] : Array Nat) = [10, 9, 13, 32].toArray from rfl, subAt_one]
    match i with
    | 0 => simp [Ne.symm h1]
    | 1 => simp [Ne.symm h2]
    | 2 => simp [Ne.symm h3]
    | 3 => simp [Ne.symm h4]
    | n + 4 => simp
  unfold Builtin.Str.occurrences
  simp only [hs, Bool.and_false, Bool.false_eq_true, if_false]
  decide +kernel
theorem bs_is : (Str.ofString "\\") = ⟨#[92]⟩ := by decide +kernel
theorem is_bs {c : Nat} : ((⟨#[c]⟩ : Str) == Str.ofString "\\") = decide (c = 92) := by
  rw [bs_is]
  by_cases h : c = 92
  · subst h; rfl
  · have : (⟨#[c]⟩ : Str) ≠ ⟨#[92]⟩ := by
      intro e; injection e with e; simp at e; exact h e
    rw [decide_eq_false h]
    exact beq_eq_false_iff_ne.mpr this
theorem tinv_start {c0 : Nat} {r0 cs : List Nat} (h : cs = c0 :: r0) (hw : isWs c0 = false) (h92 : c0 ≠ 92) : TInv cs 1 (Str.ofString "" ++ (⟨#[c0]⟩ : Str)) := by
  refine ⟨?_, by rw [str_app_len]; exact Nat.le_refl 1⟩
  subst h
  rw [tokL_other hw h92]
  rfl
theorem slice_le1 (x : Str) (k : Int) : (Txt.slice x (some k) (some (k + 1))).length ≤ x.length := Txt.slice_le x _ _
end
-- TrCt
section
open PySem PySem.W PyProof.Rows PySem.Calls
noncomputable abbrev OwnC (I q : Addr) (z : Addr) (te : Tok) (news : List (Addr × Obj)) : List (Addr × Obj) :=
  (I, citer (.ref q) (.str (Str.ofString "") te) (.bool false)) :: (q, methodObj (.ref 74) (.ref z)) :: news
theorem rchar_fn {w : World} {h : Heap} (X : Frag.In (Mine.hd.heap_39 w.params) h) : ∃ og fd, h.get? 74 = some og ∧ og.data = .func fd := by
  have hf : fnIn (Mine.hd.heap_39 w.params) 74 = true := by rfl
  unfold fnIn at hf
  split at hf
  · rename_i e
    exact ⟨_, _, X _ _ e, rfl⟩
  · cases hf
theorem reorder {h₀ h : Heap} {L : Addr} {a b c d : Addr × Obj} {news : List (Addr × Obj)} (N : News h₀ L h (a :: b :: c :: d :: news)) : News h₀ L h (c :: d :: a :: b :: news) := by
  intro e he
  refine N e ?_
  rcases List.mem_cons.mp he with h | h
  · subst h; exact .tail _ (.tail _ (.head _))
  · rcases List.mem_cons.mp h with h | h
    · subst h; exact .tail _ (.tail _ (.tail _ (.head _)))
    · rcases List.mem_cons.mp h with h | h
      · subst h; exact .head _
      · rcases List.mem_cons.mp h with h | h
        · subst h; exact .tail _ (.head _)
        · exact .tail _ (.tail _ (.tail _ (.tail _ h)))
section
variable {w : World} {p : PySem.Program} {loose : List Str} {mean : ExcName → Option Value} {mg mb : Str → Option Value} {news : List (Addr × Obj)} {x : Str} {Z : LexA} {I q : Addr} {te : Tok}
    {dp un : Nat} {gd : Option (List Code)} {cn : Str} {cs : Scope} {a : Addr} {ccd : Value} {cl : List (Str × Addr)} {outer : List Env} {A₀ : Around} {base h₀ : Heap} {L : Addr} {m m₀ m₁ : Str → Option Value} {s : Shared} {E : Value → Shared → Prop}
theorem ctick {Q : Option Value → Shared → Prop} {k : Nat} {ta : Tok} {n : Nat} {ln : Int} {tl : Tok} (H : LexOk w x Z (OwnC I q Z.z te news)) (hI : ∀ e ∈ (q, methodObj (.ref 74) (.ref Z.z)) :: news, e.1 ≠ I)
    (B : Below A₀ base outer h₀) (F : Fr h₀ L s.heap m) (X : Frag.In (Mine.hd.heap_39 w.params) h₀) (N : News h₀ L s.heap (LexN w Z (k : Int) ta n ln tl (OwnC I q Z.z te news))) (T : Top p loose mean mg mb h₀) (hk : cs.kind = .function)
    (hd : dp + 4 < recursionLimit) (hu : un + 101 < cLine) (hk1 : k ≤ 1500) (hl0 : 0 ≤ ln) (hl1 : ln ≤ (k : Int) + 1)
    (hsome : ∀ c r t h tk ta n ln tl, x.cps.toList.drop k = c :: r → Fr h₀ L h m → News h₀ L h (LexN w Z ((k : Int) + 1) ta n ln tl (OwnC I q Z.z te news)) → 0 ≤ ln → ln ≤ (k : Int) + 2 → Q (some (.str ⟨#[c]⟩ t)) { s with heap := h, toks := tk })
    (hnone : x.cps.toList.drop k = [] → ∀ h tk, Fr h₀ L h m → News h₀ L h ((I, citer .none .none (.bool true)) :: news) → Q none { s with heap := h, toks := tk }) :
    wpAny (model PySem.Challenge.rw_tr0039_01.row.prog w) (ktrTop dp un gd cn cs L a ccd cl outer) (pyNext (.ref I)) Q E s := by
  have hg := fun (h : Heap) (F : ∃ m, Fr h₀ L h m) => rchar_fn (w := w) (h := h) (fun a o e => F.elim fun m F => F.keep _ _ (X a o e))
  obtain ⟨og, fd, g1, g2⟩ := hg s.heap ⟨_, F⟩
  have m1 : (I, citer (.ref q) (.str (Str.ofString "") te) (.bool false)) ∈ LexN w Z (k : Int) ta n ln tl (OwnC I q Z.z te news) := .tail _ (.tail _ (.head _))
  have m2 : (q, methodObj (.ref 74) (.ref Z.z)) ∈ LexN w Z (k : Int) ta n ln tl (OwnC I q Z.z te news) := .tail _ (.tail _ (.tail _ (.head _)))
  refine next_call (h₀ := h₀) (L := L) (m := m) rfl N m1 m2 g1 g2 (fun E' => ?_)
  refine rchar_spec w p loose mean mg mb (OwnC I q Z.z te news) x Z k ta n ln tl H (by omega) (by omega) hl0 hl1 dp (un + 1) gd cn cs a ccd cl outer A₀ base h₀ L m s _ _ B F X N T hk hd (by omega) ?_
  intro t h' tk' ta' n' ln' tl' F' N' l0 l1
  obtain ⟨og', fd', g1', g2'⟩ := hg h' ⟨_, F'⟩
  refine fun R K => K _ t ((Z.at', listOf #[Value.int ((k : Int) + 1) ta'] n') :: (Z.d, lexDict w.params Z.t1 Z.t2 Z.t3 Z.t4 ln' tl' Z.f Z.tw Z.pb) :: (q, methodObj (.ref 74) (.ref Z.z)) :: news) og' fd' rfl F' ?_ ?_ (.tail _ (.tail _ (.head _))) g1' g2' ?_ ?_
  · intro e he
    refine N' e ?_
    rcases List.mem_cons.mp he with h | h
    · subst h; exact .tail _ (.tail _ (.head _))
    · rcases List.mem_cons.mp h with h | h
      · subst h; exact .head _
      · rcases List.mem_cons.mp h with h | h
        · subst h; exact .tail _ (.head _)
        · exact .tail _ (.tail _ (.tail _ h))
  · intro e he
    rcases List.mem_cons.mp he with h | h
    · subst h; exact Ne.symm (H.hat _ (.head _))
    · rcases List.mem_cons.mp h with h | h
      · subst h; exact Ne.symm (H.hd _ (.head _))
      · exact hI _ h
  · intro hne
    cases hdr : x.cps.toList.drop k with
    | nil => exact absurd (slice_none hdr).symm hne
    | cons c r =>
      rw [slice_char hdr]
      exact hsome c r t h' tk' ta' n' ln' tl' hdr F' N' l0 l1
  · intro heq h'' F'' N''
    cases hdr : x.cps.toList.drop k with
    | nil => exact hnone hdr h'' tk' F'' (fun e he => N'' e ((List.mem_cons.mp he).elim (fun h => h ▸ .head _) (fun h => .tail _ (.tail _ (.tail _ (.tail _ h))))))
    | cons c r =>
      rw [slice_char hdr] at heq
      exact absurd (show (0 : Nat) = 1 from congrArg Str.length heq) (by decide)
set_option genInjectivity false in
set_option genSizeOf false in
structure ISt where
  h : Heap
  tk : Nat
  m : Str → Option Value
  T : Str
  tt : Tok
  k : Nat
  ta : Tok
  n : Nat
  ln : Int
  tl : Tok
structure IOk (w : World) (x : Str) (Z : LexA) (own : List (Addr × Obj)) (h₀ : Heap) (L : Addr) (m₀ : Str → Option Value) (s : Shared) (z : ISt) (s₁ : Shared) : Prop where
  e : s₁ = { s with heap := z.h, toks := z.tk }
  F : Fr h₀ L z.h z.m
  e1 : z.m (Str.ofString "token") = some (.str z.T z.tt)
  e2 : ∀ y, y ≠ Str.ofString "ch" → y ≠ Str.ofString "token" → z.m y = m₀ y
  N : News h₀ L z.h (LexN w Z (z.k : Int) z.ta z.n z.ln z.tl own)
  hk : z.k ≤ x.cps.toList.length + 1
  l0 : 0 ≤ z.ln
  l1 : z.ln ≤ (z.k : Int) + 1
  ti : TInv x.cps.toList z.k z.T
def IEnd (w : World) (x : Str) (Z : LexA) (own : List (Addr × Obj)) (h₀ : Heap) (L : Addr) (m₀ : Str → Option Value) (k : Nat) (R : Result → Shared → Prop) (s : Shared) (fl : Flow) (s₃ : Shared) : Prop :=
  match fl with
  | .ret v => R (.ok (.ret v)) s₃
  | .brk => False
  | _ => ∃ z : ISt, IOk w x Z own h₀ L m₀ s z s₃ ∧ k < z.k
theorem iend {w : World} {x : Str} {Z : LexA} {own : List (Addr × Obj)} {h₀ : Heap} {L : Addr} {m₀ m' : Str → Option Value} {k : Nat} {R : Result → Shared → Prop} {s : Shared} {h : Heap} {tk : Nat} {T' : Str} {tt : Tok} {kk : Int} {k' : Nat} {ta : Tok} {n : Nat} {ln : Int} {tl : Tok}
    (F : Fr h₀ L h m') (e1 : m' (Str.ofString "token") = some (.str T' tt)) (e2 : ∀ y, y ≠ Str.ofString "ch" → y ≠ Str.ofString "token" → m' y = m₀ y) (N : News h₀ L h (LexN w Z kk ta n ln tl own)) (hkk : kk = (k' : Nat)) (lt : k < k') (hk : k' ≤ x.cps.toList.length + 1)
    (l0 : 0 ≤ ln) (l1 : ln ≤ kk + 1) (ti : TInv x.cps.toList k' T') : IEnd w x Z own h₀ L m₀ k R s .next { s with heap := h, toks := tk } := by
  subst hkk
  exact ⟨⟨h, tk, m', T', tt, k', ta, n, ln, tl⟩, ⟨rfl, F, e1, e2, N, hk, l0, l1, ti⟩, lt⟩
theorem map_two {m' m₀ : Str → Option Value} {v : Option Value} {T : Str} {tt : Tok} (h1 : m' (Str.ofString "token") = some (.str T tt)) (h2 : ∀ z, z ≠ Str.ofString "ch" → z ≠ Str.ofString "token" → m' z = m₀ z) :
    (fun y => if y = Str.ofString "ch" then v else m' y) = (fun y => if y = Str.ofString "ch" then v else if y = Str.ofString "token" then some (.str T tt) else m₀ y) := by
  funext y
  by_cases e : y = Str.ofString "ch"
  · rw [if_pos e, if_pos e]
  · rw [if_neg e, if_neg e]
    by_cases e2 : y = Str.ofString "token"
    · rw [if_pos e2, e2, h1]
    · rw [if_neg e2, h2 y e e2]
theorem inner_loop {px : Pos} {body : List Stmt} {R : Result → Shared → Prop} {k : Nat} {T₀ : Str} {tt : Tok} {ta : Tok} {n : Nat} {ln : Int} {tl : Tok} (H : LexOk w x Z (OwnC I q Z.z te news)) (hI : ∀ e ∈ (q, methodObj (.ref 74) (.ref Z.z)) :: news, e.1 ≠ I)
    (hx : (envX cn cs L a ccd cl).kindOf (Str.ofString "ch") = some .local)
    (B : Below A₀ base outer h₀) (F : Fr h₀ L s.heap m₁) (X : Frag.In (Mine.hd.heap_39 w.params) h₀) (N : News h₀ L s.heap (LexN w Z (k : Int) ta n ln tl (OwnC I q Z.z te news))) (T : Top p loose mean mg mb h₀) (hk : cs.kind = .function)
    (hd : dp + 4 < recursionLimit) (hu : un + 101 < cLine) (hl0 : 0 ≤ ln) (hl1 : ln ≤ (k : Int) + 1) (hkl : k ≤ x.cps.toList.length + 1) (h0 : TInv x.cps.toList k T₀)
    (hm1 : m₁ (Str.ofString "token") = some (.str T₀ tt)) (hm2 : ∀ z, z ≠ Str.ofString "ch" → z ≠ Str.ofString "token" → m₁ z = m₀ z)
    (turn : ∀ k T tt c r tc h tk ta n ln tl, x.cps.toList.drop k = c :: r → TInv x.cps.toList k T → k < x.cps.toList.length → Fr h₀ L h (fun y => if y = Str.ofString "ch" then some (.str ⟨#[c]⟩ tc) else if y = Str.ofString "token" then some (.str T tt) else m₀ y) →
      News h₀ L h (LexN w Z ((k : Int) + 1) ta n ln tl (OwnC I q Z.z te news)) → 0 ≤ ln → ln ≤ (k : Int) + 1 + 1 →
      wpAny (model PySem.Challenge.rw_tr0039_01.row.prog w) (ktrTop dp un gd cn cs L a ccd cl outer) (execs body (envX cn cs L a ccd cl)) (IEnd w x Z (OwnC I q Z.z te news) h₀ L m₀ k R s) (fun _ _ => False) { s with heap := h, toks := tk })
    (done : ∀ h tk tt m', Fr h₀ L h m' → m' (Str.ofString "token") = some (.str ⟨(tokL x.cps.toList).toArray⟩ tt) → (∀ z, z ≠ Str.ofString "ch" → z ≠ Str.ofString "token" → m' z = m₀ z) → News h₀ L h ((I, citer .none .none (.bool true)) :: news) → R (.ok .next) { s with heap := h, toks := tk }) :
    codeAny (model PySem.Challenge.rw_tr0039_01.row.prog w) (ktrTop dp un gd cn cs L a ccd cl outer) (.forLoop (.Name (Str.ofString "ch") px) (.ref I) body [] (envX cn cs L a ccd cl)) R s := by
  have hlen : x.cps.toList.length ≤ 1000 := by have := H.hlen; simpa [Str.length] using this
  refine codeAny_forLoop (I := fun nn s₁ => ∃ z : ISt, nn = x.cps.toList.length + 2 - z.k ∧ IOk w x Z (OwnC I q Z.z te news) h₀ L m₀ s z s₁) ?_ _ ⟨⟨s.heap, s.toks, m₁, T₀, tt, k, ta, n, ln, tl⟩, rfl, ⟨rfl, F, hm1, hm2, N, hkl, hl0, hl1, h0⟩⟩
  rintro nn s₁ ⟨⟨h, tk, m', T', tt', k', ta', n', ln', tl'⟩, rfl, ⟨rfl, F', e1, e2, N', hk', l0, l1, ti⟩⟩
  dsimp only at F' e1 e2 N' hk' l0 l1 ti ⊢
  refine ctick (m := m') H hI B F' X N' T hk hd hu (by omega) l0 l1 ?_ ?_
  · intro c r t h'' tk'' ta'' n'' ln'' tl'' hdr F'' N'' l0' l1'
    have hlt := drop_lt hdr
    refine wpAny_assign_Name (storeX_L F'' N'' ?_ hk hx)
    intro h3 F3 N3
    rw [map_two e1 e2] at F3
    refine wpAny_mono (turn k' T' tt' c r t h3 _ ta'' n'' ln'' tl'' hdr ti hlt F3 N3 l0' (by omega)) ?_ (fun _ _ x => x.elim)
    have fin : ∀ s₃, (∃ z : ISt, IOk w x Z (OwnC I q Z.z te news) h₀ L m₀ s z s₃ ∧ k' < z.k) → ∃ nn', nn' < x.cps.toList.length + 2 - k' ∧ ∃ z : ISt, nn' = x.cps.toList.length + 2 - z.k ∧ IOk w x Z (OwnC I q Z.z te news) h₀ L m₀ s z s₃ := fun s₃ ⟨z, hz, hlt'⟩ =>
      ⟨_, Nat.sub_lt_sub_left (Nat.lt_of_lt_of_le hlt' (Nat.le_succ_of_le hz.hk)) hlt', z, rfl, hz⟩
    intro fl s₃ he
    cases fl with
    | ret v => exact he
    | brk => exact he.elim
    | next => exact fin s₃ he
    | cont => exact fin s₃ he
  · intro hdr h'' tk'' F'' N''
    show wpAny _ _ (execs [] _) _ _ _
    refine wpAny_pure ?_
    exact done h'' tk'' tt' m' F'' (by rw [e1, ← tinv_end ti hdr]) e2 N''
def OEnd (x : Str) (I : Addr) (news : List (Addr × Obj)) (h₀ : Heap) (L : Addr) (R : Result → Shared → Prop) (s : Shared) (fl : Flow) (s₃ : Shared) : Prop :=
  match fl with
  | .ret v => R (.ok (.ret v)) s₃
  | .brk => False
  | _ => ∃ h tk tt m', s₃ = { s with heap := h, toks := tk } ∧ Fr h₀ L h m' ∧ m' (Str.ofString "token") = some (.str ⟨(tokL x.cps.toList).toArray⟩ tt) ∧ News h₀ L h ((I, citer .none .none (.bool true)) :: news)
theorem outer_loop {px : Pos} {body : List Stmt} {R : Result → Shared → Prop} {ta : Tok} {n : Nat} {ln : Int} {tl : Tok} {c0 : Nat} {r0 : List Nat} (H : LexOk w x Z (OwnC I q Z.z te news)) (hI : ∀ e ∈ (q, methodObj (.ref 74) (.ref Z.z)) :: news, e.1 ≠ I)
    (hx : (envX cn cs L a ccd cl).kindOf (Str.ofString "ch") = some .local)
    (B : Below A₀ base outer h₀) (F : Fr h₀ L s.heap m₀) (X : Frag.In (Mine.hd.heap_39 w.params) h₀) (N : News h₀ L s.heap (LexN w Z 0 ta n ln tl (OwnC I q Z.z te news))) (T : Top p loose mean mg mb h₀) (hk : cs.kind = .function)
    (hd : dp + 4 < recursionLimit) (hu : un + 101 < cLine) (hl0 : 0 ≤ ln) (hl1 : ln ≤ 1) (hx0 : x.cps.toList = c0 :: r0)
    (turn : ∀ tc h tk ta n ln tl, Fr h₀ L h (fun y => if y = Str.ofString "ch" then some (.str ⟨#[c0]⟩ tc) else m₀ y) →
      News h₀ L h (LexN w Z 1 ta n ln tl (OwnC I q Z.z te news)) → 0 ≤ ln → ln ≤ 2 →
      wpAny (model PySem.Challenge.rw_tr0039_01.row.prog w) (ktrTop dp un gd cn cs L a ccd cl outer) (execs body (envX cn cs L a ccd cl)) (OEnd x I news h₀ L R s) (fun _ _ => False) { s with heap := h, toks := tk })
    (done : ∀ h tk tt (m' : Str → Option Value), Fr h₀ L h (fun y => if y = Str.ofString "token" then some (.str ⟨(tokL x.cps.toList).toArray⟩ tt) else m' y) → News h₀ L h news → R (.ok .next) { s with heap := h, toks := tk }) :
    codeAny (model PySem.Challenge.rw_tr0039_01.row.prog w) (ktrTop dp un gd cn cs L a ccd cl outer) (.forLoop (.Name (Str.ofString "ch") px) (.ref I) body [] (envX cn cs L a ccd cl)) R s := by
  have hlen : x.cps.toList.length ≤ 1000 := by have := H.hlen; simpa [Str.length] using this
  refine codeAny_forLoop (I := fun nn s₁ => (nn = 1 ∧ s₁ = s) ∨ (nn = 0 ∧ OEnd x I news h₀ L R s .next s₁)) ?_ 1 (.inl ⟨rfl, rfl⟩)
  rintro nn s₁ (⟨rfl, rfl⟩ | ⟨rfl, h, tk, tt, m', rfl, F', e1, N'⟩)
  · refine ctick (m := m₀) (k := 0) H hI B F X N T hk hd hu (by omega) hl0 (by simpa using hl1) ?_ ?_
    · intro c r t h'' tk'' ta'' n'' ln'' tl'' hdr F'' N'' l0' l1'
      have hc : c = c0 := by rw [hx0] at hdr; injection hdr with e _; exact e.symm
      subst hc
      refine wpAny_assign_Name (storeX_L F'' N'' ?_ hk hx)
      intro h3 F3 N3
      refine wpAny_mono (turn t h3 _ ta'' n'' ln'' tl'' F3 N3 l0' (by simpa using l1')) ?_ (fun _ _ x => x.elim)
      intro fl s₃ he
      cases fl with
      | ret v => exact he
      | brk => exact he.elim
      | next => exact ⟨0, by omega, .inr ⟨rfl, he⟩⟩
      | cont => exact ⟨0, by omega, .inr ⟨rfl, he⟩⟩
    · intro hdr
      rw [hx0] at hdr
      cases hdr
  · refine next_end (h₀ := h₀) (L := L) (m := m') rfl F' N' (.head _) ?_
    intro h4 F4 N4
    show wpAny _ _ (execs [] _) _ _ _
    refine wpAny_pure ?_
    refine done h4 tk tt m' ?_ (fun e he => N4 e (.tail _ he))
    have : (fun y => if y = Str.ofString "token" then some (Value.str ⟨(tokL x.cps.toList).toArray⟩ tt) else m' y) = m' := by
      funext y
      by_cases e : y = Str.ofString "token"
      · rw [if_pos e, e, e1]
      · rw [if_neg e]
    rw [this]
    exact F4
end
end
-- TrGt
section
open PySem PySem.W PyProof.Rows PySem.Calls
set_option maxRecDepth 100000 in
set_option maxHeartbeats 8000000 in
theorem gettok_spec (w : World) (p : PySem.Program) (loose : List Str) (mean : ExcName → Option Value) (mg mb : Str → Option Value) (news : List (Addr × Obj)) (x : Str) (Z : LexA) (ta : Tok) (n : Nat) (tl : Tok) (c0 : Nat) (r0 : List Nat)
   (H : LexOk w x Z news) (hx : x.cps.toList = c0 :: r0) (hw0 : isWs c0 = false) (h34 : c0 ≠ 34) (h92 : c0 ≠ 92) :
   ClmC w p loose mean mg mb 81 8 200 (LexN w Z 0 ta n 1 tl news) [Value.ref Z.z] (fun h₀ L m s Q => ∀ (t : Tok) (h' : Heap) (tk' : Nat), Fr h₀ L h' m → News h₀ L h' news → Q (Value.str ⟨(tokL x.cps.toList).toArray⟩ t) { s with heap := h', toks := tk' }) := by
  have H0 := H
  obtain ⟨z, d, ds, f, rd, at', pb, fd, t1, t2, t3, t4, tw, tr⟩ := Z
  obtain ⟨hz, hds, hf, hpb, hread, hat, hd, hne, hlen⟩ := H
  dsimp only [LexN] at *
  dsimp only [ClmC]
  w_top off
  k_with_none
  k_with "call builtin:iter" => (k_here; (with_reducible show wpAny _ _ (call (Value.builtin _) [Value.ref _, Value.str _ _]) _ _ _); k_dflt (refine iter_callable (by k_asm) (by k_asm) (by k_mem) ?_; k_whole); intro I9 h9 F9 N9 l9; (try dsimp only))
  k_with "exec For Name Name cons nil" => (k_here; refine wpAny_For ?_ (by intro _; rfl))
  k_with "truthy ref" => (k_here; k_dflt (refine kgr_truthy (lo := listOf #[] 0) (vs := []) (by k_asm) (by k_mem) (by rfl) (by rfl) (by decide) ?_; k_whole); (try simp only [List.isEmpty_nil, Bool.not_true]))
  k_with "call ref" => (k_here; (with_reducible show wpAny _ _ (call (Value.ref 74) _) _ _ _); (try dsimp only [List.cons_append, List.nil_append]); (have H9 := (by assumption : ∀ o : Obj, LexOk _ _ _ ((_, o) :: _))); (refine useC2 (by k_asm) (by k_asm) (by k_asm) (by k_asm) (by k_asm) (by first | exact rfl | assumption) (by ktr_room) (by ktr_units) (rchar_spec _ _ _ _ _ _ _ _ _ _ _ _ _ _ (H9 _) (by first | decide | omega) (by first | decide | omega) (by first | assumption | decide | omega) (by first | assumption | decide | omega)) ?_); intro t9 h9 tk9 ta9 n9 ln9 tl9 F9 N9 la9 lb9; (dsimp only [LexN] at N9); (try dsimp only); (try k_fold))
  k_fill
  intros; rename_i hret
  k_dflt (refine' code_def ?k1 ?k2 ?k3 ?k4 ?k5 ?kA ?kF ?kK ?k6 ?k7 ?k8 ?k9 ?kB ?_ ?c2 ?c3 ?c4 ?c5; (case kA => exact rfl); (case kF => exact rfl); (case kK => assumption); (case k1 => k_asm); (case k2 => k_asm); (case k3 => k_asm); (case k4 => k_asm); (case k5 => k_asm); (case k6 => k_is); (case k7 => k_is); (case k8 => ktr_room); (case k9 => exact BindsTo.of_eq rfl); (case c5 => decide); (case kB => exact locs rfl); (case c2 => exact rfl); (case c3 => exact rfl); (case c4 => exact rfl); k_whole; intro g' L' h' FG' F' N' B' X' T'; (try dsimp only); (try k_lift B'); (try k_fold))
  k_steps
  rename (∀ p ∈ (_, methodObj _ _) :: _, _ < _) => lI
  rename (at' < _ ∧ _) => lq
  rename (Fr _ _ _ (fun y => if y = Str.ofString "fiter" then _ else _)) => FF
  rename (News _ _ _ ((_, citer _ _ _) :: _)) => NN
  refine pyIter_callable (NN _ (.head _)).1 ?_
  have H1 := LexOk.more H0 (e := (_, methodObj (.ref 74) (.ref z))) (Nat.ne_of_gt lq.1) (Nat.ne_of_gt lq.2.1)
  have H2 := fun (o : Obj) => LexOk.more H1 (e := (_, o)) (Nat.ne_of_gt (lI _ (.tail _ (.head _)))) (Nat.ne_of_gt (lI _ (.tail _ (.tail _ (.head _)))))
  have NL := reorder NN
  refine outer_loop (H2 _) ?hI rfl (by k_asm) FF (by k_asm) NL (by k_asm) rfl ?hd ?hu ?l0 ?l1 hx ?turn ?done
  case hI => exact fun e he => Nat.ne_of_lt (lI e ((List.mem_cons.mp he).elim (fun h => h ▸ .head _) (fun h => .tail _ (.tail _ (.tail _ h)))))
  case hd => ktr_room
  case hu => ktr_units
  case l0 => decide
  case l1 => decide
  clear NN NL FF
  case turn =>
    intro tc h tk ta n ln tl FT NT l0 l1
    dsimp only [LexN, OwnC] at NT
    k_steps
    all_goals first
      | (exfalso; rename ((_ == Str.ofString "\"") = true) => hh; rw [is_quote] at hh; exact h34 (of_decide_eq_true hh))
      | (exfalso; rename ((_ == Str.ofString "\\") = true) => hh; rw [is_bs] at hh; exact h92 (of_decide_eq_true hh))
      | (exfalso; rename (List.isEmpty _ = false) => hh; rw [occ_ws, hw0] at hh; cases hh)
      | skip
    rename (Fr _ _ _ (fun y => if y = Str.ofString "token" then _ else _)) => FF
    rename (News _ _ _ _) => NN
    refine pyIter_callable (NN _ (.tail _ (.tail _ (.head _)))).1 ?_
    refine inner_loop (k := 1) (H2 _) ?hI2 rfl (by k_asm) FF (by k_asm) NN (by k_asm) rfl ?hd2 ?hu2 l0 l1 (by omega) (tinv_start hx hw0 h92) (by rfl) (fun _ _ _ => rfl) ?turn2 ?done2
    case hI2 => exact fun e he => Nat.ne_of_lt (lI e ((List.mem_cons.mp he).elim (fun h => h ▸ .head _) (fun h => .tail _ (.tail _ (.tail _ h)))))
    case hd2 => ktr_room
    case hu2 => ktr_units
    case turn2 =>
      clear NN FF
      (try clear NT); (try clear FT); (try clear l0 l1)
      intro k T tt c r tc h tk ta n ln tl hdr hti hkl FT NT l0 l1
      dsimp only [LexN, OwnC] at NT
      have hlen' : x.cps.toList.length ≤ 1000 := by simpa [Str.length] using hlen
      have hTl : T.length ≤ 1000 := by have := hti.2; omega
      have hkk : (k : Int) ≤ 1000 := by omega
      have hsl := slice_le1 x ((k : Int) + 1)
      k_steps
      focus
        have e92 : c = 92 := by rename ((_ == Str.ofString "\\") = true) => hh; rw [is_bs] at hh; exact of_decide_eq_true hh
        subst e92
        exact iend (kk := (k : Int) + 1 + 1) (k' := k + 2) (by k_asm) (by rfl) (fun z h1 h2 => by simp only [h1, h2, if_false]) (by k_asm) (by rfl) (Nat.lt_add_of_pos_right (Nat.succ_pos 1)) (Nat.succ_le_succ hkl) (by first | assumption | omega) (by first | assumption | omega) (tinv_esc hti hdr)
      focus
        have ew : isWs c = false := by rename (List.isEmpty (Builtin.Str.occurrences _ ⟨#[c]⟩ _ _ _) = true) => hh; rw [occ_ws] at hh; simpa using hh
        have e92 : c ≠ 92 := by rename (((⟨#[c]⟩ : Str) == Str.ofString "\\") = false) => hh; rw [is_bs] at hh; exact of_decide_eq_false hh
        exact iend (kk := (k : Int) + 1) (k' := k + 1) (by k_asm) (by rfl) (fun z h1 h2 => by simp only [h1, h2, if_false]) (by k_asm) (by rfl) (Nat.lt_succ_self k) (Nat.le_succ_of_le hkl) (by first | assumption | omega) (by first | assumption | omega) (tinv_step hti hdr ew e92)
      focus
        have e := tinv_ws hti hdr (by rename (List.isEmpty _ = false) => hh; rw [occ_ws] at hh; simpa using hh)
        subst e
        dsimp only [IEnd, OEnd]
        k_steps
        exact hret _ _ _ (by k_asm) (cb_drop (by k_asm) (fun q hq => .tail _ (.tail _ (.tail _ (.tail _ hq)))))
    case done2 =>
      intro h tk tt m' FD e1 e2 ND
      k_steps
      exact ⟨h, tk, tt, m', rfl, FD, e1, ND⟩
  case done =>
    intro h tk tt m' FD ND
    k_steps
    exact hret _ _ _ (by k_asm) (by k_asm)
end
-- TrX
section
open PySem PySem.W PyProof.Rows PySem.Calls
theorem allLt_ne {a d : Nat} : ∀ {l : List (Addr × Obj)}, AllLt a l → a ≤ d → ∀ p ∈ l, p.1 ≠ d
  | [], _, _, _, h => nomatch h
  | q :: l, x, hd, p, h => by
    rcases List.mem_cons.mp h with rfl | h
    · have := x.1; exact Nat.ne_of_lt (Nat.lt_of_lt_of_le this hd)
    · exact allLt_ne x.2 hd p h
theorem allLt_mk {d : Nat} : ∀ {l : List (Addr × Obj)}, (∀ p ∈ l, p.1 < d) → AllLt d l
  | [], _ => trivial
  | q :: l, h => ⟨h q (.head _), allLt_mk fun p hp => h p (.tail _ hp)⟩
noncomputable abbrev readQ : Str := Str.ofString "_law_lexer.<locals>.read"
noncomputable abbrev tabC (c1 c2 : Addr) : Obj := tabObj (#[] ++ #[rawInt (130 : Nat), rawInt (4 : Nat), Value.ref c1] ++ #[rawInt (133 : Nat), rawInt (13 : Nat), Value.ref c2])
abbrev LexRet (w : World) (x : Str) (tail : List (Addr × Obj)) (h₀ : Heap) (L : Addr) (m : Str → Option Value) (s : Shared) (Q : Value → Shared → Prop) : Prop :=
  ∀ (Z : LexA) (rest : List (Addr × Obj)) (ta : Tok) (n : Nat) (tl : Tok) (h' : Heap) (tk' : Nat), LexOk w x Z rest → (∀ p ∈ tail, p ∈ rest) → Fr h₀ L h' m → News h₀ L h' (LexN w Z 0 ta n 1 tl rest) → Q (.ref Z.z) { s with heap := h', toks := tk' }
theorem front2 {α : Type} {x y e : α} (l₁ l₂ l₃ : List α) (h : e ∈ x :: y :: (l₁ ++ (l₂ ++ l₃))) : e ∈ l₁ ++ y :: (l₂ ++ x :: l₃) := by
  simp only [List.mem_cons, List.mem_append] at h ⊢
  rcases h with h | h | h | h | h <;> simp [h]
theorem lex_ret {w : World} {x : Str} {tail rest : List (Addr × Obj)} {h₀ : Heap} {L : Addr} {m : Str → Option Value} {s : Shared} {Q : Value → Shared → Prop} {h' : Heap} {tk' : Nat} {pb z d ds f rd c1 at' ca ct : Addr} {t1 t2 t3 t4 tl tw tr ta tx tq : Tok} {fd : FuncData} {oc1 oca oct : Obj} {n : Nat}
    {ps : Arguments} {b : List Stmt} {sc : Scope} {qual : Str} {dc pm cv : Value} {vs : Array Value}
    (hret : LexRet w x tail h₀ L m s Q) (F : Fr h₀ L h' m) (N : News h₀ L h' ((at', listOf #[Value.int 0 ta] n) :: (d, lexDict w.params t1 t2 t3 t4 1 tl f tw pb) :: rest))
    (hpb : (pb, listOf #[] 0) ∈ rest) (hz : (z, instObj 91 d) ∈ rest) (hds : (ds, dictOf [⟨PyData.keyHash w.params (Str.ofString "read"), .str (Str.ofString "read") tr, .ref rd⟩] 1) ∈ rest) (hf : (f, fnObj (some ds) fd #[]) ∈ rest)
    (hrd : (rd, fnMade (Str.ofString "read") qual ps b sc [(Str.ofString "text", ct), (Str.ofString "at", ca)] dc pm c1 cv) ∈ rest) (hc1 : (c1, oc1) ∈ rest) (hca : (ca, oca) ∈ rest) (hct : (ct, oct) ∈ rest)
    (hp : readOf (Mine.hd.heap_39 w.params) = some (ps, b, sc)) (hoc1 : oc1.data = .fields vs) (hvs : vs[1]? = some (.str qual tq)) (hoct : oct.data = .cell (some (.str x tx))) (hoca : oca.data = .cell (some (.ref at')))
    (hat : ∀ q ∈ rest, q.1 ≠ at') (hd : ∀ q ∈ rest, q.1 ≠ d) (hne : d ≠ at') (hlen : x.length ≤ 1000) (hsub : ∀ p ∈ tail, p ∈ rest) : Q (.ref z) { s with heap := h', toks := tk' } :=
  hret ⟨z, d, ds, f, rd, at', pb, fd, t1, t2, t3, t4, tw, tr⟩ rest ta n tl h' tk' ⟨hz, hds, hf, hpb, fun P k => k tx ps b sc qual ct ca c1 oct oca oc1 dc pm cv vs tq ⟨hp, hrd, hc1, hoc1, hvs, hct, hoct, hca, hoca⟩, hat, hd, hne, hlen⟩ hsub F N
theorem lex_first {w : World} {x : Str} {news rest : List (Addr × Obj)} {h₀ : Heap} {L : Addr} {m : Str → Option Value} {s : Shared} {Q : Value → Shared → Prop} {h' : Heap} {tk' : Nat} {pb z d ds f rd c1 at' ca ct : Addr} {t1 t2 t3 t4 tl tw tr ta tx tq : Tok} {fd : FuncData} {oc1 oca oct : Obj} {n : Nat}
    {ps : Arguments} {b : List Stmt} {sc : Scope} {qual : Str} {dc pm cv : Value} {vs : Array Value}
    (hret : ∀ (c1 c2 : Addr) (oc1 : Obj) (vs : Array Value) (tq : Tok), oc1.data = .fields vs → vs[1]? = some (.str readQ tq) → LexRet w x ((c1, oc1) :: (114, tabC c1 c2) :: news) h₀ L m s Q) (F : Fr h₀ L h' m) (N : News h₀ L h' ((at', listOf #[Value.int 0 ta] n) :: (d, lexDict w.params t1 t2 t3 t4 1 tl f tw pb) :: rest))
    (hpb : (pb, listOf #[] 0) ∈ rest) (hz : (z, instObj 91 d) ∈ rest) (hds : (ds, dictOf [⟨PyData.keyHash w.params (Str.ofString "read"), .str (Str.ofString "read") tr, .ref rd⟩] 1) ∈ rest) (hf : (f, fnObj (some ds) fd #[]) ∈ rest)
    (hrd : (rd, fnMade (Str.ofString "read") qual ps b sc [(Str.ofString "text", ct), (Str.ofString "at", ca)] dc pm c1 cv) ∈ rest) (hc1 : (c1, oc1) ∈ rest) (hca : (ca, oca) ∈ rest) (hct : (ct, oct) ∈ rest)
    (hp : readOf (Mine.hd.heap_39 w.params) = some (ps, b, sc)) (hoc1 : oc1.data = .fields vs) (hvs : vs[1]? = some (.str qual tq)) (hoct : oct.data = .cell (some (.str x tx))) (hoca : oca.data = .cell (some (.ref at')))
    (hat : ∀ q ∈ rest, q.1 ≠ at') (hd : ∀ q ∈ rest, q.1 ≠ d) (hne : d ≠ at') (hlen : x.length ≤ 1000) (hq : qual = readQ) (c2 : Addr) (hsub : ∀ p ∈ (114, tabC c1 c2) :: news, p ∈ rest) : Q (.ref z) { s with heap := h', toks := tk' } :=
  lex_ret (hret c1 c2 oc1 vs tq hoc1 (hq ▸ hvs)) F N hpb hz hds hf hrd hc1 hca hct hp hoc1 hvs hoct hoca hat hd hne hlen (List.forall_mem_cons.mpr ⟨hc1, hsub⟩)
local macro_rules | `(tactic| k_all) => `(tactic| first | assumption | exact allLt_ne (by assumption) (by omega))
set_option maxRecDepth 100000 in
set_option maxHeartbeats 8000000 in
theorem lex_new {w : World} {p : PySem.Program} {loose : List Str} {mean : ExcName → Option Value} {mg mb : Str → Option Value} {news : List (Addr × Obj)} {f : Addr}
    {dp un : Nat} {gd : Option (List Code)} {cn : Str} {cs : Scope} {a : Addr} {ccd : Value} {cl : List (Str × Addr)} {outer : List Env} {A₀ : Around} {base h₀ : Heap} {L : Addr} {m : Str → Option Value} {s : Shared} {Q E : Value → Shared → Prop}
    (B : Below A₀ base outer h₀) (F : Fr h₀ L s.heap m) (X : Frag.In (Mine.hd.heap_39 w.params) h₀) (N : News h₀ L s.heap news) (T : Top p loose mean mg mb h₀) (hk : cs.kind = .function) (hd : dp + 4 < recursionLimit) (hu : un + 150 < cLine)
    (hret : ∀ (z d pb : Addr) (t1 t2 t3 t4 tl tw : Tok) (h' : Heap) (tk' : Nat), Fr h₀ L h' m → News h₀ L h' ((pb, listOf #[] 0) :: (z, instObj 91 d) :: (d, lexDict w.params t1 t2 t3 t4 1 tl f tw pb) :: news) →
      (∀ q ∈ news, q.1 < d) → (∀ q ∈ news, q.1 < z) → (∀ q ∈ news, q.1 < pb) → d < z → d < pb → Q (.ref z) { s with heap := h', toks := tk' }) :
    wpAny (model PySem.Challenge.rw_tr0039_01.row.prog w) (ktrTop dp un gd cn cs L a ccd cl outer) (call (.ref 91) [.ref f]) Q E s := by
  revert X
  w_top off
  k_with_none
  k_fill
  intro X
  k_dflt (refine' call_cls ?k1 ?k2 ?k3 ?k4 ?k5 ?k6 ?_; (case k1 => k_asm); (case k2 => k_asm); (case k3 => k_asm); (case k4 => k_is); (case k5 => k_is); (case k6 => k_is); k_whole; intro x' d' h' F' N' l1 l2; (refine' code_def ?k1 ?k2 ?k3 ?k4 ?k5 ?kA ?kF ?kK ?k6 ?k7 ?k8 ?k9 ?kB ?_ ?c2 ?c3 ?c4 ?c5; (case kA => exact rfl); (case kF => exact rfl); (case kK => first | exact rfl | assumption); (case k1 => k_asm); (case k2 => k_asm); (case k3 => k_asm); (case k4 => k_asm); (case k5 => k_asm); (case k6 => k_is); (case k7 => k_is); (case k8 => ktr_room); (case k9 => exact BindsTo.of_eq rfl); (case c5 => decide); (case kB => exact locs rfl); (case c2 => exact rfl); (case c3 => exact rfl); (case c4 => exact rfl); k_whole; intro g' L' h' FG' F' N' B' X' T'; (try dsimp only); (try k_lift B'); (try k_fold)))
  k_steps
  rename (_ < _ ∧ _ < _ ∧ AllLt _ _) => lc
  exact hret _ _ _ _ _ _ _ _ _ _ _ (by k_asm) (by k_asm) l1 (fun q hq => Nat.lt_trans (l1 q hq) l2) (fun q hq => Nat.lt_trans (l1 q hq) lc.2.1) l2 lc.2.1
set_option maxRecDepth 100000 in
set_option maxHeartbeats 8000000 in
theorem lexer_first (w : World) (p : PySem.Program) (loose : List Str) (mean : ExcName → Option Value) (mg mb : Str → Option Value) (news : List (Addr × Obj)) (x : Str) (t : Tok)
   (hlen : x.length ≤ 1000) (h114 : ∀ q ∈ news, q.1 ≠ 114) :
   ClmC w p loose mean mg mb 119 8 200 ((114, tabObj #[]) :: news) [Value.str x t] (fun h₀ L m s Q => ∀ (c1 c2 : Addr) (oc1 : Obj) (vs : Array Value) (tq : Tok), oc1.data = .fields vs → vs[1]? = some (.str readQ tq) → LexRet w x ((c1, oc1) :: (114, tabC c1 c2) :: news) h₀ L m s Q) := by
  dsimp only [ClmC]
  w_top off
  k_with_none
  k_with "setAttr ref" => (k_here; (with_reducible show wpAny _ _ (setAttr (Value.ref _) (PySem.Str.ofString "read") _) _ _ _); k_dflt (refine fn_setattr (by k_asm) (by k_asm) (by k_updF) ?_; k_whole); intro d9 h9 t9 tk9 F9 N9 l9; (try dsimp only); (try k_lt l9))
  k_with "call ref" => (k_here; (with_reducible show wpAny _ _ (call (Value.ref 91) _) _ _ _); (refine lex_new (by k_asm) (by k_asm) (by k_asm) (by k_asm) (by k_asm) (by first | exact rfl | assumption) (by ktr_room) (by ktr_units) ?_); intro z9 d9 pb9 t1 t2 t3 t4 tl tw h9 tk9 F9 N9 la9 lb9 lc9 ld9 le9; (try k_lt la9); (try k_lt lb9); (try k_lt lc9); (try dsimp only); (try k_fold))
  k_fill
  intros; rename_i hret
  k_dflt (refine' code_defC ?k1 ?k2 ?k3 ?k4 ?k5 ?kA ?kF ?kK ?k6 ?k7 ?k8 ?k9 ?kB ?kD ?_ ?c2 ?c3 ?c4; (case kA => exact rfl); (case kF => exact rfl); (case kK => assumption); (case k1 => k_asm); (case k2 => k_asm); (case k3 => k_asm); (case k4 => k_asm); (case k5 => k_asm); (case k6 => k_is); (case k7 => k_is); (case k8 => ktr_room); (case k9 => exact BindsTo.of_eq rfl); (case kB => exact rfl); (case kD => decide +kernel); (case c2 => exact rfl); (case c3 => exact rfl); (case c4 => exact rfl); k_whole; intro g' L' h' tk' cells' FG' F' N' Y' B' X' T' l1; (k_lt l1); k_cells Y'; (try simp only [List.cons_append, List.nil_append] at N'); (try dsimp only); (try k_lift B'); (try k_fold))
  have hAll := l1.2
  have codeHd := codeHd_of_K (c := 118) (P := 114) X' (by kernel_rfl)
  k_steps
  rename (News _ _ _ ((_, listOf #[] 0) :: (_, instObj 91 _) :: _)) => NF
  have NF2 : News _ _ _ (_ :: _ :: _ :: _ :: _ :: _ :: _ :: _ :: _ :: _ :: _ :: (114, tabC _ _) :: news) := fun e he => NF e (front2 [_, _] [_, _, _, _, _] _ he)
  refine' lex_first hret (by k_asm) NF2 (.head _) (.tail _ (.head _)) (.tail _ (.tail _ (.head _))) (.tail _ (.tail _ (.tail _ (.head _)))) (.tail _ (.tail _ (.tail _ (.tail _ (.tail _ (.head _)))))) (.tail _ (.tail _ (.tail _ (.tail _ (.tail _ (.tail _ (.head _))))))) (.tail _ (.tail _ (.tail _ (.tail _ (.tail _ (.tail _ (.tail _ (.head _)))))))) (.tail _ (.tail _ (.tail _ (.tail _ (.tail _ (.tail _ (.tail _ (.tail _ (.head _))))))))) ?hp ?oc1 ?vs ?oct ?oca ?hat ?hd ?hne hlen ?hq _ (fun p hp => (.tail _ (.tail _ (.tail _ (.tail _ (.tail _ (.tail _ (.tail _ (.tail _ (.tail _ hp))))))))))
  case hq => with_unfolding_all rfl
  case hp => exact rfl
  case oc1 => assumption
  case vs => assumption
  case oct => assumption
  case oca => assumption
  case hat =>
    repeat' (refine' List.forall_mem_cons.mpr ⟨?_, ?_⟩)
    all_goals first | k_ne | (refine allLt_ne ?_ (Nat.le_refl _); with_reducible ((iterate 14 (first | done | assumption | apply And.right)); done)) | exact allLt_ne hAll (by omega)
  case hd =>
    repeat' (refine' List.forall_mem_cons.mpr ⟨?_, ?_⟩)
    all_goals first | k_ne | (refine allLt_ne ?_ (Nat.le_refl _); with_reducible ((iterate 14 (first | done | assumption | apply And.right)); done)) | exact allLt_ne hAll (by omega)
  case hne => k_ne
set_option maxRecDepth 100000 in
set_option maxHeartbeats 8000000 in
theorem lexer_again (w : World) (p : PySem.Program) (loose : List Str) (mean : ExcName → Option Value) (mg mb : Str → Option Value) (news : List (Addr × Obj)) (x : Str) (t : Tok)
   (hlen : x.length ≤ 1000) (c1 c2 : Addr) (oc1 : Obj) (vs : Array Value) (tq : Tok) (h114 : (114, tabC c1 c2) ∈ news) (hc1 : (c1, oc1) ∈ news) (hoc1 : oc1.data = .fields vs) (hvs : vs[1]? = some (.str readQ tq)) :
   ClmC w p loose mean mg mb 119 8 200 news [Value.str x t] (fun h₀ L m s Q => LexRet w x news h₀ L m s Q) := by
  dsimp only [ClmC]
  w_top off
  k_with_none
  k_with "setAttr ref" => (k_here; (with_reducible show wpAny _ _ (setAttr (Value.ref _) (PySem.Str.ofString "read") _) _ _ _); k_dflt (refine fn_setattr (by k_asm) (by k_asm) (by k_updF) ?_; k_whole); intro d9 h9 t9 tk9 F9 N9 l9; (try dsimp only); (try k_lt l9))
  k_with "call ref" => (k_here; (with_reducible show wpAny _ _ (call (Value.ref 91) _) _ _ _); (refine lex_new (by k_asm) (by k_asm) (by k_asm) (by k_asm) (by k_asm) (by first | exact rfl | assumption) (by ktr_room) (by ktr_units) ?_); intro z9 d9 pb9 t1 t2 t3 t4 tl tw h9 tk9 F9 N9 la9 lb9 lc9 ld9 le9; (try k_lt la9); (try k_lt lb9); (try k_lt lc9); (try dsimp only); (try k_fold))
  k_fill
  intros; rename_i hret
  k_dflt (refine' code_defC ?k1 ?k2 ?k3 ?k4 ?k5 ?kA ?kF ?kK ?k6 ?k7 ?k8 ?k9 ?kB ?kD ?_ ?c2 ?c3 ?c4; (case kA => exact rfl); (case kF => exact rfl); (case kK => assumption); (case k1 => k_asm); (case k2 => k_asm); (case k3 => k_asm); (case k4 => k_asm); (case k5 => k_asm); (case k6 => k_is); (case k7 => k_is); (case k8 => ktr_room); (case k9 => exact BindsTo.of_eq rfl); (case kB => exact rfl); (case kD => decide +kernel); (case c2 => exact rfl); (case c3 => exact rfl); (case c4 => exact rfl); k_whole; intro g' L' h' tk' cells' FG' F' N' Y' B' X' T' l1; (try k_lt l1); k_cells Y'; (try simp only [List.cons_append, List.nil_append] at N'); (try dsimp only); (try k_lift B'); (try k_fold))
  have hAll := allLt_mk l1
  have codeHd := codeHd_of_K (c := 118) (P := 114) X' (by kernel_rfl)
  k_steps
  rename (News _ _ _ ((_, listOf #[] 0) :: (_, instObj 91 _) :: _)) => NF
  have NF2 : News _ _ _ (_ :: _ :: _ :: _ :: _ :: _ :: _ :: _ :: _ :: news) := fun e he => NF e (front2 [_, _] [_, _, _] _ he)
  refine' lex_ret hret (by k_asm) NF2 (.head _) (.tail _ (.head _)) (.tail _ (.tail _ (.head _))) (.tail _ (.tail _ (.tail _ (.head _)))) (.tail _ (.tail _ (.tail _ (.tail _ (.head _))))) (.tail _ (.tail _ (.tail _ (.tail _ (.tail _ (.tail _ (.tail _ hc1))))))) (.tail _ (.tail _ (.tail _ (.tail _ (.tail _ (.head _)))))) (.tail _ (.tail _ (.tail _ (.tail _ (.tail _ (.tail _ (.head _))))))) ?hp hoc1 ?vs ?oct ?oca ?hat ?hd ?hne hlen (fun p hp => (.tail _ (.tail _ (.tail _ (.tail _ (.tail _ (.tail _ (.tail _ hp))))))))
  case hp => exact rfl
  case vs => exact hvs
  case oct => assumption
  case oca => assumption
  case hat =>
    repeat' (refine' List.forall_mem_cons.mpr ⟨?_, ?_⟩)
    all_goals first | k_ne | (refine allLt_ne ?_ (Nat.le_refl _); with_reducible ((iterate 14 (first | done | assumption | apply And.right)); done)) | exact allLt_ne hAll (by omega)
  case hd =>
    repeat' (refine' List.forall_mem_cons.mpr ⟨?_, ?_⟩)
    all_goals first | k_ne | (refine allLt_ne ?_ (Nat.le_refl _); with_reducible ((iterate 14 (first | done | assumption | apply And.right)); done)) | exact allLt_ne hAll (by omega)
  case hne => k_ne
end
-- TrD
section
open PySem PySem.W PyProof.Rows PySem.Calls PyProof.V
def OpsAt (w : World) (l : List (Str × Int)) (o : Obj) : Prop := ∃ kvs, o.IsDictOf (PySem.intKind PySem.Challenge.rw_tr0039_01.row.prog w) kvs ∧ FlatPairs PyData.int kvs (l.map fun p => (PyData.int p.2, PyData.str p.1))
theorem lookup_out (n : Int) : ∀ l : List (Str × Int), (∀ p ∈ l, p.2 ≠ n) → PySem.Spec.lookup (.int n) (l.map fun p => (PyData.int p.2, PyData.str p.1)) = none
  | [], _ => by simp [PySem.Spec.lookup]
  | p :: l, h => by
    have ih := lookup_out n l fun q hq => h q (.tail _ hq)
    have h1 := h p (.head _)
    simp only [List.map_cons, PySem.Spec.lookup, PySem.Spec.same]
    have h' : (p.2 == n) = false := by simpa using h1
    simp only [h', Bool.false_eq_true, if_false]
    exact ih
theorem ops_new : ∀ i < 48, ∀ p ∈ opsList.take i, p.2 ≠ (opsList.getD i (Str.empty, 0)).2 := by decide +kernel
theorem putD_ops {i : Nat} {p : Str × Int} (hp : opsList[i]? = some p) : putD (.int p.2) (.str p.1) ((opsList.take i).map fun p => (PyData.int p.2, PyData.str p.1)) = (opsList.take (i + 1)).map fun p => (PyData.int p.2, PyData.str p.1) := by
  have hi : i < 48 := by
    have : i < opsList.length := (List.getElem?_eq_some_iff.mp hp).1
    exact this
  have hg : opsList.getD i (Str.empty, 0) = p := by rw [List.getD_eq_getElem?_getD, hp]; rfl
  rw [putD_absent (lookup_out _ _ (by have := ops_new i hi; rw [hg] at this; exact this))]
  rw [List.take_add_one, hp]
  simp
def DEnd (w : World) (h₀ : Heap) (L : Addr) (d : Addr) (m₀ : Str → Option Value) (news own : List (Addr × Obj)) (l : List (Str × Int)) (s₁ : Shared) (fl : Flow) (s₂ : Shared) : Prop :=
  match fl with
  | .ret _ => False
  | .brk => False
  | _ => ∀ R : Prop, (∀ od h' tk' m', s₂ = { s₁ with heap := h', toks := tk' } → Fr h₀ L h' m' → (∀ z, z ≠ Str.ofString "sign" → m' z = m₀ z) → News h₀ L h' ((d, od) :: (news ++ own)) → OpsAt w l od → R) → R
section
variable {w : World} {A : Around} {E : Value → Shared → Prop} {s : Shared} {env : Env} {h₀ : Heap} {body : List Stmt} {Q : Flow → Shared → Prop}
theorem opsEnd_post {m₀ : Str → Option Value} {d : Addr} {news own : List (Addr × Obj)} {i : Nat} {s₁ : Shared} {fl : Flow} {s₂ : Shared} (h : DEnd w h₀ env.locals d m₀ news own (opsList.take (i + 1)) s₁ fl s₂) :
    InvPostN h₀ env.locals (fun m₁ nx => ∃ od, nx = (d, od) :: news ∧ OpsAt w (opsList.take (i + 1)) od ∧ ∀ z, z ≠ Str.ofString "sign" → m₁ z = m₀ z) own (d :: news.map (·.1)) s₁ Q fl s₂ := by
  cases fl with
  | ret v => exact h.elim
  | brk => exact h.elim
  | next =>
    refine h _ fun od h' tk' m' e F hm N ho => ?_
    subst e
    exact ⟨h', tk', m', _, (d, od) :: news, rfl, F, N, fun p hp => (List.mem_cons.mp hp).elim (fun e => e ▸ .head _) (fun e => .tail _ (List.mem_append_left _ e)), fun p hp => .tail _ (List.mem_append_right _ hp), rfl, od, rfl, ho, hm⟩
  | cont =>
    refine h _ fun od h' tk' m' e F hm N ho => ?_
    subst e
    exact ⟨h', tk', m', _, (d, od) :: news, rfl, F, N, fun p hp => (List.mem_cons.mp hp).elim (fun e => e ▸ .head _) (fun e => .tail _ (List.mem_append_left _ e)), fun p hp => .tail _ (List.mem_append_right _ hp), rfl, od, rfl, ho, hm⟩
theorem ops_loop {d : Addr} {od : Obj} {m₀ : Str → Option Value} {news : List (Addr × Obj)} (hh : A.handled = none) (X : Frag.In (Mine.hd.heap_39 w.params) h₀)
    (F : Fr h₀ env.locals s.heap m₀) (N : News h₀ env.locals s.heap ((d, od) :: news)) (ho : OpsAt w [] od)
    (turn : ∀ i p od t h tk own, opsList[i]? = some p → OwnOff own (d :: news.map (·.1)) → OpsAt w (opsList.take i) od →
      Fr h₀ env.locals h (fun y => if y = Str.ofString "sign" then some (.str p.1 t) else m₀ y) → News h₀ env.locals h ((d, od) :: (news ++ own)) →
      wpAny (model PySem.Challenge.rw_tr0039_01.row.prog w) A (execs body env) (DEnd w h₀ env.locals d m₀ news own (opsList.take (i + 1)) { s with heap := h, toks := tk }) E { s with heap := h, toks := tk })
    (done : ∀ od (u : Str → Option Value) h tk, OpsObj w od → Fr h₀ env.locals h (fun y => if y = Str.ofString "sign" then u y else m₀ y) → News h₀ env.locals h ((d, od) :: news) → Q .next { s with heap := h, toks := tk }) :
    wpAny (model PySem.Challenge.rw_tr0039_01.row.prog w) A (pyIter (.ref 96)) (fun it s₂ => LoopAtV PySem.Challenge.rw_tr0039_01.row.prog w A h₀ env (Str.ofString "sign") body Q E it s₂) E s := by
  have X' : Frag.In (Mine.hd.heap_39 w.params) s.heap := X.keeps F.keep
  obtain ⟨lo, kvs, hdo, hf⟩ := ops_tab w X'
  obtain ⟨ep, hat⟩ := hdo.dictAt
  obtain ⟨lo', kvs', hdo', hf'⟩ := ops_tab w X
  obtain ⟨ep', hat'⟩ := hdo'.dictAt
  obtain ⟨o96, _, h96, _⟩ := hat'
  refine wpAny_pyIter_dict lo hat ?_
  have hne : (96 : Addr) ≠ s.heap.objs.size := Nat.ne_of_lt hat.lt_size
  have hlen : kvs.length = opsList.length := by have := hf.length; simp [opsT, opsD] at this; omega
  refine loop_invN (n := kvs.length) (I := s.heap.objs.size) (fp := [s.heap.objs.size, 96]) (wr := [s.heap.objs.size]) (m₀ := m₀) (news := (d, od) :: news) (fun i m₁ nx => ∃ od, nx = (d, od) :: news ∧ OpsAt w (opsList.take i) od ∧ ∀ z, z ≠ Str.ofString "sign" → m₁ z = m₀ z)
    ((Walks.dictKeys (knd := strKind PySem.Challenge.rw_tr0039_01.row.prog w) hh _ 96 hne kvs ep).weaken (P' := fun i v => ∃ p t, opsList[i]? = some p ∧ v = .str p.1 t) ?_) ?_ ?_ ?_ ?_ ⟨⟨_, Heap.get?_push_size _ rfl, rfl, rfl⟩, hat.push _⟩ (F.push _) (fun p hp => ⟨Heap.get?_push_of_some _ (N p hp).1, (N p hp).2⟩) ⟨od, rfl, ho, fun _ _ => rfl⟩ ?_ ?_
  · rintro i v ⟨k, xv, hx, hkey⟩
    obtain ⟨dv, hD, _⟩ := hf.at hx
    obtain ⟨t, rfl⟩ := Value.isStrOf_shape hkey
    have hD' : (opsList[i]?).map (fun p => (PyData.str p.1, PyData.int p.2)) = some (PyData.str k, dv) := by
      rw [← hD]; simp [opsT, opsD, List.getElem?_map]; rfl
    cases hq : opsList[i]? with
    | none => rw [hq] at hD'; cases hD'
    | some p =>
      rw [hq] at hD'
      have e := Option.some.inj hD'
      have e1 : PyData.str p.1 = PyData.str k := (Prod.mk.inj e).1
      injection e1 with e1
      exact ⟨p, t, rfl, by rw [e1]⟩
  · intro hm
    rcases List.mem_cons.mp hm with e | hm
    · exact absurd F.ns.lt (e ▸ Nat.lt_irrefl _)
    · have e := List.mem_singleton.mp hm
      have h1 := Heap.lt_size h96
      have h2 := F.above
      rw [e] at h2
      exact absurd (Nat.lt_of_lt_of_le h1 h2) (Nat.lt_irrefl _)
  · intro b hb
    rw [List.mem_singleton.mp hb]
    exact next_is_new F
  · intro p hp hI
    exact absurd (Heap.lt_size (N p hp).1) ((List.mem_singleton.mp hI) ▸ Nat.lt_irrefl _)
  · intro p hp hI
    rcases List.mem_cons.mp hI with e | hI
    · exact absurd (Heap.lt_size (N p hp).1) (e ▸ Nat.lt_irrefl _)
    · have := (N p hp).2.2
      rw [List.mem_singleton.mp hI, h96] at this
      cases this
  · rintro i v m₁ nx h tk own hin ⟨p, t, hp, rfl⟩ _ off ⟨od₁, rfl, ho₁, hm⟩ F₁ N₁
    have hmap : (fun y => if y = Str.ofString "sign" then some (Value.str p.1 t) else m₁ y) = (fun y => if y = Str.ofString "sign" then some (Value.str p.1 t) else m₀ y) := by
      funext y
      by_cases e : y = Str.ofString "sign"
      · rw [if_pos e, if_pos e]
      · rw [if_neg e, if_neg e, hm y e]
    rw [hmap] at F₁
    exact wpAny_mono (turn i p od₁ t h tk own hp off ho₁ F₁ N₁) (fun fl s₂ q => opsEnd_post q) fun _ _ e => e
  · rintro m₁ nx h tk ⟨od₁, rfl, ho₁, hm⟩ F₁ N₁
    rw [hlen, List.take_length] at ho₁
    have hmap : m₁ = (fun y => if y = Str.ofString "sign" then m₁ y else m₀ y) := by
      funext y
      by_cases e : y = Str.ofString "sign"
      · rw [if_pos e]
      · rw [if_neg e, hm y e]
    rw [hmap] at F₁
    exact done od₁ m₁ h tk ho₁ F₁ N₁
theorem ops_put {kvs : List (Int × Value)} {o' : Obj} {i : Nat} {p : Str × Int} (hp : opsList[i]? = some p)
    (hd : o'.IsDictOf (PySem.intKind PySem.Challenge.rw_tr0039_01.row.prog w) kvs) (hf : FlatPairs PyData.int kvs (putD (.int p.2) (.str p.1) ((opsList.take i).map fun p => (PyData.int p.2, PyData.str p.1)))) : OpsAt w (opsList.take (i + 1)) o' :=
  ⟨kvs, hd, putD_ops hp ▸ hf⟩
end
end
-- TrDo
section
open PySem PySem.W PyProof.Rows PySem.Calls PyProof.V
theorem ops_some {i : Nat} {p : Str × Int} (h : opsList[i]? = some p) : (opOf p.1).isSome = true := by
  have : ∀ p ∈ opsList, (opOf p.1).isSome = true := by decide +kernel
  exact this p (List.mem_of_getElem? h)
theorem ops_val {i : Nat} {p : Str × Int} (h : opsList[i]? = some p) : (opOf p.1).getD 0 = p.2 := by
  have : ∀ p ∈ opsList, (opOf p.1).getD 0 = p.2 := by decide +kernel
  exact this p (List.mem_of_getElem? h)
theorem ops_item {w : World} {A : Around} {E : Value → Shared → Prop} {s : Shared} {Q : Value → Shared → Prop} {i : Nat} {p : Str × Int} {t : Tok} {value slice : PySem.Expr} (X : Frag.In (Mine.hd.heap_39 w.params) s.heap) (hp : opsList[i]? = some p) (h : ∀ t', Q (.int p.2 t') { s with toks := s.toks + 1 })
    (hs : subscripted slice false (.ref 96) (.str p.1 t) = operate [.ref 96, .str p.1 t] (getItem (.ref 96) (.str p.1 t)) ) (hg : ∀ r, letTemporaryGo value (.ref 96) r = pure () ) :
    wpAny (model PySem.Challenge.rw_tr0039_01.row.prog w) A (subscriptTail value slice (.ref 96) (.str p.1 t)) Q E s :=
  item_ops X (ops_some hp) (fun t' => by rw [ops_val hp]; exact h t') hs hg
theorem ops_size {i : Nat} : ((opsList.take i).map fun p => (PyData.int p.2, PyData.str p.1)).length ≤ sizeLine := by
  have h1 : ((opsList.take i).map fun p => (PyData.int p.2, PyData.str p.1)).length ≤ 48 := by
    rw [List.length_map, List.length_take]
    have : opsList.length = 48 := by decide
    omega
  rw [PySem.sizeLine_eq]
  omega
local macro_rules | `(tactic| k_all) => `(tactic| exact off_tail (by assumption) (by assumption))
set_option maxRecDepth 100000 in
set_option maxHeartbeats 8000000 in
theorem operators_spec (w : World) (p : PySem.Program) (loose : List Str) (mean : ExcName → Option Value) (mg mb : Str → Option Value) (news : List (Addr × Obj)) :
   ClmC w p loose mean mg mb 126 4 150 news [] (fun h₀ L m s Q => ∀ (d : Addr) (od : Obj) (h' : Heap) (tk' : Nat), Fr h₀ L h' m → News h₀ L h' ((d, od) :: news) → (∀ q ∈ news, q.1 < d) → OpsObj w od → (d == sysModules) = false → Q (Value.ref d) { s with heap := h', toks := tk' }) := by
  dsimp only [ClmC]
  w_top off
  k_with_none
  k_with "exec For Name Name cons nil" => (k_here; (rename Fr _ _ _ _ => lF'); (with_unfolding_all refine For_invVF lF' (by exact rfl) (by exact rfl) ?_; k_whole))
  k_with "pyIter ref" => (k_here; (with_unfolding_all refine ops_loop (by rfl) (by k_asm) (by k_asm) (by k_asm) (by exact ⟨_, by assumption, by assumption⟩) ?_ ?_); (focus (intro i p od t h tk own hp off hO F N; (obtain ⟨kvs, hdk, hfk⟩ := hO))))
  k_with "subscriptTail" => (k_here; (with_reducible show wpAny _ _ (subscriptTail _ _ (Value.ref 96) (Value.str _ _)) _ _ _); (refine ops_item (by k_in) (by assumption) ?_ (by with_unfolding_all rfl) (by intro _; with_unfolding_all rfl); k_whole); intro t9)
  k_with "setItem ref int" => (k_here; k_dflt (refine setItem_K PyProof.V.same_int (intKind_is _ _ _ _) (by exact PyProof.V.Flat.str _ _) (by k_asm) (by k_asm) (by k_updF) (by assumption) (by assumption) ?_ (by exact ops_size)); intro h' o' F' N' hd' hf'; (try dsimp only at N'))
  k_fill
  intros; rename_i hret
  k_dflt (refine' code_def ?k1 ?k2 ?k3 ?k4 ?k5 ?kA ?kF ?kK ?k6 ?k7 ?k8 ?k9 ?kB ?_ ?c2 ?c3 ?c4 ?c5; (case kA => exact rfl); (case kF => exact rfl); (case kK => assumption); (case k1 => k_asm); (case k2 => k_asm); (case k3 => k_asm); (case k4 => k_asm); (case k5 => k_asm); (case k6 => k_is); (case k7 => k_is); (case k8 => ktr_room); (case k9 => exact BindsTo.of_eq rfl); (case c5 => decide); (case kB => exact locs rfl); (case c2 => exact rfl); (case c3 => exact rfl); (case c4 => exact rfl); k_whole; intro g' L' h' FG' F' N' B' X' T'; (try dsimp only); (try k_lift B'); (try k_fold))
  k_steps
  focus
    exact fun _ K => K _ _ _ _ rfl (by k_asm) (fun z hz => by simp only [hz, if_false]) (by k_asm) (ops_put (by assumption) (by assumption) (by assumption))
  focus
    rename (OpsObj w _) => hO
    rename (∀ p ∈ news, p.1 < _) => hl
    rename ((_ == sysModules) = false) => hs
    exact hret _ _ _ _ (by k_asm) (by k_asm) hl hO hs
end
-- TrS
section
open PySem PySem.W PyProof.Rows PySem.Calls PyProof.V
noncomputable def opNums : List Int := [7, 8, 9, 10, 11, 12, 13, 14, 15, 16, 17, 18, 19, 20, 21, 22, 23, 24, 25, 26, 27, 28, 29, 30, 31, 32, 33, 34, 35, 36, 37, 38, 39, 40, 41, 42, 43, 44, 45, 46, 47, 48, 49, 50, 51, 52, 53, 54]
theorem opNums_perm : opNums.Perm (opsList.map (·.2)) := by decide +kernel
theorem opNums_asc : opNums.Pairwise (· ≤ ·) := by decide +kernel
theorem nums_uniq {ns : List Int} (hp : ns.Perm (opsList.map (·.2))) (ha : ns.Pairwise (· ≤ ·)) : ns = opNums :=
  List.Perm.eq_of_pairwise (le := (· ≤ ·)) (fun a b _ _ h1 h2 => Int.le_antisymm h1 h2) ha opNums_asc (hp.trans opNums_perm.symm)
theorem ints_of_each : ∀ {vs : List Value} {ns : List Int}, vs.length = ns.length → (∀ (j : Nat) (v : Value), vs[j]? = some v → ∃ n t, ns[j]? = some n ∧ v = .int n t) → IntsAre vs ns
  | [], [], _, _ => IntsAre.nil
  | v :: vs, n :: ns, hl, h => by
    obtain ⟨n', t, e, rfl⟩ := h 0 v rfl
    simp only [List.getElem?_cons_zero, Option.some.injEq] at e
    subst e
    exact IntsAre.cons _ _ (ints_of_each (by simpa using hl) fun j u hu => h (j + 1) u (by simpa using hu))
section
variable {w : World} {A : Around} {E : Value → Shared → Prop} {s : Shared} {h₀ : Heap} {L D d : Addr} {m : Str → Option Value} {news : List (Addr × Obj)} {n : Nat} {prog : PySem.Program}
theorem sort_ints {vs : List Value} {ns : List Int} {Q : Value → Shared → Prop} (F : Fr h₀ L s.heap m) (N : News h₀ L s.heap ((D, listOf vs.toArray n) :: news)) (hD : ∀ p ∈ news, p.1 ≠ D) (hi : IntsAre vs ns) (hpos : 0 < ns.length) (h64 : ns.length < 64)
    (h : ∀ us ms h', Fr h₀ L h' m → News h₀ L h' ((D, listOf us.toArray (n + 2)) :: news) → IntsAre us ms → ms.Perm ns → ms.Pairwise (· ≤ ·) → Q .none { s with heap := h' }) : wpAny (model prog w) A (call (.builtin "list.sort") [.ref D]) Q E s := by
  have z := N (D, listOf vs.toArray n) (.head _)
  have ho : s.heap.get? D = some (seqObj "list" vs.toArray n) := z.1
  have hvl := hi.length
  have hpv : vs.toArray.size ≠ 0 := by rw [List.size_toArray]; omega
  refine wpAny_call_entry PyProof.Rows.slot_list_sort ⟨_, z.1, rfl⟩ PyProof.Rows.entry_list_sort (list_sort_tree (n := n) (vs := vs) ho hi (by omega) fun out ns' hI hp hP => ⟨.none, rfl, ?_⟩) (PyProof.Rows.args_list_sort _)
  have hlen : out.size ≠ 0 := by
    have h1 := hp.length_eq
    have h2 := hI.length
    have h4 : out.toList.length = out.size := Array.length_toList
    omega
  have N' : News h₀ L s.heap ([] ++ (D, listOf vs.toArray n) :: news) := N
  have F1 : Fr h₀ L (s.heap.update D (Obj.mapSeq fun _ => (#[] : Array Value))) m := F.change (Heap.SameBut.update ..) z.2.1 z.2.2
  have N1 := ki_turn (fun _ => (#[] : Array Value)) (its' := #[]) (n' := n + 1) N' (fun _ h => nomatch h) hD rfl (by rw [if_neg (by simpa using fun h => hpv h.symm)])
  have N2 := News.grown N1 fun _ _ e => Heap.get?_push_of_some (seqObj "tuple" vs.toArray 0) e
  have N3 := News.grown N2 fun _ _ e => Heap.get?_push_of_some (seqObj "list" #[] 0) e
  have N4 := ki_turn (fun _ => out) (its' := out) (n' := n + 2) N3 (fun _ h => nomatch h) hD rfl (by rw [if_neg (by simpa using hlen)])
  have F4 : Fr h₀ L ((((s.heap.update D (Obj.mapSeq fun _ => (#[] : Array Value))).push (seqObj "tuple" vs.toArray 0)).push (seqObj "list" #[] 0)).update D (Obj.mapSeq fun _ => out)) m :=
    ((F1.push (seqObj "tuple" vs.toArray 0)).push (seqObj "list" #[] 0)).change (Heap.SameBut.update ..) z.2.1 z.2.2
  refine h out.toList ns' _ F4 ?_ hI hp hP
  rw [Array.toArray_toList]
  exact N4
theorem sorted_ops {od : Obj} {Q : Value → Shared → Prop} (hh : A.handled = none) (F : Fr h₀ L s.heap m) (N : News h₀ L s.heap news) (hop : (d, od) ∈ news) (hd : OpsObj w od) (hlo : (d == sysModules) = false)
    (h : ∀ B us h' tk, Fr h₀ L h' m → News h₀ L h' ((B, listOf us.toArray 2) :: news) → (∀ q ∈ news, q.1 < B) → IntsAre us opNums → Q (.ref B) { s with heap := h', toks := tk }) :
    wpAny (model PySem.Challenge.rw_tr0039_01.row.prog w) A (call (.builtin "sorted") [.ref d]) Q E s := by
  obtain ⟨kvs, h1, h2⟩ := hd
  obtain ⟨lo, kvs', hD, hf⟩ : IntTab PySem.Challenge.rw_tr0039_01.row.prog w s.heap d revT := TabAt.ofNews N hop hlo h1 h2
  obtain ⟨ep, hat⟩ := hD.dictAt
  have hlen : revT.length = 48 := by decide
  refine kdu_sorted (kdl_dict (knd := PySem.intKind _ _) (kvs := kvs') (ep := ep) lo) hh F N hat (kdl_size (by rw [← hf.length, hlen]; decide)) fun B h' tk vs F' N' l1 hl hv => ?_
  have hi : IntsAre vs (opsList.map (·.2)) := ints_of_each (by rw [hl, ← hf.length, hlen]; decide) fun j v hj => by
    obtain ⟨k, x, hx, hk⟩ := hv j v hj
    obtain ⟨dv, hd', _⟩ := hf.at hx
    obtain ⟨t, rfl⟩ := Flat.int_inv (kdl_flat_int hk)
    refine ⟨k, t, ?_, rfl⟩
    have e : (opsList[j]?).map (fun p => (PyData.int p.2, PyData.str p.1)) = some (PyData.int k, dv) := by rw [← hd']; simp [revT, List.getElem?_map]
    rw [List.getElem?_map]
    cases hq : opsList[j]? with
    | none => rw [hq] at e; cases e
    | some p =>
      rw [hq] at e
      have e1 : PyData.int p.2 = PyData.int k := (Prod.mk.inj (Option.some.inj e)).1
      injection e1 with e1
      exact congrArg some e1
  refine sort_ints F' N' (fun p hp => Nat.ne_of_lt (l1 p hp)) hi (by decide) (by decide) fun us ms h'' F'' N'' hI hp hP => ?_
  rw [nums_uniq hp hP] at hI
  exact h B us h'' tk F'' N'' l1 hI
end
noncomputable def isSingle (n : Int) : Bool := ((signOf n).getD Str.empty).length == 1
noncomputable def singlesUpto (i : Nat) : List Int := (opNums.take i).filter isSingle
theorem singles_all : singlesUpto opNums.length = singles := by decide +kernel
theorem op_sign {i : Nat} {n : Int} (h : opNums[i]? = some n) : (signOf n).isSome = true := by
  have : ∀ n ∈ opNums, (signOf n).isSome = true := by decide +kernel
  exact this n (List.mem_of_getElem? h)
theorem single_yes {i : Nat} {n : Int} {ys : List Value} {t : Tok} (hJ : IntsAre ys (singlesUpto i)) (h : opNums[i]? = some n) (hs : isSingle n = true) : IntsAre (ys ++ [Value.int n t]) (singlesUpto (i + 1)) := by
  unfold singlesUpto at *
  rw [List.take_add_one, h, List.filter_append]
  simp only [Option.toList, List.filter_cons, hs, if_true, List.filter_nil]
  exact IntsAre.append hJ (IntsAre.cons _ _ IntsAre.nil)
theorem single_no {i : Nat} {n : Int} {ys : List Value} (hJ : IntsAre ys (singlesUpto i)) (h : opNums[i]? = some n) (hs : isSingle n = false) : IntsAre ys (singlesUpto (i + 1)) := by
  unfold singlesUpto at *
  rw [List.take_add_one, h, List.filter_append]
  simp only [Option.toList, List.filter_cons, hs, Bool.false_eq_true, if_false, List.filter_nil, List.append_nil]
  exact hJ
end
-- TrPl
section
open PySem PySem.W PyProof.Rows PySem.Calls
noncomputable def wsI (c : Int) : Bool := decide (0 < c) && decide (c < 5)
noncomputable def nameI : List Int → List Int
  | [] => []
  | c :: r => if c = 0 then (match r with | 0 :: r' => 0 :: nameI r' | _ => []) else c :: nameI r
termination_by l => l.length
noncomputable def tokI : List Int → List Int
  | [] => []
  | c :: r => if wsI c then [] else if c = 256 then (match r with | [] => [] | e :: r' => e :: tokI r') else c :: tokI r
termination_by l => l.length
noncomputable def placeI : List Int → Nat
  | [] => 0
  | c :: r => if c = 0 then (match r with | 0 :: r' => placeI r' + 2 | _ => 0) else placeI r + 1
termination_by l => l.length
noncomputable def wendI : List Int → Nat
  | [] => 0
  | c :: r => if wsI c then 0 else if c = 256 then (match r with | [] => 1 | _ :: r' => wendI r' + 2) else wendI r + 1
termination_by l => l.length
theorem nameI_nil : nameI [] = [] := by rw [nameI]
theorem nameI_other {c : Int} {r : List Int} (h : c ≠ 0) : nameI (c :: r) = c :: nameI r := by rw [nameI.eq_def]; simp only [h, if_false]
theorem nameI_pair {r : List Int} : nameI (0 :: 0 :: r) = 0 :: nameI r := by rw [nameI]; simp
theorem nameI_end {r : List Int} (h : r.head? ≠ some 0) : nameI (0 :: r) = [] := by
  rw [nameI.eq_def]
  cases r with
  | nil => rfl
  | cons c r =>
    have : c ≠ 0 := fun e => h (by rw [e]; rfl)
    simp only [if_true]
    split
    · rename_i e; cases e; exact absurd rfl this
    · rfl
theorem placeI_nil : placeI [] = 0 := by rw [placeI]
theorem placeI_other {c : Int} {r : List Int} (h : c ≠ 0) : placeI (c :: r) = placeI r + 1 := by rw [placeI.eq_def]; simp only [h, if_false]
theorem placeI_pair {r : List Int} : placeI (0 :: 0 :: r) = placeI r + 2 := by rw [placeI]; simp
theorem placeI_end {r : List Int} (h : r.head? ≠ some 0) : placeI (0 :: r) = 0 := by
  rw [placeI.eq_def]
  cases r with
  | nil => rfl
  | cons c r =>
    have : c ≠ 0 := fun e => h (by rw [e]; rfl)
    simp only [if_true]
    split
    · rename_i e; cases e; exact absurd rfl this
    · rfl
theorem tokI_nil : tokI [] = [] := by rw [tokI]
theorem tokI_ws {c : Int} {r : List Int} (h : wsI c = true) : tokI (c :: r) = [] := by rw [tokI.eq_def]; simp [h]
noncomputable def tokE : List Int → List Int
  | [] => []
  | e :: r => e :: tokI r
theorem ws256 : wsI 256 = false := by decide
theorem ws0 : wsI 0 = false := by decide
theorem tokI_esc {r : List Int} : tokI (256 :: r) = tokE r := by
  rw [tokI.eq_def]
  cases r with
  | nil => simp [ws256, tokE]
  | cons e r' => simp [ws256, tokE]
theorem tokI_other {c : Int} {r : List Int} (h : wsI c = false) (h2 : c ≠ 256) : tokI (c :: r) = c :: tokI r := by rw [tokI.eq_def]; simp [h, h2]
noncomputable def wendE : List Int → Nat
  | [] => 0
  | _ :: r => wendI r + 1
theorem wendI_nil : wendI [] = 0 := by rw [wendI]
theorem wendI_ws {c : Int} {r : List Int} (h : wsI c = true) : wendI (c :: r) = 0 := by rw [wendI.eq_def]; simp [h]
theorem wendI_esc {r : List Int} : wendI (256 :: r) = wendE r + 1 := by
  rw [wendI.eq_def]
  cases r with
  | nil => simp [ws256, wendE]
  | cons e r' => simp [ws256, wendE]
theorem wendI_other {c : Int} {r : List Int} (h : wsI c = false) (h2 : c ≠ 256) : wendI (c :: r) = wendI r + 1 := by rw [wendI.eq_def]; simp [h, h2]
inductive WF : List Int → Prop where
  | nil : WF []
  | one (c : Int) (l : List Int) : c ≠ 0 → WF l → WF (c :: l)
  | two (l : List Int) : WF l → WF (0 :: 0 :: l)
theorem split_at : ∀ (k : Nat) (ns : List Int), ns.length ≤ k → ∃ pre, WF pre ∧ pre.length = placeI ns ∧ (ns = pre ∨ ∃ post, ns = pre ++ 0 :: post ∧ post.head? ≠ some 0)
  | 0, ns, h => by
    have : ns = [] := List.length_eq_zero_iff.mp (Nat.le_zero.mp h)
    subst this
    exact ⟨[], .nil, placeI_nil.symm, .inl rfl⟩
  | k + 1, [], h => ⟨[], .nil, placeI_nil.symm, .inl rfl⟩
  | k + 1, c :: r, h => by
    by_cases hc : c = 0
    · subst hc
      cases r with
      | nil => exact ⟨[], .nil, (placeI_end (r := []) (by intro q; cases q)).symm, .inr ⟨[], rfl, by intro q; cases q⟩⟩
      | cons e r' =>
        by_cases he : e = 0
        · subst he
          obtain ⟨pre, h1, h2, h3⟩ := split_at k r' (Nat.le_of_succ_le (Nat.le_of_succ_le_succ h))
          refine ⟨0 :: 0 :: pre, .two _ h1, by rw [placeI_pair, ← h2]; rfl, ?_⟩
          rcases h3 with rfl | ⟨post, rfl, hp⟩
          · exact .inl rfl
          · exact .inr ⟨post, rfl, hp⟩
        · exact ⟨[], .nil, (placeI_end (r := e :: r') (fun q => he (Option.some.inj q))).symm, .inr ⟨e :: r', rfl, fun q => he (Option.some.inj q)⟩⟩
    · obtain ⟨pre, h1, h2, h3⟩ := split_at k r (Nat.le_of_succ_le_succ h)
      refine ⟨c :: pre, .one _ _ hc h1, by rw [placeI_other hc, ← h2]; rfl, ?_⟩
      rcases h3 with rfl | ⟨post, rfl, hp⟩
      · exact .inl rfl
      · exact .inr ⟨post, rfl, hp⟩
theorem name_app {pre : List Int} (h : WF pre) (X : List Int) : nameI (pre ++ X) = nameI pre ++ nameI X := by
  induction h with
  | nil => rw [nameI_nil]; rfl
  | one c l hc _ ih => rw [List.cons_append, nameI_other hc, nameI_other hc, ih]; rfl
  | two l _ ih => rw [List.cons_append, List.cons_append, nameI_pair, nameI_pair, ih]; rfl
noncomputable def dbl : List Int → List Int
  | [] => []
  | c :: r => if c = 0 then 0 :: 0 :: dbl r else c :: dbl r
theorem dbl_zero {r : List Int} : dbl (0 :: r) = 0 :: 0 :: dbl r := rfl
theorem dbl_other {c : Int} {r : List Int} (h : c ≠ 0) : dbl (c :: r) = c :: dbl r := by rw [dbl, if_neg h]
theorem dbl_wf : ∀ l : List Int, WF (dbl l)
  | [] => .nil
  | c :: r => by
    by_cases h : c = 0
    · subst h; rw [dbl_zero]; exact .two _ (dbl_wf r)
    · rw [dbl_other h]; exact .one _ _ h (dbl_wf r)
theorem name_dbl : ∀ l : List Int, nameI (dbl l) = l
  | [] => nameI_nil
  | c :: r => by
    by_cases h : c = 0
    · subst h; rw [dbl_zero, nameI_pair, name_dbl r]
    · rw [dbl_other h, nameI_other h, name_dbl r]
structure Goes (f : List Int → List Int) (g : List Int → Nat) (pre : List Int) (l : List Int) : Prop where
  stop : (∀ X, f (pre ++ X) = dbl l ∧ g (pre ++ X) < pre.length) ∨ (f pre = dbl l ∧ (∀ X, f (pre ++ 0 :: X) = dbl l ++ 0 :: tokI X ∧ pre.length < g (pre ++ 0 :: X)))
theorem goes_cons {f f' : List Int → List Int} {g g' : List Int → Nat} {c : Int} {pre l : List Int} (hc : c ≠ 0) (hf : ∀ X, f (c :: X) = c :: f' X) (hg : ∀ X, g (c :: X) = g' X + 1) (h : Goes f' g' pre l) : Goes f g (c :: pre) (c :: l) := by
  constructor
  rw [dbl_other hc]
  rcases h.stop with h | ⟨h1, h2⟩
  · left
    intro X
    rw [List.cons_append, hf, hg, (h X).1]
    exact ⟨rfl, Nat.succ_lt_succ (h X).2⟩
  · right
    refine ⟨by rw [hf, h1], fun X => ?_⟩
    rw [List.cons_append, hf, hg, (h2 X).1]
    exact ⟨rfl, Nat.succ_lt_succ (h2 X).2⟩
theorem goes_skip {f f' : List Int → List Int} {g g' : List Int → Nat} {c : Int} {pre l : List Int} (hf : ∀ X, f (c :: X) = f' X) (hg : ∀ X, g (c :: X) = g' X + 1) (h : Goes f' g' pre l) : Goes f g (c :: pre) l := by
  constructor
  rcases h.stop with h | ⟨h1, h2⟩
  · left
    intro X
    rw [List.cons_append, hf, hg, (h X).1]
    exact ⟨rfl, Nat.succ_lt_succ (h X).2⟩
  · right
    refine ⟨by rw [hf, h1], fun X => ?_⟩
    rw [List.cons_append, hf, hg, (h2 X).1]
    exact ⟨rfl, Nat.succ_lt_succ (h2 X).2⟩
theorem goes_two {f f' : List Int → List Int} {g g' : List Int → Nat} {pre l : List Int} (hf : ∀ X, f (0 :: 0 :: X) = 0 :: 0 :: f' X) (hg : ∀ X, g (0 :: 0 :: X) = g' X + 2) (h : Goes f' g' pre l) : Goes f g (0 :: 0 :: pre) (0 :: l) := by
  constructor
  rw [dbl_zero]
  rcases h.stop with h | ⟨h1, h2⟩
  · left
    intro X
    rw [List.cons_append, List.cons_append, hf, hg, (h X).1]
    exact ⟨rfl, Nat.succ_lt_succ (Nat.succ_lt_succ (h X).2)⟩
  · right
    refine ⟨by rw [hf, h1], fun X => ?_⟩
    rw [List.cons_append, List.cons_append, hf, hg, (h2 X).1]
    exact ⟨rfl, Nat.succ_lt_succ (Nat.succ_lt_succ (h2 X).2)⟩
theorem tok_goes {pre : List Int} (h : WF pre) : Goes tokI wendI pre (tokI (nameI pre)) ∧ Goes tokE wendE pre (tokE (nameI pre)) := by
  have z0 : ∀ X : List Int, tokI (0 :: X) = 0 :: tokI X := fun X => tokI_other ws0 (by decide)
  have z1 : ∀ X : List Int, wendI (0 :: X) = wendI X + 1 := fun X => wendI_other ws0 (by decide)
  induction h with
  | nil =>
    rw [nameI_nil, tokI_nil]
    refine ⟨⟨.inr ⟨tokI_nil, fun X => ?_⟩⟩, ⟨.inr ⟨rfl, fun X => ?_⟩⟩⟩
    · rw [List.nil_append, z0, z1]; exact ⟨rfl, Nat.succ_pos _⟩
    · exact ⟨rfl, Nat.succ_pos _⟩
  | one c l hc _ ih =>
    rw [nameI_other hc]
    refine ⟨?_, ?_⟩
    · by_cases hw : wsI c = true
      · rw [tokI_ws hw]
        refine ⟨.inl fun X => ?_⟩
        rw [List.cons_append, tokI_ws hw, wendI_ws hw]
        exact ⟨rfl, Nat.succ_pos _⟩
      · have hw : wsI c = false := by simpa using hw
        by_cases h2 : c = 256
        · subst h2
          rw [tokI_esc]
          exact goes_skip (fun X => tokI_esc) (fun X => wendI_esc) ih.2
        · rw [tokI_other hw h2]
          exact goes_cons hc (fun X => tokI_other hw h2) (fun X => wendI_other hw h2) ih.1
    · show Goes tokE wendE (c :: l) (c :: tokI (nameI l))
      exact goes_cons hc (fun X => rfl) (fun X => rfl) ih.1
  | two l _ ih =>
    rw [nameI_pair]
    refine ⟨?_, ?_⟩
    · rw [z0]
      exact goes_two (fun X => by rw [z0, z0]) (fun X => by rw [z1, z1]) ih.1
    · show Goes tokE wendE (0 :: 0 :: l) (0 :: tokI (nameI l))
      exact goes_two (fun X => by show 0 :: tokI (0 :: X) = _; rw [z0]) (fun X => by show wendI (0 :: X) + 1 = _; rw [z1]) ih.1
theorem tok_head {post : List Int} (h : post.head? ≠ some 0) : ((∀ r, tokI post ≠ 0 :: r) ∧ post.take 2 ≠ [256, 0]) ∨ ((∃ r, tokI post = 0 :: r) ∧ post.take 2 = [256, 0]) := by
  cases post with
  | nil => left; rw [tokI_nil]; exact ⟨fun _ => by simp, by simp⟩
  | cons c r =>
    have hc : c ≠ 0 := fun e => h (by rw [e]; rfl)
    by_cases hw : wsI c = true
    · left; rw [tokI_ws hw]
      refine ⟨fun _ => by simp, ?_⟩
      intro e
      have : c = 256 := by simp at e; exact e.1
      subst this
      exact absurd hw (by decide)
    · have hw : wsI c = false := by simpa using hw
      by_cases h2 : c = 256
      · subst h2
        rw [tokI_esc]
        cases r with
        | nil => left; exact ⟨fun _ => by simp [tokE], by simp⟩
        | cons e r' =>
          by_cases he : e = 0
          · subst he; right; exact ⟨⟨tokI r', rfl⟩, rfl⟩
          · left
            refine ⟨fun _ q => he (by simp only [tokE] at q; exact (List.cons.inj q).1), ?_⟩
            intro q
            simp at q
            exact he q
      · left
        rw [tokI_other hw h2]
        refine ⟨fun _ q => hc (List.cons.inj q).1, ?_⟩
        intro q
        simp at q
        exact h2 q.1
theorem name_zero {Y : List Int} (h : ∀ r, Y ≠ 0 :: r) : nameI (0 :: Y) = [] := by
  refine nameI_end ?_
  cases Y with
  | nil => simp
  | cons c r =>
    intro e
    simp at e
    exact h r (by rw [e])
theorem drop_pre (pre : List Int) (post : List Int) : (pre ++ 0 :: post).drop (pre.length + 1) = post := by
  rw [show pre.length + 1 = (pre ++ [(0 : Int)]).length by simp, show pre ++ 0 :: post = (pre ++ [0]) ++ post by simp, List.drop_left]
theorem take_pre (pre : List Int) (post : List Int) : (pre ++ 0 :: post).take (pre.length + 1) = pre ++ [0] := by
  rw [show pre.length + 1 = (pre ++ [(0 : Int)]).length by simp, show pre ++ 0 :: post = (pre ++ [0]) ++ post by simp, List.take_left]
theorem law_cut (ns : List Int) : nameI (tokI (ns.take (placeI ns + 1))) = tokI (nameI ns) := by
  obtain ⟨pre, hw, hl, h⟩ := split_at _ ns (Nat.le_refl _)
  rw [← hl]
  rcases h with rfl | ⟨post, rfl, hp⟩
  · rw [List.take_of_length_le (Nat.le_succ _)]
    rcases (tok_goes hw).1.stop with h | ⟨h1, h2⟩
    · have := (h []).1
      rw [List.append_nil] at this
      rw [this, name_dbl]
    · rw [h1, name_dbl]
  · rw [take_pre, name_app hw, nameI_end hp, List.append_nil]
    rcases (tok_goes hw).1.stop with h | ⟨h1, h2⟩
    · rw [(h [0]).1, name_dbl]
    · rw [(h2 []).1, name_app (dbl_wf _), name_dbl, tokI_nil, nameI_end (by simp), List.append_nil]
theorem law_whole (ns : List Int) : (¬ (placeI ns < wendI ns ∧ (ns.drop (placeI ns + 1)).take 2 = [256, 0]) ∧ nameI (tokI ns) = tokI (nameI ns)) ∨
    ((placeI ns < wendI ns ∧ (ns.drop (placeI ns + 1)).take 2 = [256, 0]) ∧ ∃ r, nameI (tokI ns) = tokI (nameI ns) ++ 0 :: r) := by
  obtain ⟨pre, hw, hl, h⟩ := split_at _ ns (Nat.le_refl _)
  rw [← hl]
  rcases h with rfl | ⟨post, rfl, hp⟩
  · left
    refine ⟨?_, ?_⟩
    · rintro ⟨_, h⟩
      rw [List.drop_of_length_le (Nat.le_succ _)] at h
      cases h
    · rcases (tok_goes hw).1.stop with h | ⟨h1, h2⟩
      · have := (h []).1
        rw [List.append_nil] at this
        rw [this, name_dbl]
      · rw [h1, name_dbl]
  · rw [drop_pre, name_app hw, nameI_end hp, List.append_nil]
    rcases (tok_goes hw).1.stop with h | ⟨h1, h2⟩
    · left
      refine ⟨?_, by rw [(h _).1, name_dbl]⟩
      rintro ⟨q, _⟩
      have := (h (0 :: post)).2
      omega
    · rw [(h2 post).1, name_app (dbl_wf _), name_dbl]
      rcases tok_head hp with ⟨h3, h4⟩ | ⟨⟨r, h3⟩, h4⟩
      · left
        rw [name_zero h3, List.append_nil]
        exact ⟨fun q => h4 q.2, rfl⟩
      · right
        rw [h3, nameI_pair]
        exact ⟨⟨(h2 post).2, h4⟩, _, rfl⟩
end
-- TrPl2
section
open PySem PySem.W PyProof.Rows PySem.Calls
theorem getD_drop {ns : List Int} {k : Nat} {c : Int} {r : List Int} (h : ns.drop k = c :: r) : ns.getD k 0 = c := by
  have h1 : (ns.drop k)[0]? = some c := by rw [h]; rfl
  rw [List.getElem?_drop] at h1
  rw [List.getD_eq_getElem?_getD]
  simp at h1
  rw [h1]; rfl
theorem len_drop {ns : List Int} {k : Nat} {c : Int} {r : List Int} (h : ns.drop k = c :: r) : k < ns.length := drop_lt h
theorem stopN_at {ns : List Int} {k : Nat} {r : List Int} (h : ns.drop k = 0 :: r) : stopN ns k = (!(decide (r.take 1 = [0])) && !(oddN ns k 0)) := by
  unfold stopN
  rw [getD_drop h, drop_succ_of h]
  rfl
theorem stopN_no {ns : List Int} {k : Nat} {c : Int} {r : List Int} (h : ns.drop k = c :: r) (hc : c ≠ 0) : stopN ns k = false := by
  unfold stopN
  rw [getD_drop h]
  have : (c == 0) = false := by simpa using hc
  rw [this]; rfl
theorem oddN_no {ns : List Int} {k : Nat} {c d : Int} {r : List Int} (h : ns.drop k = c :: r) (hc : c ≠ d) : oddN ns (k + 1) d = false := by
  rw [oddN, getD_drop h, if_neg hc]
theorem oddN_yes {ns : List Int} {k : Nat} {c : Int} {r : List Int} (h : ns.drop k = c :: r) : oddN ns (k + 1) c = !(oddN ns k c) := by
  rw [oddN, getD_drop h, if_pos rfl]
theorem keep_ne {ns : List Int} {k : Nat} {c d : Int} {r : List Int} (h : ns.drop k = c :: r) (hc : c ≠ d) : keepUpto ns d (k + 1) = keepUpto ns d k ++ [c] := by
  rw [keepUpto_succ, getD_drop h, if_pos (by rw [decide_eq_false hc]; rfl)]
theorem keep_odd {ns : List Int} {k : Nat} {c d : Int} {r : List Int} (h : ns.drop k = c :: r) (ho : oddN ns k d = true) : keepUpto ns d (k + 1) = keepUpto ns d k ++ [c] := by
  rw [keepUpto_succ, getD_drop h, if_pos (by rw [ho, Bool.or_true])]
theorem keep_even {ns : List Int} {k : Nat} {c : Int} {r : List Int} (h : ns.drop k = c :: r) (ho : oddN ns k c = false) : keepUpto ns c (k + 1) = keepUpto ns c k := by
  rw [keepUpto_succ, getD_drop h, if_neg (by rw [ho, decide_eq_true rfl]; decide), List.append_nil]
theorem lt_ext {f : Nat → Bool} {k : Nat} (h : ∀ j, j < k → f j = false) (hk : f k = false) : ∀ j, j < k + 1 → f j = false := by
  intro j hj
  by_cases e : j < k
  · exact h j e
  · exact (Nat.le_antisymm (Nat.le_of_lt_succ hj) (Nat.le_of_not_lt e)) ▸ hk
theorem head_zero {r : List Int} (h : r.head? = some 0) : ∃ r', r = 0 :: r' := by
  cases r with
  | nil => cases h
  | cons e r' => exact ⟨r', by rw [Option.some.inj h]⟩
theorem drop_nil_eq {ns : List Int} {k : Nat} (hk : k ≤ ns.length) (hd : ns.drop k = []) : k = ns.length := Nat.le_antisymm hk (List.drop_eq_nil_iff.mp hd)
theorem name_ix (ns : List Int) : ∀ (m k : Nat), ns.length ≤ m + k → k ≤ ns.length → (∀ j, j < k → stopN ns j = false) → oddN ns k 0 = false → nameI ns = keepUpto ns 0 k ++ nameI (ns.drop k) → placeI ns = placeI (ns.drop k) + k →
    nameI ns = keepUpto ns 0 (firstOf (stopN ns) ns.length) ∧ placeI ns = firstOf (stopN ns) ns.length
  | m, k, hm, hk, hj, ho, hn, hp => by
    cases hd : ns.drop k with
    | nil =>
      have hkl := drop_nil_eq hk hd
      rw [hd, nameI_nil, List.append_nil] at hn
      rw [hd, placeI_nil, Nat.zero_add] at hp
      rw [firstOf_end (by rw [← hkl]; exact hj), hn, hp, hkl]
      exact ⟨rfl, rfl⟩
    | cons c r =>
      have hlt := len_drop hd
      have hd1 := drop_succ_of hd
      rw [hd] at hn hp
      match m, hm with
      | 0, hm => exact absurd hlt (Nat.not_lt_of_le (Nat.zero_add k ▸ hm))
      | m + 1, hm =>
      by_cases hc : c = 0
      · subst hc
        by_cases hr : r.head? = some 0
        · obtain ⟨r', rfl⟩ := head_zero hr
          have hd2 := drop_succ_of hd1
          have hlt1 := len_drop hd1
          have o1 : oddN ns (k + 1) 0 = true := by rw [oddN_yes hd, ho]; rfl
          have o2 : oddN ns (k + 1 + 1) 0 = false := by rw [oddN_yes hd1, o1]; rfl
          refine name_ix ns m (k + 1 + 1) (Nat.le_trans hm (by rw [Nat.add_right_comm]; exact Nat.le_succ _)) hlt1 (lt_ext (lt_ext hj (by rw [stopN_at hd]; rfl)) (by rw [stopN_at hd1, o1, Bool.not_true, Bool.and_false])) o2 ?_ ?_
          · rw [hn, nameI_pair, keep_odd hd1 o1, keep_even hd ho, hd2, List.append_assoc]; rfl
          · rw [hp, placeI_pair, hd2, Nat.add_assoc, Nat.add_comm 2 k]
        · have hs : stopN ns k = true := by
            rw [stopN_at hd, ho]
            have : r.take 1 ≠ [0] := by
              intro q
              cases r with
              | nil => cases q
              | cons e r' => exact hr (congrArg some (List.cons.inj q).1)
            rw [decide_eq_false this]; rfl
          rw [firstOf_at hj hs hlt, hn, hp, nameI_end hr, placeI_end hr, List.append_nil, Nat.zero_add]
          exact ⟨rfl, rfl⟩
      · refine name_ix ns m (k + 1) (by rw [Nat.add_comm k 1, ← Nat.add_assoc]; exact hm) hlt (lt_ext hj (stopN_no hd hc)) (oddN_no hd hc) ?_ ?_
        · rw [hn, nameI_other hc, keep_ne hd hc, hd1, List.append_assoc]; rfl
        · rw [hp, placeI_other hc, hd1, Nat.add_assoc, Nat.add_comm 1 k]
theorem name_keep (ns : List Int) : keepUpto ns 0 (firstOf (stopN ns) ns.length) = nameI ns := ((name_ix ns ns.length 0 (Nat.le_refl _) (Nat.zero_le _) (fun _ h => absurd h (Nat.not_lt_zero _)) rfl rfl rfl).1).symm
theorem name_place (ns : List Int) : firstOf (stopN ns) ns.length = placeI ns := ((name_ix ns ns.length 0 (Nat.le_refl _) (Nat.zero_le _) (fun _ h => absurd h (Nat.not_lt_zero _)) rfl rfl rfl).2).symm
theorem stopW_at {ns : List Int} {k : Nat} {c : Int} {r : List Int} (h : ns.drop k = c :: r) : stopW ns k = (wsI c && !(oddN ns k 256)) := by
  unfold stopW
  rw [getD_drop h]
  rfl
theorem word_ix (ns : List Int) : ∀ (m k : Nat), ns.length ≤ m + k → k ≤ ns.length → (∀ j, j < k → stopW ns j = false) → oddN ns k 256 = false → tokI ns = keepUpto ns 256 k ++ tokI (ns.drop k) → wendI ns = wendI (ns.drop k) + k →
    tokI ns = keepUpto ns 256 (firstOf (stopW ns) ns.length) ∧ wendI ns = firstOf (stopW ns) ns.length
  | m, k, hm, hk, hj, ho, hn, hp => by
    cases hd : ns.drop k with
    | nil =>
      have hkl := drop_nil_eq hk hd
      rw [hd, tokI_nil, List.append_nil] at hn
      rw [hd, wendI_nil, Nat.zero_add] at hp
      rw [firstOf_end (by rw [← hkl]; exact hj), hn, hp, hkl]
      exact ⟨rfl, rfl⟩
    | cons c r =>
      have hlt := len_drop hd
      have hd1 := drop_succ_of hd
      rw [hd] at hn hp
      match m, hm with
      | 0, hm => exact absurd hlt (Nat.not_lt_of_le (Nat.zero_add k ▸ hm))
      | m + 1, hm =>
      by_cases hw : wsI c = true
      · have hs : stopW ns k = true := by rw [stopW_at hd, ho, hw]; rfl
        rw [firstOf_at hj hs hlt, hn, hp, tokI_ws hw, wendI_ws hw, List.append_nil, Nat.zero_add]
        exact ⟨rfl, rfl⟩
      have hw : wsI c = false := Bool.eq_false_iff.mpr hw
      by_cases hc : c = 256
      · subst hc
        have o1 : oddN ns (k + 1) 256 = true := by rw [oddN_yes hd, ho]; rfl
        have s1 : stopW ns k = false := by rw [stopW_at hd, hw]; rfl
        cases r with
        | nil =>
          have hkl := drop_nil_eq hlt hd1
          rw [firstOf_end (by rw [← hkl]; exact lt_ext hj s1), hn, hp, tokI_esc, wendI_esc, ← hkl, keep_even hd ho]
          exact ⟨List.append_nil _, Nat.add_comm _ _⟩
        | cons e r' =>
          have hd2 := drop_succ_of hd1
          have hlt1 := len_drop hd1
          have o2 : oddN ns (k + 1 + 1) 256 = false := by
            by_cases he : e = 256
            · subst he; rw [oddN_yes hd1, o1]; rfl
            · exact oddN_no hd1 he
          refine word_ix ns m (k + 1 + 1) (Nat.le_trans hm (by rw [Nat.add_right_comm]; exact Nat.le_succ _)) hlt1 (lt_ext (lt_ext hj s1) (by rw [stopW_at hd1, o1, Bool.not_true, Bool.and_false])) o2 ?_ ?_
          · rw [hn, tokI_esc, keep_odd hd1 o1, keep_even hd ho, hd2, List.append_assoc]; rfl
          · rw [hp, wendI_esc, hd2]; show wendI r' + 1 + 1 + k = _; rw [Nat.add_assoc, Nat.add_assoc, ← Nat.add_assoc 1 1 k, Nat.add_comm (1 + 1) k]
      · refine word_ix ns m (k + 1) (by rw [Nat.add_comm k 1, ← Nat.add_assoc]; exact hm) hlt (lt_ext hj (by rw [stopW_at hd, hw]; rfl)) (oddN_no hd hc) ?_ ?_
        · rw [hn, tokI_other hw hc, keep_ne hd hc, hd1, List.append_assoc]; rfl
        · rw [hp, wendI_other hw hc, hd1, Nat.add_assoc, Nat.add_comm 1 k]
theorem word_keep (ns : List Int) : keepUpto ns 256 (firstOf (stopW ns) ns.length) = tokI ns := ((word_ix ns ns.length 0 (Nat.le_refl _) (Nat.zero_le _) (fun _ h => absurd h (Nat.not_lt_zero _)) rfl rfl rfl).1).symm
theorem word_end (ns : List Int) : firstOf (stopW ns) ns.length = wendI ns := ((word_ix ns ns.length 0 (Nat.le_refl _) (Nat.zero_le _) (fun _ h => absurd h (Nat.not_lt_zero _)) rfl rfl rfl).2).symm
-- the symbols as code points
abbrev Oks (ns : List Int) : Prop := ∀ n ∈ ns, okSym n
theorem oks_cons {c : Int} {r : List Int} (h : Oks (c :: r)) : okSym c ∧ Oks r := ⟨h c (.head _), fun n hn => h n (.tail _ hn)⟩
theorem sym_quote {n : Int} (h : okSym n) : symN n = 34 ↔ n = 0 := by
  have : ∀ n ∈ okList, (symN n = 34 ↔ n = 0) := by decide +kernel
  exact this n h.mem
theorem sym_bs {n : Int} (h : okSym n) : symN n = 92 ↔ n = 256 := by
  have : ∀ n ∈ okList, (symN n = 92 ↔ n = 256) := by decide +kernel
  exact this n h.mem
theorem sym_ws {n : Int} (h : okSym n) : isWs (symN n) = wsI n := by
  have : ∀ n ∈ okList, isWs (symN n) = wsI n := by decide +kernel
  exact this n h.mem
theorem sym_row {n : Int} (h : okSym n) : rowN (symN n) = n := by
  have : ∀ n ∈ okList, rowN (symN n) = n := by decide +kernel
  exact this n h.mem
theorem le1 {n k : Nat} (h : n + 1 ≤ k + 1) : n ≤ k := Nat.le_of_succ_le_succ h
theorem le2 {n k : Nat} (h : n + 1 + 1 ≤ k + 1) : n ≤ k := Nat.le_of_succ_le (Nat.le_of_succ_le_succ h)
theorem le0 {ns : List Int} (h : ns.length ≤ 0) : ns = [] := List.length_eq_zero_iff.mp (Nat.le_zero.mp h)
theorem name_subl : ∀ (k : Nat) (ns : List Int), ns.length ≤ k → (nameI ns).Sublist ns
  | 0, ns, h => by rw [le0 h, nameI_nil]; exact .slnil
  | k + 1, [], h => by rw [nameI_nil]; exact .slnil
  | k + 1, c :: r, h => by
    by_cases hc : c = 0
    · subst hc
      by_cases hr : r.head? = some 0
      · obtain ⟨r', rfl⟩ := head_zero hr
        rw [nameI_pair]
        exact .cons_cons _ (.cons _ (name_subl k r' (le2 h)))
      · rw [nameI_end hr]; exact List.nil_sublist _
    · rw [nameI_other hc]
      exact .cons_cons _ (name_subl k r (le1 h))
theorem tok_subl : ∀ (k : Nat) (ns : List Int), ns.length ≤ k → (tokI ns).Sublist ns
  | 0, ns, h => by rw [le0 h, tokI_nil]; exact .slnil
  | k + 1, [], h => by rw [tokI_nil]; exact .slnil
  | k + 1, c :: r, h => by
    by_cases hw : wsI c = true
    · rw [tokI_ws hw]; exact List.nil_sublist _
    have hw : wsI c = false := Bool.eq_false_iff.mpr hw
    by_cases hc : c = 256
    · subst hc
      rw [tokI_esc]
      cases r with
      | nil => exact List.nil_sublist _
      | cons e r' => exact .cons _ (.cons_cons _ (tok_subl k r' (le2 h)))
    · rw [tokI_other hw hc]
      exact .cons_cons _ (tok_subl k r (le1 h))
theorem name_sub (k : Nat) (ns : List Int) (h : ns.length ≤ k) : ∀ n ∈ nameI ns, n ∈ ns := fun _ hn => (name_subl k ns h).subset hn
theorem tok_sub (k : Nat) (ns : List Int) (h : ns.length ≤ k) : ∀ n ∈ tokI ns, n ∈ ns := fun _ hn => (tok_subl k ns h).subset hn
theorem name_len (k : Nat) (ns : List Int) (h : ns.length ≤ k) : (nameI ns).length ≤ ns.length := (name_subl k ns h).length_le
theorem tok_len (k : Nat) (ns : List Int) (h : ns.length ≤ k) : (tokI ns).length ≤ ns.length := (tok_subl k ns h).length_le
theorem name_oks {ns : List Int} (h : Oks ns) : Oks (nameI ns) := fun n hn => h n (name_sub _ ns (Nat.le_refl _) n hn)
theorem tok_oks {ns : List Int} (h : Oks ns) : Oks (tokI ns) := fun n hn => h n (tok_sub _ ns (Nat.le_refl _) n hn)
theorem nameL_map : ∀ (k : Nat) (ns : List Int), ns.length ≤ k → Oks ns → nameL (ns.map symN) = (nameI ns).map symN
  | 0, ns, h, _ => by rw [le0 h, nameI_nil]; exact nameL_nil
  | k + 1, [], h, _ => by rw [nameI_nil]; exact nameL_nil
  | k + 1, c :: r, h, ok => by
    obtain ⟨okc, okr⟩ := oks_cons ok
    rw [List.map_cons]
    by_cases hc : c = 0
    · subst hc
      rw [(sym_quote okc).mpr rfl]
      by_cases hr : r.head? = some 0
      · obtain ⟨r', rfl⟩ := head_zero hr
        rw [List.map_cons, (sym_quote okc).mpr rfl, nameL_pair, nameI_pair, nameL_map k r' (le2 h) (oks_cons okr).2, List.map_cons, (sym_quote okc).mpr rfl]
      · rw [nameI_end hr, nameL_end]
        · rfl
        · cases r with
          | nil => exact fun q => nomatch q
          | cons e r' => exact fun q => hr (congrArg some ((sym_quote (oks_cons okr).1).mp (Option.some.inj q)))
    · rw [nameL_other (fun q => hc ((sym_quote okc).mp q)), nameI_other hc, nameL_map k r (le1 h) okr]; rfl
theorem tokL_map : ∀ (k : Nat) (ns : List Int), ns.length ≤ k → Oks ns → tokL (ns.map symN) = (tokI ns).map symN
  | 0, ns, h, _ => by rw [le0 h, tokI_nil]; exact tokL_nil
  | k + 1, [], h, _ => by rw [tokI_nil]; exact tokL_nil
  | k + 1, c :: r, h, ok => by
    obtain ⟨okc, okr⟩ := oks_cons ok
    rw [List.map_cons]
    by_cases hw : wsI c = true
    · rw [tokI_ws hw, tokL_ws ((sym_ws okc).trans hw)]; rfl
    have hw : wsI c = false := Bool.eq_false_iff.mpr hw
    by_cases hc : c = 256
    · subst hc
      rw [(sym_bs okc).mpr rfl, tokL_esc, tokI_esc]
      cases r with
      | nil => rw [List.map_nil, List.take_nil, List.drop_nil, tokL_nil]; rfl
      | cons e r' =>
        show symN e :: tokL (r'.map symN) = _
        rw [tokL_map k r' (le2 h) (oks_cons okr).2]; rfl
    · rw [tokL_other ((sym_ws okc).trans hw) (fun q => hc ((sym_bs okc).mp q)), tokI_other hw hc, tokL_map k r (le1 h) okr]; rfl
theorem row_back : ∀ {ns : List Int}, Oks ns → (KStt.codes (textS ns)).map rowI = ns := by
  intro ns h
  unfold KStt.codes textS
  rw [List.map_map, List.map_map]
  have : ∀ n ∈ ns, ((rowI ∘ fun c : Nat => (c : Int)) ∘ symN) n = n := fun n hn => by
    show rowN (Int.toNat (symN n : Int)) = n
    rw [Int.toNat_natCast]
    exact sym_row (h n hn)
  rw [List.map_congr_left (g := id) this, List.map_id]
theorem textS_inj {a b : List Int} (ha : Oks a) (hb : Oks b) (h : textS a = textS b) : a = b := by
  rw [← row_back ha, ← row_back hb, h]
theorem textS_list (ns : List Int) : (textS ns).cps.toList = ns.map symN := rfl
theorem textS_len (ns : List Int) : (textS ns).length = ns.length := by simp [textS, Str.length]
theorem tok_text {ns : List Int} (h : Oks ns) : (⟨(tokL (textS ns).cps.toList).toArray⟩ : Str) = textS (tokI ns) := by
  rw [textS_list, tokL_map _ ns (Nat.le_refl _) h]; rfl
theorem pre_cps : (Str.ofString "257 \"").cps.toList = [50, 53, 55, 32, 34] := by decide +kernel
theorem app_list (a b : Str) : (a ++ b).cps.toList = a.cps.toList ++ b.cps.toList := by
  show (a.cps ++ b.cps).toList = _
  simp
theorem name_text {ns : List Int} (h : Oks ns) : nameS (Str.ofString "257 \"" ++ textS ns) = textS (nameI ns) := by
  unfold nameS
  rw [app_list, pre_cps, textS_list]
  show (⟨(nameL (ns.map symN)).toArray⟩ : Str) = _
  rw [nameL_map _ ns (Nat.le_refl _) h]; rfl
theorem pre_len (ns : List Int) : (Str.ofString "257 \"" ++ textS ns).length = 5 + ns.length := by
  rw [str_app_len, textS_len]; rfl
theorem pre_s1 (ns : List Int) : Txt.slice (Str.ofString "257 \"" ++ textS ns) none (some 3) = Str.ofString "257" := by
  rw [eq_of_beq (slice_closes_toL (by omega) (by rw [pre_len]; omega)), app_list, pre_cps]
  rfl
theorem pre_s2 (ns : List Int) : Txt.slice (Str.ofString "257 \"" ++ textS ns) (some 3) (some 5) = Str.ofString " \"" := by
  rw [eq_of_beq (slice_closesL (by omega) (by omega) (by rw [pre_len]; omega)), app_list, pre_cps]
  rfl
theorem text_cut {ns : List Int} {k : Nat} (h : k ≤ ns.length) : Txt.slice (textS ns) none (some (k : Int)) = textS (ns.take k) := by
  rw [eq_of_beq (slice_closes_toL (by omega) (by rw [textS_len]; omega)), textS_list]
  simp [textS, List.map_take]
end
-- TrLd
section
open PySem PySem.W PyProof.Rows PySem.Calls
def BEndD (h₀ : Heap) (L : Addr) (x y : Str) (m₀ : Str → Option Value) (l : Addr) (news own : List (Addr × Obj)) (G' : List Value → Prop) (us : List Value) (s₁ : Shared) (fl : Flow) (s₂ : Shared) : Prop :=
  match fl with
  | .ret _ => False
  | .brk => False
  | _ => ∀ R : Prop, (∀ v k' h' tk' m', s₂ = { s₁ with heap := h', toks := tk' } → Fr h₀ L h' m' → (∀ z, z ≠ x → z ≠ y → m' z = m₀ z) → News h₀ L h' ((l, listOf (us.toArray.push v) k') :: (news ++ own)) → G' (us ++ [v]) → R) → R
theorem bendD {h₀ : Heap} {L : Addr} {x y : Str} {m₀ m' : Str → Option Value} {l : Addr} {news own : List (Addr × Obj)} {G' : List Value → Prop} {us : List Value} {s₁ : Shared} {h' : Heap} {tk' k' : Nat} {v : Value}
    (F : Fr h₀ L h' m') (hm : ∀ z, z ≠ x → z ≠ y → m' z = m₀ z) (N : News h₀ L h' ((l, listOf (us.toArray.push v) k') :: (news ++ own))) (hG : G' (us ++ [v])) :
    BEndD h₀ L x y m₀ l news own G' us s₁ .next { s₁ with heap := h', toks := tk' } := fun _ K => K v k' h' tk' m' rfl F hm N hG
section
variable {prog : PySem.Program} {w : World} {A : Around} {E : Value → Shared → Prop} {s : Shared} {env : Env} {h₀ : Heap} {x y : Str} {body : List Stmt} {Q : Flow → Shared → Prop}
theorem one_contains {y z : Str} : [y].contains z = decide (z = y) := by
  by_cases h : z = y
  · subst h; simp
  · rw [decide_eq_false h]; simp [h]
theorem kst_one {m₀ u : Str → Option Value} : kstB (fun z => if ([y] : List Str).contains z then u z else m₀ z) [] = fun z => if z = y then u z else m₀ z := by
  funext z
  show (if ([y] : List Str).contains z = true then u z else m₀ z) = _
  rw [one_contains]
  by_cases h : z = y
  · simp [h]
  · simp [h]
theorem buildD_post {m₀ m₁ : Str → Option Value} {l : Addr} {news own : List (Addr × Obj)} {P : List Int → List Value → Prop} {pre : List Int} {us : List Value} {s₁ : Shared} {fl : Flow} {s₂ : Shared}
    (h : BEndD h₀ env.locals x y m₁ l news own (P pre) us s₁ fl s₂) (hm : ∀ z, z ≠ x → z ≠ y → m₁ z = m₀ z) :
    InvPostN h₀ env.locals (KstS (fun c : List Value × Nat => (l, listOf c.1.toArray c.2) :: news) (fun _ => []) (fun _ => True) x [y] m₀ (fun pre c => P pre c.1) pre) own (l :: news.map (·.1)) s₁ Q fl s₂ := by
  cases fl with
  | ret v => exact h.elim
  | brk => exact h.elim
  | next =>
    refine h _ fun v k' h' tk' m' e F hm' N hG => ?_
    subst e
    rw [List.push_toArray] at N
    exact ⟨h', tk', m', _, (l, listOf (us ++ [v]).toArray k') :: news, rfl, F, N, fun p hp => (List.mem_cons.mp hp).elim (fun e => e ▸ List.mem_cons_self) (fun e => List.mem_cons_of_mem _ (List.mem_append_left _ e)),
      fun p hp => List.mem_cons_of_mem _ (List.mem_append_right _ hp), rfl, (us ++ [v], k'), rfl, trivial, (fun _ hp => nomatch hp), fun z hz _ hc => by rw [one_contains, decide_eq_false_iff_not] at hc; exact (hm' z hz hc).trans (hm z hz hc), hG⟩
  | cont =>
    refine h _ fun v k' h' tk' m' e F hm' N hG => ?_
    subst e
    rw [List.push_toArray] at N
    exact ⟨h', tk', m', _, (l, listOf (us ++ [v]).toArray k') :: news, rfl, F, N, fun p hp => (List.mem_cons.mp hp).elim (fun e => e ▸ List.mem_cons_self) (fun e => List.mem_cons_of_mem _ (List.mem_append_left _ e)),
      fun p hp => List.mem_cons_of_mem _ (List.mem_append_right _ hp), rfl, (us ++ [v], k'), rfl, trivial, (fun _ hp => nomatch hp), fun z hz _ hc => by rw [one_contains, decide_eq_false_iff_not] at hc; exact (hm' z hz hc).trans (hm z hz hc), hG⟩
theorem build_listD {r : Addr} {vs : List Value} {ns : List Int} {nn : Nat} {m₀ : Str → Option Value} {l : Addr} {us₀ : List Value} {k₀ : Nat} {news : List (Addr × Obj)} (P : List Int → List Value → Prop)
    (hh : A.handled = none) (hr : (r, listOf vs.toArray nn) ∈ news) (hi : IntsAre vs ns) (F : Fr h₀ env.locals s.heap m₀) (N : News h₀ env.locals s.heap ((l, listOf us₀.toArray k₀) :: news)) (hp : P [] us₀)
    (turn : ∀ (us : List Value) (k : Nat) (pre post : List Int) (n : Int) t (u : Str → Option Value) h tk own, ns = pre ++ n :: post → OwnOff own (l :: news.map (·.1)) → P pre us →
      Fr h₀ env.locals h (fun z => if z = x then some (.int n t) else if z = y then u z else m₀ z) → News h₀ env.locals h ((l, listOf us.toArray k) :: (news ++ own)) →
      wpAny (model prog w) A (execs body env) (BEndD h₀ env.locals x y (fun z => if z = x then some (.int n t) else if z = y then u z else m₀ z) l news own (P (pre ++ [n])) us { s with heap := h, toks := tk }) E { s with heap := h, toks := tk })
    (done : ∀ (us : List Value) (k : Nat) (u u' : Str → Option Value) h tk, P ns us → Fr h₀ env.locals h (fun z => if z = x then u z else if z = y then u' z else m₀ z) → News h₀ env.locals h ((l, listOf us.toArray k) :: news) → Q .next { s with heap := h, toks := tk }) :
    wpAny (model prog w) A (pyIter (.ref r)) (fun it s₂ => LoopAtV prog w A h₀ env x body Q E it s₂) E s := by
  refine kst_listL (fun c : List Value × Nat => (l, listOf c.1.toArray c.2) :: news) (fun _ => []) (fun _ => True) [y] (fun pre c => P pre c.1) (us₀, k₀) hh (fun _ => List.mem_cons_of_mem _ hr) hi F N trivial (fun _ h => nomatch h) hp ?_ ?_
  · intro c pre post n t u h tk own e _ off _ hP F₁ N₁
    rw [kst_one] at F₁
    refine wpAny_mono (turn c.1 c.2 pre post n t u h tk own e off hP F₁ N₁) (fun fl s₂ q => buildD_post q (fun z hz hy => by simp [hz, hy])) fun _ _ e => e
  · intro c u h tk _ hP F₁ N₁
    rw [kst_one] at F₁
    exact done c.1 c.2 u u h tk hP F₁ N₁
end
end
-- TrRl
section
open PySem PySem.W PyProof.Rows PySem.Calls
structure TabSt (o : Obj) (T : List (Addr × Obj)) : Prop where
  st : (o = tabObj #[] ∧ ∀ q ∈ T, q.1 ≠ 114) ∨ ∃ c1 c2 oc1 vs tq, o = tabC c1 c2 ∧ (c1, oc1) ∈ T ∧ oc1.data = .fields vs ∧ vs[1]? = some (.str readQ tq)
structure CodeIn (c1 : Addr) (oc1 : Obj) : Prop where
  ex : ∃ vs tq, oc1.data = .fields vs ∧ vs[1]? = some (.str readQ tq)
section
variable (w : World) (p : PySem.Program) (loose : List Str) (mean : ExcName → Option Value) (mg mb : Str → Option Value)
theorem ClmC.weaken {w : World} {p : PySem.Program} {loose : List Str} {mean : ExcName → Option Value} {mg mb : Str → Option Value} {f : Addr} {dk uk : Nat} {news : List (Addr × Obj)} {vs : List Value} {RET RET' : Heap → Addr → (Str → Option Value) → Shared → (Value → Shared → Prop) → Prop}
    (C : ClmC w p loose mean mg mb f dk uk news vs RET) (h : ∀ h₀ L m s Q, RET' h₀ L m s Q → RET h₀ L m s Q) : ClmC w p loose mean mg mb f dk uk news vs RET' :=
  fun dp un gd cn cs a ccd cl outer A₀ base h₀ L m s Q E B F X N T hk hd hu ret => C dp un gd cn cs a ccd cl outer A₀ base h₀ L m s Q E B F X N T hk hd hu (h _ _ _ _ _ ret)
theorem lexRet_less {w : World} {x : Str} {tail tail' : List (Addr × Obj)} {h₀ : Heap} {L : Addr} {m : Str → Option Value} {s : Shared} {Q : Value → Shared → Prop} (R : LexRet w x tail h₀ L m s Q) (hs : ∀ q ∈ tail, q ∈ tail') : LexRet w x tail' h₀ L m s Q :=
  fun Z rest ta n tl h' tk' H hp F N => R Z rest ta n tl h' tk' H (fun q hq => hp q (hs q hq)) F N
theorem lexer_any (T : List (Addr × Obj)) (o : Obj) (x : Str) (t : Tok) (hlen : x.length ≤ 1000) (hst : TabSt o T) :
    ClmC w p loose mean mg mb 119 8 200 ((114, o) :: T) [Value.str x t] (fun h₀ L m s Q => ∀ (c1 c2 : Addr) (oc1 : Obj), CodeIn c1 oc1 → LexRet w x ((c1, oc1) :: (114, tabC c1 c2) :: T) h₀ L m s Q) := by
  rcases hst.st with ⟨rfl, h114⟩ | ⟨c1, c2, oc1, vs, tq, rfl, hc1, hoc1, hvs⟩
  · exact (lexer_first w p loose mean mg mb T x t hlen h114).weaken fun h₀ L m s Q k c1 c2 oc1 vs tq h1 h2 => k c1 c2 oc1 ⟨vs, tq, h1, h2⟩
  · refine (lexer_again w p loose mean mg mb ((114, tabC c1 c2) :: T) x t hlen c1 c2 oc1 vs tq (.head _) (.tail _ hc1) hoc1 hvs).weaken ?_
    exact fun h₀ L m s Q k => lexRet_less (k c1 c2 oc1 ⟨vs, tq, hoc1, hvs⟩) (List.forall_mem_cons.mpr ⟨.tail _ hc1, fun q hq => hq⟩)
theorem lexer_more (news : List (Addr × Obj)) (x : Str) (t : Tok) (hlen : x.length ≤ 1000) (c1 c2 : Addr) (oc1 : Obj) (h114 : (114, tabC c1 c2) ∈ news) (hc1 : (c1, oc1) ∈ news) (hc : CodeIn c1 oc1) :
    ClmC w p loose mean mg mb 119 8 200 news [Value.str x t] (fun h₀ L m s Q => LexRet w x news h₀ L m s Q) := by
  obtain ⟨vs, tq, h1, h2⟩ := hc.ex
  exact lexer_again w p loose mean mg mb news x t hlen c1 c2 oc1 vs tq h114 hc1 h1 h2
variable (news : List (Addr × Obj))
theorem parse_text (ns : List Int) (t : Tok) (h : Oks ns) (hl : ns.length ≤ 900) : ClmV w p loose mean mg mb 53 2 100 news [Value.str (Str.ofString "257 \"" ++ textS ns) t] (fun t => Value.str (textS (nameI ns)) t) := by
  have := parse_spec w p loose mean mg mb news (Str.ofString "257 \"" ++ textS ns) t (by rw [pre_len]; omega) (by rw [pre_len]; omega) (pre_s1 ns) (pre_s2 ns)
  rw [name_text h] at this
  exact this
theorem row_text (ns : List Int) (t : Tok) (h : Oks ns) (hl : ns.length ≤ 1000) : ClmL w p loose mean mg mb 140 4 150 news [Value.str (textS ns) t] ns := by
  have := row_spec w p loose mean mg mb news (textS ns) t (by rw [textS_len]; exact hl)
  rw [row_back h] at this
  exact this
theorem name_row (l : Addr) (vs : List Value) (n : Nat) (ns : List Int) (hmem : (l, listOf vs.toArray n) ∈ news) (hints : IntsAre vs ns) (hlen : ns.length ≤ 1000) : ClmL w p loose mean mg mb 166 8 200 news [Value.ref l] (nameI ns) := by
  have := name_spec w p loose mean mg mb news l vs n ns hmem hints hlen
  rw [name_keep] at this
  exact this
theorem word_row (l : Addr) (vs : List Value) (n : Nat) (ns : List Int) (hmem : (l, listOf vs.toArray n) ∈ news) (hints : IntsAre vs ns) (hlen : ns.length ≤ 1000) : ClmL w p loose mean mg mb 171 8 200 news [Value.ref l] (tokI ns) := by
  have := word_spec w p loose mean mg mb news l vs n ns hmem hints hlen
  rw [word_keep] at this
  exact this
theorem nend_row (l : Addr) (vs : List Value) (n : Nat) (ns : List Int) (hmem : (l, listOf vs.toArray n) ∈ news) (hints : IntsAre vs ns) (hlen : ns.length ≤ 1000) : ClmV w p loose mean mg mb 154 4 150 news [Value.ref l] (fun t => Value.int (placeI ns : Nat) t) := by
  have := nend_spec w p loose mean mg mb news l vs n ns hmem hints hlen
  rw [name_place] at this
  exact this
theorem wend_row (l : Addr) (vs : List Value) (n : Nat) (ns : List Int) (hmem : (l, listOf vs.toArray n) ∈ news) (hints : IntsAre vs ns) (hlen : ns.length ≤ 1000) : ClmV w p loose mean mg mb 161 4 150 news [Value.ref l] (fun t => Value.int (wendI ns : Nat) t) := by
  have := wend_spec w p loose mean mg mb news l vs n ns hmem hints hlen
  rw [word_end] at this
  exact this
theorem first_sym {f : Int} (h : f ∈ singles) : isWs (symN f) = false ∧ symN f ≠ 34 ∧ symN f ≠ 92 := by
  have : ∀ f ∈ singles, isWs (symN f) = false ∧ symN f ≠ 34 ∧ symN f ≠ 92 := by decide +kernel
  exact this f h
structure Starts (ns : List Int) : Prop where
  ex : ∃ f r, ns = f :: r ∧ f ∈ singles
theorem gettok_text (T' : List (Addr × Obj)) (ns : List Int) (Z : LexA) (ta : Tok) (n : Nat) (tl : Tok) (h : Oks ns) (hf : Starts ns) (H : LexOk w (textS ns) Z news) (hq : ∀ q ∈ T', q ∈ news) :
    ClmC w p loose mean mg mb 81 8 200 (LexN w Z 0 ta n 1 tl news) [Value.ref Z.z] (fun h₀ L m s Q => ∀ (t : Tok) (h' : Heap) (tk' : Nat), Fr h₀ L h' m → News h₀ L h' T' → Q (Value.str (textS (tokI ns)) t) { s with heap := h', toks := tk' }) := by
  obtain ⟨f, r, e, hs⟩ := hf.ex
  obtain ⟨h1, h2, h3⟩ := first_sym hs
  have := gettok_spec w p loose mean mg mb news (textS ns) Z ta n tl (symN f) (r.map symN) H (by rw [textS_list, e]; rfl) h1 h2 h3
  rw [tok_text h] at this
  exact this.weaken fun h₀ L m s Q k t h' tk' F N => k t h' tk' F (cb_drop N hq)
end
theorem single_ne {f : Int} (h : f ∈ singles) : f ≠ 0 ∧ f ≠ 256 ∧ wsI f = false := by
  have : ∀ f ∈ singles, f ≠ 0 ∧ f ≠ 256 ∧ wsI f = false := by decide
  exact this f h
theorem starts_name {ns : List Int} (h : Starts ns) : Starts (nameI ns) := by
  obtain ⟨f, r, rfl, hs⟩ := h.ex
  exact ⟨f, nameI r, nameI_other (single_ne hs).1, hs⟩
theorem starts_take {ns : List Int} (h : Starts ns) (k : Nat) : Starts (ns.take (k + 1)) := by
  obtain ⟨f, r, rfl, hs⟩ := h.ex
  exact ⟨f, r.take k, rfl, hs⟩
theorem take_oks {ns : List Int} (h : Oks ns) (k : Nat) : Oks (ns.take k) := fun n hn => h n (List.mem_of_mem_take hn)
theorem cut_any {ns : List Int} {k : Nat} : Txt.slice (textS ns) none (some (k : Int)) = textS (ns.take k) := by
  by_cases h : k ≤ ns.length
  · exact text_cut h
  · have h := Nat.le_of_not_le h
    have hz : Txt.slice (textS ns) none (some ((ns.length : Nat) : Int)) = textS ns := by rw [text_cut (Nat.le_refl _), List.take_length]
    rw [List.take_of_length_le h]
    refine Eq.trans ?_ hz
    unfold Txt.slice
    rw [ssi_to, ssi_to, textS_len, Int.min_eq_right (Int.ofNat_le.mpr h), Int.min_self]
end
-- TrRw
section
open PySem PySem.W PyProof.Rows PySem.Calls
def REnd (T : List (Addr × Obj)) (h₀ : Heap) (L : Addr) (s₁ : Shared) (fl : Flow) (s₂ : Shared) : Prop :=
  match fl with
  | .ret _ => False
  | .brk => False
  | _ => ∀ R : Prop, (∀ h' tk' m' c1 c2 oc1, s₂ = { s₁ with heap := h', toks := tk' } → Fr h₀ L h' m' → CodeIn c1 oc1 → News h₀ L h' ((c1, oc1) :: (114, tabC c1 c2) :: T) → R) → R
theorem rend {T : List (Addr × Obj)} {h₀ : Heap} {L : Addr} {s₁ : Shared} {h' : Heap} {tk' : Nat} {m' : Str → Option Value} {c1 c2 : Addr} {oc1 : Obj} (F : Fr h₀ L h' m') (C : CodeIn c1 oc1) (N : News h₀ L h' ((c1, oc1) :: (114, tabC c1 c2) :: T)) :
    REnd T h₀ L s₁ .next { s₁ with heap := h', toks := tk' } := fun _ K => K h' tk' m' c1 c2 oc1 rfl F C N
def RowT (o : Obj) (ext : List (Addr × Obj)) : Prop := (o = tabObj #[] ∧ ext = []) ∨ ∃ c1 c2 oc1, o = tabC c1 c2 ∧ ext = [(c1, oc1)] ∧ CodeIn c1 oc1
def RowJ (base : List (Addr × Obj)) (nx : List (Addr × Obj)) : Prop := ∀ R : Prop, (∀ o ext, nx = (114, o) :: (ext ++ base) → RowT o ext → R) → R
section
variable {h₀ h : Heap} {L I : Addr} {a c : Addr × Obj} {ext base own : List (Addr × Obj)} {o oi : Obj} {s₁ s₂ : Shared}
theorem row_shuffle (N : News h₀ L h (own ++ (a :: (ext ++ base)))) : News h₀ L h (a :: (ext ++ (base ++ own))) := fun q hq => N q ((List.mem_cons.mp hq).elim (fun h => List.mem_append_right _ (h ▸ .head _)) fun h => (List.mem_append.mp h).elim
  (fun h => List.mem_append_right _ (.tail _ (List.mem_append_left _ h))) fun h => (List.mem_append.mp h).elim (fun h => List.mem_append_right _ (.tail _ (List.mem_append_right _ h))) fun h => List.mem_append_left _ h)
theorem rowJ_back (N : News h₀ L h (c :: a :: (ext ++ (base ++ own)))) : News h₀ L h (own ++ (a :: c :: base)) := fun q hq => N q ((List.mem_append.mp hq).elim (fun h => .tail _ (.tail _ (List.mem_append_right _ (List.mem_append_right _ h)))) fun h =>
  (List.mem_cons.mp h).elim (fun h => h ▸ .tail _ (.head _)) fun h => (List.mem_cons.mp h).elim (fun h => h ▸ .head _) fun h => .tail _ (.tail _ (List.mem_append_right _ (List.mem_append_left _ h))))
theorem rowT_tab (ht : RowT o ext) (hb : ∀ q ∈ base, q.1 ≠ 114) (ho : ∀ q ∈ own, q.1 ≠ 114) : TabSt o (ext ++ (base ++ own)) := by
  constructor
  rcases ht with ⟨rfl, rfl⟩ | ⟨c1, c2, oc1, rfl, rfl, hc⟩
  · exact .inl ⟨rfl, fun q hq => (List.mem_append.mp (show q ∈ base ++ own from hq)).elim (hb q) (ho q)⟩
  · obtain ⟨vs, tq, a1, a2⟩ := hc.ex
    exact .inr ⟨c1, c2, oc1, vs, tq, rfl, .head _, a1, a2⟩
theorem row_off {c1 c2 : Addr} {oc1 : Obj} (C : CodeIn c1 oc1) (N : News h₀ L h ((c1, oc1) :: (114, tabC c1 c2) :: (ext ++ (base ++ own)))) (hI : (114 : Addr) ≠ I) (hoi : (I, oi) ∈ own) (hd : ∀ vs q t, oi.data = .fields vs → vs[1]? = some (.str q t) → False) (hb : ∀ p ∈ base, p.1 ≠ I) :
    ∀ p ∈ (114, tabC c1 c2) :: (c1, oc1) :: base, p.1 ∉ [I] := by
  refine List.forall_mem_cons.mpr ⟨fun e => hI (List.mem_singleton.mp e), List.forall_mem_cons.mpr ⟨fun e => ?_, fun p hp e => hb p hp (List.mem_singleton.mp e)⟩⟩
  have e : c1 = I := List.mem_singleton.mp e
  subst e
  have n1 : h.get? c1 = some oi := (N _ (.tail _ (.tail _ (List.mem_append_right _ (List.mem_append_right _ hoi))))).1
  have n2 : h.get? c1 = some oc1 := (N _ (.head _)).1
  obtain ⟨vs, tq, a1, a2⟩ := C.ex
  exact hd vs _ tq ((congrArg Obj.data (Option.some.inj (n1.symm.trans n2))).trans a1) a2
theorem row_fin (p : REnd (ext ++ (base ++ own)) h₀ L s₁ .next s₂) (hI : (114 : Addr) ≠ I) (hoi : (I, oi) ∈ own) (hd : ∀ vs q t, oi.data = .fields vs → vs[1]? = some (.str q t) → False) (hb : ∀ p ∈ base, p.1 ≠ I) :
    LoopStepU h₀ L [I] own (fun _ nx => RowJ base nx) s₁ .next s₂ := by
  refine p _ fun h' tk m' c1 c2 oc1 e F C N => ?_
  subst e
  exact .intro F (rowJ_back N) (row_off C N hI hoi hd hb) fun R K => K (tabC c1 c2) [(c1, oc1)] rfl (.inr ⟨c1, c2, oc1, rfl, rfl, C⟩)
end
section
variable {prog : PySem.Program} {w : World} {A : Around} {E : Value → Shared → Prop} {s : Shared} {env : Env} {h₀ : Heap} {x : Str} {body : List Stmt} {Q : Flow → Shared → Prop}
theorem row_step {I : Addr} {base own news₁ : List (Addr × Obj)} {s₁ : Shared} {oi : Obj} {Qr : Value → Shared → Prop} {Qb : Shared → Prop}
    (turn : ∀ (o : Obj) (T : List (Addr × Obj)), TabSt o T → (∀ q ∈ base, q ∈ T) → News h₀ env.locals s₁.heap ((114, o) :: T) → wpAny (model prog w) A (execs body env) (REnd T h₀ env.locals s₁) E s₁)
    (hJ : RowJ base news₁) (N₁ : News h₀ env.locals s₁.heap (own ++ news₁)) (hI : (114 : Addr) ≠ I) (hoi : (I, oi) ∈ own) (hd : ∀ vs q t, oi.data = .fields vs → vs[1]? = some (.str q t) → False) (hb : ∀ p ∈ base, p.1 ≠ I)
    (h114 : ∀ p ∈ base, p.1 ≠ 114) (ho : ∀ q ∈ own, q.1 ≠ 114) : wpAny (model prog w) A (execs body env) (LoopStepV h₀ env.locals [I] own (fun _ nx => RowJ base nx) s₁ Qr Qb) E s₁ := by
  refine hJ _ fun o ext e ht => ?_
  subst e
  refine wpAny_mono (turn o _ (rowT_tab ht h114 ho) (fun q hq => List.mem_append_right _ (List.mem_append_left _ hq)) (row_shuffle N₁)) (fun f s₂ p => ?_) fun _ _ e => e
  cases f with
  | ret v => exact p.elim
  | brk => exact p.elim
  | next => exact .next (row_fin p hI hoi hd hb)
  | cont => exact .cont (row_fin p hI hoi hd hb)
theorem rows_loop {r : Addr} {items : Array Value} {nn : Nat} {m₀ : Str → Option Value} {base : List (Addr × Obj)} (hh : A.handled = none) (hr : (r, listOf items nn) ∈ base)
    (F : Fr h₀ env.locals s.heap m₀) (N : News h₀ env.locals s.heap ((114, tabObj #[]) :: base)) (h114 : ∀ p ∈ base, p.1 ≠ 114)
    (turn : ∀ (v : Value) (m₁ : Str → Option Value) (o : Obj) (T : List (Addr × Obj)) h tk, v ∈ items.toList → TabSt o T → (∀ q ∈ base, q ∈ T) →
      Fr h₀ env.locals h (fun y => if y = x then some v else m₁ y) → News h₀ env.locals h ((114, o) :: T) →
      wpAny (model prog w) A (execs body env) (REnd T h₀ env.locals { s with heap := h, toks := tk }) E { s with heap := h, toks := tk })
    (done : ∀ (m₁ : Str → Option Value) h tk, GrownAt 114 h → Fr h₀ env.locals h m₁ → Q .next { s with heap := h, toks := tk }) :
    wpAny (model prog w) A (pyIter (.ref r)) (fun it s₂ => LoopAtV prog w A h₀ env x body Q E it s₂) E s := by
  have hol : s.heap.get? r = some (listOf items nn) := (N _ (.tail _ hr)).1
  have hls : s.heap.IsList r items := ⟨_, hol, rfl, nn, rfl⟩
  have hne : r ≠ s.heap.objs.size := Nat.ne_of_lt (Heap.lt_size hol)
  have hnw : ∀ p ∈ (114, tabObj #[]) :: base, p.1 ∉ [s.heap.objs.size] := fun p hp hI => Nat.ne_of_lt (Heap.lt_size (N p hp).1) (List.mem_singleton.mp hI)
  have hI114 : (114 : Addr) ≠ s.heap.objs.size := fun e => hnw _ (.head _) (List.mem_singleton.mpr e)
  refine wpAny_pyIter_list hls ⟨_, _, _, items.size, _, _, m₀, (114, tabObj #[]) :: base, (fun _ _ nx => RowJ base nx), rfl, Walks.list (prog := prog) (w := w) hh s.heap.objs.size r hne items,
    fun hm => ?_, fun b hb => ?_, hnw, ⟨⟨_, Heap.get?_push_size _ rfl, rfl, rfl⟩, hls.at fun o e => Heap.get?_push_of_some _ e⟩, F.push _, fun p hp => ⟨Heap.get?_push_of_some _ (N p hp).1, (N p hp).2⟩, fun R K => K _ [] rfl (.inl ⟨rfl, rfl⟩), ?_, ?_⟩
  · exact (List.mem_cons.mp hm).elim (fun e => absurd F.ns.lt (e ▸ Nat.lt_irrefl _)) fun hm => (N _ (.tail _ hr)).2.1 (List.mem_singleton.mp hm).symm
  · exact List.mem_singleton.mp hb ▸ next_is_new F
  · intro i v m₁ news₁ s₁ own hs₁ hin hP hJ hoff hown hget hfp hst F₁ N₁
    obtain ⟨hh', tk', rfl⟩ := hs₁
    obtain ⟨oi, g1, g2, g3⟩ := hst.1
    have hP' : items.toList[i]? = some v := (Array.getElem?_toList).trans hP
    exact row_step (fun o T ht hb N => turn v m₁ o T hh' tk' (List.mem_of_getElem? hP') ht hb F₁ N) hJ N₁ hI114 (hfp _ (.head _) (next_is_new F) oi g1)
      (fun vs q t a1 a2 => by rw [← Data.fields.inj (g3.symm.trans a1)] at a2; nomatch a2) (fun p hp e => hnw p (.tail _ hp) (List.mem_singleton.mpr e)) h114
      fun q h => (List.mem_cons.mp (hown q h)).elim (fun e => e ▸ Ne.symm hI114) fun e => List.mem_singleton.mp e ▸ h114 _ hr
  · exact fun h' tk m' news' F' N' _ hJ => hJ _ fun o ext e ht => done m' h' tk (by subst e; exact ht.elim (fun z => by rw [z.1] at N'; exact GrownAt.of N' (.head _)) fun ⟨c1, c2, oc1, z, _⟩ => by rw [z] at N'; exact GrownAt.of N' (.head _)) F'
end
end
-- TrPl3
section
open PySem PySem.W PyProof.Rows PySem.Calls
section
variable {rs : List Int}
theorem cut_two (p : Nat) : List.take (min ((p : Int) + 3).toNat rs.length - ((p : Int) + 1).toNat) (List.drop ((p : Int) + 1).toNat rs) = (rs.drop (p + 1)).take 2 := by
  show List.take (min (p + 3) rs.length - (p + 1)) (List.drop (p + 1) rs) = _
  rw [← Nat.sub_min_sub_right, Nat.add_sub_add_left, ← List.length_drop]
  exact List.take_eq_take_min.symm
theorem law_prefix : textS ((nameI (tokI rs)).take (textS (tokI (nameI rs))).length) = textS (tokI (nameI rs)) := by
  rw [textS_len]
  rcases law_whole rs with ⟨_, e⟩ | ⟨_, r, e⟩
  · rw [e, List.take_length]
  · rw [e, List.take_left]
theorem text_same (a : List Int) : (textS a != textS a) = false := by simp
theorem text_more (a r : List Int) : (textS (a ++ 0 :: r) != textS a) = true := by
  have : textS (a ++ 0 :: r) ≠ textS a := by
    intro e
    have := congrArg Str.length e
    rw [textS_len, textS_len] at this
    simp at this
  simp [this]
theorem law_apart1 (h : ((placeI rs : Nat) : Int) < ((wendI rs : Nat) : Int)) :
    (textS (nameI (tokI rs)) != textS (tokI (nameI rs))) = decide (List.take (min (((placeI rs : Nat) : Int) + 3).toNat rs.length - (((placeI rs : Nat) : Int) + 1).toNat) (List.drop (((placeI rs : Nat) : Int) + 1).toNat rs) = [256, 0]) := by
  rw [cut_two]
  rcases law_whole rs with ⟨hn, e⟩ | ⟨hy, r, e⟩
  · rw [e, text_same, decide_eq_false (fun q => hn ⟨by omega, q⟩)]
  · rw [e, text_more, decide_eq_true hy.2]
theorem law_apart0 (h : ¬ ((placeI rs : Nat) : Int) < ((wendI rs : Nat) : Int)) : (textS (nameI (tokI rs)) != textS (tokI (nameI rs))) = decide (((placeI rs : Nat) : Int) < ((wendI rs : Nat) : Int)) := by
  rw [decide_eq_false h]
  rcases law_whole rs with ⟨hn, e⟩ | ⟨hy, r, e⟩
  · rw [e, text_same]
  · exact absurd hy.1 (by omega)
theorem law_next (h : ((placeI rs : Nat) : Int) < ((wendI rs : Nat) : Int)) (h2 : List.take (min (((placeI rs : Nat) : Int) + 3).toNat rs.length - (((placeI rs : Nat) : Int) + 1).toNat) (List.drop (((placeI rs : Nat) : Int) + 1).toNat rs) = [256, 0]) :
    ((textS (tokI (nameI rs))).length : Int) < (textS (nameI (tokI rs))).length ∧ Txt.item (textS (nameI (tokI rs))) ((textS (tokI (nameI rs))).length : Int) = Str.ofString "\"" := by
  rw [cut_two] at h2
  rcases law_whole rs with ⟨hn, e⟩ | ⟨hy, r, e⟩
  · exact absurd ⟨by omega, h2⟩ hn
  · have hlt : ((textS (tokI (nameI rs))).length : Int) < (textS (nameI (tokI rs))).length := by rw [textS_len, textS_len, e]; simp; omega
    refine ⟨hlt, ?_⟩
    rw [item_code (by omega) hlt, textS_len, textS_list, e, List.map_append]
    have : ((tokI (nameI rs)).map symN ++ (0 :: r).map symN).getD (Int.toNat ((tokI (nameI rs)).length : Int)) 0 = 34 := by
      rw [Int.toNat_natCast, List.getD_eq_getElem?_getD, List.getElem?_append_right (by simp)]
      simp
      decide +kernel
    rw [this]
    decide +kernel
section
variable {prog : PySem.Program} {w : World} {A : Around} {E : Value → Shared → Prop} {s : Shared} {Q : Value → Shared → Prop} {value slice : PySem.Expr} {t u : Tok}
theorem item_apart (h : ((placeI rs : Nat) : Int) < ((wendI rs : Nat) : Int)) (h2 : List.take (min (((placeI rs : Nat) : Int) + 3).toNat rs.length - (((placeI rs : Nat) : Int) + 1).toNat) (List.drop (((placeI rs : Nat) : Int) + 1).toNat rs) = [256, 0]) (hl : (textS (tokI (nameI rs))).length ≤ 100)
    (hQ : Q (.str (Str.ofString "\"") s.toks) { s with toks := s.toks + 1 })
    (hs : subscripted slice false (.str (textS (nameI (tokI rs))) t) (.int ((textS (tokI (nameI rs))).length : Int) u) = operate [.str (textS (nameI (tokI rs))) t, .int ((textS (tokI (nameI rs))).length : Int) u] (getItem (.str (textS (nameI (tokI rs))) t) (.int ((textS (tokI (nameI rs))).length : Int) u)) )
    (ht : ∀ r, letTemporaryGo value (.str (textS (nameI (tokI rs))) t) r = pure () ) :
    wpAny (model prog w) A (subscriptTail value slice (.str (textS (nameI (tokI rs))) t) (.int ((textS (tokI (nameI rs))).length : Int) u)) Q E s := by
  obtain ⟨h3, h4⟩ := law_next h h2
  refine PyProof.Rows.item_str ?_ (by omega) h3 (fun _ => ?_) hs ht
  · unfold fitsSsize; simp; omega
  · rw [h4]; exact hQ
end
end
end
-- TrB
section
open PySem PySem.W PyProof.Rows PySem.Calls PyProof.V
noncomputable def lawOf (K : Frag) : Option (List Stmt × Scope) :=
  match K.lookup 176 with
  | some o => match o.data with
    | .func fd => match fd.body with
      | .stmts b => some (b, fd.scope)
      | _ => none
    | _ => none
  | none => none
noncomputable def rowBodyOf (K : Frag) : Option (List Stmt × Scope) :=
  match lawOf K with
  | some (_ :: _ :: _ :: _ :: .For _ _ b _ _ :: _, sc) => some (b, sc)
  | _ => none
local macro_rules | `(tactic| k_mem) => `(tactic| (apply List.mem_cons_of_mem; first | assumption | (apply List.mem_cons_of_mem; assumption)))
section
variable {prog : PySem.Program} {w : World} {A : Around} {E : Value → Shared → Prop} {s : Shared} {Q : Value → Shared → Prop}
theorem pre_add {ns : List Int} {t u : Tok} (hl : ns.length ≤ 900) (h : ∀ t' tk, Q (.str (Str.ofString "257 \"" ++ textS ns) t') { s with toks := tk }) :
    wpAny (model prog w) A (binaryOp .Add (.str (Str.ofString "257 \"") t) (.str (textS ns) u)) Q E s :=
  PyProof.Rows.add_str h (by rw [textS_len, PySem.sizeLine_eq]; have : (Str.ofString "257 \"").length = 5 := by decide
                             omega)
end
section
variable {prog : PySem.Program} {w : World} {A : Around} {E : Value → Shared → Prop} {s : Shared} {Q : Value → Shared → Prop} {h₀ : Heap} {L : Addr} {m : Str → Option Value} {news : List (Addr × Obj)} {value slice : PySem.Expr} {ns : List Int} {t uj : Tok}
theorem slice_place {n : Nat} (hF : Fr h₀ L s.heap m) (hN : News h₀ L s.heap news) (hl : ns.length ≤ 1000) (h : ∀ h' t' k, Fr h₀ L h' m → News h₀ L h' news → Q (.str (textS (ns.take (n + 1))) t') { s with heap := h', toks := k })
    (hs : subscripted slice false (.str (textS ns) t) (.ref s.heap.objs.size) = operate [.ref s.heap.objs.size, .str (textS ns) t] (getItem (.str (textS ns) t) (.ref s.heap.objs.size)) )
    (ht : ∀ r, letTemporaryGo value (.str (textS ns) t) r = pure () ) :
    wpAny (model prog w) A (subscriptTail value slice (.str (textS ns) t) (.ref s.heap.objs.size)) Q E { s with heap := s.heap.push { cls := .type "slice", data := .fields #[.none, .int ((n : Int) + 1) uj, .none] } } :=
  PyProof.Rows.slice_strN_ns hF hN (fun h' t' k a b => by
    have e : Txt.slice (textS ns) none (some ((n : Int) + 1)) = textS (ns.take (n + 1)) := cut_any (ns := ns) (k := n + 1)
    rw [e]; exact h h' t' k a b) hs ht (by rw [textS_len, PySem.sizeLine_eq]; omega)
theorem slice_len {y : Str} (hF : Fr h₀ L s.heap m) (hN : News h₀ L s.heap news) (hl : ns.length ≤ 1000) (h : ∀ h' t' k, Fr h₀ L h' m → News h₀ L h' news → Q (.str (textS (ns.take y.length)) t') { s with heap := h', toks := k })
    (hs : subscripted slice false (.str (textS ns) t) (.ref s.heap.objs.size) = operate [.ref s.heap.objs.size, .str (textS ns) t] (getItem (.str (textS ns) t) (.ref s.heap.objs.size)) )
    (ht : ∀ r, letTemporaryGo value (.str (textS ns) t) r = pure () ) :
    wpAny (model prog w) A (subscriptTail value slice (.str (textS ns) t) (.ref s.heap.objs.size)) Q E { s with heap := s.heap.push { cls := .type "slice", data := .fields #[.none, .int (y.length : Int) uj, .none] } } :=
  PyProof.Rows.slice_strN_ns hF hN (fun h' t' k a b => by
    rw [cut_any (ns := ns) (k := y.length)]; exact h h' t' k a b) hs ht (by rw [textS_len, PySem.sizeLine_eq]; omega)
end
theorem name_len' (ns : List Int) : (nameI ns).length ≤ ns.length := name_len _ ns (Nat.le_refl _)
theorem tok_len' (ns : List Int) : (tokI ns).length ≤ ns.length := tok_len _ ns (Nat.le_refl _)
theorem bang_true {b : Bool} {P : Prop} (h1 : b = false) (h2 : b = true) : P := by rw [h1] at h2; cases h2
set_option maxRecDepth 100000 in
set_option maxHeartbeats 8000000 in
theorem row_turn (w : World) (p : PySem.Program) (loose : List Str) (mean : ExcName → Option Value) (mg mb : Str → Option Value)
   (b : List Stmt) (sc : Scope) (hp : rowBodyOf (Mine.hd.heap_39 w.params) = some (b, sc))
   (dp un : Nat) (gd : Option (List Code)) (a : Addr) (cd : Value) (A₀ : Around) (base g : Heap) (L : Addr) (s : Shared) (Q₁ : Value → Shared → Prop) (E₁ : Value → Shared → Prop)
   (T : List (Addr × Obj)) (o oc od : Obj) (d r : Addr) (us : List Value) (k : Nat) (rs : List Int) (m₁ : Str → Option Value)
   (B : Below A₀ base [] g) (F : Fr g L s.heap (fun y => if y = Str.ofString "row" then some (.ref r) else m₁ y)) (X : Frag.In (Mine.hd.heap_39 w.params) g) (N : News g L s.heap ((114, o) :: T)) (Tp : Top p loose mean mg mb g)
   (hcm : (L + 1, oc) ∈ T) (hoc : oc.data = .cell (some (.ref d))) (hdm : (d, od) ∈ T) (hO : OpsObj w od) (hs : (d == sysModules) = false) (hr : (r, listOf us.toArray k) ∈ T) (hi : IntsAre us rs) (hok : Oks rs) (hlen : rs.length ≤ 100) (hst : Starts rs) (htab : TabSt o T)
   (hd : dp + 30 < recursionLimit) (hu : un + 500 < cLine) :
   wpAny (model PySem.Challenge.rw_tr0039_01.row.prog w) (Around.deeper { handled := none, depth := dp, frames := some [], guards := gd, units := un } (envOfC (Str.ofString "law") sc L a cd)) (execs b (envOfC (Str.ofString "law") sc L a cd)) (REnd T g L s) (fun e s' => wpAny (model PySem.Challenge.rw_tr0039_01.row.prog w) (Around.deeper { handled := none, depth := dp, frames := some [], guards := gd, units := un } (envOfC (Str.ofString "law") sc L a cd)) (leaving (envOfC (Str.ofString "law") sc L a cd) e) (fun _ s'' => Q₁ e s'') E₁ s') s := by
  have hp2 : some _ = some (b, sc) := hp
  have hp3 := Option.some.inj hp2
  dsimp only at hp3
  obtain ⟨rfl, rfl⟩ := Prod.mk.inj hp3
  clear hp hp2 hp3
  have hpl : placeI rs ≤ rs.length := by rw [← name_place]; exact firstOf_le _ _
  have hwl : wendI rs ≤ rs.length := by rw [← word_end]; exact firstOf_le _ _
  have hn1 := Nat.le_trans (name_len' rs) hlen
  have hn2 := Nat.le_trans (tok_len' rs) hlen
  have hn3 := Nat.le_trans (tok_len' (nameI rs)) hn1
  have hn4 := Nat.le_trans (name_len' (tokI rs)) hn2
  have ho1 := name_oks hok
  have ho2 := tok_oks hok
  have ho3 := tok_oks ho1
  have ho4 := name_oks ho2
  have hs1 := starts_name hst
  have hs2 := starts_take hst (placeI rs)
  have ho5 := take_oks hok (placeI rs + 1)
  have hn5 : (rs.take (placeI rs + 1)).length ≤ 100 := Nat.le_trans (List.length_take_le' _ _) hlen
  have hn6 := Nat.le_trans (tok_len' (rs.take (placeI rs + 1))) hn5
  have ho6 := tok_oks ho5
  have hl7 : (textS (tokI (nameI rs))).length ≤ 100 := by rw [textS_len]; exact hn3
  revert X
  w_top off
  k_with_none
  k_with "call ref" => (k_here; (with_reducible show wpAny _ _ (call (Value.ref 133) _) _ _ _); (refine useV2 (by k_asm) (by k_asm) (by k_asm) (by k_asm) (by k_asm) (by first | exact rfl | assumption) (by ktr_room) (by ktr_units) (text_spec _ _ _ _ _ _ _ _ _ _ _ _ _ (by k_mem) (by assumption) (by first | exact le_up (by assumption) rfl | omega) (by assumption) (by k_mem) (by assumption) (by assumption)) ?_); intro t9 h9 tk9 F9 N9; (try dsimp only); (try k_fold))
  k_with "binaryOp Add str str" => (k_here; (with_reducible show wpAny _ _ (binaryOp Operator.Add (Value.str (Str.ofString "257 \"") _) (Value.str (textS _) _)) _ _ _); (refine pre_add (by first | exact le_up (by assumption) rfl | omega) ?_); intro t9 tk9; (try dsimp only))
  k_with "call ref" => (k_here; (with_reducible show wpAny _ _ (call (Value.ref 53) _) _ _ _); (refine useV2 (by k_asm) (by k_asm) (by k_asm) (by k_asm) (by k_asm) (by first | exact rfl | assumption) (by ktr_room) (by ktr_units) (parse_text _ _ _ _ _ _ _ _ _ (by assumption) (by first | exact le_up (by assumption) rfl | omega)) ?_); intro t9 h9 tk9 F9 N9; (try dsimp only); (try k_fold))
  k_with "call ref" => (k_here; (with_reducible show wpAny _ _ (call (Value.ref 140) _) _ _ _); (refine useL2 (by k_asm) (by k_asm) (by k_asm) (by k_asm) (by k_asm) (by first | exact rfl | assumption) (by ktr_room) (by ktr_units) (row_text _ _ _ _ _ _ _ _ _ (by assumption) (by first | exact le_up (by assumption) rfl | omega)) ?_); intro l9 us9 n9 h9 tk9 F9 N9 ne9 hi9; (try dsimp only); (try k_fold))
  k_with "call ref" => (k_here; (with_reducible show wpAny _ _ (call (Value.ref 166) _) _ _ _); (refine useL2 (by k_asm) (by k_asm) (by k_asm) (by k_asm) (by k_asm) (by first | exact rfl | assumption) (by ktr_room) (by ktr_units) (name_row _ _ _ _ _ _ _ _ _ _ _ (by k_mem) (by assumption) (by first | exact le_up (by assumption) rfl | omega)) ?_); intro l9 us9 n9 h9 tk9 F9 N9 ne9 hi9; (try dsimp only); (try k_fold))
  k_with "call ref" => (k_here; (with_reducible show wpAny _ _ (call (Value.ref 171) _) _ _ _); (refine useL2 (by k_asm) (by k_asm) (by k_asm) (by k_asm) (by k_asm) (by first | exact rfl | assumption) (by ktr_room) (by ktr_units) (word_row _ _ _ _ _ _ _ _ _ _ _ (by k_mem) (by assumption) (by first | exact le_up (by assumption) rfl | omega)) ?_); intro l9 us9 n9 h9 tk9 F9 N9 ne9 hi9; (try dsimp only); (try k_fold))
  k_with "call ref" => (k_here; (with_reducible show wpAny _ _ (call (Value.ref 154) _) _ _ _); (refine useV2 (by k_asm) (by k_asm) (by k_asm) (by k_asm) (by k_asm) (by first | exact rfl | assumption) (by ktr_room) (by ktr_units) (nend_row _ _ _ _ _ _ _ _ _ _ _ (by k_mem) (by assumption) (by first | exact le_up (by assumption) rfl | omega)) ?_); intro t9 h9 tk9 F9 N9; (try dsimp only); (try k_fold))
  k_with "call ref" => (k_here; (with_reducible show wpAny _ _ (call (Value.ref 161) _) _ _ _); (refine useV2 (by k_asm) (by k_asm) (by k_asm) (by k_asm) (by k_asm) (by first | exact rfl | assumption) (by ktr_room) (by ktr_units) (wend_row _ _ _ _ _ _ _ _ _ _ _ (by k_mem) (by assumption) (by first | exact le_up (by assumption) rfl | omega)) ?_); intro t9 h9 tk9 F9 N9; (try dsimp only); (try k_fold))
  k_with "call ref" => (k_here; (with_reducible show wpAny _ _ (call (Value.ref 119) _) _ _ _); (rename TabSt _ _ => ht9); (refine useC2 (by k_asm) (by k_asm) (by k_asm) (by k_asm) (by k_asm) (by first | exact rfl | assumption) (by ktr_room) (by ktr_units) (lexer_any _ _ _ _ _ _ _ _ _ _ (by (rw [textS_len]; first | exact le_up (by assumption) rfl | omega)) ht9) ?_); intro c1 c2 oc1 C9 Z rest ta n tl h9 tk9 H9 hp9 F9 N9; clear ht9; (try dsimp only); (try k_fold))
  k_with "call ref" => (k_here; (with_reducible show wpAny _ _ (call (Value.ref 119) [Value.str (textS _) _]) _ _ _); (have hc9 := (by assumption : CodeIn _ _)); (refine useC2 (by k_asm) (by k_asm) (by k_asm) (by k_asm) (by k_asm) (by first | exact rfl | assumption) (by ktr_room) (by ktr_units) (lexer_more _ _ _ _ _ _ _ _ _ (by (rw [textS_len]; first | exact le_up (by assumption) rfl | omega)) _ _ _ (by k_mem) (by k_mem) hc9) ?_); intro Z rest ta n tl h9 tk9 H9 hp9 F9 N9; clear hc9; (try dsimp only); (try k_fold))
  k_with "getMethod ref" => (k_here; (with_reducible show wpAny _ _ (getMethod (Value.ref (LexA.z _)) _ _) _ _ _); (have H9 := (by assumption : LexOk _ _ _ _)); k_dflt (refine method_inst (by k_asm) (by k_asm) (by exact InstAt.of_news (by assumption) (.tail _ (.tail _ H9.hz)) (.tail _ (.head _))) (by k_is) (by k_is) (by k_is) (by k_get) ?_; k_whole); clear H9)
  k_with "call ref" => (k_here; (with_reducible show wpAny _ _ (call (Value.ref 81) _) _ _ _); (rename LexOk _ _ _ _ => H9); (rename (∀ p ∈ _, p ∈ _) => hq9); (refine useC2 (by k_asm) (by k_asm) (by k_asm) (by k_asm) (by k_asm) (by first | exact rfl | assumption) (by ktr_room) (by ktr_units) (gettok_text _ _ _ _ _ _ _ _ _ _ _ _ _ (by assumption) (by assumption) H9 hq9) ?_); intro t9 h9 tk9 F9 N9; clear H9 hq9; (try dsimp only); (try k_fold))
  k_with "subscriptTail Name Slice str ref" => (k_here; (with_reducible show wpAny _ _ (subscriptTail _ (Expr.Slice none (some _) none _) (Value.str (textS _) _) _) _ _ _); (with_reducible rename Fr _ _ _ _ => F9); (with_reducible rename News _ _ _ _ => N9); (refine slice_place (s := ⟨_, _, _, _, _⟩) F9 N9 (by first | exact le_up (by assumption) rfl | omega) ?_ (by with_unfolding_all rfl) (by intro _; with_unfolding_all rfl)); intro h9 t9 k9 F9 N9; (try dsimp only))
  k_with "subscriptTail Name Slice str ref" => (k_here; (with_reducible show wpAny _ _ (subscriptTail _ (Expr.Slice none (some (Expr.Call _ _ _ _)) none _) (Value.str (textS _) _) _) _ _ _); (with_reducible rename Fr _ _ _ _ => F9); (with_reducible rename News _ _ _ _ => N9); (refine slice_len (s := ⟨_, _, _, _, _⟩) F9 N9 (by first | exact le_up (by assumption) rfl | omega) ?_ (by with_unfolding_all rfl) (by intro _; with_unfolding_all rfl)); intro h9 t9 k9 F9 N9; (try dsimp only))
  k_with "subscriptTail" => (k_here; (with_reducible show wpAny _ _ (subscriptTail _ _ (Value.str (textS (nameI (tokI _))) _) (Value.int _ _)) _ _ _); (refine item_apart (by assumption) (by assumption) (by assumption) ?_ (by with_unfolding_all rfl) (by intro _; with_unfolding_all rfl)); (try dsimp only))
  k_fill
  intro X
  k_steps
  all_goals first
    | (refine' rend ?r1 ?r2 (cb_drop ?r3 ?r4); (case r1 => k_asm); (case r2 => assumption); (case r3 => k_asm); (case r4 => (intro q hq; repeat (first | exact hq | apply List.mem_cons_of_mem))); done)
    | (exfalso; rename ((_ != _) = true) => hh; rw [law_cut, text_same] at hh; cases hh; done)
    | (exfalso; rename ((_ != _) = true) => hh; rw [law_prefix, text_same] at hh; cases hh; done)
    | (exfalso; rename ((_ != _) = true) => hh; rw [law_apart1 (by assumption), bne_self_eq_false] at hh; cases hh; done)
    | (exfalso; rename ((_ != _) = true) => hh; rw [law_apart0 (by assumption), bne_self_eq_false] at hh; cases hh; done)
end
-- TrW
section
open PySem PySem.W PyProof.Rows PySem.Calls PyProof.V
theorem ints_get {vs : List Value} {ns : List Int} {i : Nat} {v : Value} (hi : IntsAre vs ns) (h : vs.toArray[i]? = some v) : ∃ n t, ns[i]? = some n ∧ v = .int n t := by
  have hl := hi.length
  rw [List.getElem?_toArray] at h
  have h1 : i < vs.length := (List.getElem?_eq_some_iff.mp h).1
  have h2 : i < ns.length := by omega
  obtain ⟨t, e⟩ := hi.get i ns[i] (List.getElem?_eq_getElem h2)
  rw [h] at e
  exact ⟨ns[i], t, List.getElem?_eq_getElem h2, Option.some.inj e⟩
theorem op_short {i : Nat} {n : Int} (h : opNums[i]? = some n) : ((signOf n).getD Str.empty).length ≤ 3 := by
  have : ∀ n ∈ opNums, ((signOf n).getD Str.empty).length ≤ 3 := by decide +kernel
  exact this n (List.mem_of_getElem? h)
theorem is_single {n : Int} (h : (((signOf n).getD Str.empty).length : Int) = 1) : isSingle n = true := by unfold isSingle; simp; omega
theorem not_single {n : Int} (h : (((signOf n).getD Str.empty).length : Int) ≠ 1) : isSingle n = false := by unfold isSingle; simp; omega
def RowP (f : Int) (pre : List Int) (us : List Value) : Prop := ∃ ms, IntsAre us (f :: ms) ∧ Oks ms ∧ ms.length = pre.length
theorem rowP_nil {f : Int} {t : Tok} : RowP f [] [Value.int f t] := ⟨[], IntsAre.cons _ _ IntsAre.nil, (by intro n h; cases h), rfl⟩
theorem rowP_snoc {f n v : Int} {pre : List Int} {us : List Value} {t : Tok} (h : RowP f pre us) (hv : okSym v) : RowP f (pre ++ [n]) (us ++ [Value.int v t]) := by
  obtain ⟨ms, h1, h2, h3⟩ := h
  refine ⟨ms ++ [v], ?_, ?_, by simp [h3]⟩
  · have := IntsAre.append h1 (IntsAre.cons v t IntsAre.nil)
    exact this
  · intro n hn
    rcases List.mem_append.mp hn with hn | hn
    · exact h2 n hn
    · rw [List.mem_singleton.mp hn]; exact hv
theorem ok_zero : okSym 0 := ⟨by decide⟩
theorem ok_256 : okSym 256 := ⟨by decide⟩
theorem ok_blank (v : Int) : okSym (1 + v.fmod 4) := by
  have h1 := Int.fmod_nonneg_of_pos v (b := 4) (by decide)
  have h2 := Int.fmod_lt_of_pos v (b := 4) (by decide)
  obtain ⟨n, e⟩ := Int.eq_ofNat_of_zero_le h1
  rw [e] at h2 ⊢
  have : ∀ n : Nat, n < 4 → 1 + (n : Int) ∈ okList := by decide
  exact ⟨this n (Int.ofNat_lt.mp h2)⟩
theorem single_mem (v : Int) : singles.getD (v.fmod 24).toNat 0 ∈ singles := by
  have h1 := Int.fmod_nonneg_of_pos v (b := 24) (by decide)
  have h2 := Int.fmod_lt_of_pos v (b := 24) (by decide)
  have h3 : (v.fmod 24).toNat < singles.length := by
    exact (Int.toNat_lt h1).mpr h2
  rw [List.getD_eq_getElem?_getD, List.getElem?_eq_getElem h3]
  exact List.getElem_mem h3
theorem ok_single (v : Int) : okSym (singles.getD (v.fmod 24).toNat 0) := ⟨List.mem_append_right _ (single_mem v)⟩
theorem reorder4 {h₀ : Heap} {L : Addr} {h : Heap} {a b c d : Addr × Obj} {rest : List (Addr × Obj)} (N : News h₀ L h (a :: b :: c :: d :: rest)) : News h₀ L h (d :: a :: b :: c :: rest) :=
  cb_drop N fun q hq => by
    simp only [List.mem_cons] at hq ⊢
    rcases hq with h | h | h | h | h <;> simp [h]
theorem ledger_ne {h₀ : Heap} {L : Addr} {h : Heap} {a : Addr × Obj} {rest : List (Addr × Obj)} (N : News h₀ L h (a :: rest)) (h1 : ∀ p ∈ rest, p.1 ≠ a.1) : ∀ p ∈ rest, p.1 ≠ a.1 := h1
theorem off_tail' {l : Addr} {news own : List (Addr × Obj)} {adr : List Addr} (h1 : ∀ p ∈ news, p.1 ≠ l) (off : OwnOff own (l :: adr)) : ∀ p ∈ news ++ own, p.1 ≠ l := by
  intro p hp
  rcases List.mem_append.mp hp with h | h
  · exact h1 p h
  · exact off p h l List.mem_cons_self
theorem rowP_size {f n : Int} {ns pre post : List Int} {us : List Value} (e : ns = pre ++ n :: post) (h : RowP f pre us) (hl : ns.length ≤ 1000) : us.toArray.size ≤ sizeLine := by
  obtain ⟨ms, h1, h2, h3⟩ := h
  have h4 := h1.length
  subst e
  simp only [List.length_append, List.length_cons, List.size_toArray, PySem.sizeLine_eq] at *
  omega
theorem rot {h₀ : Heap} {L : Addr} {h : Heap} {l : List (Addr × Obj)} {x : Addr × Obj} (N : News h₀ L h l) (e : l.getLast? = some x) : News h₀ L h (x :: l.dropLast) :=
  cb_drop N fun q hq => by
    rcases List.mem_cons.mp hq with h | h
    · rw [h]; exact List.mem_of_getLast? e
    · exact List.dropLast_subset l h
theorem row_facts {v : Int} {ms : List Int} (hok : Oks ms) : (Oks (singles.getD (v.fmod 24).toNat 0 :: ms) ∧ Starts (singles.getD (v.fmod 24).toNat 0 :: ms)) ∧ (Oks (singles.getD (v.fmod 24).toNat 0 :: ms ++ [0]) ∧ Starts (singles.getD (v.fmod 24).toNat 0 :: ms ++ [0])) := by
  have h1 : Oks (singles.getD (v.fmod 24).toNat 0 :: ms) := fun n hn => (List.mem_cons.mp hn).elim (fun e => e ▸ ok_single v) (fun h => hok n h)
  refine ⟨⟨h1, ⟨_, _, rfl, single_mem v⟩⟩, ⟨fun n hn => ?_, ⟨_, _, rfl, single_mem v⟩⟩⟩
  rcases List.mem_append.mp hn with h | h
  · exact h1 n h
  · rw [List.mem_singleton.mp h]; exact ok_zero
set_option maxRecDepth 100000 in
set_option maxHeartbeats 8000000 in
theorem law_walk (w : World) (p : PySem.Program) (loose : List Str) (mean : ExcName → Option Value) (mg mb : Str → Option Value) (l : Addr) (vs : List Value) (ns : List Int) (hints : IntsAre vs ns) (hlen : ns.length ≤ 63)
   (b : List Stmt) (sc : Scope) (hp : lawOf (Mine.hd.heap_39 w.params) = some (b, sc))
   (dp un : Nat) (gd : Option (List Code)) (a : Addr) (cd : Value) (A₀ : Around) (base g : Heap) (L : Addr) (s : Shared) (oc : Obj) (Q : Flow → Shared → Prop) (Q₁ : Value → Shared → Prop) (E₁ : Value → Shared → Prop)
   (B : Below A₀ base [] g) (F : Fr g L s.heap (bindL (envOfC (Str.ofString "law") sc L a cd).kindOf [(Str.ofString "script", Value.ref l)] fun _ => none)) (X : Frag.In (Mine.hd.heap_39 w.params) g) (N : News g L s.heap [(L + 1, oc), (114, tabObj #[])]) (T : Top p loose mean mg mb g)
   (hoc : oc.data = .cell none) (hl : g.IsList l vs.toArray) (h114 : @LT.lt Nat _ 114 L) (hd : dp + 30 < recursionLimit) (hu : un + 500 < cLine)
   (hret : ∀ h' tk' m', GrownAt 114 h' → Fr g L h' m' → Q (.ret (.bool true)) { s with heap := h', toks := tk' }) :
   wpAny (model PySem.Challenge.rw_tr0039_01.row.prog w) (Around.deeper { handled := none, depth := dp, frames := some [], guards := gd, units := un } (envOfC (Str.ofString "law") sc L a cd)) (execs b (envOfC (Str.ofString "law") sc L a cd)) Q (fun e s' => wpAny (model PySem.Challenge.rw_tr0039_01.row.prog w) (Around.deeper { handled := none, depth := dp, frames := some [], guards := gd, units := un } (envOfC (Str.ofString "law") sc L a cd)) (leaving (envOfC (Str.ofString "law") sc L a cd) e) (fun _ s'' => Q₁ e s'') E₁ s') s := by
  have hp2 : some _ = some (b, sc) := hp
  have hp3 := Option.some.inj hp2
  dsimp only at hp3
  obtain ⟨rfl, rfl⟩ := Prod.mk.inj hp3
  clear hp hp2 hp3
  revert X
  w_top off
  k_with_none
  k_with "call ref" => (k_here; (with_reducible show wpAny _ _ (call (Value.ref 126) _) _ _ _); (refine useC2 (by k_asm) (by k_asm) (by k_asm) (by k_asm) (by k_asm) (by first | exact rfl | assumption) (by ktr_room) (by ktr_units) (operators_spec _ _ _ _ _ _ _) ?_); intro d9 od9 h9 tk9 F9 N9 ne9 ho9 hs9; (try k_lt ne9); (try dsimp only); (try k_fold))
  k_with "exec Assign cons ListComp" => (k_here; k_dflt (refine LCt.Assign_ListComp_T (F₀ := by k_asm) (by rfl) (by with_unfolding_all rfl) (by with_unfolding_all rfl) (by decide) (by rfl) (by decide) (by rfl) (by rfl) (by rfl) ?_))
  k_with "call builtin:sorted" => (k_here; (with_reducible show wpAny _ _ (call (Value.builtin _) [Value.ref _]) _ _ _); (with_unfolding_all refine sorted_ops (by with_unfolding_all rfl) (by k_asm) (by k_asm) (by k_mem) (by assumption) (by assumption) ?_); intro B9 us9 h9 tk9 F9 N9 l9 hi9; (try k_lt l9); (try dsimp only))
  k_with "CompSrcT" => (k_here; k_dflt (refine LCt.CompSrcT.ledger (by with_unfolding_all rfl) (by k_asm) (by k_asm) (List.Mem.head _) (by size_fits) ?_; intro g'))
  k_with "subscriptTail" => (k_here; (with_reducible show wpAny _ _ (subscriptTail _ _ (Value.ref _) (Value.int _ _)) _ _ _); (refine item_rev (by k_asm) (by k_mem) (by assumption) (by assumption) (by exact op_sign (by assumption)) ?_ (by with_unfolding_all rfl) (by intro _; with_unfolding_all rfl); k_whole); intro t9)
  k_with "call builtin:list.append" => (k_here; (have hP9 := (by assumption : RowP _ _ _)); k_dflt (refine append_K (by k_asm) (by k_asm) (Upd.head (by exact off_tail' (by assumption) (by assumption))) ?_ (by exact rowP_size (by assumption) (by assumption) (by assumption)); k_whole); clear hP9; intro h' F' N')
  k_with "pyIter ref" => (k_here; (with_reducible show wpAny _ _ (pyIter (Value.ref _)) _ _ _); refine StopHere.go ?_)
  k_with "exec For Name Subscript cons nil" => (k_here; (rename Fr _ _ _ _ => lF'); (with_unfolding_all refine For_invVF lF' (by exact rfl) (by exact rfl) ?_; k_whole))
  k_fill
  intro X
  k_steps
  refine compT_ind (J := fun i ys => IntsAre ys (singlesUpto i)) IntsAre.nil ?_ ?_
  · intro ys hys D h tk F N off
    have hlen9 := IntsAre.length (by assumption : IntsAre _ opNums)
    rw [List.size_toArray, hlen9, singles_all] at hys
    k_steps
    refine StopHere.mk ?_
    rename (News _ _ _ ((_, listOf _ 0) :: (_, listOf _ 0) :: (_, listOf _ 0) :: _)) => NN
    rename (Fr _ _ _ (fun y => if y = Str.ofString "drawn" then _ else _)) => FF
    have hln : (List.take 16 (ns ++ [0, 3, 0, 14])).length ≤ 1000 := by simp; omega
    have NL := reorder4 NN
    have hne9 := ledger_ne NL (by k_all)
    refine build_listD (y := Str.ofString "v") (RowP _) rfl (List.Mem.head _) (by assumption) FF NL rowP_nil ?turn ?done
    case turn =>
      intro us k pre post n t u h tk own e offo hP F N
      k_steps
      all_goals (refine bendD (by k_asm) (fun z h1 h2 => by simp only [h1, h2, if_false]) (by k_asm) (rowP_snoc hP ?_))
      all_goals first | exact ok_zero | exact ok_256 | exact ok_blank _ | exact ok_single _
    case done =>
      intro us k u u' h tk hP F N
      obtain ⟨ms, hI, hok, hms⟩ := hP
      have hm16 : ms.length ≤ 16 := by rw [hms, List.length_take]; exact Nat.min_le_left _ _
      clear hms hln
      k_steps
      refine StopHere.mk ?_
      obtain ⟨⟨ok1, st1⟩, ok2, st2⟩ := row_facts (v := (ns.length : Int)) hok
      rename (News _ _ _ ((_, listOf #[Value.ref _, Value.ref _] 0) :: _)) => NQ
      rename (Fr _ _ _ _) => FQ
      have NR := rot (x := (114, tabObj #[])) NQ rfl
      dsimp only [List.dropLast] at NR
      have hD14 : @Ne Nat 114 D := off1_mem off (114, tabObj #[]) (by repeat (first | exact List.Mem.head _ | apply List.Mem.tail))
      have hne14 := ledger_ne NR (by k_all)
      refine rows_loop rfl (List.Mem.head _) FQ NR hne14 ?turn2 ?done2
      case turn2 =>
        intro v m₁ o T' h tk hv htab hsub F N
        have hv' : v ∈ [_, _] := hv
        clear hv
        rcases List.mem_cons.mp hv' with rfl | hv'
        · refine' row_turn w p loose mean mg mb _ _ ?hp1 dp un gd a cd A₀ base g L _ _ _ T' o _ _ _ _ _ _ _ _ B F X N T ?hcm1 ?hoc1 ?hdm1 ?hO1 ?hs1 ?hr1 ?hi1 ?hok1 ?hlen1 ?hst1 htab hd hu
          case hp1 => exact rfl
          case hcm1 => exact hsub _ (by repeat (first | exact List.Mem.head _ | apply List.Mem.tail))
          case hoc1 => assumption
          case hdm1 => exact hsub _ (by repeat (first | exact List.Mem.head _ | apply List.Mem.tail))
          case hO1 => assumption
          case hs1 => assumption
          case hr1 => exact hsub _ (by repeat (first | exact List.Mem.head _ | apply List.Mem.tail))
          case hi1 => assumption
          case hok1 => assumption
          case hst1 => assumption
          case hlen1 => exact le_up (Nat.succ_le_succ hm16) rfl
        · obtain rfl := List.mem_singleton.mp hv'
          refine' row_turn w p loose mean mg mb _ _ ?hp1 dp un gd a cd A₀ base g L _ _ _ T' o _ _ _ _ _ _ _ _ B F X N T ?hcm1 ?hoc1 ?hdm1 ?hO1 ?hs1 ?hr1 ?hi1 ?hok1 ?hlen1 ?hst1 htab hd hu
          case hp1 => exact rfl
          case hcm1 => exact hsub _ (by repeat (first | exact List.Mem.head _ | apply List.Mem.tail))
          case hoc1 => assumption
          case hdm1 => exact hsub _ (by repeat (first | exact List.Mem.head _ | apply List.Mem.tail))
          case hO1 => assumption
          case hs1 => assumption
          case hr1 => exact hsub _ (by repeat (first | exact List.Mem.head _ | apply List.Mem.tail))
          case hi1 => assumption
          case hok1 => assumption
          case hst1 => assumption
          case hlen1 => rw [List.length_append]; exact le_up (Nat.succ_le_succ (Nat.succ_le_succ hm16)) rfl
      case done2 =>
        intro m₁ h tk hG F
        k_steps
        exact hret _ _ _ hG F
  · intro i ys v I oI C oC D m₂ h tk E' hi hJ hP hC hx F N off ne
    obtain ⟨nn, t, hnn, rfl⟩ := ints_get (by assumption : IntsAre _ opNums) hP
    have hsl9 := op_short hnn
    clear ne hi
    k_steps
    all_goals (refine LCg.CompEnd.intro (by k_asm) (by k_asm) _ (fun q hq => hq) off (by lcg_src) ⟨rfl, ?_⟩; first | exact single_yes hJ hnn (is_single (by assumption)) | exact single_no hJ hnn (not_single (by assumption)))
end
-- TrMain
section
open PySem PySem.W PyProof.Rows PySem.Calls PyProof.V
set_option maxRecDepth 100000 in
set_option maxHeartbeats 8000000 in
theorem main : PySem.Challenge.rw_tr0039_01.Holds := Mine.hd (by
  k_with_none
  k_go0
  rename (Below _ _ _ _) => BB
  rename (Fr _ _ _ _) => FF
  rename (Frag.In _ _) => XX
  rename (News _ _ _ _) => NN
  rename (Top _ _ _ _ _ _) => TT
  rename (IntsAre _ _) => II
  rename (Heap.IsList (ghostOf _ _) _ _) => LL
  rename (¬ _ < _) => HL
  with_unfolding_all refine' law_walk _ _ _ _ _ _ _ _ _ II ?len _ _ ?hp _ _ _ _ _ _ _ _ _ _ _ _ _ _ BB FF XX NN TT ?oc LL ?l0 ?hd ?hu ?ret
  case len => omega
  case hp => exact rfl
  case oc => assumption
  case l0 => assumption
  case hd => exact Nat.le_of_ble_eq_true rfl
  case hu => exact Nat.le_of_ble_eq_true rfl
  case ret =>
    intro h' tk' m' hG FR
    refine ⟨?_, hG, True.intro⟩
    dsimp only
    k_steps)
end
end Mine
set_option maxRecDepth 100000 in
set_option maxHeartbeats 8000000 in
theorem PySem.Challenge.cw_tr0039_01_holds : PySem.Challenge.rw_tr0039_01.Holds := by
  exact Mine.main
