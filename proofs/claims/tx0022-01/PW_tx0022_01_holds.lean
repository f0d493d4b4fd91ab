import PyProof.Rows.All
import Wide.All
import OpenK.AllK
import Wide.FinOn
import PySem.Challenge.RW_tx0022_01
set_option Elab.async false
set_option maxRecDepth 100000
namespace Mine
open PySem PySem.W PyProof.Rows
set_option maxRecDepth 100000 in
set_option maxHeartbeats 8000000 in
open_top hd for PySem.Challenge.rw_tx0022_01
end Mine
namespace Mine
open PySem PySem.W PyProof.Rows
def Ctr (prog : Program) (w : World) (K : Frag) (p : Program) (loose : List Str) (mean : ExcName → Option Value) (mg mb : Str → Option Value) (f : Addr) (D U : Nat) (news : List (Addr × Obj)) (vs : List Value) (Out : Value → List (Addr × Obj) → Prop) : Prop :=
  ∀ (dp un : Nat) (gd : Option (List Code)) (cn : Str) (cs : Scope) (a : Addr) (ccd : Value) (cl : List (Str × Addr)) (outer : List Env) (A₀ : Around) (base h₀ : Heap) (L : Addr) (m : Str → Option Value) (s : Shared) (Q E : Value → Shared → Prop),
    Below A₀ base outer h₀ → Fr h₀ L s.heap m → K.In h₀ → News h₀ L s.heap news → Top p loose mean mg mb h₀ → cs.kind = .function → dp + D < recursionLimit → un + U < cLine →
    (∀ (v : Value) (news' : List (Addr × Obj)) (h' : Heap) (tk' : Nat), Fr h₀ L h' m → News h₀ L h' news' → Out v news' → Q v { s with heap := h', toks := tk' }) →
    wpAny (model prog w) (ktrTop dp un gd cn cs L a ccd cl outer) (call (.ref f) vs) Q E s
section
variable {prog : Program} {w : World} {K : Frag} {p : Program} {loose : List Str} {mean : ExcName → Option Value} {mg mb : Str → Option Value} {f : Addr} {D U : Nat} {news : List (Addr × Obj)} {vs : List Value} {Out : Value → List (Addr × Obj) → Prop}
theorem Ctr.use (c : Ctr prog w K p loose mean mg mb f D U news vs Out) {dp un : Nat} {gd : Option (List Code)} {cn : Str} {cs : Scope} {a : Addr} {ccd : Value} {cl : List (Str × Addr)} {outer : List Env} {A₀ : Around} {base h₀ : Heap} {L : Addr} {m : Str → Option Value} {s : Shared} {Q E : Value → Shared → Prop}
    (B : Below A₀ base outer h₀) (F : Fr h₀ L s.heap m) (X : K.In h₀) (N : News h₀ L s.heap news) (T : Top p loose mean mg mb h₀) (hk : cs.kind = .function) (hd : dp + D < recursionLimit) (hu : un + U < cLine)
    (ret : ∀ (v : Value) (news' : List (Addr × Obj)) (h' : Heap) (tk' : Nat), Fr h₀ L h' m → News h₀ L h' news' → Out v news' → Q v { s with heap := h', toks := tk' }) :
    wpAny (model prog w) (ktrTop dp un gd cn cs L a ccd cl outer) (call (.ref f) vs) Q E s := c _ _ _ _ _ _ _ _ _ _ _ _ _ _ _ _ _ B F X N T hk hd hu ret
abbrev OutI (r : Int) (news : List (Addr × Obj)) : Value → List (Addr × Obj) → Prop := fun v n => n = news ∧ ∃ t, v = .int r t
abbrev OutS (r : Str) (news : List (Addr × Obj)) : Value → List (Addr × Obj) → Prop := fun v n => n = news ∧ ∃ t, v = .str r t
theorem Ctr.useI {r : Int} (c : Ctr prog w K p loose mean mg mb f D U news vs (OutI r news)) {dp un : Nat} {gd : Option (List Code)} {cn : Str} {cs : Scope} {a : Addr} {ccd : Value} {cl : List (Str × Addr)} {outer : List Env} {A₀ : Around} {base h₀ : Heap} {L : Addr} {m : Str → Option Value} {s : Shared} {Q E : Value → Shared → Prop}
    (B : Below A₀ base outer h₀) (F : Fr h₀ L s.heap m) (X : K.In h₀) (N : News h₀ L s.heap news) (T : Top p loose mean mg mb h₀) (hk : cs.kind = .function) (hd : dp + D < recursionLimit) (hu : un + U < cLine)
    (ret : ∀ (t : Tok) (h' : Heap) (tk' : Nat), Fr h₀ L h' m → News h₀ L h' news → Q (.int r t) { s with heap := h', toks := tk' }) :
    wpAny (model prog w) (ktrTop dp un gd cn cs L a ccd cl outer) (call (.ref f) vs) Q E s := c.use B F X N T hk hd hu fun v n' h' tk' F' N' o => by
  obtain ⟨rfl, t, rfl⟩ := o
  exact ret t h' tk' F' N'
theorem Ctr.useS {r : Str} (c : Ctr prog w K p loose mean mg mb f D U news vs (OutS r news)) {dp un : Nat} {gd : Option (List Code)} {cn : Str} {cs : Scope} {a : Addr} {ccd : Value} {cl : List (Str × Addr)} {outer : List Env} {A₀ : Around} {base h₀ : Heap} {L : Addr} {m : Str → Option Value} {s : Shared} {Q E : Value → Shared → Prop}
    (B : Below A₀ base outer h₀) (F : Fr h₀ L s.heap m) (X : K.In h₀) (N : News h₀ L s.heap news) (T : Top p loose mean mg mb h₀) (hk : cs.kind = .function) (hd : dp + D < recursionLimit) (hu : un + U < cLine)
    (ret : ∀ (t : Tok) (h' : Heap) (tk' : Nat), Fr h₀ L h' m → News h₀ L h' news → Q (.str r t) { s with heap := h', toks := tk' }) :
    wpAny (model prog w) (ktrTop dp un gd cn cs L a ccd cl outer) (call (.ref f) vs) Q E s := c.use B F X N T hk hd hu fun v n' h' tk' F' N' o => by
  obtain ⟨rfl, t, rfl⟩ := o
  exact ret t h' tk' F' N'
end
end Mine
namespace Mine
open PySem PySem.W PyProof.Rows PyProof
def Halt (P : Prop) : Prop := P
theorem halt {P : Prop} (h : Halt P) : P := h
theorem Halt.out {P : Prop} (h : P) : Halt P := h
def dirF : List Nat → List Nat
  | [] => []
  | [c] => if c = 34 then [] else [c]
  | c :: d :: r => if c = 34 then (if d = 34 then 34 :: dirF r else []) else c :: dirF (d :: r)
def parseF (x : Str) : Str := ⟨(dirF (x.cps.toList.drop 5)).toArray⟩
def ParseInv (x : Str) (i : Int) (d : Str) : Prop := d.cps.toList ++ dirF (x.cps.toList.drop i.toNat) = dirF (x.cps.toList.drop 5)
theorem dirF_other {c : Nat} {r : List Nat} (h : c ≠ 34) : dirF (c :: r) = c :: dirF r := by
  cases r with
  | nil => simp [dirF, h]
  | cons d r => simp [dirF, h]
theorem drop_item {x : Str} {i : Int} (h0 : 0 ≤ i) (h1 : i < (x.length : Int)) : ∃ c, Txt.item x i = ⟨#[c]⟩ ∧ x.cps.toList.drop i.toNat = c :: x.cps.toList.drop (i + 1).toNat := by
  have hl : i.toNat < x.cps.toList.length := by
    have : x.length = x.cps.toList.length := by simp [Str.length]
    omega
  refine ⟨x.cps.getD i.toNat 0, item_meets ⟨h0, h1⟩, ?_⟩
  have e : (i + 1).toNat = i.toNat + 1 := by omega
  rw [e, List.drop_eq_getElem_cons hl]
  simp only [Array.length_toList] at hl
  simp [Array.getD, hl]
theorem quote_is : Str.ofString "\"" = ⟨#[34]⟩ := by decide +kernel
theorem item_q {x : Str} {i : Int} (h0 : 0 ≤ i) (h1 : i < (x.length : Int)) (h : (Txt.item x i == Str.ofString "\"") = true) : x.cps.toList.drop i.toNat = 34 :: x.cps.toList.drop (i + 1).toNat ∧ Txt.item x i = ⟨#[34]⟩ := by
  obtain ⟨c, e, d⟩ := drop_item h0 h1
  rw [e, quote_is] at h
  have h' : (⟨#[c]⟩ : Str) = ⟨#[34]⟩ := by simpa using h
  have hc : c = 34 := by injection h' with h'; injection h' with h'; injection h'
  subst hc
  exact ⟨d, e⟩
theorem item_nq {x : Str} {i : Int} (h0 : 0 ≤ i) (h1 : i < (x.length : Int)) (h : (Txt.item x i == Str.ofString "\"") = false) : ∃ c, c ≠ 34 ∧ x.cps.toList.drop i.toNat = c :: x.cps.toList.drop (i + 1).toNat ∧ Txt.item x i = ⟨#[c]⟩ := by
  obtain ⟨c, e, d⟩ := drop_item h0 h1
  refine ⟨c, ?_, d, e⟩
  rintro rfl
  rw [e, quote_is] at h
  simp at h
theorem str_app (x y : Str) : (x ++ y).cps.toList = x.cps.toList ++ y.cps.toList := by
  rw [Str.cps_append]; simp
theorem parse_other {x d : Str} {i : Int} (h0 : 5 ≤ i) (h1 : i < (x.length : Int)) (h : (Txt.item x i == Str.ofString "\"") = false) (I : ParseInv x i d) : ParseInv x (i + 1) (d ++ Txt.item x i) := by
  obtain ⟨c, hc, e, f⟩ := item_nq (by omega) h1 h
  unfold ParseInv at *
  rw [e, dirF_other hc] at I
  rw [str_app, f, ← I]
  simp
theorem parse_two {x d : Str} {i : Int} (h0 : 5 ≤ i) (h1 : i < (x.length : Int)) (h : (Txt.item x i == Str.ofString "\"") = true) (h2 : ¬ (x.length : Int) ≤ i + 1) (h3 : (Txt.item x (i + 1) != Str.ofString "\"") = false) (I : ParseInv x i d) : ParseInv x (i + 1 + 1) (d ++ Txt.item x i) := by
  obtain ⟨e, f⟩ := item_q (by omega) h1 h
  obtain ⟨e2, f2⟩ := item_q (x := x) (i := i + 1) (by omega) (by omega) (by simpa using h3)
  unfold ParseInv at *
  rw [e, e2] at I
  rw [str_app, f, ← I]
  simp [dirF]
theorem parse_ret {x d : Str} (h : d.cps.toList = dirF (x.cps.toList.drop 5)) : d = parseF x := by
  unfold parseF
  rw [← h]
theorem parse_end1 {x d : Str} {i : Int} (h0 : 5 ≤ i) (h1 : i < (x.length : Int)) (h : (Txt.item x i == Str.ofString "\"") = true) (h2 : (x.length : Int) ≤ i + 1) (I : ParseInv x i d) : d = parseF x := by
  obtain ⟨e, f⟩ := item_q (by omega) h1 h
  have l : x.cps.toList.drop (i + 1).toNat = [] := by
    have : x.length = x.cps.toList.length := by simp [Str.length]
    exact List.drop_eq_nil_of_le (by omega)
  unfold ParseInv at I
  rw [e, l] at I
  exact parse_ret (by simpa [dirF] using I)
theorem parse_end2 {x d : Str} {i : Int} (h0 : 5 ≤ i) (h1 : i < (x.length : Int)) (h : (Txt.item x i == Str.ofString "\"") = true) (h2 : ¬ (x.length : Int) ≤ i + 1) (h3 : (Txt.item x (i + 1) != Str.ofString "\"") = true) (I : ParseInv x i d) : d = parseF x := by
  obtain ⟨e, f⟩ := item_q (by omega) h1 h
  obtain ⟨c, hc, e2, f2⟩ := item_nq (x := x) (i := i + 1) (by omega) (by omega) (by simpa [bne] using h3)
  unfold ParseInv at I
  rw [e, e2] at I
  exact parse_ret (by simpa [dirF, hc] using I)
theorem parse_end3 {x d : Str} {i : Int} (h2 : ¬ i < (x.length : Int)) (I : ParseInv x i d) : d = parseF x := by
  have l : x.cps.toList.drop i.toNat = [] := by
    have : x.length = x.cps.toList.length := by simp [Str.length]
    exact List.drop_eq_nil_of_le (by omega)
  unfold ParseInv at I
  rw [l] at I
  exact parse_ret (by simpa [dirF] using I)
end Mine
namespace Mine
open PySem PySem.W PyProof.Rows PyProof
local macro_rules | `(tactic| walk_at "exec While Compare cons nil") => `(tactic| (refine halt ?_))
set_option maxHeartbeats 4000000 in
theorem parse_ct (w : World) (mean : ExcName → Option Value) (mg mb : Str → Option Value) (news : List (Addr × Obj)) (x : Str) (t : Tok) (hx : x.length ≤ 100) (h5 : 5 ≤ x.length) (hs3 : Txt.slice x none (some 3) = Str.ofString "257") (hs5 : Txt.slice x (some 3) (some 5) = Str.ofString " \"") :
    Ctr PySem.Challenge.rw_tx0022_01.row.prog w (hd.heap_39 w.params) hd.view_39 (looseW hd.view_39 [Str.ofString "COMPILER_FLAG_NAMES"]) mean mg mb 46 1 8 news [.str x t] (OutS (parseF x) news) := by
  k_with_none
  w_top off
  k_fill
  unfold Ctr
  intro dp un gd cn cs a ccd cl outer A₀ base h₀ L m s Q E B F X N T hk hd hu hret
  refine wpAny_call ?_
  k_dflt cell_enter
  rename Fr _ _ _ _ => F1
  replace F1 : Fr _ _ _ (fun y => List.lookup y [(Str.ofString "resp", Value.str x t)]) := F1
  k_steps
  · exfalso; simp_all
  · exfalso; simp_all
  refine Halt.out ?_
  have g1 : ParseInv x 5 (Str.ofString "") := rfl
  k_with "state" => exact ⟨by omega, by omega, by (show 0 + 5 ≤ (5 : Int); decide), g1⟩
  k_with "state" => exact ⟨by omega, by omega, by (rw [Str.length_append]; omega), parse_other (by assumption) (by assumption) (by assumption) (by assumption)⟩
  k_with "state" => exact ⟨by omega, by omega, by (rw [Str.length_append]; omega), parse_two (by assumption) (by assumption) (by assumption) (by assumption) (by assumption) (by assumption)⟩
  k_while (fun _ i d => 5 ≤ i ∧ i ≤ (x.length : Int) ∧ (d.length : Int) + 5 ≤ i ∧ ParseInv x i d) (fun _ i _ => (200 - i).toNat) "i" "dirname"
  k_steps
  · exact hret _ _ _ _ (by assumption) (by assumption) ⟨rfl, _, congrArg (fun z => Value.str z _) (parse_end1 (by assumption) (by assumption) (by assumption) (by assumption) (by assumption))⟩
  · exact hret _ _ _ _ (by assumption) (by assumption) ⟨rfl, _, congrArg (fun z => Value.str z _) (parse_end2 (by assumption) (by assumption) (by assumption) (by assumption) (by assumption) (by assumption))⟩
  · exact hret _ _ _ _ (by assumption) (by assumption) ⟨rfl, _, congrArg (fun z => Value.str z _) (parse_end3 (by assumption) (by assumption))⟩
end Mine
namespace Mine
open PySem PySem.W PyProof.Rows PyProof
def levF (k n : Nat) : Int := 2 * (if k ≤ n then ((n - k : Nat) : Int) else ((k - n : Nat) : Int)) + 1
def Qs (n c : Nat) : Str := ⟨(List.replicate n 34 ++ [c]).toArray⟩
theorem Qs_len (n c : Nat) : (Qs n c).length = n + 1 := by simp [Qs, Str.length]
theorem Qs_list (n c : Nat) : (Qs n c).cps.toList = List.replicate n 34 ++ [c] := by simp [Qs]
theorem str_ext {x y : Str} (h : x.cps.toList = y.cps.toList) : x = y := by
  cases x; cases y
  simp only [Str.mk.injEq]
  exact Array.toList_inj.mp h
theorem slice_Qs {n c : Nat} {p : Int} (h0 : 0 ≤ p) (h1 : p ≤ (n : Int)) : Txt.slice (Qs n c) (some p) none = Qs (n - p.toNat) c := by
  have hl := Qs_len n c
  rw [slice_from_eq (b := ((Qs n c).length : Int)) h0 (by omega) rfl]
  refine str_ext ?_
  rw [Qs_list, Qs_list, hl, List.drop_append_of_le_length (by simp; omega), List.drop_replicate]
  rw [List.take_of_length_le]
  simp; omega
theorem item_Qs_q {n c : Nat} {i : Int} (h0 : 0 ≤ i) (h1 : i < (n : Int)) : Txt.item (Qs n c) i = ⟨#[34]⟩ := by
  rw [item_meets ⟨h0, by rw [Qs_len]; omega⟩]
  have h : i.toNat < n := by omega
  simp [Qs, Array.getD, h, List.getElem_append_left]
  omega
theorem item_Qs_c {n c : Nat} {i : Int} (h1 : i = (n : Int)) : Txt.item (Qs n c) i = ⟨#[c]⟩ := by
  subst h1
  rw [item_meets ⟨by omega, by rw [Qs_len]; omega⟩]
  simp [Qs, Array.getD]
theorem item_Qs_last {n c : Nat} : Txt.item (Qs n c) (-1) = ⟨#[c]⟩ := by
  have : Qs n c = ⟨(List.replicate n 34).toArray⟩ ++ ⟨#[c]⟩ := by
    refine str_ext ?_
    rw [Qs_list, Str.cps_append]; simp
  rw [this, item_last_right1]
theorem Qs_ne {k n : Nat} (h : (Qs k 120 == Qs n 88) = true) : False := by
  have h : Qs k 120 = Qs n 88 := by simpa using h
  have h2 := congrArg (fun x : Str => x.cps.toList.getLast?) h
  simp [Qs_list] at h2
theorem lev_pos {k c : Nat} {i : Int} (h0 : 0 ≤ i) (h1 : i ≤ (k : Int)) (h : ((Txt.slice (Qs k c) (some i) none).length : Int) = 0) : False := by
  rw [slice_Qs h0 h1, Qs_len] at h
  omega
theorem sing_ne {c d : Nat} (h : ((⟨#[c]⟩ : Str) == ⟨#[d]⟩) = true) : c = d := by
  have h' : (⟨#[c]⟩ : Str) = ⟨#[d]⟩ := by simpa using h
  injection h' with h'; injection h' with h'; injection h'
theorem lev_cases {k n : Nat} {i : Int} (h0 : 0 ≤ i) (h1 : i ≤ (k : Int)) (h2 : i ≤ (n : Int)) : ((i < k ∧ i < n) ∧ (Txt.item (Qs k 120) i == Txt.item (Qs n 88) i) = true) ∨ ((i = k ∨ i = n) ∧ (Txt.item (Qs k 120) i == Txt.item (Qs n 88) i) = false) := by
  by_cases a : i = k
  · right
    refine ⟨.inl a, ?_⟩
    rw [item_Qs_c a]
    by_cases b : i = n
    · rw [item_Qs_c b]; decide
    · rw [item_Qs_q h0 (by omega)]; decide
  · by_cases b : i = n
    · right
      refine ⟨.inr b, ?_⟩
      rw [item_Qs_c b, item_Qs_q h0 (by omega)]; decide
    · left
      refine ⟨by omega, ?_⟩
      rw [item_Qs_q h0 (by omega), item_Qs_q h0 (by omega)]; decide
theorem lev_turn {k n : Nat} {i : Int} (h0 : 0 ≤ i) (h1 : i ≤ (k : Int)) (h2 : i ≤ (n : Int)) (h : (Txt.item (Qs k 120) i == Txt.item (Qs n 88) i) = true) : 0 ≤ i + 1 ∧ i + 1 ≤ (k : Int) ∧ i + 1 ≤ (n : Int) := by
  rcases lev_cases h0 h1 h2 with ⟨a, _⟩ | ⟨_, b⟩
  · omega
  · rw [h] at b; cases b
theorem lev_min {k n : Nat} {i : Int} (h0 : 0 ≤ i) (h1 : i ≤ (k : Int)) (h2 : i ≤ (n : Int)) (h : (Txt.item (Qs k 120) i == Txt.item (Qs n 88) i) = false) : (i = k ∧ k ≤ n) ∨ (i = n ∧ n < k) := by
  rcases lev_cases h0 h1 h2 with ⟨_, b⟩ | ⟨a, _⟩
  · rw [h] at b; cases b
  · omega
theorem lev_last {k n : Nat} (h : (Txt.item (Qs k 120) (0 - 1) == Txt.item (Qs n 88) (0 - 1)) = true) : False := by
  rw [show (0 - 1 : Int) = -1 from rfl, item_Qs_last, item_Qs_last] at h
  exact absurd (sing_ne h) (by decide)
open PySem.Builtin PySem.Builtin.Str in
theorem slice_id (x : Str) : Txt.slice x none none = x := by
  have e : (strSliceIndices none none 1 x.length).length = x.length := by
    simp [strSliceIndices, sliceRange]
    split <;> omega
  unfold Txt.slice
  rw [e]
  simp
section
variable {prog : Program} {w : World} {A : Around} {E : Value → Shared → Prop} {s : Shared} {value slice : PySem.Expr} {x : Str} {t : Tok} {h₀ : Heap} {L : Addr} {m : Str → Option Value} {news : List (Addr × Obj)} {Q : Value → Shared → Prop}
theorem slice_strN_id (hF : Fr h₀ L s.heap m) (hN : News h₀ L s.heap news) (h : ∀ h' t' k, Fr h₀ L h' m → News h₀ L h' news → Q (.str x t') { s with heap := h', toks := k })
    (hs : subscripted slice false (.str x t) (.ref s.heap.objs.size) = operate [.ref s.heap.objs.size, .str x t] (getItem (.str x t) (.ref s.heap.objs.size)) := by with_unfolding_all rfl)
    (ht : ∀ r, letTemporaryGo value (.str x t) r = pure () := by intro _; with_unfolding_all rfl) (hsz : x.length ≤ sizeLine := by size_fits) :
    wpAny (model prog w) A (subscriptTail value slice (.str x t) (.ref s.heap.objs.size)) Q E { s with heap := s.heap.push { cls := .type "slice", data := .fields #[.none, .none, .none] } } :=
  slice_strN_nn hF hN (fun h' t' k a b => by rw [slice_id]; exact h h' t' k a b) hs ht hsz
end
def LevXY (d c e : Nat) (x y : Str) : Prop := x.length = 1 ∧ y.length = d + 1 ∧ Txt.item x 0 = ⟨#[c]⟩ ∧ (∀ i : Int, 0 ≤ i → i < (d : Int) → Txt.item y i = ⟨#[34]⟩) ∧ Txt.item y (d : Int) = ⟨#[e]⟩ ∧ (Txt.item x (0 - 1) == Txt.item y (0 - 1)) = false ∧ (Txt.item y (0 - 1) == Txt.item x (0 - 1)) = false
theorem lev_short (d c e : Nat) (h : c ≠ e) : ∃ x y, Qs 0 c = x ∧ Qs d e = y ∧ LevXY d c e x y := by
  refine ⟨_, _, rfl, rfl, Qs_len 0 c, Qs_len d e, item_Qs_c rfl, fun i h0 h1 => item_Qs_q h0 h1, item_Qs_c rfl, ?_, ?_⟩
  · rw [show (0 - 1 : Int) = -1 from rfl, item_Qs_last, item_Qs_last]
    cases q : ((⟨#[c]⟩ : Str) == ⟨#[e]⟩) with
    | false => rfl
    | true => exact absurd (sing_ne q) h
  · rw [show (0 - 1 : Int) = -1 from rfl, item_Qs_last, item_Qs_last]
    cases q : ((⟨#[e]⟩ : Str) == ⟨#[c]⟩) with
    | false => rfl
    | true => exact absurd (sing_ne q).symm h
theorem LevXY.last {d c e : Nat} {x y : Str} (h : LevXY d c e x y) (q : (Txt.item x (0 - 1) == Txt.item y (0 - 1)) = true) : False := by
  rw [h.2.2.2.2.2.1] at q; cases q
theorem LevXY.last' {d c e : Nat} {x y : Str} (h : LevXY d c e x y) (q : (Txt.item y (0 - 1) == Txt.item x (0 - 1)) = true) : False := by
  rw [h.2.2.2.2.2.2] at q; cases q
def LevInv (d j : Nat) (row : List Int) (res : Int) : Prop := ∃ r, row = [r] ∧ (j = 0 → r = 2) ∧ (0 < j → j ≤ d → r = 2 * (j : Int)) ∧ (j = d + 1 → res = 2 * (d : Int) + 1) ∧ j ≤ d + 1
theorem LevXY.item {d c e : Nat} {x y : Str} {N : Int} {j : Nat} (h : LevXY d c e x y) (hN : N = 0 + (j : Int)) (hj : j < ((y.length : Int) - 0).toNat) :
    Txt.item x (0 + ((0 : Nat) : Int)) = ⟨#[c]⟩ ∧ ((j < d ∧ Txt.item y N = ⟨#[34]⟩) ∨ (j = d ∧ Txt.item y N = ⟨#[e]⟩)) := by
  obtain ⟨h1, h2, h3, h4, h5, _⟩ := h
  refine ⟨h3, ?_⟩
  rw [h2] at hj
  by_cases q : j < d
  · exact .inl ⟨q, h4 N (by omega) (by omega)⟩
  · have : N = (d : Int) := by omega
    exact .inr ⟨by omega, this ▸ h5⟩
theorem lev_row {j : Nat} {d : Nat} {r : Int} (h1 : j = 0 → r = 2) (h2 : 0 < j → j ≤ d → r = 2 * (j : Int)) (h3 : j ≤ d) : (j = 0 ∧ r = 2) ∨ (0 < j ∧ r = 2 * (j : Int)) := by
  rcases Nat.eq_zero_or_pos j with h | h
  · exact .inl ⟨h, h1 h⟩
  · exact .inr ⟨h, h2 h h3⟩
theorem lev_next {d : Nat} {pre : List Int} {N z : Int} (h1 : pre.length + 1 ≤ d → z = 2 * ((pre.length : Int) + 1)) (h2 : pre.length = d → z = 2 * (d : Int) + 1) (h3 : pre.length ≤ d) : LevInv d (pre ++ [N]).length [z] z := by
  have e : (pre ++ [N]).length = pre.length + 1 := by simp
  rw [e]
  exact ⟨z, rfl, fun h => absurd h (by omega), fun _ h => by have := h1 h; omega, fun h => h2 (by omega), by omega⟩
theorem lev_done {d : Nat} {n : Nat} {row : List Int} {z : Int} (h : LevInv d (rangeKs 0 n).length row z) (hn : n = d + 1) : z = 2 * (d : Int) + 1 := by
  obtain ⟨r, _, _, _, h4, _⟩ := h
  exact h4 (by rw [rangeKs_length]; exact hn)
theorem lev_inv0 (d : Nat) : LevInv d ([] : List Int).length [2] 0 := ⟨2, rfl, fun _ => rfl, fun h => absurd h (by decide), fun h => absurd h (by simp), by simp⟩
end Mine
namespace Mine
open PySem PySem.W PyProof.Rows PyProof
section
variable {prog : Program} {w : World} {A : Around} {E : Value → Shared → Prop} {s : Shared} {env : Env} {h₀ : Heap} {L : Addr} {news : List (Addr × Obj)}
theorem while_never {Q : Flow → Shared → Prop} {test : PySem.Expr} {body : List Stmt} {pos : Pos} {m₀ : Str → Option Value} (F : Fr h₀ L s.heap m₀) (N : News h₀ L s.heap news)
    (turn : ∀ h tk, Fr h₀ L h m₀ → News h₀ L h news → wpAny (model prog w) A (isTrue test env (eval test env)) (fun b s₂ => if b = true then False else Q .next s₂) E { s with heap := h, toks := tk })
    (hE : PassesOwn (model prog w) A env E := by passes_own) : wpAny (model prog w) A (exec (.While test body [] pos) env) Q E s := by
  refine ksw_while (σ := Unit) (fun _ => news) (fun _ => []) (fun _ => True) [] (fun _ => True) (fun _ => 0) () F N trivial (fun _ h => nomatch h) trivial ?_ hE
  intro c u h tk _ _ F' N'
  refine wpAny_mono (turn h tk F' N') (fun b s₂ p => ?_) fun _ _ x => x
  cases b with
  | false => simpa using p
  | true => exact absurd p (by simp)
theorem len_is {x : Str} {t : Tok} {k : Int} {Q : Value → Shared → Prop} (e : (x.length : Int) = k) (hk : k < 2 ^ 63) (h : Q (.int k (s.toks + 1)) { s with toks := s.toks + 1 + 1 }) :
    wpAny (model prog w) A (call (.builtin "len") [.str x t]) Q E s := by
  subst e
  exact PySem.P.len_str (by omega) h
theorem list_two {r : Addr} {b : Int} {t u v : Tok} {m : Str → Option Value} {Q : Value → Shared → Prop} (hb : b = 4) (hh : A.handled = none) (F : Fr h₀ L s.heap m) (N : News h₀ L s.heap news)
    (hr : IsRange s.heap r 2 b 2 t u v)
    (hQ : ∀ D t n h' tk, Fr h₀ L h' m → News h₀ L h' ((D, listOf [Value.int 2 t].toArray n) :: news) → (∀ p ∈ news, p.1 < D) → IntsAre [Value.int 2 t] [2] → Q (.ref D) { s with heap := h', toks := tk }) :
    wpAny (model prog w) A (call (.type "list") [.ref r]) Q E s := by
  subst hb
  refine list_rangeD (n := 1) hh F N hr (by decide) (by decide) (by decide) ?_
  intro h' tk ys F' N' _ hn _ P C
  cases C with
  | cons c r =>
    cases c with
    | int _ t =>
      cases r
      obtain ⟨n, N2⟩ := made_enters P F' N' hn
      exact hQ _ t n h' tk F' N2 (fun p hp => Heap.lt_size (N p hp).1) (.cons 2 t .nil)
theorem min_any {a b : Int} {t u : Tok} {m : Str → Option Value} {Q : Value → Shared → Prop} (hh : A.handled = none) (F : Fr h₀ L s.heap m) (N : News h₀ L s.heap news)
    (h : ∀ z t h' tk, Fr h₀ L h' m → News h₀ L h' news → (z = a ∨ z = b) → z ≤ a → z ≤ b → Q (.int z t) { s with heap := h', toks := tk }) :
    wpAny (model prog w) A (call (.builtin "min") [.int a t, .int b u]) Q E s := by
  refine min_two_N hh F N fun h' tk F' N' => ?_
  by_cases c : b < a
  · simp only [if_pos c]
    exact h b u h' tk F' N' (.inr rfl) (by omega) (by omega)
  · simp only [if_neg c]
    exact h a t h' tk F' N' (.inl rfl) (by omega) (by omega)
theorem row_get {value slice : PySem.Expr} {D : Addr} {vs : List Value} {n : Nat} {k r : Int} {u : Tok} {Q : Value → Shared → Prop} (N : News h₀ L s.heap news) (hm : (D, listOf vs.toArray n) ∈ news) (hi : IntsAre vs [r]) (hk : k = 0) (h : ∀ t, Q (.int r t) s)
    (hs : subscripted slice false (.ref D) (.int k u) = operate [.ref D, .int k u] (getItem (.ref D) (.int k u)) := by with_unfolding_all rfl) :
    wpAny (model prog w) A (subscriptTail value slice (.ref D) (.int k u)) Q E s := by
  subst hk
  exact ksa_sub N hm hi (by decide) (by simp) (by decide) (fun t => h t) hs
theorem row_set {D : Addr} {m : Str → Option Value} {news' : List (Addr × Obj)} {vs : List Value} {n : Nat} {k x r : Int} {t u : Tok} {Q : Unit → Shared → Prop} (F : Fr h₀ L s.heap m) (N : News h₀ L s.heap news) (U : Upd D (listOf vs.toArray n) (listOf (vs.set k.toNat (.int x u)).toArray n) news news') (hi : IntsAre vs [r]) (hk : k = 0)
    (h : ∀ h', Fr h₀ L h' m → News h₀ L h' news' → IntsAre (vs.set k.toNat (.int x u)) [x] → Q () { s with heap := h' }) :
    wpAny (model prog w) A (setItem (.ref D) (.int k t) (.int x u)) Q E s := by
  subst hk
  exact ksa_set F N U hi (by decide) (by simp) (by decide) fun h' F' N' i _ _ => h h' F' N' i
end
theorem sub_q1 {q : Addr × Obj} {l own : List (Addr × Obj)} : ∀ p ∈ q :: l, p ∈ q :: (l ++ own) := fun _ hp => (List.mem_cons.mp hp).elim (fun e => e ▸ .head _) fun h => .tail _ (List.mem_append.mpr (.inl h))
theorem sub_q2 {q : Addr × Obj} {l own : List (Addr × Obj)} : ∀ p ∈ own, p ∈ q :: (l ++ own) := fun _ h => .tail _ (List.mem_append.mpr (.inr h))
theorem off_of {D I : Addr} {o : Obj} {l : List (Addr × Obj)} (h : D < I ∧ AllLt I l) : ∀ p ∈ (D, o) :: l, p.1 ≠ I := by
  intro p hp
  rcases List.mem_cons.mp hp with rfl | hp
  · exact Nat.ne_of_lt h.1
  · exact Nat.ne_of_lt (kst_ltOf h.2 p hp)
end Mine
namespace Mine
open PySem PySem.W PyProof.Rows PyProof
def subF (x y : Str) : Int := if (x == y) = true then 0 else if (Txt.lower x == Txt.lower y) = true then 1 else 2
set_option maxHeartbeats 4000000 in
theorem sub_ct (w : World) (mean : ExcName → Option Value) (mg mb : Str → Option Value) (news : List (Addr × Obj)) (x y : Str) (t u : Tok) (hx : x.length ≤ 1) (hy : y.length ≤ 1) :
    Ctr PySem.Challenge.rw_tx0022_01.row.prog w (hd.heap_39 w.params) hd.view_39 (looseW hd.view_39 [Str.ofString "COMPILER_FLAG_NAMES"]) mean mg mb 68 1 8 news [.str x t, .str y u] (OutI (subF x y) news) := by
  k_with_none
  w_top off
  k_fill
  unfold Ctr
  intro dp un gd cn cs a ccd cl outer A₀ base h₀ L m s Q E B F X N T hk hd hu hret
  refine wpAny_call ?_
  k_dflt cell_enter
  rename Fr _ _ _ _ => F1
  replace F1 : Fr _ _ _ (fun z => List.lookup z [(Str.ofString "ch_b", Value.str y u), (Str.ofString "ch_a", Value.str x t)]) := F1
  k_steps
  all_goals exact hret _ _ _ _ (by assumption) (by assumption) ⟨rfl, _, congrArg (fun z => Value.int z _) (by simp [subF, *])⟩
theorem sub_is {prog : Program} {w : World} {K : Frag} {p : Program} {loose : List Str} {mean : ExcName → Option Value} {mg mb : Str → Option Value} {f : Addr} {D U : Nat} {news : List (Addr × Obj)} {vs : List Value} {r z : Int} (c : Ctr prog w K p loose mean mg mb f D U news vs (OutI r news)) (e : r = z) : Ctr prog w K p loose mean mg mb f D U news vs (OutI z news) := e ▸ c
theorem subF_q (c : Nat) (h : c = 120 ∨ c = 88) : subF ⟨#[34]⟩ ⟨#[c]⟩ = 2 := by
  rcases h with rfl | rfl <;> decide +kernel
theorem subF_c (c e : Nat) (h : (c = 120 ∧ e = 88) ∨ (c = 88 ∧ e = 120)) : subF ⟨#[e]⟩ ⟨#[c]⟩ = 1 := by
  rcases h with ⟨rfl, rfl⟩ | ⟨rfl, rfl⟩ <;> decide +kernel
theorem sub_two {d j c e : Nat} {x y : Str} {N M : Int} (hx : Txt.item x M = ⟨#[c]⟩) (hy : (j < d ∧ Txt.item y N = ⟨#[34]⟩) ∨ (j = d ∧ Txt.item y N = ⟨#[e]⟩)) (h : (c = 120 ∧ e = 88) ∨ (c = 88 ∧ e = 120)) :
    ∃ z, subF (Txt.item y N) (Txt.item x M) = z ∧ ((j < d ∧ z = 2) ∨ (j = d ∧ z = 1)) := by
  rw [hx]
  rcases hy with ⟨h1, h2⟩ | ⟨h1, h2⟩
  · exact ⟨2, by rw [h2]; exact subF_q c (by omega), .inl ⟨h1, rfl⟩⟩
  · exact ⟨1, by rw [h2]; exact subF_c c e h, .inr ⟨h1, rfl⟩⟩
theorem sub_news {h₀ h : Heap} {L : Addr} {q : Addr × Obj} {news : List (Addr × Obj)} (N : News h₀ L h (q :: news)) : News h₀ L h news := fun p hp => N p (.tail _ hp)
theorem drop2 {h₀ h : Heap} {L : Addr} {q p : Addr × Obj} {news : List (Addr × Obj)} (N : News h₀ L h (q :: p :: news)) : News h₀ L h (q :: news) := fun z hz => N z ((List.mem_cons.mp hz).elim (fun e => e ▸ .head _) fun h => .tail _ (.tail _ h))
end Mine
namespace Mine
open PySem PySem.W PyProof.Rows PyProof
local macro_rules | `(tactic| walk_at "exec While BoolOp cons nil") => `(tactic| (refine halt ?_))
local macro_rules | `(tactic| walk_at "subscriptTail Name Slice str ref") => `(tactic| ((with_reducible show wpAny _ _ (subscriptTail _ (Expr.Slice none (some (Expr.BoolOp _ _ _)) none _) _ _) _ _ _); (with_reducible rename Fr _ _ _ _ => F'); (with_reducible rename News _ _ _ _ => N'); (refine slice_strN_id (hsz := ?hsz) (s := ⟨_, _, _, _, _⟩) F' N' ?_); (case hsz => size_fits); intro _ _ _ _ _))
local macro_rules | `(tactic| walk_at "call builtin:len") => `(tactic| ((with_reducible show wpAny _ _ (call (Value.builtin "len") [Value.str _ _]) _ _ _); (with_reducible rename (Str.length _ = 1) => hz1); refine len_is (k := 1) (congrArg Nat.cast hz1) (by decide) ?_))
local macro_rules | `(tactic| walk_at "call type:list") => `(tactic| (k_here; (with_reducible show wpAny _ _ (call (Value.type _) [Value.ref _]) _ _ _); (rename IsRange _ _ _ _ _ _ _ _ => rgX); (rename Fr _ _ _ _ => F'); (rename News _ _ _ _ => N'); (with_unfolding_all refine list_two ?hb rfl F' N' rgX ?_); (case hb => first | rfl | omega); (intro D' t' n' h' tk' F' N' l1 ia); (try k_lt l1)))
local macro_rules | `(tactic| walk_at "exec For Name Call cons nil") => `(tactic| ((with_reducible show wpAny _ _ (exec (Stmt.For (Expr.Name (Str.ofString "bindex") _) _ _ _ _) _) _ _ _); (rename Fr _ _ _ _ => lF'); (with_unfolding_all refine' For_invVF lF' ?k1 ?k2 ?_; (case k1 => exact rfl); (case k2 => exact rfl); k_whole)))
local macro_rules | `(tactic| walk_at "pyIter ref") => `(tactic| ((with_reducible show wpAny _ _ (pyIter (Value.ref _)) (fun it s₂ => LoopAtV _ _ _ _ _ (Str.ofString "bindex") _ _ _ it s₂) _ _); refine halt ?_))
local macro_rules | `(tactic| walk_at "call ref") => `(tactic| (k_here; k_dflt (refine' Ctr.useI (sub_is (sub_ct _ _ _ _ _ _ _ _ _ ?a1 ?a2) ?he) ?k1 ?k2 ?k3 ?k4 ?k5 ?kK ?kd ?ku ?_; (case k1 => k_asm); (case k2 => k_asm); (case k3 => k_asm); (case k4 => k_asm); (case k5 => k_asm); (case kK => first | exact rfl | assumption); (case kd => ktr_room); (case ku => ktr_units); (case he => assumption); (case a1 => first | omega | exact Nat.le_of_ble_eq_true rfl); (case a2 => first | omega | exact Nat.le_of_ble_eq_true rfl)); intro t9 h9 tk9 F9 N9; (try dsimp only); (try k_fold)))
local macro_rules | `(tactic| walk_at "call builtin:min") => `(tactic| (k_here; (with_reducible show wpAny _ _ (call (Value.builtin _) [Value.int _ _, Value.int _ _]) _ _ _); (rename News _ _ _ _ => N'); (rename Fr _ _ _ _ => F'); (with_unfolding_all refine min_any rfl F' N' ?_); intro z' t' h' tk' F' N' z1 z2 z3))
local macro_rules | `(tactic| walk_at "subscriptTail Name Name ref int") => `(tactic| (k_here; (with_reducible show wpAny _ _ (subscriptTail _ _ (Value.ref _) (Value.int _ _)) _ _ _); k_dflt (refine' row_get ?k1 ?k2 ?k3 ?k4 ?_ ?k7; (case k1 => k_asm); (case k2 => k_mem); (case k3 => with_reducible assumption); (case k4 => rfl); (case k7 => with_unfolding_all rfl); k_whole); intro _))
local macro_rules | `(tactic| walk_at "setItem ref int") => `(tactic| (k_here; (with_reducible show wpAny _ _ (setItem (Value.ref _) (Value.int _ _) (Value.int _ _)) _ _ _); k_dflt (refine' row_set ?k1 ?k2 ?k3 ?k4 ?k5 ?_; (case k1 => k_asm); (case k2 => k_asm); (case k3 => k_upd); (case k4 => with_reducible assumption); (case k5 => rfl); k_whole); intro h' F' N' hi'))
local macro_rules | `(tactic| walk_at "UnrEnd") => `(tactic| ((rename News _ _ _ _ => NU); (rename _ ∧ AllLt _ _ => hlt); (with_unfolding_all refine UnrEnd.intro (by assumption) NU _ (fun p hp => hp) (off_of hlt) ?_); refine RangeRest.zero ?_; intro h' tk' F' N'))
local macro_rules | `(tactic| walk_at "InvEndN") => `(tactic| ((rename News _ _ _ _ => nE'); (refine kst_end ⟨_, _, _, _, _⟩ (by assumption) nE' (by exact sub_q1) (by exact sub_q2) (by rfl) (by with_reducible assumption) (by kst_all) (by kst_same) (by kst_p))))
set_option maxHeartbeats 16000000 in
theorem lev_ct (w : World) (mean : ExcName → Option Value) (mg mb : Str → Option Value) (news : List (Addr × Obj)) (k n : Nat) (t u v : Tok) (hk1 : 1 ≤ k) (hk2 : k ≤ 32) (hn1 : 1 ≤ n) (hn2 : n ≤ 32) :
    Ctr PySem.Challenge.rw_tx0022_01.row.prog w (hd.heap_39 w.params) hd.view_39 (looseW hd.view_39 [Str.ofString "COMPILER_FLAG_NAMES"]) mean mg mb 75 2 16 news [.str (Qs k 120) t, .str (Qs n 88) u, .int 80 v] (OutI (levF k n) news) := by
  k_with_none
  w_top off
  k_fill
  unfold Ctr
  intro dp un gd cn cs a ccd cl outer A₀ base h₀ L m s Q E B F X N T hk hd hu hret
  have hl1 : (Qs k 120).length = k + 1 := Qs_len k 120
  have hl2 : (Qs n 88).length = n + 1 := Qs_len n 88
  refine wpAny_call ?_
  k_dflt cell_enter
  rename Fr _ _ _ _ => F1
  replace F1 : Fr _ _ _ (fun z => List.lookup z [(Str.ofString "max_cost", Value.int 80 v), (Str.ofString "b", Value.str (Qs n 88) u), (Str.ofString "a", Value.str (Qs k 120) t)]) := F1
  k_steps
  · exfalso; exact Qs_ne (by assumption)
  refine Halt.out ?_
  k_with "state" => exact ⟨by omega, by omega, by omega⟩
  k_with "state" => exact lev_turn (k := k) (n := n) (by assumption) (by assumption) (by assumption) (by assumption)
  k_while (fun _ i => 0 ≤ i ∧ i ≤ (k : Int) ∧ i ≤ (n : Int)) (fun _ i => (100 - i).toNat) "pre"
  k_steps
  rotate_left
  · rename Int => i0; exfalso; exact lev_pos (k := n) (c := 88) (i := i0) (by assumption) (by assumption) (by assumption)
  · rename Int => i0; exfalso; exact lev_pos (k := k) (c := 120) (i := i0) (by assumption) (by assumption) (by assumption)
  refine Halt.out ?_
  rename Int => i0
  have hmin := lev_min (k := k) (n := n) (i := i0) (by assumption) (by assumption) (by assumption) (by assumption)
  rename Fr _ _ _ _ => FF
  have es1 : Txt.slice (Qs k 120) (some i0) none = Qs (k - i0.toNat) 120 := slice_Qs (by assumption) (by assumption)
  have es2 : Txt.slice (Qs n 88) (some i0) none = Qs (n - i0.toNat) 88 := slice_Qs (by assumption) (by assumption)
  simp only [es1, es2] at FF
  rcases hmin with ⟨rfl, hkn⟩ | ⟨rfl, hkn⟩
  · have e1 : k - (k : Int).toNat = 0 := by omega
    obtain ⟨d, e2⟩ : ∃ d, n - (k : Int).toNat = d := ⟨_, rfl⟩
    rw [e1, e2] at FF
    have hd1 : d ≤ 31 := by omega
    have hd2 : d = n - k := by omega
    clear e2
    obtain ⟨x, y, ex, ey, hxy⟩ := lev_short d 120 88 (by decide)
    rw [ex, ey] at FF
    clear es1 es2 e1 ex ey hl1 hl2
    iterate 8 (try (rename (Str.length (Txt.slice _ _ _) ≤ _) => z; clear z))
    iterate 8 (try (rename (_ ∧ (_ → _ = 0)) => z; clear z))
    iterate 8 (try (rename (_ ≠ 0) => z; clear z))
    iterate 8 (try (rename ((_ == _) = false) => z; clear z))
    iterate 8 (try (rename (1 ≤ _ ∧ _ ≤ 1) => z; clear z))
    have hx1 : x.length = 1 := hxy.1
    have hy1 : y.length = d + 1 := hxy.2.1
    refine while_never FF (by assumption) ?_
    intro h9 tk9 F9 N9
    clear FF
    k_steps
    all_goals first | (exfalso; omega) | (exfalso; exact hxy.last (by assumption)) | refine Halt.out ?_
    all_goals (
      have st0 := lev_inv0 d
      k_with "state" => exact st0
      k_with "state" => exact lev_next (by omega) (by omega) (by omega)
      k_state (fun pre row result => LevInv d pre.length row result) "row" "result"
      · obtain ⟨r, er, hI⟩ := kInv
        subst er
        obtain ⟨i1, i2, i3, i4⟩ := hI
        have hitem := hxy.item kEq kLt
        obtain ⟨hx0, hi⟩ := hitem
        have hr := lev_row (d := d) i1 i2 (by omega)
        clear i1 i2 i3 i4
        obtain ⟨zs, hsub, hz⟩ := sub_two hx0 hi (by simp)
        clear hx0 hi
        k_steps
      · have hres := lev_done kInv (by omega)
        clear kInv
        k_steps
        exact hret _ _ _ _ (by assumption) (sub_news (by assumption)) ⟨rfl, _, congrArg (fun z => Value.int z _) (by rw [hres]; unfold levF; split <;> omega)⟩)
  · have e1 : n - (n : Int).toNat = 0 := by omega
    obtain ⟨d, e2⟩ : ∃ d, k - (n : Int).toNat = d := ⟨_, rfl⟩
    rw [e1, e2] at FF
    have hd1 : d ≤ 31 := by omega
    have hd2 : d = k - n := by omega
    clear e2
    obtain ⟨x, y, ex, ey, hxy⟩ := lev_short d 88 120 (by decide)
    rw [ex, ey] at FF
    clear es1 es2 e1 ex ey hl1 hl2
    iterate 8 (try (rename (Str.length (Txt.slice _ _ _) ≤ _) => z; clear z))
    iterate 8 (try (rename (_ ∧ (_ → _ = 0)) => z; clear z))
    iterate 8 (try (rename (_ ≠ 0) => z; clear z))
    iterate 8 (try (rename ((_ == _) = false) => z; clear z))
    iterate 8 (try (rename (1 ≤ _ ∧ _ ≤ 1) => z; clear z))
    have hx1 : x.length = 1 := hxy.1
    have hy1 : y.length = d + 1 := hxy.2.1
    refine while_never FF (by assumption) ?_
    intro h9 tk9 F9 N9
    clear FF
    k_steps
    all_goals first | (exfalso; omega) | (exfalso; exact hxy.last' (by assumption)) | refine Halt.out ?_
    all_goals (
      rename News _ _ _ _ => NN
      replace NN := drop2 NN
      have st0 := lev_inv0 d
      k_with "state" => exact st0
      k_with "state" => exact lev_next (by omega) (by omega) (by omega)
      k_state (fun pre row result => LevInv d pre.length row result) "row" "result"
      · obtain ⟨r, er, hI⟩ := kInv
        subst er
        obtain ⟨i1, i2, i3, i4⟩ := hI
        have hitem := hxy.item kEq kLt
        obtain ⟨hx0, hi⟩ := hitem
        have hr := lev_row (d := d) i1 i2 (by omega)
        clear i1 i2 i3 i4
        obtain ⟨zs, hsub, hz⟩ := sub_two hx0 hi (by simp)
        clear hx0 hi
        k_steps
      · have hres := lev_done kInv (by omega)
        clear kInv
        k_steps
        exact hret _ _ _ _ (by assumption) (sub_news (by assumption)) ⟨rfl, _, congrArg (fun z => Value.int z _) (by rw [hres]; unfold levF; split <;> omega)⟩)
end Mine
namespace Mine
open PySem PySem.W PyProof.Rows PyProof PySem.Calls
abbrev litObj (l : Addr) (i : Nat) : Obj := { cls := .type "list_iterator", data := .fields #[.ref l, .int (i : Int) 0] }
section
variable {prog : Program} {w : World} {A : Around} {E : Value → Shared → Prop} {s : Shared} {h₀ : Heap} {L it l : Addr} {m : Str → Option Value} {news news' : List (Addr × Obj)} {items : Array Value} {i n : Nat} {x : Value}
theorem lst_iter {Q : Value → Shared → Prop} (F : Fr h₀ L s.heap m) (N : News h₀ L s.heap news) (hp : (l, listOf items n) ∈ news)
    (h : ∀ (I : Addr) h', Fr h₀ L h' m → News h₀ L h' ((I, litObj l 0) :: news) → (∀ p ∈ news, p.1 < I) → Q (.ref I) { s with heap := h' }) :
    wpAny (model prog w) A (call (.builtin "iter") [.ref l]) Q E s := by
  have hl : s.heap.IsList l items := ⟨_, (N _ hp).1, rfl, n, rfl⟩
  refine call_function_entry (by decide +kernel) (by decide +kernel) kdk_entry_iter (kdk_args_iter _) ?_
  unfold Builtin.«iter»
  refine wpAny_bind (m := someArgs "iter" 1 2 _) (wpAny_of_eq (a := [Value.ref l]) (by first | rfl | kernel_rfl!) ?_)
  show wpAny _ _ (pyIter (.ref l) >>= _) _ _ _
  refine wpAny_bind (wpAny_pyIter_list hl ?_)
  exact wpAny_pure ⟨_, rfl, h _ _ (F.push _) (News.push F N _ rfl) (fun q hq => Heap.lt_size (N q hq).1)⟩
theorem lit_step (l : Addr) (i : Nat) : Obj.mapFields (·.setIfInBounds 1 (rawInt ((i : Int) + 1))) (litObj l i) = litObj l (i + 1) := by
  show ({ cls := .type "list_iterator", data := .fields (#[Value.ref l, .int (i : Int) 0].setIfInBounds 1 (rawInt ((i : Int) + 1))) } : Obj) = _
  simp [rawInt]
theorem lst_special {Q : Option Value → Shared → Prop} (ho : s.heap.get? it = some (litObj l i)) (hl : s.heap.IsList l items) (hx : items[i]? = some x)
    (hQ : Q (some x) { s with heap := s.heap.update it (Obj.mapFields (·.setIfInBounds 1 (rawInt ((i : Int) + 1)))) }) :
    wpAny (model prog w) A (callSpecial? (.ref it) (Str.ofString "__next__")) Q E s := by
  have hit : s.heap.IsListIter it l i := ⟨_, ho, rfl, rfl⟩
  obtain ⟨ol, hol, _, nl, hdl⟩ := hl
  have hd : (litObj l i).data = .fields #[.ref l, .int (i : Int) 0] := rfl
  refine wpAny_callSpecial?_slot (name := Str.ofString "__next__") hit.typeIs slot_listiter_next
    (wpAny_call_entry slot_listiter_next hit.typeIs entry_listiter_next ?_ (args_listiter_next _))
  show wpAny _ _ (field (.ref it) 0 >>= _) _ _ s
  refine wpAny_bind (wpAny_field ho hd (x := .ref l) rfl ?_)
  show wpAny _ _ (if (Value.ref l == Value.none) = true then _ else _) _ _ s
  rw [if_neg (show ¬ ((Value.ref l == Value.none) = true) from Bool.false_ne_true)]
  show wpAny _ _ (field (.ref it) 1 >>= _) _ _ s
  refine wpAny_bind (wpAny_field ho hd (x := .int i 0) rfl ?_)
  show wpAny _ _ (seqItems? (.ref l) >>= _) _ _ s
  refine wpAny_bind (wpAny_seqItems hol hdl ?_)
  simp only [Int.toNat_natCast, hx]
  exact wpAny_bind (wpAny_setField ho hd (by simp) (wpAny_pure ⟨x, rfl, hQ⟩))
theorem lst_next {Q : Value → Shared → Prop} (F : Fr h₀ L s.heap m) (N : News h₀ L s.heap news) (U : Upd it (litObj l i) (litObj l (i + 1)) news news') (hp : (l, listOf items n) ∈ news) (hx : items[i]? = some x)
    (h : ∀ h', Fr h₀ L h' m → News h₀ L h' news' → Q x { s with heap := h' }) :
    wpAny (model prog w) A (call (.builtin "next") [.ref it]) Q E s := by
  obtain ⟨pre, post, rfl, rfl, a, b⟩ := U.split
  have hm := N (it, litObj l i) (List.mem_append_right _ (.head _))
  have hl : s.heap.IsList l items := ⟨_, (N _ hp).1, rfl, n, rfl⟩
  have hit : s.heap.IsListIter it l i := ⟨_, hm.1, rfl, rfl⟩
  refine call_function_entry (by decide +kernel) (by decide +kernel) kdk_entry_next (kdk_args_next _) ?_
  unfold Builtin.«next»
  refine wpAny_bind (m := someArgs "next" 1 2 _) (wpAny_of_eq (a := [Value.ref it]) (by first | rfl | kernel_rfl!) ?_)
  dsimp only
  refine wpAny_bind (wpAny_specialOf (name := Str.ofString "__next__") hit.typeIs slot_listiter_next.lookup ?_)
  refine wpAny_ite_split (fun hab => absurd hab (by decide)) (fun _ => ?_)
  refine wpAny_bind (lst_special hm.1 hl hx ?_)
  obtain ⟨F', N'⟩ := news_upd F N a b (lit_step l i) rfl
  exact wpAny_pure ⟨_, rfl, h _ F' N'⟩
end
end Mine
namespace Mine
open PySem PySem.W PyProof.Rows PyProof
def valF (l : List Int) : Int := l.foldl (fun v b => v * 64 + b % 64) 0
def SegOk (seg : List Int) : Prop := 1 ≤ seg.length ∧ seg.length ≤ 6 ∧ ∀ c b, seg[c]? = some b → 0 ≤ b ∧ b < 128 ∧ (c + 1 < seg.length → 64 ≤ b) ∧ (c + 1 = seg.length → b < 64)
theorem valF_take {seg : List Int} {c : Nat} {b : Int} (h : seg[c]? = some b) : valF (seg.take (c + 1)) = valF (seg.take c) * 64 + b % 64 := by
  rw [List.take_add_one, h]
  simp [valF, List.foldl_append]
theorem valF_bound (l : List Int) : 0 ≤ valF l ∧ valF l < 64 ^ l.length := by
  have key : ∀ (l : List Int) (v : Int) (n : Nat), 0 ≤ v → v < 64 ^ n → 0 ≤ l.foldl (fun v b => v * 64 + b % 64) v ∧ l.foldl (fun v b => v * 64 + b % 64) v < 64 ^ (n + l.length) := by
    intro l
    induction l with
    | nil => intro v n h0 h1; exact ⟨h0, by simpa using h1⟩
    | cons b r ih =>
      intro v n h0 h1
      have := ih (v * 64 + b % 64) (n + 1) (by omega) (by rw [Int.pow_succ]; omega)
      rw [List.foldl_cons, List.length_cons]
      rw [show n + (r.length + 1) = n + 1 + r.length by omega]
      exact this
  have := key l 0 0 (by decide) (by decide)
  rw [Nat.zero_add] at this
  exact this
theorem seg_at {seg : List Int} (h : SegOk seg) {c : Nat} (hc : c < seg.length) : ∃ b, seg[c]? = some b ∧ 0 ≤ b ∧ b < 128 ∧ (c + 1 < seg.length → 64 ≤ b) ∧ (c + 1 = seg.length → b < 64) :=
  ⟨_, List.getElem?_eq_getElem hc, h.2.2 c _ (List.getElem?_eq_getElem hc)⟩
theorem seg_item {seg ns : List Int} {vs : List Value} {j c : Nat} {b : Int} (hi : IntsAre vs ns) (hs : ∀ c b, seg[c]? = some b → ns[j + c]? = some b) (h : seg[c]? = some b) : ∃ t, vs.toArray[j + c]? = some (.int b t) := by
  obtain ⟨t, e⟩ := hi.get (j + c) b (hs c b h)
  exact ⟨t, by simpa using e⟩
theorem band63 {b : Int} (h0 : 0 ≤ b) (h1 : b < 128) : Builtin.bitAnd b 63 = b % 64 := by
  obtain ⟨n, rfl⟩ := Int.eq_ofNat_of_zero_le h0
  have h : ∀ n : Fin 128, Builtin.bitAnd ((n.val : Nat) : Int) 63 = ((n.val : Nat) : Int) % 64 := by decide +kernel
  exact h ⟨n, by omega⟩
theorem band64 {b : Int} (h0 : 0 ≤ b) (h1 : b < 128) : Builtin.bitAnd b 64 = if 64 ≤ b then 64 else 0 := by
  obtain ⟨n, rfl⟩ := Int.eq_ofNat_of_zero_le h0
  have h : ∀ n : Fin 128, Builtin.bitAnd ((n.val : Nat) : Int) 64 = if 64 ≤ ((n.val : Nat) : Int) then 64 else 0 := by decide +kernel
  exact h ⟨n, by omega⟩
def VarInv (seg : List Int) (c : Nat) (v b : Int) : Prop := 1 ≤ c ∧ c ≤ seg.length ∧ v = valF (seg.take c) ∧ seg[c - 1]? = some b
theorem pow64 {a b : Nat} (h : a ≤ b) : (64 : Int) ^ a ≤ 64 ^ b := by
  have := Nat.pow_le_pow_right (n := 64) (by decide) h
  exact_mod_cast this
theorem var_next {seg : List Int} {c : Nat} {v b b' : Int} (h : VarInv seg c v b) (h' : seg[c]? = some b') : VarInv seg (c + 1) (v * 64 + b' % 64) b' := by
  obtain ⟨h1, h2, h3, h4⟩ := h
  have q : c < seg.length := by
    rcases Nat.lt_or_ge c seg.length with q | q
    · exact q
    · rw [List.getElem?_eq_none q] at h'; cases h'
  exact ⟨by omega, q, by rw [valF_take h', h3], h'⟩
theorem var_end {seg : List Int} {c : Nat} {v b : Int} (ok : SegOk seg) (h : VarInv seg c v b) (hb : Builtin.bitAnd b 64 = 0) : c = seg.length ∧ v = valF seg := by
  obtain ⟨p1, p2, p3, p4⟩ := h
  obtain ⟨q1, q2, q3, q4⟩ := ok.2.2 _ _ p4
  rw [band64 q1 q2] at hb
  by_cases q : c = seg.length
  · exact ⟨q, by rw [p3, q, List.take_length]⟩
  · have := q3 (by omega)
    rw [if_pos this] at hb
    exact absurd hb (by decide)
theorem var_more {seg : List Int} {c : Nat} {v b : Int} (ok : SegOk seg) (h : VarInv seg c v b) (hb : Builtin.bitAnd b 64 ≠ 0) : ∃ b', seg[c]? = some b' ∧ 0 ≤ b' ∧ b' < 128 ∧ c < seg.length := by
  obtain ⟨p1, p2, p3, p4⟩ := h
  obtain ⟨q1, q2, q3, q4⟩ := ok.2.2 _ _ p4
  by_cases q : c = seg.length
  · have := q4 (by omega)
    rw [band64 q1 q2, if_neg (by omega)] at hb
    exact absurd rfl hb
  · obtain ⟨b', e, h1, h2, _⟩ := seg_at ok (c := c) (by omega)
    exact ⟨b', e, h1, h2, by omega⟩
theorem bor6 {v b : Int} (h0 : 0 ≤ v) (hb0 : 0 ≤ b) (hb1 : b < 128) : Builtin.bitOr (v * 2 ^ Int.toNat 6) (Builtin.bitAnd b 63) = v * 64 + b % 64 := by
  rw [band63 hb0 hb1, bitOr_and, bitAnd_pp (Int.mul_nonneg h0 (by decide)) (by omega)]
  obtain ⟨n, rfl⟩ := Int.eq_ofNat_of_zero_le h0
  have e : ((n : Int) * 2 ^ Int.toNat 6).toNat = n <<< 6 := by
    rw [Nat.shiftLeft_eq]
    show ((n : Int) * 64).toNat = n * 64
    omega
  have z : n <<< 6 &&& (b % 64).toNat = 0 := by
    refine Nat.eq_of_testBit_eq fun i => ?_
    rw [Nat.testBit_and, Nat.testBit_shiftLeft, Nat.zero_testBit]
    by_cases q : 6 ≤ i
    · have : (b % 64).toNat < 2 ^ i := Nat.lt_of_lt_of_le (show (b % 64).toNat < 2 ^ 6 by omega) (Nat.pow_le_pow_right (by decide) q)
      rw [Nat.testBit_lt_two_pow this]; simp
    · simp [show ¬ i ≥ 6 from q]
  rw [e, z]
  show (n : Int) * 64 + b % 64 - 0 = (n : Int) * 64 + b % 64
  omega
theorem var_inv1 {seg : List Int} {b : Int} (h : seg[0]? = some b) : VarInv seg 1 (b % 64) b := by
  have h1 : 0 < seg.length := by
    rcases Nat.lt_or_ge 0 seg.length with q | q
    · exact q
    · rw [List.getElem?_eq_none q] at h; cases h
  refine ⟨Nat.le_refl _, h1, ?_, h⟩
  rw [show (1 : Nat) = 0 + 1 from rfl, valF_take h]
  simp [valF]
local macro_rules | `(tactic| walk_at "exec While BinOp cons nil") => `(tactic| (refine halt ?_))
local macro_rules | `(tactic| walk_at "call builtin:next") => `(tactic| (refine halt ?_))
set_option maxHeartbeats 4000000 in
theorem var_ct (w : World) (mean : ExcName → Option Value) (mg mb : Str → Option Value) (news : List (Addr × Obj)) (I R : Addr) (vs : List Value) (ns seg : List Int) (nn j : Nat) (hR : (R, listOf vs.toArray nn) ∈ news) (hI : ∀ p ∈ news, p.1 ≠ I) (hi : IntsAre vs ns) (hs : ∀ c b, seg[c]? = some b → ns[j + c]? = some b) (ok : SegOk seg) :
    Ctr PySem.Challenge.rw_tx0022_01.row.prog w (hd.heap_39 w.params) hd.view_39 (looseW hd.view_39 [Str.ofString "COMPILER_FLAG_NAMES"]) mean mg mb 61 1 8 ((I, litObj R j) :: news) [.ref I] (OutI (valF seg) ((I, litObj R (j + seg.length)) :: news)) := by
  k_with_none
  w_top off
  k_fill
  unfold Ctr
  intro dp un gd cn cs a ccd cl outer A₀ base h₀ L m s Q E B F X N T hk hd hu hret
  refine wpAny_call ?_
  k_dflt cell_enter
  rename Fr _ _ _ _ => F1
  replace F1 : Fr _ _ _ (fun z => List.lookup z [(Str.ofString "iterator", Value.ref I)]) := F1
  k_steps
  refine Halt.out ?_
  obtain ⟨b0, e0, hb0, hb1, hb2, hb3⟩ := seg_at ok (c := 0) (by have := ok.1; omega)
  obtain ⟨t0, i0⟩ := seg_item hi hs e0
  refine lst_next F1 (by assumption) (Upd.head hI) (.tail _ hR) i0 ?_
  intro h9 F9 N9
  clear F1
  k_steps
  refine Halt.out ?_
  rename Fr _ _ _ _ => FF
  rename News _ _ _ _ => NN
  have eb : Builtin.bitAnd b0 63 = b0 % 64 := band63 hb0 hb1
  rw [eb] at FF
  refine' ksw_while (σ := Nat × Int × Nat × Int × Nat) (fun c => (I, litObj R (j + c.1)) :: news) (fun c => [(Str.ofString "val", .int c.2.1 c.2.2.1), (Str.ofString "b", .int c.2.2.2.1 c.2.2.2.2)]) (fun _ => True) []
    (fun c => VarInv seg c.1 c.2.1 c.2.2.2.1) (fun c => seg.length - c.1) ⟨1, b0 % 64, _, b0, _⟩ FF NN trivial ?k1 (var_inv1 e0) ?k2 (by passes_own)
  case k1 => kst_all
  case k2 =>
    intro c u h tk _ P F9 N9
    obtain ⟨c, val, t1, b, t2⟩ := c
    dsimp only at P F9 N9 ⊢
    clear FF NN
    have PP := P
    obtain ⟨p1, p2, p3, p4⟩ := P
    have hv0 : 0 ≤ val := p3 ▸ (valF_bound _).1
    have hv1 : val < 2 ^ 36 := by
      have h1 := (valF_bound (seg.take c)).2
      have h2 : (64 : Int) ^ (seg.take c).length ≤ 64 ^ 6 := pow64 (by rw [List.length_take]; have := ok.2.1; omega)
      rw [← p3] at h1
      exact Int.lt_of_lt_of_le h1 (Int.le_trans h2 (by decide))
    (all_goals try k_fold)
    k_steps
    · refine Halt.out ?_
      rename ¬ Builtin.bitAnd b 64 = 0 => hb
      obtain ⟨b1, e1, hb2, hb3, hc9⟩ := var_more ok PP hb
      obtain ⟨t1, i1⟩ := seg_item hi hs e1
      rename Fr _ _ _ _ => FF
      refine lst_next FF (by assumption) (Upd.head hI) (.tail _ hR) i1 ?_
      intro h9 F9 N9
      clear FF
      k_steps
      rename Fr _ _ _ _ => FF
      rename News _ _ _ _ => NN
      rw [bor6 hv0 hb2 hb3] at FF
      refine' ksw_end ⟨c + 1, _, _, b1, _⟩ FF NN (fun p hp => hp) trivial ?hk ?hr (var_next PP e1) ?hm
      case hk => kst_all
      case hr =>
        intro z h2 h3
        have hv : ¬ z = Str.ofString "val" := h2 _ (.head _)
        have hb : ¬ z = Str.ofString "b" := h2 _ (.tail _ (.head _))
        simp [kstB, hv, hb]
      case hm => exact Nat.sub_lt_sub_left hc9 (Nat.lt_succ_self c)
    · obtain ⟨ec, ev⟩ := var_end ok PP (by assumption)
      rename News _ _ _ _ => NN
      rw [ec] at NN
      exact hret _ _ _ _ (by assumption) NN ⟨rfl, _, congrArg (fun z => Value.int z _) ev⟩
end Mine
namespace Mine
open PySem PySem.W PyProof.Rows PyProof
def octGo : Nat → Int → List Int → List Int
  | 0, _, row => row
  | k + 1, left, row => if 0 < left then octGo k (left / 64) ((left % 64 + 64) :: row) else row
def octF (x : Int) : List Int := octGo 6 (x / 64) [x % 64]
def OctInv (x left : Int) (row : List Int) : Prop := 0 ≤ left ∧ ∃ k : Nat, left < 64 ^ k ∧ octGo k left row = octF x ∧ row.length + k ≤ 8
theorem oct_inv0 {x : Int} (h0 : 0 ≤ x) (h1 : x < 2 ^ 36) : OctInv x (x.fdiv 64) [x.fmod 64] := by
  rw [Int.fdiv_eq_ediv_of_nonneg x (by decide), Int.fmod_eq_emod_of_nonneg x (by decide)]
  exact ⟨by omega, 6, by (show x / 64 < 68719476736); omega, rfl, by simp⟩
theorem oct_next {x left : Int} {row : List Int} (h : OctInv x left row) (hp : 0 < left) : OctInv x (left.fdiv 64) ([left.fmod 64 + 64] ++ row) := by
  obtain ⟨h0, k, h1, h2, h3⟩ := h
  rw [Int.fdiv_eq_ediv_of_nonneg left (by decide), Int.fmod_eq_emod_of_nonneg left (by decide)]
  cases k with
  | zero => exact absurd h1 (by simp; omega)
  | succ k =>
    refine ⟨by omega, k, ?_, ?_, by simp only [List.length_append, List.length_singleton]; omega⟩
    · rw [Int.pow_succ] at h1; omega
    · rw [← h2]
      show _ = if 0 < left then _ else _
      rw [if_pos hp]; rfl
theorem oct_end {x left : Int} {row : List Int} (h : OctInv x left row) (hp : ¬ 0 < left) : row = octF x := by
  obtain ⟨h0, k, h1, h2, h3⟩ := h
  rw [← h2]
  cases k with
  | zero => rfl
  | succ k =>
    show _ = if 0 < left then _ else _
    rw [if_neg hp]
theorem OctInv.len {x left : Int} {row : List Int} (h : OctInv x left row) : row.length ≤ 8 := by
  obtain ⟨h0, k, h1, h2, h3⟩ := h
  omega
theorem news_one {h₀ h : Heap} {L : Addr} {q : Addr × Obj} {l l' : List (Addr × Obj)} (N : News h₀ L h (q :: l')) (hs : ∀ p ∈ l, p ∈ l') : News h₀ L h (q :: l) := fun z hz => N z ((List.mem_cons.mp hz).elim (fun e => e ▸ .head _) fun h => .tail _ (hs z h))
theorem fdiv_less {l : Int} (h : 0 < l) : (l.fdiv 64).toNat < l.toNat := by
  rw [Int.fdiv_eq_ediv_of_nonneg l (by decide)]; omega
local macro_rules | `(tactic| walk_at "exec While Compare cons nil") => `(tactic| (refine halt ?_))
local macro_rules | `(tactic| walk_at "binaryOp Add ref ref") => `(tactic| (refine halt ?_))
set_option maxHeartbeats 4000000 in
theorem oct_ct (w : World) (mean : ExcName → Option Value) (mg mb : Str → Option Value) (news : List (Addr × Obj)) (x : Int) (t : Tok) (h0 : 0 ≤ x) (h1 : x < 2 ^ 36) :
    Ctr PySem.Challenge.rw_tx0022_01.row.prog w (hd.heap_39 w.params) hd.view_39 (looseW hd.view_39 [Str.ofString "COMPILER_FLAG_NAMES"]) mean mg mb 82 1 8 news [.int x t]
      (fun v n' => ∃ D vs nn, v = .ref D ∧ n' = (D, listOf (List.toArray vs) nn) :: news ∧ IntsAre vs (octF x) ∧ ∀ p ∈ news, p.1 < D) := by
  k_with_none
  w_top off
  k_fill
  unfold Ctr
  intro dp un gd cn cs a ccd cl outer A₀ base h₀ L m s Q E B F X N T hk hd hu hret
  refine wpAny_call ?_
  k_dflt cell_enter
  rename Fr _ _ _ _ => F1
  replace F1 : Fr _ _ _ (fun z => List.lookup z [(Str.ofString "number", Value.int x t)]) := F1
  k_steps
  refine Halt.out ?_
  rename Fr _ _ _ _ => FF
  rename News _ _ _ _ => NN
  refine' ksw_while (σ := Addr × List Value × Nat × List Int × Int × Nat) (fun c => (c.1, listOf c.2.1.toArray c.2.2.1) :: news) (fun c => [(Str.ofString "row", .ref c.1), (Str.ofString "left", .int c.2.2.2.2.1 c.2.2.2.2.2)]) (fun c => IntsAre c.2.1 c.2.2.2.1 ∧ ∀ p ∈ news, p.1 < c.1) []
    (fun c => OctInv x c.2.2.2.2.1 c.2.2.2.1) (fun c => c.2.2.2.2.1.toNat) ⟨_, _, _, [x.fmod 64], _, _⟩ FF NN ?k0 ?k1 ?kp ?k2 (by passes_own)
  case k1 => kst_all
  case k0 => exact ⟨.cons _ _ .nil, by assumption⟩
  case kp => exact oct_inv0 h0 h1
  case k2 =>
    intro c u h tk I9 P F9 N9
    obtain ⟨D, vs, nn, ns, left, t2⟩ := c
    dsimp only at I9 P F9 N9 ⊢
    obtain ⟨I9, l9⟩ := I9
    clear FF NN
    simp only [kstB] at F9
    have hlen := P.len
    k_steps
    · refine Halt.out ?_
      rename Fr _ _ _ _ => FF
      rename News _ _ _ _ => NN
      refine kmk_add_ints FF NN (PySem.IsL.isList (n := 0) (NN _ (.head _)).1) (PySem.IsL.isList (n := nn) (NN _ (.tail _ (.head _))).1) (.cons _ _ .nil) I9 ?_ (by rw [sizeLine_eq]; simp only [List.length_singleton]; omega)
      intro D' us h' F' N' l1 hI'
      clear FF NN
      k_steps
      rename Fr _ _ _ _ => FF
      rename News _ _ _ _ => NN
      refine' ksw_end ⟨D', us, 0, _, _, _⟩ FF (news_one NN fun p hp => .tail _ (.tail _ hp)) (fun p hp => hp) ⟨hI', fun p hp => l1 p (.tail _ (.tail _ hp))⟩ ?hk ?hr (oct_next P (by assumption)) ?hm
      case hk => kst_all
      case hr =>
        intro z h2 h3
        have hv : ¬ z = Str.ofString "row" := h2 _ (.head _)
        have hb : ¬ z = Str.ofString "left" := h2 _ (.tail _ (.head _))
        simp [hv, hb]
      case hm =>
        rename 0 < left => hl
        exact fdiv_less hl
    · have hrow := oct_end P (by assumption)
      rw [hrow] at I9
      exact hret _ _ _ _ (by assumption) (by assumption) ⟨_, _, _, rfl, rfl, I9, l9⟩
end Mine
namespace Mine
open PySem PySem.W PyProof.Rows PyProof
theorem euc_turn {x y : Int} {i j : Int} (hi : 0 ≤ i) (hj : 0 ≤ j) (h : 0 < j) (I : Int.gcd i j = Int.gcd x y) : 0 ≤ j ∧ 0 ≤ Int.fmod i j ∧ Int.gcd j (Int.fmod i j) = Int.gcd x y := by
  refine ⟨hj, fmod_lo i h, ?_⟩
  rw [← I, Int.fmod_eq_emod_of_nonneg i hj]
  obtain ⟨a, rfl⟩ := Int.eq_ofNat_of_zero_le hi
  obtain ⟨b, rfl⟩ := Int.eq_ofNat_of_zero_le hj
  show Nat.gcd _ _ = Nat.gcd _ _
  have e : (((a : Int) % (b : Int))).natAbs = a % b := by
    rw [← Int.natCast_emod]; rfl
  rw [e]
  show Nat.gcd b (a % b) = Nat.gcd a b
  rw [Nat.gcd_comm a b, Nat.gcd_rec b a, Nat.gcd_comm]
theorem euc_end {x y : Int} {i j : Int} (hi : 0 ≤ i) (hj : 0 ≤ j) (h : ¬ 0 < j) (I : Int.gcd i j = Int.gcd x y) : i = (Int.gcd x y : Int) := by
  have : j = 0 := by omega
  subst this
  rw [← I]
  obtain ⟨a, rfl⟩ := Int.eq_ofNat_of_zero_le hi
  simp [Int.gcd]
theorem euc_less {i j : Int} (h : 0 < j) : (Int.fmod i j).toNat < j.toNat := by
  have := fmod_hi i h
  have := fmod_lo i h
  omega
local macro_rules | `(tactic| walk_at "exec While Compare cons nil") => `(tactic| (refine halt ?_))
set_option maxHeartbeats 4000000 in
theorem euc_ct (w : World) (mean : ExcName → Option Value) (mg mb : Str → Option Value) (news : List (Addr × Obj)) (x y : Int) (t u : Tok) (hx : 0 ≤ x) (hy : 0 ≤ y) :
    Ctr PySem.Challenge.rw_tx0022_01.row.prog w (hd.heap_39 w.params) hd.view_39 (looseW hd.view_39 [Str.ofString "COMPILER_FLAG_NAMES"]) mean mg mb 101 1 8 news [.int x t, .int y u] (OutI (Int.gcd x y) news) := by
  k_with_none
  w_top off
  k_fill
  unfold Ctr
  intro dp un gd cn cs a ccd cl outer A₀ base h₀ L m s Q E B F X N T hk hd hu hret
  refine wpAny_call ?_
  k_dflt cell_enter
  rename Fr _ _ _ _ => F1
  replace F1 : Fr _ _ _ (fun z => List.lookup z [(Str.ofString "other", Value.int y u), (Str.ofString "one", Value.int x t)]) := F1
  k_steps
  refine Halt.out ?_
  have g1 : 0 ≤ x ∧ 0 ≤ y ∧ Int.gcd x y = Int.gcd x y := ⟨hx, hy, rfl⟩
  k_with "state" => exact g1
  k_with "state" => exact euc_turn (by assumption) (by assumption) (by assumption) (by assumption)
  k_with "measure" => exact euc_less (by assumption)
  k_while (fun _ i j => 0 ≤ i ∧ 0 ≤ j ∧ Int.gcd i j = Int.gcd x y) (fun _ i j => j.toNat) "one" "other"
  k_steps
  exact hret _ _ _ _ (by assumption) (by assumption) ⟨rfl, _, congrArg (fun z => Value.int z _) (euc_end (by assumption) (by assumption) (by assumption) (by assumption))⟩
end Mine
namespace Mine
open PySem PySem.W PyProof.Rows PyProof PySem.Calls PyProof.Rows.LCg
def R3Src (prog : Program) (w : World) (A : Around) (h₀ : Heap) (L : Addr) (m : Str → Option Value) (env : Env) (elt : PySem.Expr) (x : Str) (scope : Scope) (cl : List (Str × Addr)) (Q : Value → Shared → Prop) (xv : Value) (s₁ : Shared) : Prop :=
  ∃ r a b c t u v n news, xv = .ref r ∧ A.handled = none ∧ Fr h₀ L s₁.heap m ∧ News h₀ L s₁.heap news ∧ IsRange s₁.heap r a b c t u v ∧ Builtin.Range.small a b c = true ∧ Builtin.Range.rangeSize a b c = ((n : Nat) : Int) ∧ n ≤ sizeLine ∧
    ∀ s₂ : Shared, (∃ h, s₂ = { s₁ with heap := h }) → CompRest prog w A h₀ L m env elt x scope cl s₂ (fun _ => True) (fun i v => i < n ∧ ∃ t, v = .int (a + (i : Int) * c) t) (FinE h₀ L m s₂ Q) n 0 [] news
section
variable {prog : Program} {w : World} {A : Around} {E : Value → Shared → Prop} {s : Shared} {h₀ : Heap} {L : Addr} {m : Str → Option Value} {env : Env}
theorem ListComp_R3 {elt iter : PySem.Expr} {x : Str} {px : Pos} {scope : Scope} {cl : List (Str × Addr)} {pos : Pos} {Q : Value → Shared → Prop} (_F₀ : Fr h₀ L s.heap m)
    (hclos : closureFor scope env = pure cl) (hcell : ∀ y ∈ scope.names, y.2 ≠ .cell) (hkind : scope.kind = .function)
    (hnames : ∀ y ∈ scope.names, y.2 = .local → scope.names.lookup y.1 = some .local) (hx : scope.names.lookup x = some .local)
    (h : wpAny (model prog w) A (eval iter env) (R3Src prog w A h₀ L m env elt x scope cl Q) E s)
    (hs : ∀ x, foldedSetIterable iter env x = pure x := by intro _; rfl) :
    wpAny (model prog w) A (eval (.ListComp elt [⟨.Name x px, iter, [], 0⟩] scope pos) env) Q E s := by
  rw [eval_ListComp]
  refine wpAny_comprehension_free (use := none) rfl hs hclos hkind hnames (wpAny_mono h (fun xv s₁ h₁ => ?_) fun _ _ e => e)
  obtain ⟨r, a, b, c, t, u, v, n, news, rfl, hh, F, N, hr, hsm, hn, hsz, R⟩ := h₁
  refine wpAny_pyIter_range hr hsm ?_
  have W := (Walks.range (prog := prog) (w := w) hh s₁.heap.objs.size a c n).bound
  refine block_U W hsz (fun i h st => ⟨_, st⟩) (fun i h h' o nw st e e' _ _ _ => ?_) hcell hkind hx (by show IsRangeIter _ _ _ _ _; rw [hn]; simpa using Heap.get?_push_size _ rfl) (fun b hb => ?_)
    (F.keeps fun _ _ e => Heap.get?_push_of_some _ e) (N.grown fun _ _ e => Heap.get?_push_of_some _ e) (Nat.ne_of_lt F.ns.lt) (next_is_new F) (fun p hp => Nat.ne_of_lt (Heap.lt_size (N p hp).1)) trivial (R _ ⟨_, rfl⟩) ?_
  · have st' : h.get? _ = some _ := st
    show h'.get? _ = some _
    rw [e', ← e]; exact st'
  · rw [List.mem_singleton.mp hb]
    show s₁.heap.objs.size < (s₁.heap.push _).objs.size
    rw [Heap.size_push]; exact Nat.lt_succ_self _
  · intro D C h tk m' ys news' F' N' o1 hn hC₀ hD₀ hCL hDL hCD offC fin
    refine ⟨m', hn, fun h'' hs'' => fin D h'' tk (F'.change hs'' hCL hC₀) (fun p hp => ?_) o1⟩
    refine ⟨hs''.extBut _ _ ?_ (N' p hp).1, (N' p hp).2⟩
    rcases List.mem_cons.mp hp with rfl | hp
    · exact Ne.symm hCD
    · exact offC p hp
end
end Mine
namespace Mine
open PySem PySem.W PyProof.Rows PyProof
theorem r3size {st len : Int} (h0 : 0 ≤ st) (h1 : 0 ≤ len) (h2 : len ≤ 60) : ∃ n : Nat, Builtin.Range.rangeSize st len 3 = ((n : Nat) : Int) ∧ n ≤ 60 ∧ ∀ i : Nat, i < n → st + (i : Int) * 3 < len := by
  unfold Builtin.Range.rangeSize
  by_cases h : st < len
  · refine ⟨((len - st - 1) / 3 + 1).toNat, ?_, by omega, fun i hi => by omega⟩
    simp only [show ((3 : Int) > 0) = True from by simp, if_true, h]
    omega
  · exact ⟨0, by simp [h], by decide, fun i hi => absurd hi (Nat.not_lt_zero _)⟩
theorem r3small {st : Int} {n : Nat} (h0 : 0 ≤ st) (h1 : st ≤ 2) (h2 : n ≤ 60) : Builtin.Range.small st (n : Int) 3 = true := by
  obtain ⟨a, rfl⟩ := Int.eq_ofNat_of_zero_le h0
  have h : ∀ a : Fin 3, ∀ b : Fin 61, Builtin.Range.small ((a.val : Nat) : Int) ((b.val : Nat) : Int) 3 = true := by decide +kernel
  exact h ⟨a, by omega⟩ ⟨n, by omega⟩
theorem news_tail2 {h₀ h : Heap} {L : Addr} {q p : Addr × Obj} {l : List (Addr × Obj)} (N : News h₀ L h (q :: p :: l)) : News h₀ L h l := fun z hz => N z (.tail _ (.tail _ hz))
local macro_rules | `(tactic| walk_at "eval ListComp") => `(tactic| (k_here; k_dflt (refine ListComp_R3 (_F₀ := by k_asm) (by with_unfolding_all rfl) (by decide) (by rfl) (by decide) (by rfl) ?_)))
local macro_rules | `(tactic| walk_at "call builtin:len") => `(tactic| (refine halt ?_))
local macro_rules | `(tactic| walk_at "subscriptTail Name Name ref int") => `(tactic| (refine halt ?_))
set_option maxHeartbeats 4000000 in
theorem third_ct (w : World) (mean : ExcName → Option Value) (mg mb : Str → Option Value) (news : List (Addr × Obj)) (D : Addr) (vs : List Value) (ns : List Int) (nn : Nat) (st : Int) (t : Tok) (hD : (D, listOf vs.toArray nn) ∈ news) (hi : IntsAre vs ns) (hl : ns.length ≤ 60) (h0 : 0 ≤ st) (h1 : st ≤ 2) :
    Ctr PySem.Challenge.rw_tx0022_01.row.prog w (hd.heap_39 w.params) hd.view_39 (looseW hd.view_39 [Str.ofString "COMPILER_FLAG_NAMES"]) mean mg mb 87 2 24 news [.ref D, .int st t]
      (fun v n' => n' = news ∧ ∃ r t, v = .int r t) := by
  k_with_none
  w_top off
  k_fill
  unfold Ctr
  intro dp un gd cn cs a ccd cl outer A₀ base h₀ L m s Q E B F X N T hk hd hu hret
  refine wpAny_call ?_
  k_dflt (refine' code_defC ?k1 ?k2 ?k3 ?k4 ?k5 ?kA ?kF ?kK ?k6 ?k7 ?k8 ?k9 ?kB ?kD ?_ ?c2 ?c3 ?c4; (case kA => exact rfl); (case kF => exact rfl); (case kK => assumption); (case k1 => k_asm); (case k2 => k_asm); (case k3 => k_asm); (case k4 => k_asm); (case k5 => k_asm); (case k6 => k_is); (case k7 => k_is); (case k8 => ktr_room); (case k9 => exact BindsTo.of_eq rfl); (case kB => exact rfl); (case kD => decide +kernel); (case c2 => exact rfl); (case c3 => exact rfl); (case c4 => exact rfl); k_whole; intro g' L' h' tk' cells' FG' F' N' Y' B' X' T' l1; (try k_lt l1); k_cells Y'; (try simp only [List.cons_append, List.nil_append] at N'); (try dsimp only); (try k_lift B'); (try k_fold))
  k_steps
  refine Halt.out ?_
  rename News _ _ _ _ => NN
  rename Fr _ _ _ _ => FF
  refine len_ints_fit (PySem.IsL.isList (n := nn) (NN _ (.tail _ hD)).1) hi (by omega) ?_
  k_steps
  rename News _ _ _ _ => NN
  rename Fr _ _ _ _ => FF
  obtain ⟨n, hn, hn2, hn3⟩ := r3size (len := (ns.length : Int)) h0 (by omega) (by omega)
  refine ⟨_, st, (ns.length : Int), 3, _, _, _, n, _, rfl, rfl, FF, NN, by assumption, r3small h0 h1 hl, hn, by rw [sizeLine_eq]; omega, fun s₂ hs₂ => ?_⟩
  obtain ⟨h2, rfl⟩ := hs₂
  refine kcf_rest (ks := (List.range n).map fun (i : Nat) => st + (i : Int) * 3) (fun k => ns.getD k.toNat 0) (by simp) ?_ ?_ ?_
  · intro i v hi' hv
    obtain ⟨_, t, e⟩ := hv
    exact ⟨_, t, by simp [hi'], e⟩
  · intro k' t' I' oI' C' oC' D' m' ys' h' tk' E' hk' hC' hx' F' N' off' ne' hMark'
    (try (simp only [LCg.Off3, and_true] at off'))
    obtain ⟨i, hi1, hi2⟩ := List.mem_map.mp hk'
    have hi3 := hn3 i (List.mem_range.mp hi1)
    have hk0 : 0 ≤ k' := by omega
    have hk1 : k' < ns.length := by omega
    k_steps
    refine Halt.out ?_
    rename News _ _ _ _ => NN2
    refine ksa_sub NN2 (.tail _ (.tail _ (.tail _ (.tail _ hD)))) hi hk0 hk1 (by omega) ?_
    intro t3
    k_steps
  · unfold KPfDone LCg.FinE
    intro ys hys D2 h2 tk2 F2 N2 o2
    k_steps
    exact hret _ _ _ _ (by assumption) (news_tail2 (by assumption)) ⟨rfl, _, _, rfl⟩
end Mine
namespace Mine
open PySem PySem.W PyProof.Rows PyProof PySem.Calls PySem.Spec
section
variable {prog : Program} {w : World} {A : Around} {E : Value → Shared → Prop} {s : Shared} {env : Env} {h₀ : Heap}
def ElseSrc (prog : Program) (w : World) (A : Around) (E : Value → Shared → Prop) (h₀ : Heap) (env : Env) (x : Str) (body : List Stmt) (Q : Flow → Shared → Prop) (xv : Value) (s₁ : Shared) : Prop :=
  ∃ (r : Addr) (n : Nat) (t u v : Tok) (m : Str → Option Value) (news : List (Addr × Obj)) (J : Nat → (Str → Option Value) → List (Addr × Obj) → Prop), xv = .ref r ∧ A.handled = none ∧ IsRange s₁.heap r 0 (n : Int) 1 t u v ∧ Builtin.Range.small 0 (n : Int) 1 = true ∧ Builtin.Range.rangeSize 0 (n : Int) 1 = (n : Int) ∧
    Fr h₀ env.locals s₁.heap m ∧ News h₀ env.locals s₁.heap news ∧ J 0 m news ∧ (∀ m' nw, J n m' nw → False) ∧
    ∀ (I : Addr) (i : Nat) (m₁ : Str → Option Value) (news₁ : List (Addr × Obj)) (t : Tok) (h : Heap) (tk : Nat), i < n → J i m₁ news₁ → (∀ p ∈ news₁, p.1 ≠ I) → Fr h₀ env.locals h (fun y => if y = x then some (.int (i : Int) t) else m₁ y) →
      News h₀ env.locals h ((I, itR (0 + ((i + 1 : Nat) : Int)) ((n : Int) - ((i + 1 : Nat) : Int))) :: news₁) →
      wpAny (model prog w) A (execs body env) (UnrPost h₀ env.locals { s₁ with heap := h, toks := tk } I (itR (0 + ((i + 1 : Nat) : Int)) ((n : Int) - ((i + 1 : Nat) : Int))) (J (i + 1)) Q) E { s₁ with heap := h, toks := tk }
theorem for_else {x : Str} {px pos : Pos} {iter : PySem.Expr} {body orelse : List Stmt} {Q : Flow → Shared → Prop} {m : Str → Option Value} (_F : Fr h₀ env.locals s.heap m) (hx : env.kindOf x = some .local)
    (hp : (env.scope.kind == .class || (env.scope.kind == .module && env.locals != env.globals)) = false)
    (h : wpAny (model prog w) A (eval iter env) (ElseSrc prog w A E h₀ env x body Q) E s)
    (hs : ∀ x, foldedSetIterable iter env x = pure x := by intro _; rfl)
    (hE : PassesOwn (model prog w) A env E := by passes_own) :
    wpAny (model prog w) A (exec (.For (.Name x px) iter body orelse pos) env) Q E s := by
  refine wpAny_For (wpAny_mono h (fun xv s₁ h₁ => ?_) fun _ _ e => e) hs
  obtain ⟨r, n, t, u, v, m, news, J, rfl, hh, hr, hsm, hn, F, N, h0, hdone, step⟩ := h₁
  refine wpAny_pyIter_range hr hsm ?_
  have W := Walks.range (prog := prog) (w := w) hh s₁.heap.objs.size 0 1 n
  have hI₀ : h₀.get? s₁.heap.objs.size = none := next_is_new F
  have hLI : env.locals ≠ s₁.heap.objs.size := Nat.ne_of_lt F.ns.lt
  refine codeAny_forLoop
    (fun k s' => ∃ h' tk m' news' i, s' = { s₁ with heap := h', toks := tk } ∧ IsRangeIter h' s₁.heap.objs.size (0 + (i : Nat) * 1) ((n : Int) - (i : Nat)) 1 ∧ Fr h₀ env.locals h' m' ∧ News h₀ env.locals h' news' ∧ (∀ p ∈ news', p.1 ≠ s₁.heap.objs.size) ∧ J i m' news' ∧ i ≤ n ∧ k = n + 1 - i) ?_ (n + 1)
    ⟨_, s₁.toks, m, news, 0, rfl, ?_, F.push _, fun p hp => ⟨Heap.get?_push_of_some _ (N p hp).1, (N p hp).2⟩, fun p hp => Nat.ne_of_lt (Heap.lt_size (N p hp).1), h0, Nat.zero_le _, rfl⟩
  · rintro k s' ⟨h', tk, m', news', i, rfl, hst, F', N', off, hJ, hi, rfl⟩
    by_cases hlt : i < n
    · refine W.item i _ _ _ hlt hst fun v h₁ tk₁ hP hst₁ hk₁ => ?_
      obtain ⟨t, rfl⟩ := hP
      have F₁ : Fr h₀ env.locals h₁ m' := LCg.fr_but F' hk₁ hLI hI₀
      have N₁ : News h₀ env.locals h₁ news' := LCg.news_but N' hk₁ off
      refine wpAny_assign_Name (wpAny_storeName_local hx F₁.ns (fun h₂ hn₂ hs₂ => ?_) hp)
      have F₂ := F₁.set hn₂ hs₂
      have N₂ := N₁.set hs₂
      have hst₂ : h₂.get? s₁.heap.objs.size = some (itR (0 + ((i + 1 : Nat) : Int)) ((n : Int) - ((i + 1 : Nat) : Int))) := by
        have q : IsRangeIter h₂ s₁.heap.objs.size (0 + ((i + 1 : Nat) : Int) * 1) ((n : Int) - ((i + 1 : Nat) : Int)) 1 := (hs₂.2 _ (Ne.symm hLI)).trans hst₁
        rw [Int.mul_one] at q
        exact q
      have e1 : 0 + (i : Int) * 1 = (i : Int) := by omega
      rw [e1] at F₂
      refine wpAny_passesOwn hE (wpAny_mono (step s₁.heap.objs.size i m' news' t h₂ _ hlt hJ off F₂ (fun p hp => ?_)) (fun f s₃ h₃ => ?_) fun _ _ e => e)
      · rcases List.mem_cons.mp hp with rfl | hp
        · exact ⟨hst₂, Ne.symm hLI, hI₀⟩
        · exact N₂ p hp
      · have fin : UnrEnd h₀ env.locals { s₁ with heap := h₂, toks := tk₁ + 1 } s₁.heap.objs.size (itR (0 + ((i + 1 : Nat) : Int)) ((n : Int) - ((i + 1 : Nat) : Int))) (J (i + 1)) s₃ → ∃ k', k' < n + 1 - i ∧ ∃ h' tk m' news' i, s₃ = { s₁ with heap := h', toks := tk } ∧ IsRangeIter h' s₁.heap.objs.size (0 + (i : Nat) * 1) ((n : Int) - (i : Nat)) 1 ∧ Fr h₀ env.locals h' m' ∧ News h₀ env.locals h' news' ∧ (∀ p ∈ news', p.1 ≠ s₁.heap.objs.size) ∧ J i m' news' ∧ i ≤ n ∧ k' = n + 1 - i := by
          rintro ⟨h₄, tk₄, m₄, news₄, rfl, F₄, N₄, off₄, hJ₄⟩
          refine ⟨n + 1 - (i + 1), by omega, h₄, tk₄, m₄, news₄, i + 1, rfl, ?_, F₄, fun p hp => N₄ p (.tail _ hp), off₄, hJ₄, hlt, rfl⟩
          have q := (N₄ _ (.head _)).1
          show IsRangeIter _ _ _ _ _
          rw [Int.mul_one]
          exact q
        cases f with
        | ret v => exact h₃
        | brk => exact h₃
        | cont => exact fin h₃
        | next => exact fin h₃
    · obtain rfl : i = n := by omega
      exact (hdone _ _ hJ).elim
  · show IsRangeIter _ _ _ _ _
    rw [hn]
    simpa using Heap.get?_push_size _ rfl
end
end Mine
namespace Mine
open PySem PySem.W PyProof.Rows PyProof
def tabD : List (Int × PyData) := [(1, PyData.str ⟨#[79, 80, 84, 73, 77, 73, 90, 69, 68]⟩), (2, PyData.str ⟨#[78, 69, 87, 76, 79, 67, 65, 76, 83]⟩), (4, PyData.str ⟨#[86, 65, 82, 65, 82, 71, 83]⟩), (8, PyData.str ⟨#[86, 65, 82, 75, 69, 89, 87, 79, 82, 68, 83]⟩), (16, PyData.str ⟨#[78, 69, 83, 84, 69, 68]⟩), (32, PyData.str ⟨#[71, 69, 78, 69, 82, 65, 84, 79, 82]⟩), (64, PyData.str ⟨#[78, 79, 70, 82, 69, 69]⟩), (128, PyData.str ⟨#[67, 79, 82, 79, 85, 84, 73, 78, 69]⟩), (256, PyData.str ⟨#[73, 84, 69, 82, 65, 66, 76, 69, 95, 67, 79, 82, 79, 85, 84, 73, 78, 69]⟩), (512, PyData.str ⟨#[65, 83, 89, 78, 67, 95, 71, 69, 78, 69, 82, 65, 84, 79, 82]⟩)]
def wordD (i : Nat) : PyData := (Spec.lookup (PyData.int (1 * 2 ^ ((i : Nat) : Int).toNat)) (tabD.map fun p => (PyData.int p.1, p.2))).getD (PyData.str (baseText "0x" 16 (1 * 2 ^ ((i : Nat) : Int).toNat)))
def wordF (i : Nat) : Str := match wordD i with
  | .str x => x
  | _ => ⟨#[]⟩
theorem word_is {i : Nat} (h : i < 32) : wordD i = .str (wordF i) := by
  have e : ∀ i : Fin 32, (match wordD i.val with | .str _ => true | _ => false) = true := by decide +kernel
  have e := e ⟨i, h⟩
  unfold wordF
  dsimp only at e
  split at e
  · rename_i x q
    rw [q]
  · cases e
theorem word_flat {i : Nat} {v : Value} (hh : Heap) (h : i < 32) (hv : V.Flat v (wordD i)) : ∃ t, v = .str (wordF i) t := by
  rw [word_is h] at hv
  cases hv hh
  exact ⟨_, rfl⟩
def flagsF (k : Nat) : Str := Txt.join (Str.ofString ", ") ((List.range k).map wordF)
theorem flags_and {k i : Nat} (hi : i < k) (hk : k ≤ 32) : Builtin.bitAnd (2 ^ k - 2 ^ i) (1 * 2 ^ ((i : Nat) : Int).toNat) = 2 ^ i := by
  have e : ∀ k : Fin 33, ∀ i : Fin 33, i.val < k.val → Builtin.bitAnd (2 ^ k.val - 2 ^ i.val) (1 * 2 ^ ((i.val : Nat) : Int).toNat) = 2 ^ i.val := by decide +kernel
  exact e ⟨k, by omega⟩ ⟨i, by omega⟩ hi
theorem flags_xor {k i : Nat} (hi : i < k) (hk : k ≤ 32) : Builtin.bitXor (2 ^ k - 2 ^ i) (1 * 2 ^ ((i : Nat) : Int).toNat) = 2 ^ k - 2 ^ (i + 1) := by
  have e : ∀ k : Fin 33, ∀ i : Fin 33, i.val < k.val → Builtin.bitXor (2 ^ k.val - 2 ^ i.val) (1 * 2 ^ ((i.val : Nat) : Int).toNat) = 2 ^ k.val - 2 ^ (i.val + 1) := by decide +kernel
  exact e ⟨k, by omega⟩ ⟨i, by omega⟩ hi
theorem flags_zero {k i : Nat} (hi : i < k) (hk : k ≤ 32) (h : ((2 : Int) ^ k - 2 ^ (i + 1)) = 0) : i + 1 = k := by
  have e : ∀ k : Fin 33, ∀ i : Fin 33, i.val < k.val → ((2 : Int) ^ k.val - 2 ^ (i.val + 1)) = 0 → i.val + 1 = k.val := by decide +kernel
  exact e ⟨k, by omega⟩ ⟨i, by omega⟩ hi h
theorem flags_more {k i : Nat} (hi : i < k) (hk : k ≤ 32) (h : ((2 : Int) ^ k - 2 ^ (i + 1)) ≠ 0) : i + 1 < k := by
  have : i + 1 ≠ k := by rintro rfl; exact h (Int.sub_self _)
  omega
theorem pow_ne (i : Nat) : ((2 : Int) ^ i) ≠ 0 := by
  have : (0 : Int) < 2 ^ i := Int.pow_pos (by decide)
  omega
theorem words_snoc {vs : List Value} {i : Nat} {tv : Tok} (h : StrsAre vs ((List.range i).map wordF)) : StrsAre (vs ++ [Value.str (wordF i) tv]) ((List.range (i + 1)).map wordF) := by
  rw [List.range_succ, List.map_append]
  exact h.append' (.cons _ _ .nil)
theorem off_head {D I : Addr} {o o' : Obj} {l : List (Addr × Obj)} (h : ∀ p ∈ (D, o) :: l, p.1 ≠ I) : ∀ p ∈ (D, o') :: l, p.1 ≠ I := by
  intro p hp
  rcases List.mem_cons.mp hp with rfl | hp
  · exact h (D, o) (.head _)
  · exact h p (.tail _ hp)
theorem words_weight {k : Nat} (hk : k ≤ 32) : ((((List.range k).map wordF).map (·.length)).sum + ((List.range k).map wordF).length) ≤ 1048576 := by
  have e : ∀ k : Fin 33, ((((List.range k.val).map wordF).map (·.length)).sum + ((List.range k.val).map wordF).length) ≤ 1048576 := by decide +kernel
  exact e ⟨k, by omega⟩
theorem hex_len {i : Nat} (h : i < 32) : (baseText "0x" 16 (1 * 2 ^ ((i : Nat) : Int).toNat)).length ≤ 20 := by
  have e : ∀ i : Fin 32, (baseText "0x" 16 (1 * 2 ^ ((i.val : Nat) : Int).toNat)).length ≤ 20 := by decide +kernel
  exact e ⟨i, h⟩
def FlagJ (news : List (Addr × Obj)) (D : Addr) (m₀ : Str → Option Value) (k i : Nat) (m : Str → Option Value) (nw : List (Addr × Obj)) : Prop :=
  i < k ∧ ∃ vs c tf, nw = (D, listOf (List.toArray vs) c) :: news ∧ StrsAre vs ((List.range i).map wordF) ∧ m (Str.ofString "flags") = some (.int (2 ^ k - 2 ^ i) tf) ∧ ∀ z, z ≠ Str.ofString "i" → z ≠ Str.ofString "flags" → z ≠ Str.ofString "flag" → m z = m₀ z
theorem flag_fr {h₀ h : Heap} {L : Addr} {m₁ m₀ : Str → Option Value} {v f : Value} (hf : m₁ (Str.ofString "flags") = some f) (hr : ∀ z, z ≠ Str.ofString "i" → z ≠ Str.ofString "flags" → z ≠ Str.ofString "flag" → m₁ z = m₀ z)
    (F : Fr h₀ L h (fun y => if y = Str.ofString "i" then some v else m₁ y)) : Fr h₀ L h (fun y => if y = Str.ofString "i" then some v else if y = Str.ofString "flags" then some f else if y = Str.ofString "flag" then m₁ (Str.ofString "flag") else m₀ y) := by
  have e : (fun y => if y = Str.ofString "i" then some v else m₁ y) = fun y => if y = Str.ofString "i" then some v else if y = Str.ofString "flags" then some f else if y = Str.ofString "flag" then m₁ (Str.ofString "flag") else m₀ y := by
    funext y
    by_cases a : y = Str.ofString "i"
    · rw [if_pos a, if_pos a]
    · rw [if_neg a, if_neg a]
      by_cases b : y = Str.ofString "flags"
      · rw [if_pos b, b, hf]
      · rw [if_neg b]
        by_cases c : y = Str.ofString "flag"
        · rw [if_pos c, c]
        · rw [if_neg c, hr y a b c]
  rw [e] at F
  exact F
local macro_rules | `(tactic| walk_at "exec For Name Call cons cons") => `(tactic| ((rename Fr _ _ _ _ => lF'); (with_unfolding_all refine' for_else lF' ?k1 ?k2 ?_; (case k1 => exact rfl); (case k2 => exact rfl); k_whole)))
local macro_rules | `(tactic| walk_at "call builtin:hex") => `(tactic| (refine halt ?_))
local macro_rules | `(tactic| walk_at "call builtin:dict.get") => `(tactic| (refine halt ?_))
local macro_rules | `(tactic| walk_at "call builtin:list.append") => `(tactic| (refine halt ?_))
local macro_rules | `(tactic| walk_at "call builtin:str.join") => `(tactic| (refine halt ?_))
set_option maxHeartbeats 4000000 in
theorem flags_ct (w : World) (mean : ExcName → Option Value) (mg mb : Str → Option Value) (news : List (Addr × Obj)) (k : Nat) (t : Tok) (h1 : 1 ≤ k) (h2 : k ≤ 32) :
    Ctr PySem.Challenge.rw_tx0022_01.row.prog w (hd.heap_39 w.params) hd.view_39 (looseW hd.view_39 [Str.ofString "COMPILER_FLAG_NAMES"]) mean mg mb 54 1 8 news [.int (2 ^ k - 1) t]
      (OutS (flagsF k) news) := by
  k_with_none
  w_top off
  k_fill
  unfold Ctr
  intro dp un gd cn cs a ccd cl outer A₀ base h₀ L m s Q E B F X N T hk hd hu hret
  refine wpAny_call ?_
  k_dflt cell_enter
  rename Fr _ _ _ _ => F1
  replace F1 : Fr _ _ _ (fun z => List.lookup z [(Str.ofString "flags", Value.int (2 ^ k - 1) t)]) := F1
  k_steps
  rename Fr _ _ _ _ => FF
  rename News _ _ _ _ => NN
  refine' ⟨_, 32, _, _, _, _, _, FlagJ news _ _ k, rfl, rfl, by assumption, by decide +kernel, by decide +kernel, FF, NN, ⟨h1, _, _, _, rfl, .nil, rfl, fun z _ _ _ => rfl⟩, fun m' nw hJ => absurd hJ.1 (by omega), ?turn⟩
  case turn =>
    intro I i m₁ news₁ t1 h tk hi hJ off F N
    obtain ⟨hik, vs, c, tf, rfl, hS, hf, hr⟩ := hJ
    have F2 := flag_fr hf hr F
    clear F FF NN hf hr
    have hlen : vs.length = i := by have := hS.length; simpa using this
    k_steps
    · refine Halt.out ?_
      refine P.hex_of_int (hsz := Nat.le_trans (hex_len hi) (by rw [sizeLine_eq]; decide)) ?_
      k_steps
      refine Halt.out ?_
      rename KTD.Keyed _ _ _ => ky
      rename Fr _ _ _ _ => FF
      refine call_get2_intTab (KTD.Keyed.keep ky FF.keep _ _) (.str _ _) ?_
      intro v hv
      obtain ⟨tv, rfl⟩ := word_flat h hi hv
      clear hv
      k_steps
      refine Halt.out ?_
      clear ky
      rename Fr _ _ _ _ => FF
      rename News _ _ _ _ => NN
      refine append_K FF NN (Upd.tail (Ne.symm (off _ (.head _))) (Upd.head fun p hp => Nat.ne_of_lt (by first | exact l1 p hp | (rename ∀ p ∈ news, p.1 < _ => l1; exact l1 p hp)))) ?_ (by rw [sizeLine_eq, List.size_toArray, hlen]; omega)
      intro h9 F9 N9
      clear FF NN
      have hx9 := flags_xor hik h2
      have hS9 := words_snoc (tv := tv) hS
      k_steps
      · rename Fr _ _ _ _ => FF
        rename News _ _ _ _ => NN
        rename ¬ Builtin.bitXor _ _ = 0 => hx
        rw [hx9] at hx FF
        rw [List.push_toArray] at NN
        refine UnrEnd.intro FF NN _ (fun p hp => hp) (off_head off) ⟨flags_more hik h2 hx, _, _, _, rfl, hS9, rfl, fun z z1 z2 z3 => ?_⟩
        dsimp only
        rw [if_neg z2, if_neg z3, if_neg z1, if_neg z2, if_neg z3]
      · refine Halt.out ?_
        rename News _ _ _ _ => NN
        rename Builtin.bitXor _ _ = 0 => hx
        rw [hx9] at hx
        have ek : i + 1 = k := flags_zero hik h2 hx
        rw [List.push_toArray] at NN
        refine join_listW (ys := (List.range (i + 1)).map wordF) (PySem.IsL.isList (n := c + 1) (NN _ (.tail _ (.head _))).1) hS9 (by decide +kernel) (words_weight (by omega)) ?_
        intro t9 k9
        k_steps
        exact hret _ _ _ _ (by assumption) (news_tail2 (by assumption)) ⟨rfl, _, by rw [flagsF, ek]⟩
    · exfalso
      rename Builtin.bitAnd _ _ = 0 => hx
      rw [flags_and hik h2] at hx
      exact pow_ne i hx
end Mine
namespace Mine
open PySem PySem.W PyProof.Rows PyProof
def Ql (n : Nat) : Str := ⟨(List.replicate n 34).toArray⟩
def halfF (n c : Nat) : Str := if n % 2 = 0 then Qs (n / 2) c else Ql (n / 2)
theorem pre257 : Str.ofString "257 \"" = ⟨#[50, 53, 55, 32, 34]⟩ := by decide +kernel
theorem dirF_rep : ∀ (n c : Nat), c ≠ 34 → dirF (List.replicate n 34 ++ [c]) = if n % 2 = 0 then List.replicate (n / 2) 34 ++ [c] else List.replicate (n / 2) 34
  | 0, c, h => by simp [dirF, h]
  | 1, c, h => by simp [dirF, h]
  | n + 2, c, h => by
    have ih := dirF_rep n c h
    have e : List.replicate (n + 2) 34 ++ [c] = 34 :: 34 :: (List.replicate n 34 ++ [c]) := rfl
    rw [e]
    show (if (34 : Nat) = 34 then (if (34 : Nat) = 34 then 34 :: dirF (List.replicate n 34 ++ [c]) else []) else _) = _
    rw [if_pos rfl, if_pos rfl, ih]
    have e1 : (n + 2) % 2 = n % 2 := by omega
    have e2 : (n + 2) / 2 = n / 2 + 1 := by omega
    rw [e1, e2]
    by_cases q : n % 2 = 0
    · rw [if_pos q, if_pos q]; rfl
    · rw [if_neg q, if_neg q]; rfl
theorem resp_list (n c : Nat) : (Str.ofString "257 \"" ++ Qs n c).cps.toList = [50, 53, 55, 32, 34] ++ (List.replicate n 34 ++ [c]) := by
  rw [str_app, Qs_list, pre257]
theorem resp_len (n c : Nat) : (Str.ofString "257 \"" ++ Qs n c).length = n + 6 := by
  have := congrArg List.length (resp_list n c)
  simp at this
  show (Str.ofString "257 \"" ++ Qs n c).cps.size = n + 6
  omega
theorem parse_half {n c : Nat} (h : c ≠ 34) : parseF (Str.ofString "257 \"" ++ Qs n c) = halfF n c := by
  unfold parseF halfF
  rw [resp_list]
  have e : ([50, 53, 55, 32, 34] ++ (List.replicate n 34 ++ [c])).drop 5 = List.replicate n 34 ++ [c] := rfl
  rw [e, dirF_rep n c h]
  by_cases q : n % 2 = 0
  · rw [if_pos q, if_pos q]; rfl
  · rw [if_neg q, if_neg q]; rfl
theorem slice_pre {x : Str} {a b : Nat} (hab : a ≤ b) (hb : b ≤ x.length) : Txt.slice x (some (a : Int)) (some (b : Int)) = ⟨((x.cps.toList.drop a).take (b - a)).toArray⟩ := by
  unfold Txt.slice
  have e := StrLaws.sliced_plain x hab hb
  by_cases q : (((1 : Int) == 1) && (PySem.Builtin.Str.strSliceIndices (some (a : Int)) (some (b : Int)) 1 x.length).length == x.length) = true
  · rw [if_pos q]
    refine str_ext ?_
    rw [StrLaws.strSliceIndices_plain hab hb] at q
    simp at q
    show x.cps.toList = (x.cps.toList.drop a).take (b - a)
    have h1 : x.cps.toList.length = x.length := by simp [Str.length]
    have ha : a = 0 := by omega
    subst ha
    rw [List.drop_zero, List.take_of_length_le (by omega)]
  · rw [if_neg q, e]
theorem slice_none_some {x : Str} {b : Nat} (hb : b ≤ x.length) : Txt.slice x none (some (b : Int)) = ⟨(x.cps.toList.take b).toArray⟩ := by
  have e : Txt.slice x none (some (b : Int)) = Txt.slice x (some ((0 : Nat) : Int)) (some (b : Int)) := by
    unfold Txt.slice
    have : PySem.Builtin.Str.strSliceIndices none (some (b : Int)) 1 x.length = PySem.Builtin.Str.strSliceIndices (some ((0 : Nat) : Int)) (some (b : Int)) 1 x.length := by
      have z : max (0 : Int) (min 0 (x.length : Int)) = 0 := by omega
      simp [PySem.Builtin.Str.strSliceIndices, z]
    rw [this]
  rw [e, slice_pre (Nat.zero_le _) hb]
  simp
theorem resp_257 (n c : Nat) : Txt.slice (Str.ofString "257 \"" ++ Qs n c) none (some 3) = Str.ofString "257" := by
  have := slice_none_some (x := Str.ofString "257 \"" ++ Qs n c) (b := 3) (by rw [resp_len]; omega)
  rw [show ((3 : Nat) : Int) = 3 from rfl] at this
  rw [this, resp_list]
  show (⟨[50, 53, 55].toArray⟩ : Str) = _
  decide +kernel
theorem resp_q (n c : Nat) : Txt.slice (Str.ofString "257 \"" ++ Qs n c) (some 3) (some 5) = Str.ofString " \"" := by
  have := slice_pre (x := Str.ofString "257 \"" ++ Qs n c) (a := 3) (b := 5) (by decide) (by rw [resp_len]; omega)
  rw [show ((3 : Nat) : Int) = 3 from rfl, show ((5 : Nat) : Int) = 5 from rfl] at this
  rw [this, resp_list]
  show (⟨[32, 34].toArray⟩ : Str) = _
  decide +kernel
def letX (c : Nat) : Str := ⟨#[c]⟩
theorem last_Qs (n c : Nat) : Txt.slice (Qs n c) (some (-1)) none = ⟨[c].toArray⟩ := by
  have e := eq_of_beq (slice_closes_from_neg (x := Qs n c) (i := -1) (a := ((n : Nat) : Int)) (b := ((n : Nat) : Int) + 1) (by decide) (by rw [Qs_len]; omega) (by rw [Qs_len]; omega) (by rw [Qs_len]; omega))
  rw [e, Qs_list, show (((n : Nat) : Int) + 1 - ((n : Nat) : Int)).toNat = 1 by omega, Int.toNat_natCast, List.drop_append_of_le_length (by simp)]
  simp
theorem last_Ql (n : Nat) : Txt.slice (Ql (n + 1)) (some (-1)) none = ⟨[34].toArray⟩ := by
  have hl : (Ql (n + 1)).length = n + 1 := by simp [Ql, Str.length]
  have e := eq_of_beq (slice_closes_from_neg (x := Ql (n + 1)) (i := -1) (a := ((n : Nat) : Int)) (b := ((n : Nat) : Int) + 1) (by decide) (by rw [hl]; omega) (by rw [hl]; omega) (by rw [hl]; omega))
  rw [e, show (((n : Nat) : Int) + 1 - ((n : Nat) : Int)).toNat = 1 by omega, Int.toNat_natCast, show (Ql (n + 1)).cps.toList = List.replicate (n + 1) 34 by simp [Ql], List.drop_replicate, show n + 1 - n = 1 by omega]
  rfl
theorem half_last1 (n c : Nat) (w : Str) (h1 : (⟨[c].toArray⟩ : Str) == w) (h2 : ((⟨[34].toArray⟩ : Str) == w) = false) (h3 : (Txt.slice (Ql 0) (some (-1)) none == w) = false) : (Txt.slice (halfF n c) (some (-1)) none == w) = decide (n % 2 = 0) := by
  unfold halfF
  by_cases q : n % 2 = 0
  · rw [if_pos q, last_Qs, h1, decide_eq_true q]
  · rw [if_neg q, decide_eq_false q]
    cases n / 2 with
    | zero => exact h3
    | succ m => rw [last_Ql, h2]
theorem half_last {n : Nat} (_hn : n ≤ 32) : (Txt.slice (halfF n 120) (some (-1)) none == Str.ofString "x") = decide (n % 2 = 0) ∧ (Txt.slice (halfF n 88) (some (-1)) none == Str.ofString "X") = decide (n % 2 = 0) :=
  ⟨half_last1 n 120 _ (by decide +kernel) (by decide +kernel) (by decide +kernel), half_last1 n 88 _ (by decide +kernel) (by decide +kernel) (by decide +kernel)⟩
theorem half_len (n c : Nat) : (halfF n c).length = if n % 2 = 0 then n / 2 + 1 else n / 2 := by
  unfold halfF
  split
  · exact Qs_len _ _
  · simp [Ql, Str.length]
theorem half_even {n c : Nat} (h : n % 2 = 0) : halfF n c = Qs (n / 2) c := by unfold halfF; rw [if_pos h]
def stein : Nat → Nat → Nat → Int → Int
  | 0, _, _, _ => 0
  | f + 1, m, n, t =>
    if m % 2 = 0 then (if n % 2 = 0 then stein f (m / 2) (n / 2) (2 * t) else stein f (m / 2) n t)
    else if n % 2 = 0 then stein f m (n / 2) t
    else if m = n then t * m
    else if m < n then stein f m (n - m) t else stein f (m - n) n t
def BinInv (a b j : Nat) (one other : Str) (twos : Int) : Prop := ∃ m n, 1 ≤ m ∧ m ≤ 32 ∧ 1 ≤ n ∧ n ≤ 32 ∧ one = Qs m 120 ∧ other = Qs n 88 ∧ stein (30 - j) m n twos = stein 30 a b 1
theorem eq_known {prog : Program} {w : World} {A : Around} {E : Value → Shared → Prop} {s : Shared} {x y : Str} {t u : Tok} {b : Bool} {Q : Value → Shared → Prop} (e : (x == y) = b) (h : Q (.bool b) s) : wpAny (model prog w) A (compareOp .Eq (.str x t) (.str y u)) Q E s := PyProof.Rows.eq_str (e ▸ h)
theorem half_t {n c : Nat} {x : Str} (h : (Txt.slice (halfF n c) (some (-1)) none == x) = decide (n % 2 = 0)) (q : n % 2 = 0) : (Txt.slice (halfF n c) (some (-1)) none == x) = true := by rw [h]; simp [q]
theorem half_f {n c : Nat} {x : Str} (h : (Txt.slice (halfF n c) (some (-1)) none == x) = decide (n % 2 = 0)) (q : n % 2 = 1) : (Txt.slice (halfF n c) (some (-1)) none == x) = false := by rw [h]; simp [q]
theorem stein_succ (f m n : Nat) (t : Int) : stein (f + 1) m n t = if m % 2 = 0 then (if n % 2 = 0 then stein f (m / 2) (n / 2) (2 * t) else stein f (m / 2) n t)
    else if n % 2 = 0 then stein f m (n / 2) t else if m = n then t * m else if m < n then stein f m (n - m) t else stein f (m - n) n t := rfl
section
variable {a b m n : Nat} {pre : List Int} {k t z : Int} (hm1 : 1 ≤ m) (hm2 : m ≤ 32) (hn1 : 1 ≤ n) (hn2 : n ≤ 32) (hj : pre.length < ((30 : Int) - 0).toNat) (es : stein (30 - pre.length) m n t = z)
include hm1 hm2 hn1 hn2 hj es
theorem stein_at : ∃ f, 30 - (pre ++ [k]).length = f ∧ stein (f + 1) m n t = z := by
  refine ⟨_, rfl, ?_⟩
  have e : 30 - (pre ++ [k]).length + 1 = 30 - pre.length := by
    have h1 : (pre ++ [k]).length = pre.length + 1 := by simp
    rw [h1]; omega
  rw [e]; exact es
theorem bin_ee (hz : z = stein 30 a b 1) (pm : m % 2 = 0) (pn : n % 2 = 0) : BinInv a b (pre ++ [k]).length (halfF m 120) (halfF n 88) (2 * t) := by
  obtain ⟨f, e, h⟩ := stein_at (k := k) hm1 hm2 hn1 hn2 hj es
  rw [stein_succ, if_pos pm, if_pos pn] at h
  exact ⟨m / 2, n / 2, by omega, by omega, by omega, by omega, half_even pm, half_even pn, by rw [e, h, hz]⟩
theorem bin_eo (hz : z = stein 30 a b 1) (pm : m % 2 = 0) (pn : n % 2 = 1) : BinInv a b (pre ++ [k]).length (halfF m 120) (Qs n 88) t := by
  obtain ⟨f, e, h⟩ := stein_at (k := k) hm1 hm2 hn1 hn2 hj es
  rw [stein_succ, if_pos pm, if_neg (by omega)] at h
  exact ⟨m / 2, n, by omega, by omega, by omega, by omega, half_even pm, rfl, by rw [e, h, hz]⟩
theorem bin_oe (hz : z = stein 30 a b 1) (pm : m % 2 = 1) (pn : n % 2 = 0) : BinInv a b (pre ++ [k]).length (Qs m 120) (halfF n 88) t := by
  obtain ⟨f, e, h⟩ := stein_at (k := k) hm1 hm2 hn1 hn2 hj es
  rw [stein_succ, if_neg (by omega), if_pos pn] at h
  exact ⟨m, n / 2, by omega, by omega, by omega, by omega, rfl, half_even pn, by rw [e, h, hz]⟩
theorem bin_lt (hz : z = stein 30 a b 1) (pm : m % 2 = 1) (pn : n % 2 = 1) (h1 : m < n) : BinInv a b (pre ++ [k]).length (Qs m 120) (Qs (n - m) 88) t := by
  obtain ⟨f, e, h⟩ := stein_at (k := k) hm1 hm2 hn1 hn2 hj es
  rw [stein_succ, if_neg (by omega), if_neg (by omega), if_neg (by omega), if_pos h1] at h
  exact ⟨m, n - m, by omega, by omega, by omega, by omega, rfl, rfl, by rw [e, h, hz]⟩
theorem bin_gt (hz : z = stein 30 a b 1) (pm : m % 2 = 1) (pn : n % 2 = 1) (h1 : n < m) : BinInv a b (pre ++ [k]).length (Qs (m - n) 120) (Qs n 88) t := by
  obtain ⟨f, e, h⟩ := stein_at (k := k) hm1 hm2 hn1 hn2 hj es
  rw [stein_succ, if_neg (by omega), if_neg (by omega), if_neg (by omega), if_neg (by omega)] at h
  exact ⟨m - n, n, by omega, by omega, by omega, by omega, rfl, rfl, by rw [e, h, hz]⟩
theorem bin_eq (hz : z = stein 30 a b 1) (pm : m % 2 = 1) (pn : n % 2 = 1) (h1 : m = n) : t * (m : Int) = stein 30 a b 1 := by
  obtain ⟨f, e, h⟩ := stein_at (k := 0) hm1 hm2 hn1 hn2 hj es
  rw [stein_succ, if_neg (by omega), if_neg (by omega), if_pos h1] at h
  rw [h, hz]
end
theorem bin_done {a b : Nat} {n : Nat} {x y : Str} {t : Int} (h : BinInv a b (rangeKs 0 n).length x y t) (hn : n = 30) : 0 = stein 30 a b 1 := by
  obtain ⟨m, n', _, _, _, _, _, _, e⟩ := h
  rw [rangeKs_length, hn] at e
  exact e
theorem lev_one {m n : Nat} : levF m n = 1 ↔ m = n := by
  unfold levF
  split <;> omega
theorem lev_half {m n : Nat} : (levF m n).fdiv 2 = ((if m ≤ n then n - m else m - n : Nat) : Int) := by
  unfold levF
  rw [Int.fdiv_eq_ediv_of_nonneg _ (by decide)]
  split <;> omega
theorem lev_range {m n : Nat} (hm : m ≤ 32) (hn : n ≤ 32) : 1 ≤ levF m n ∧ levF m n ≤ 65 := by
  unfold levF
  split <;> omega
theorem ql_len (d : Nat) : (Ql d).length = d := by simp [Ql, Str.length]
theorem ql_is {d : Nat} (_h : d ≤ 40) : Txt.mul (Str.ofString "\"") ((d : Nat) : Int) = Ql d := by
  refine str_ext ?_
  rw [quote_is, mul_one_list]
  simp [Ql]
theorem ql_x (d : Nat) : Ql d ++ Str.ofString "x" = Qs d 120 := by
  refine str_ext ?_
  rw [str_app, Qs_list, show Str.ofString "x" = ⟨#[120]⟩ from by decide +kernel]
  simp [Ql]
theorem ql_X (d : Nat) : Ql d ++ Str.ofString "X" = Qs d 88 := by
  refine str_ext ?_
  rw [str_app, Qs_list, show Str.ofString "X" = ⟨#[88]⟩ from by decide +kernel]
  simp [Ql]
theorem mul_ql {prog : Program} {w : World} {A : Around} {E : Value → Shared → Prop} {s : Shared} {t u : Tok} {v : Int} {d : Nat} {Q : Value → Shared → Prop} (e : v = (d : Int)) (h : d ≤ 40) (hq : ∀ t' k, Q (.str (Ql d) t') { s with toks := k }) :
    wpAny (model prog w) A (binaryOp .Mult (.str (Str.ofString "\"") t) (.int v u)) Q E s := by
  subst e
  refine SB.mul (mulOk_of 16 1048576 (by decide +kernel) (by omega) (by omega) (by decide) (by decide)) fun t' k => ?_
  rw [ql_is h]
  exact hq t' k
theorem lev_dist (m n : Nat) (hm : m ≤ 32) (hn : n ≤ 32) : ∃ d : Nat, (levF m n).fdiv 2 = (d : Int) ∧ d ≤ 40 ∧ (m < n → d = n - m) ∧ (n < m → d = m - n) := by
  refine ⟨_, lev_half, ?_, ?_, ?_⟩
  · split <;> omega
  · intro h; rw [if_pos (by omega)]
  · intro h; rw [if_neg (by omega)]
theorem half_lt {m n c e : Nat} (h : ((halfF m c).length : Int) < ((halfF n e).length : Int)) (pm : m % 2 = 1) (pn : n % 2 = 1) (hl : levF m n ≠ 1) : m < n := by
  rw [half_len, half_len, if_neg (by omega), if_neg (by omega)] at h
  omega
theorem half_gt {m n c e : Nat} (h : ¬ ((halfF m c).length : Int) < ((halfF n e).length : Int)) (pm : m % 2 = 1) (pn : n % 2 = 1) (hl : levF m n ≠ 1) : n < m := by
  rw [half_len, half_len, if_neg (by omega), if_neg (by omega)] at h
  have : m ≠ n := fun q => hl (lev_one.mpr q)
  omega
theorem news_left {h₀ h : Heap} {L : Addr} {l l' : List (Addr × Obj)} (N : News h₀ L h (l ++ l')) : News h₀ L h l := fun p hp => N p (List.mem_append.mpr (.inl hp))
end Mine
namespace Mine
open PySem PySem.W PyProof.Rows PyProof
theorem parse_q (w : World) (mean : ExcName → Option Value) (mg mb : Str → Option Value) (news : List (Addr × Obj)) (n c : Nat) (t : Tok) (hn : n ≤ 32) (hc : c = 120 ∨ c = 88) :
    Ctr PySem.Challenge.rw_tx0022_01.row.prog w (hd.heap_39 w.params) hd.view_39 (looseW hd.view_39 [Str.ofString "COMPILER_FLAG_NAMES"]) mean mg mb 46 1 8 news [.str (Str.ofString "257 \"" ++ Qs n c) t] (OutS (halfF n c) news) := by
  have e := parse_half (n := n) (c := c) (by omega)
  rw [← e]
  exact parse_ct w mean mg mb news _ t (by rw [resp_len]; omega) (by rw [resp_len]; omega) (resp_257 n c) (resp_q n c)
local macro_rules | `(tactic| walk_at "exec For Name Call cons nil") => `(tactic| ((rename Fr _ _ _ _ => lF'); (with_unfolding_all refine' For_invVF lF' ?k1 ?k2 ?_; (case k1 => exact rfl); (case k2 => exact rfl); k_whole)))
local macro_rules | `(tactic| walk_at "pyIter ref") => `(tactic| (refine halt ?_))
local macro_rules | `(tactic| walk_at "call ref") => `(tactic| (k_here; k_dflt (refine' Ctr.useS (parse_q _ _ _ _ _ _ _ _ ?a1 ?a2) ?k1 ?k2 ?k3 ?k4 ?k5 ?kK ?kd ?ku ?_; (case k1 => k_asm); (case k2 => k_asm); (case k3 => k_asm); (case k4 => k_asm); (case k5 => k_asm); (case kK => first | exact rfl | assumption); (case kd => ktr_room); (case ku => ktr_units); (case a1 => assumption); (case a2 => first | exact .inl rfl | exact .inr rfl)); intro t9 h9 tk9 F9 N9; (try dsimp only); (try k_fold)))
local macro_rules | `(tactic| walk_at "call ref") => `(tactic| (k_here; k_dflt (refine' Ctr.useI (lev_ct _ _ _ _ _ _ _ _ _ _ ?a1 ?a2 ?a3 ?a4) ?k1 ?k2 ?k3 ?k4 ?k5 ?kK ?kd ?ku ?_; (case k1 => k_asm); (case k2 => k_asm); (case k3 => k_asm); (case k4 => k_asm); (case k5 => k_asm); (case kK => first | exact rfl | assumption); (case kd => ktr_room); (case ku => ktr_units); (case a1 => assumption); (case a2 => assumption); (case a3 => assumption); (case a4 => assumption)); intro t9 h9 tk9 F9 N9; (try dsimp only); (try k_fold)))
local macro_rules | `(tactic| walk_at "compareOp Eq str str") => `(tactic| first | refine eq_known (by with_reducible assumption) ?_ | refine halt ?_)
local macro_rules | `(tactic| walk_at "InvEndN") => `(tactic| refine halt ?_)
local macro_rules | `(tactic| walk_at "binaryOp Mult str int") => `(tactic| (refine mul_ql (by assumption) (by assumption) ?_; intro _ _))
set_option maxHeartbeats 4000000 in
theorem bin_ct (w : World) (mean : ExcName → Option Value) (mg mb : Str → Option Value) (news : List (Addr × Obj)) (a b : Nat) (t u : Tok) (ha1 : 1 ≤ a) (ha2 : a ≤ 32) (hb1 : 1 ≤ b) (hb2 : b ≤ 32) :
    Ctr PySem.Challenge.rw_tx0022_01.row.prog w (hd.heap_39 w.params) hd.view_39 (looseW hd.view_39 [Str.ofString "COMPILER_FLAG_NAMES"]) mean mg mb 94 4 40 news [.str (Qs a 120) t, .str (Qs b 88) u]
      (OutI (stein 30 a b 1) news) := by
  k_with_none
  w_top off
  k_fill
  unfold Ctr
  intro dp un gd cn cs a0 ccd cl outer A₀ base h₀ L m0 s Q E B F X N T hk hd hu hret
  refine wpAny_call ?_
  k_dflt cell_enter
  rename Fr _ _ _ _ => F1
  replace F1 : Fr _ _ _ (fun z => List.lookup z [(Str.ofString "other", Value.str (Qs b 88) u), (Str.ofString "one", Value.str (Qs a 120) t)]) := F1
  k_steps
  refine Halt.out ?_
  have st0 : BinInv a b ([] : List Int).length (Qs a 120) (Qs b 88) 1 := ⟨a, b, ha1, ha2, hb1, hb2, rfl, rfl, rfl⟩
  k_with "state" => exact st0
  k_state (fun pre one other twos => BinInv a b pre.length one other twos) "one" "other" "twos"
  · obtain ⟨m, n, hm1, hm2, hn1, hn2, e1, e2, es⟩ := kInv
    subst e1 e2
    have hl1 : (Qs m 120).length = m + 1 := Qs_len m 120
    have hl2 : (Qs n 88).length = n + 1 := Qs_len n 88
    have hs1 := (half_last hm2).1
    have hs2 := (half_last hn2).2
    have hh1 : (halfF m 120).length ≤ 33 := by rw [half_len]; split <;> omega
    have hh2 : (halfF n 88).length ≤ 33 := by rw [half_len]; split <;> omega
    have hlv := lev_range hm2 hn2
    obtain ⟨dd, hdv, hdl, hd1, hd2⟩ := lev_dist m n hm2 hn2
    have hql := ql_len dd
    k_steps
    · refine Halt.out ?_
      rename News _ _ _ _ => NN
      rename Fr _ _ _ _ => FF
      refine' kst_end ⟨_, _, _, _, _, _⟩ FF NN (fun p hp => List.mem_append.mpr (.inl hp)) (fun p hp => List.mem_append.mpr (.inr hp)) rfl trivial ?hk ?hr ?hp
      case hk => kst_all
      case hr => kst_same
      case hp => exact bin_ee hm1 hm2 hn1 hn2 kLt es rfl (by omega) (by omega)
    · refine Halt.out ?_
      rename News _ _ _ _ => NN
      rename Fr _ _ _ _ => FF
      refine' kst_end ⟨_, _, _, _, _, _⟩ FF NN (fun p hp => List.mem_append.mpr (.inl hp)) (fun p hp => List.mem_append.mpr (.inr hp)) rfl trivial ?hk ?hr ?hp
      case hk => kst_all
      case hr => kst_same
      case hp => exact bin_eo hm1 hm2 hn1 hn2 kLt es rfl (by omega) (by omega)
    · refine Halt.out ?_
      rename News _ _ _ _ => NN
      rename Fr _ _ _ _ => FF
      refine' kst_end ⟨_, _, _, _, _, _⟩ FF NN (fun p hp => List.mem_append.mpr (.inl hp)) (fun p hp => List.mem_append.mpr (.inr hp)) rfl trivial ?hk ?hr ?hp
      case hk => kst_all
      case hr => kst_same
      case hp => exact bin_oe hm1 hm2 hn1 hn2 kLt es rfl (by omega) (by omega)
    · rename levF m n = 1 => hl9
      have e9 := bin_eq hm1 hm2 hn1 hn2 kLt es rfl (by omega) (by omega) (lev_one.mp hl9)
      exact hret _ _ _ _ (by assumption) (news_left (by assumption)) ⟨rfl, _, congrArg (fun z => Value.int z _) (by rw [hl1, ← e9]; congr 1; omega)⟩
    · refine Halt.out ?_
      rename News _ _ _ _ => NN
      rename Fr _ _ _ _ => FF
      have h9 := half_lt (by assumption) (by omega) (by omega) (by assumption)
      rw [ql_X, hd1 h9] at FF
      refine' kst_end ⟨_, _, _, _, _, _⟩ FF NN (fun p hp => List.mem_append.mpr (.inl hp)) (fun p hp => List.mem_append.mpr (.inr hp)) rfl trivial ?hk ?hr ?hp
      case hk => kst_all
      case hr => kst_same
      case hp => exact bin_lt hm1 hm2 hn1 hn2 kLt es rfl (by omega) (by omega) h9
    · refine Halt.out ?_
      rename News _ _ _ _ => NN
      rename Fr _ _ _ _ => FF
      have h9 := half_gt (by assumption) (by omega) (by omega) (by assumption)
      rw [ql_x, hd2 h9] at FF
      refine' kst_end ⟨_, _, _, _, _, _⟩ FF NN (fun p hp => List.mem_append.mpr (.inl hp)) (fun p hp => List.mem_append.mpr (.inr hp)) rfl trivial ?hk ?hr ?hp
      case hk => kst_all
      case hr => kst_same
      case hp => exact bin_gt hm1 hm2 hn1 hn2 kLt es rfl (by omega) (by omega) h9
  · k_steps
    exact hret _ _ _ _ (by assumption) (by assumption) ⟨rfl, _, congrArg (fun z => Value.int z _) (bin_done kInv rfl)⟩
end Mine
namespace Mine
open PySem PySem.W PyProof.Rows
section
variable {prog : Program} {w : World} {K : Frag} {p : Program} {loose : List Str} {mean : ExcName → Option Value} {mg mb : Str → Option Value} {f : Addr} {D U : Nat} {news : List (Addr × Obj)} {vs : List Value}
theorem Ctr.useZ (c : Ctr prog w K p loose mean mg mb f D U news vs (fun v n' => n' = news ∧ ∃ r t, v = .int r t)) {dp un : Nat} {gd : Option (List Code)} {cn : Str} {cs : Scope} {a : Addr} {ccd : Value} {cl : List (Str × Addr)} {outer : List Env} {A₀ : Around} {base h₀ : Heap} {L : Addr} {m : Str → Option Value} {s : Shared} {Q E : Value → Shared → Prop}
    (B : Below A₀ base outer h₀) (F : Fr h₀ L s.heap m) (X : K.In h₀) (N : News h₀ L s.heap news) (T : Top p loose mean mg mb h₀) (hk : cs.kind = .function) (hd : dp + D < recursionLimit) (hu : un + U < cLine)
    (ret : ∀ (r : Int) (t : Tok) (h' : Heap) (tk' : Nat), Fr h₀ L h' m → News h₀ L h' news → Q (.int r t) { s with heap := h', toks := tk' }) :
    wpAny (model prog w) (ktrTop dp un gd cn cs L a ccd cl outer) (call (.ref f) vs) Q E s := c.use B F X N T hk hd hu fun v n' h' tk' F' N' o => by
  obtain ⟨rfl, r, t, rfl⟩ := o
  exact ret r t h' tk' F' N'
theorem Ctr.useL {ns : List Int} (c : Ctr prog w K p loose mean mg mb f D U news vs (fun v n' => ∃ (D : Addr) (ws : List Value) (nn : Nat), v = .ref D ∧ n' = (D, listOf (List.toArray ws) nn) :: news ∧ IntsAre ws ns ∧ ∀ p ∈ news, p.1 < D)) {dp un : Nat} {gd : Option (List Code)} {cn : Str} {cs : Scope} {a : Addr} {ccd : Value} {cl : List (Str × Addr)} {outer : List Env} {A₀ : Around} {base h₀ : Heap} {L : Addr} {m : Str → Option Value} {s : Shared} {Q E : Value → Shared → Prop}
    (B : Below A₀ base outer h₀) (F : Fr h₀ L s.heap m) (X : K.In h₀) (N : News h₀ L s.heap news) (T : Top p loose mean mg mb h₀) (hk : cs.kind = .function) (hd : dp + D < recursionLimit) (hu : un + U < cLine)
    (ret : ∀ (D : Addr) (ws : List Value) (nn : Nat) (h' : Heap) (tk' : Nat), Fr h₀ L h' m → News h₀ L h' ((D, listOf (List.toArray ws) nn) :: news) → IntsAre ws ns → (∀ p ∈ news, p.1 < D) → Q (.ref D) { s with heap := h', toks := tk' }) :
    wpAny (model prog w) (ktrTop dp un gd cn cs L a ccd cl outer) (call (.ref f) vs) Q E s := c.use B F X N T hk hd hu fun v n' h' tk' F' N' o => by
  obtain ⟨D, ws, nn, rfl, rfl, i, l⟩ := o
  exact ret D ws nn h' tk' F' N' i l
theorem Ctr.val {r z : Int} {news' : List (Addr × Obj)} (c : Ctr prog w K p loose mean mg mb f D U news vs (OutI r news')) (e : r = z) : Ctr prog w K p loose mean mg mb f D U news vs (OutI z news') := e ▸ c
theorem Ctr.useN {r : Int} {news' : List (Addr × Obj)} (c : Ctr prog w K p loose mean mg mb f D U news vs (OutI r news')) {dp un : Nat} {gd : Option (List Code)} {cn : Str} {cs : Scope} {a : Addr} {ccd : Value} {cl : List (Str × Addr)} {outer : List Env} {A₀ : Around} {base h₀ : Heap} {L : Addr} {m : Str → Option Value} {s : Shared} {Q E : Value → Shared → Prop}
    (B : Below A₀ base outer h₀) (F : Fr h₀ L s.heap m) (X : K.In h₀) (N : News h₀ L s.heap news) (T : Top p loose mean mg mb h₀) (hk : cs.kind = .function) (hd : dp + D < recursionLimit) (hu : un + U < cLine)
    (ret : ∀ (t : Tok) (h' : Heap) (tk' : Nat), Fr h₀ L h' m → News h₀ L h' news' → Q (.int r t) { s with heap := h', toks := tk' }) :
    wpAny (model prog w) (ktrTop dp un gd cn cs L a ccd cl outer) (call (.ref f) vs) Q E s := c.use B F X N T hk hd hu fun v n' h' tk' F' N' o => by
  obtain ⟨rfl, t, rfl⟩ := o
  exact ret t h' tk' F' N'
end
end Mine
namespace Mine
open PySem PySem.W PyProof.Rows PyProof
open Builtin Builtin.Str StrLaws
def scanL (sub : List Nat) : List Nat → Nat → Nat → List Nat
  | [], _, _ => []
  | c :: r, i, free => if free ≤ i ∧ ((c :: r).take sub.length == sub) = true then i :: scanL sub r (i + 1) (i + sub.length) else scanL sub r (i + 1) free
theorem str_len (s : Str) : s.cps.toList.length = s.length := by simp [Str.length]
theorem take_len {sub L : List Nat} (h : (L.take sub.length == sub) = true) : sub.length ≤ L.length := by
  have := congrArg List.length (eq_of_beq h)
  rw [List.length_take] at this
  omega
theorem scan_run (s sub : Str) (limit : Nat) (hw : 1 ≤ sub.length) : ∀ (m cur : Nat) (st : Array Nat × Nat), st.fst.size + m ≤ limit → cur + m = s.length + 1 → (forIn (List.range' cur m) st (occBody s sub s.length limit)).run.fst.toList = st.fst.toList ++ scanL sub.cps.toList (s.cps.toList.drop cur) cur st.snd
  | 0, cur, st, _, h => by
    rw [List.drop_eq_nil_of_le (by rw [str_len]; omega)]
    simp [scanL]
  | m + 1, cur, st, hl, h => by
    rw [List.range'_succ, List.forIn_cons]
    unfold occBody
    rcases Nat.lt_or_ge cur s.length with hc | hc
    · have hc' : cur < s.cps.toList.length := by rw [str_len]; exact hc
      rw [List.drop_eq_getElem_cons hc']
      unfold scanL
      rw [← List.drop_eq_getElem_cons hc', str_len, subAt_eq]
      by_cases hA : st.snd ≤ cur ∧ ((s.cps.toList.drop cur).take sub.length == sub.cps.toList) = true
      · have hfit : cur + sub.length ≤ s.length := by
          have := hA.2
          rw [← str_len sub] at this
          have := take_len this
          rw [List.length_drop, str_len, str_len] at this
          omega
        rw [if_pos hA, if_pos ⟨⟨⟨by omega, hA.1⟩, hfit⟩, hA.2⟩]
        refine (scan_run s sub limit hw m (cur + 1) _ ?_ ?_).trans ?_
        · show (st.fst.push cur).size + m ≤ limit
          rw [Array.size_push]; omega
        · omega
        · show (st.fst.push cur).toList ++ _ = _
          rw [Array.toList_push, List.append_assoc]
          rfl
      · rw [if_neg hA, if_neg (fun q => hA ⟨q.1.1.2, q.2⟩)]
        exact scan_run s sub limit hw m (cur + 1) _ (by show st.fst.size + m ≤ limit; omega) (by omega)
    · rw [if_neg (fun q => by have := q.1.2; omega)]
      refine (scan_run s sub limit hw m (cur + 1) _ (by show st.fst.size + m ≤ limit; omega) (by omega)).trans ?_
      rw [List.drop_eq_nil_of_le (by rw [str_len]; omega), List.drop_eq_nil_of_le (by rw [str_len]; omega)]
      rfl
theorem occ_scan (s sub : Str) (hw : 1 ≤ sub.length) : occurrences s sub 0 s.length (s.length + 1) = scanL sub.cps.toList s.cps.toList 0 0 := by
  rw [occ_eq]
  refine (scan_run s sub (s.length + 1) hw (s.length + 1 - 0) 0 (#[], 0) (by simp) (by omega)).trans ?_
  rw [List.drop_zero]
  rfl
def partsL (L : List Nat) (n w : Nat) : Nat → List Nat → List (List Nat)
  | a, [] => [(L.drop a).take (n - a)]
  | a, c :: r => (L.drop a).take (c - a) :: partsL L n w (c + w) r
theorem parts_toList (x : Str) (w : Nat) : ∀ (cuts : List Nat) (a : Nat), (partsFrom x w a cuts).map (·.cps.toList) = partsL x.cps.toList x.length w a cuts
  | [], a => by
    show [(strSub x a x.length).cps.toList] = _
    rw [strSub_toList]; rfl
  | c :: r, a => by
    show (strSub x a c).cps.toList :: (partsFrom x w (c + w) r).map (·.cps.toList) = _
    rw [strSub_toList, parts_toList x w r]; rfl
theorem map_toList_inj : ∀ {xs ys : List Str}, xs.map (·.cps.toList) = ys.map (·.cps.toList) → xs = ys
  | [], [], _ => rfl
  | [], _ :: _, h => nomatch h
  | _ :: _, [], h => nomatch h
  | x :: xs, y :: ys, h => by
    have h1 := (List.cons.inj h).1
    have h2 := (List.cons.inj h).2
    rw [map_toList_inj h2]
    have : x = y := Str.ext' (Array.toList_inj.mp h1)
    rw [this]
theorem kind_one (x y : Str) (h : Builtin.Str.strKind y ≤ 1) : ¬ Builtin.Str.strKind x < Builtin.Str.strKind y := by
  have : 1 ≤ Builtin.Str.strKind x := by unfold Builtin.Str.strKind; split <;> (try split) <;> omega
  omega
theorem kind_sep : Builtin.Str.strKind (Str.ofString ", ") ≤ 1 := by
  have e : (Str.ofString ", ") = ⟨#[44, 32]⟩ := by decide +kernel
  rw [e]
  unfold Builtin.Str.strKind
  simp
theorem split_scan (x y : Str) (hw : 1 ≤ y.length) (hk : Builtin.Str.strKind y ≤ 1) (hl : y.length ≤ x.length) : (Txt.split x y).map (·.cps.toList) = partsL x.cps.toList x.length y.length 0 (scanL y.cps.toList x.cps.toList 0 0) := by
  rw [← parts_toList, ← occ_scan x y hw]
  unfold Txt.split
  rw [if_neg (by rw [Bool.or_eq_true, decide_eq_true_eq, decide_eq_true_eq]; intro q; exact q.elim (fun q => by omega) (fun q => kind_one x y hk q))]
  split
  · rename_i he
    rw [List.isEmpty_iff.mp he]
    show [x.cps.toList] = [(strSub x 0 x.length).cps.toList]
    rw [sub_whole]
  · rw [partsBetween_eq]
def joinL (sep : List Nat) : List (List Nat) → List Nat
  | [] => []
  | [a] => a
  | a :: b :: r => a ++ sep ++ joinL sep (b :: r)
theorem join_toList (sep : Str) : ∀ xs : List Str, (Str.join sep xs).cps.toList = joinL sep.cps.toList (xs.map (·.cps.toList))
  | [] => rfl
  | [_] => rfl
  | a :: b :: r => by
    show (a ++ sep ++ Str.join sep (b :: r)).cps.toList = _
    rw [Str.cps_append, Str.cps_append, Array.toList_append, Array.toList_append, join_toList sep (b :: r)]
    rfl
theorem scan_word (r : List Nat) : ∀ (w : List Nat) (i free : Nat), 44 ∉ w → scanL [44, 32] (w ++ r) i free = scanL [44, 32] r (i + w.length) free
  | [], _, _, _ => rfl
  | c :: w, i, free, h => by
    have hc : ((c :: (w ++ r)).take [44, 32].length == [44, 32]) = false := by
      have : c ≠ 44 := fun q => h (q ▸ List.mem_cons_self)
      simp [this]
    rw [List.cons_append]
    conv => lhs; unfold scanL
    rw [if_neg (by rw [hc]; exact fun q => nomatch q.2), scan_word r w (i + 1) free (fun q => h (List.mem_cons_of_mem _ q)), List.length_cons, show i + 1 + w.length = i + (w.length + 1) by omega]
theorem scan_sep (r : List Nat) {i free : Nat} (h : free ≤ i) : scanL [44, 32] (44 :: 32 :: r) i free = i :: scanL [44, 32] r (i + 2) (i + 2) := by
  have e1 : ((44 :: 32 :: r).take [44, 32].length == [44, 32]) = true := rfl
  have e2 : ((32 :: r).take [44, 32].length == [44, 32]) = false := by simp
  conv => lhs; unfold scanL
  rw [if_pos ⟨h, e1⟩]
  conv => lhs; unfold scanL
  rw [if_neg (by rw [e2]; exact fun q => nomatch q.2)]
  rfl
theorem parts_join : ∀ (ws : List (List Nat)) (pre L : List Nat), ws ≠ [] → (∀ w ∈ ws, 44 ∉ w) → L = pre ++ joinL [44, 32] ws → partsL L L.length 2 pre.length (scanL [44, 32] (joinL [44, 32] ws) pre.length pre.length) = ws
  | [], _, _, h, _, _ => absurd rfl h
  | [a], pre, L, _, hn, e => by
    have ha := hn a List.mem_cons_self
    have es := scan_word [] a pre.length pre.length ha
    rw [List.append_nil] at es
    show partsL L L.length 2 pre.length (scanL [44, 32] a pre.length pre.length) = [a]
    rw [es, show scanL [44, 32] [] (pre.length + a.length) pre.length = [] from rfl]
    show [(L.drop pre.length).take (L.length - pre.length)] = [a]
    subst e
    simp [joinL]
  | a :: b :: r, pre, L, _, hn, e => by
    have ha := hn a List.mem_cons_self
    have ih := parts_join (b :: r) (pre ++ a ++ [44, 32]) L (fun q => nomatch q) (fun w hw => hn w (List.mem_cons_of_mem _ hw)) (by rw [e]; simp [joinL])
    have ep : (pre ++ a ++ [44, 32]).length = pre.length + a.length + 2 := by simp; omega
    rw [ep] at ih
    show partsL L L.length 2 pre.length (scanL [44, 32] (a ++ [44, 32] ++ joinL [44, 32] (b :: r)) pre.length pre.length) = _
    rw [List.append_assoc, scan_word _ a _ _ ha]
    show partsL L L.length 2 pre.length (scanL [44, 32] (44 :: 32 :: joinL [44, 32] (b :: r)) (pre.length + a.length) pre.length) = _
    rw [scan_sep _ (by omega)]
    show (L.drop pre.length).take (pre.length + a.length - pre.length) :: partsL L L.length 2 (pre.length + a.length + 2) _ = _
    rw [ih, e, List.drop_left, Nat.add_sub_cancel_left]
    show (a ++ [44, 32] ++ joinL [44, 32] (b :: r)).take a.length :: b :: r = _
    rw [List.append_assoc, List.take_left]
def wordsL : List (List Nat) := [[79, 80, 84, 73, 77, 73, 90, 69, 68], [78, 69, 87, 76, 79, 67, 65, 76, 83], [86, 65, 82, 65, 82, 71, 83], [86, 65, 82, 75, 69, 89, 87, 79, 82, 68, 83], [78, 69, 83, 84, 69, 68], [71, 69, 78, 69, 82, 65, 84, 79, 82], [78, 79, 70, 82, 69, 69], [67, 79, 82, 79, 85, 84, 73, 78, 69],
  [73, 84, 69, 82, 65, 66, 76, 69, 95, 67, 79, 82, 79, 85, 84, 73, 78, 69], [65, 83, 89, 78, 67, 95, 71, 69, 78, 69, 82, 65, 84, 79, 82]] ++ ([[52, 48, 48], [56, 48, 48], [49, 48, 48, 48], [50, 48, 48, 48], [52, 48, 48, 48], [56, 48, 48, 48], [49, 48, 48, 48, 48], [50, 48, 48, 48, 48], [52, 48, 48, 48, 48], [56, 48, 48, 48, 48], [49, 48, 48, 48, 48, 48], [50, 48, 48, 48, 48, 48], [52, 48, 48, 48, 48, 48], [56, 48, 48, 48, 48, 48], [49, 48, 48, 48, 48, 48, 48], [50, 48, 48, 48, 48, 48, 48], [52, 48, 48, 48, 48, 48, 48], [56, 48, 48, 48, 48, 48, 48], [49, 48, 48, 48, 48, 48, 48, 48], [50, 48, 48, 48, 48, 48, 48, 48], [52, 48, 48, 48, 48, 48, 48, 48], [56, 48, 48, 48, 48, 48, 48, 48]].map fun d => [48, 120] ++ d)
theorem words_lit : ((List.range 32).map fun i => (wordF i).cps.toList) = wordsL := by decide +kernel
theorem words_clear : ∀ w ∈ wordsL, 44 ∉ w ∧ 1 ≤ w.length := by decide +kernel
theorem join_len2 : ∀ ws : List (List Nat), (joinL [44, 32] ws).length + 2 ≤ (ws.map List.length).sum + 2 * ws.length + 2
  | [] => by simp [joinL]
  | [a] => by simp [joinL]
  | a :: b :: r => by
    have ih := join_len2 (b :: r)
    show (a ++ [44, 32] ++ joinL [44, 32] (b :: r)).length + 2 ≤ _
    simp only [List.length_append, List.map_cons, List.sum_cons, List.length_cons, List.length_nil] at ih ⊢
    omega
theorem flags_list {k : Nat} (h : k ≤ 32) : (flagsF k).cps.toList = joinL [44, 32] (wordsL.take k) := by
  have e1 : flagsF k = Str.join (Str.ofString ", ") ((List.range k).map wordF) := glued_eq_join _ _
  have e2 : (Str.ofString ", ").cps.toList = [44, 32] := by decide +kernel
  rw [e1, join_toList, e2, List.map_map, ← words_lit, ← List.map_take, List.take_range, Nat.min_eq_left h]
  rfl
theorem split_flags {k : Nat} (h1 : 1 ≤ k) (h : k ≤ 32) : Txt.split (flagsF k) (Str.ofString ", ") = (List.range k).map wordF := by
  have ej := flags_list h
  have el : (flagsF k).length = (joinL [44, 32] (wordsL.take k)).length := by rw [← ej, str_len]
  have e2 : (Str.ofString ", ").cps.toList = [44, 32] := by decide +kernel
  have e3 : (Str.ofString ", ").length = 2 := by decide +kernel
  have ew : (List.range k).map (fun i => (wordF i).cps.toList) = wordsL.take k := by
    rw [← words_lit, ← List.map_take, List.take_range, Nat.min_eq_left h]
  have hl : 2 ≤ (joinL [44, 32] (wordsL.take k)).length := by
    cases k with
    | zero => omega
    | succ k => cases k with
      | zero => decide +kernel
      | succ k => 
        show 2 ≤ (_ ++ [44, 32] ++ joinL [44, 32] _).length
        simp only [List.length_append, List.length_cons, List.length_nil]; omega
  have kk := parts_join (wordsL.take k) [] _ (fun q => by rw [q] at hl; exact absurd hl (by decide)) (fun w hw => (words_clear w (List.mem_of_mem_take hw)).1) rfl
  apply map_toList_inj
  rw [split_scan _ _ (by rw [e3]; decide) kind_sep (by rw [e3, el]; exact hl), e2, e3, ej, el]
  refine Eq.trans kk ?_
  rw [List.map_map, ← ew]
  rfl
theorem flags_len {k : Nat} (h : k ≤ 32) : (flagsF k).length + 2 ≤ 1000 := by
  have e : ∀ k : Fin 33, ((wordsL.take k.val).map List.length).sum + 2 * (wordsL.take k.val).length + 2 ≤ 1000 := by decide +kernel
  rw [← str_len, flags_list h]
  exact Nat.le_trans (join_len2 _) (e ⟨k, by omega⟩)
end Mine
namespace Mine
open PySem PySem.W PyProof.Rows PyProof
theorem gcd_all {a b : Nat} (ha1 : 1 ≤ a) (ha2 : a ≤ 32) (hb1 : 1 ≤ b) (hb2 : b ≤ 32) :
    ∃ g : Nat, 1 ≤ g ∧ g ≤ a ∧ g ≤ 32 ∧ stein 30 a b 1 = (g : Int) ∧ ((Int.gcd (2 ^ a - 1) (2 ^ b - 1) : Nat) : Int) = 2 ^ g - 1 := by
  have e : ∀ a b : Fin 33, 1 ≤ a.val → 1 ≤ b.val → 1 ≤ Nat.gcd a.val b.val ∧ Nat.gcd a.val b.val ≤ a.val ∧ Nat.gcd a.val b.val ≤ 32 ∧ stein 30 a.val b.val 1 = ((Nat.gcd a.val b.val : Nat) : Int) ∧ ((Int.gcd (2 ^ a.val - 1) (2 ^ b.val - 1) : Nat) : Int) = 2 ^ (Nat.gcd a.val b.val) - 1 := by decide +kernel
  exact ⟨_, e ⟨a, by omega⟩ ⟨b, by omega⟩ ha1 hb1⟩
theorem upto_take (vs : List Value) (g : Nat) : (slicePick vs.toArray none (some (g : Int)) none).toList = vs.take g := by
  have e : sliceBounds none (some (g : Int)) none vs.toArray.size = (((0 : Nat) : Int), ((min g vs.toArray.size : Nat) : Int), 1) := by
    simp only [sliceBounds, Option.getD_none, show (1 : Int) > 0 by decide, if_true, if_neg (show ¬ ((g : Int) < 0) by omega)]
    congr 1
    congr 1
    omega
  rw [kmk_pick_nat _ e]
  show (vs.drop 0).take (min g vs.toArray.size - 0) = _
  rw [List.drop_zero, Nat.sub_zero, List.size_toArray, kmk_take_min]
theorem words_take {a g : Nat} (h : g ≤ a) : ((List.range a).map wordF).take g = (List.range g).map wordF := by
  rw [← List.map_take, List.take_range, Nat.min_eq_left h]
theorem dats_of {news : List (Addr × Obj)} : ∀ {vs : List Value} {xs : List Str}, StrsAre vs xs → DatAll news vs (xs.map Dat.str)
  | _, _, .nil => .nil
  | _, _, .cons _ _ h => .cons (.str _ _) (dats_of h)
theorem words_ok {g : Nat} (h : g ≤ 32) : ∀ d ∈ ((List.range g).map wordF).map Dat.str, kqdOk 8 d = true := by
  have e : ∀ i : Fin 32, PyData.strOk (wordF i.val) = true := by decide +kernel
  intro d hd
  obtain ⟨x, hx, rfl⟩ := List.mem_map.mp hd
  obtain ⟨i, hi, rfl⟩ := List.mem_map.mp hx
  have := List.mem_range.mp hi
  exact e ⟨i, by omega⟩
theorem eq_words {prog : Program} {w : World} {A : Around} {E : Value → Shared → Prop} {s : Shared} {h₀ : Heap} {L a b : Addr} {news : List (Addr × Obj)} {xs ys : List Value} {ka kb g : Nat} {Q : Value → Shared → Prop} (N : News h₀ L s.heap news)
    (ma : (a, W.listOf xs.toArray ka) ∈ news) (sx : StrsAre xs ((List.range g).map wordF)) (mb : (b, W.listOf ys.toArray kb) ∈ news) (sy : StrsAre ys ((List.range g).map wordF)) (hg : g ≤ 32) (hu : A.units + 64 < cLine) (h : Q (.bool true) s) :
    wpAny (model prog w) A (compareOp .Eq (.ref a) (.ref b)) Q E s := by
  refine kqd_eq (n₁ := []) (n₂ := []) N ma rfl rfl (dats_of sx) (fun _ h => nomatch h) mb rfl rfl (dats_of sy) (fun _ h => nomatch h) (words_ok hg) (words_ok hg) hu ?_
  have q : ∀ (P : Prop) (i : Decidable P), P → @decide P i = true := fun P i z => @decide_eq_true P i z
  rw [q _ _ rfl]
  exact h
end Mine
namespace Mine
open PySem PySem.W PyProof.Rows PyProof
theorem val_ab (r q : Int) : ∃ a : Nat, (1 + r.fmod 4) * (1 + q.fmod 8) = (a : Int) ∧ 1 ≤ a ∧ a ≤ 32 := by
  have h1 := fmod_lo r (n := 4) (by decide)
  have h2 := fmod_hi r (n := 4) (by decide)
  have h3 := fmod_lo q (n := 8) (by decide)
  have h4 := fmod_hi q (n := 8) (by decide)
  generalize r.fmod 4 = x at *
  generalize q.fmod 8 = y at *
  have hx : x = 0 ∨ x = 1 ∨ x = 2 ∨ x = 3 := by omega
  rcases hx with rfl | rfl | rfl | rfl
  · exact ⟨(1 + y).toNat, by omega, by omega, by omega⟩
  · exact ⟨(2 * (1 + y)).toNat, by omega, by omega, by omega⟩
  · exact ⟨(3 * (1 + y)).toNat, by omega, by omega, by omega⟩
  · exact ⟨(4 * (1 + y)).toNat, by omega, by omega, by omega⟩
theorem pow_lo (a : Nat) : (0 : Int) ≤ 2 ^ a - 1 := by
  have : (0 : Int) < 2 ^ a := Int.pow_pos (by decide)
  omega
theorem pow_hi {a : Nat} (h : a ≤ 32) : (2 : Int) ^ a - 1 < 2 ^ 36 := by
  have e : ∀ a : Fin 33, (2 : Int) ^ a.val - 1 < 2 ^ 36 := by decide +kernel
  exact e ⟨a, by omega⟩
theorem oct_len {a : Nat} (h : a ≤ 32) : (octF (2 ^ a - 1)).length ≤ 8 := by
  have e : ∀ a : Fin 33, (octF (2 ^ a.val - 1)).length ≤ 8 := by decide +kernel
  exact e ⟨a, by omega⟩
def segB (seg : List Int) : Bool := decide (1 ≤ seg.length) && (decide (seg.length ≤ 6) && (List.range seg.length).all fun c => decide (0 ≤ seg.getD c 0) && (decide (seg.getD c 0 < 128) && (decide (c + 1 < seg.length → 64 ≤ seg.getD c 0) && decide (c + 1 = seg.length → seg.getD c 0 < 64))))
theorem segOk_of {seg : List Int} (h : segB seg = true) : SegOk seg := by
  unfold segB at h
  rw [Bool.and_eq_true, Bool.and_eq_true, decide_eq_true_eq, decide_eq_true_eq, List.all_eq_true] at h
  obtain ⟨h1, h2, h3⟩ := h
  refine ⟨h1, h2, fun c b hb => ?_⟩
  have hc : c < seg.length := by
    rcases Nat.lt_or_ge c seg.length with q | q
    · exact q
    · rw [List.getElem?_eq_none q] at hb; cases hb
  have e : seg.getD c 0 = b := by rw [List.getD_eq_getElem?_getD, hb]; rfl
  have h4 := h3 c (List.mem_range.mpr hc)
  rw [e, Bool.and_eq_true, Bool.and_eq_true, Bool.and_eq_true, decide_eq_true_eq, decide_eq_true_eq, decide_eq_true_eq, decide_eq_true_eq] at h4
  exact h4
theorem oct_ok {a : Nat} (h1 : 1 ≤ a) (h : a ≤ 32) : SegOk (octF (2 ^ a - 1)) := by
  have e : ∀ a : Fin 33, 1 ≤ a.val → segB (octF (2 ^ a.val - 1)) = true := by decide +kernel
  exact segOk_of (e ⟨a, by omega⟩ h1)
theorem oct_val {a : Nat} (h : a ≤ 32) : valF (octF (2 ^ a - 1)) = 2 ^ a - 1 := by
  have e : ∀ a : Fin 33, valF (octF (2 ^ a.val - 1)) = 2 ^ a.val - 1 := by decide +kernel
  exact e ⟨a, by omega⟩
theorem app_left {xs ys : List Int} (c : Nat) (b : Int) (h : xs[c]? = some b) : (xs ++ ys)[0 + c]? = some b := by
  have hc : c < xs.length := by
    rcases Nat.lt_or_ge c xs.length with q | q
    · exact q
    · rw [List.getElem?_eq_none q] at h; cases h
  rw [Nat.zero_add, List.getElem?_append_left hc]; exact h
theorem app_right {xs ys : List Int} (c : Nat) (b : Int) (h : ys[c]? = some b) : (xs ++ ys)[0 + xs.length + c]? = some b := by
  rw [Nat.zero_add, List.getElem?_append_right (by omega), Nat.add_sub_cancel_left]; exact h
theorem news_head {h₀ h : Heap} {L : Addr} {q : Addr × Obj} {l : List (Addr × Obj)} (N : News h₀ L h (q :: l)) : News h₀ L h [q] := fun z hz => N z ((List.mem_cons.mp hz).elim (fun e => e ▸ .head _) fun h => nomatch h)
theorem news_none {h₀ h : Heap} {L : Addr} {l : List (Addr × Obj)} (_N : News h₀ L h l) : News h₀ L h [] := fun _ hz => nomatch hz
theorem one_ne {D I : Addr} {o : Obj} (h : ∀ p ∈ [(D, o)], p.1 < I) : ∀ p ∈ [(D, o)], p.1 ≠ I := fun p hp => Nat.ne_of_lt (h p hp)
theorem strs_len {l : List (Str × Tok)} {k : Nat} (e : l.map (·.1) = (List.range k).map wordF) : (strValues l).length = k := by
  have := congrArg List.length e
  simpa [strValues] using this
local macro_rules | `(tactic| walk_at "call builtin:str.split") => `(tactic| (refine halt ?_))
local macro_rules | `(tactic| walk_at "binaryOp Mult str int") => `(tactic| (refine mul_ql rfl (by omega) ?_; intro _ _))
local macro_rules | `(tactic| walk_at "subscriptTail Name Slice ref ref") => `(tactic| ((rename (Ql _).length = _ => hqx); (refine halt ?_)))
local macro_rules | `(tactic| walk_at "compareOp Eq ref ref") => `(tactic| (refine halt ?_))
local macro_rules | `(tactic| walk_at "call builtin:len") => `(tactic| (refine halt ?_))
local macro_rules | `(tactic| walk_at "binaryOp Add ref ref") => `(tactic| (refine halt ?_))
local macro_rules | `(tactic| walk_at "call builtin:iter") => `(tactic| (refine halt ?_))
local macro_rules | `(tactic| walk_at "binaryOp Pow int int") => `(tactic| (refine halt ?_))
local macro_rules | `(tactic| walk_at "call ref") => `(tactic| (refine halt ?_))
set_option maxHeartbeats 8000000 in
theorem law_holds : PySem.Challenge.rw_tx0022_01.Holds := hd (by
  w_strict (
  k_with_none
  k_go0
  (all_goals try k_fold)
  k_steps
  refine Halt.out ?_
  rename News _ _ _ _ => NN
  replace NN := drop2 NN
  rename IntsAre _ (List.map _ _) => hI
  (refine' Ctr.useZ (third_ct _ _ _ _ _ _ _ _ _ _ _ (.head _) hI ?hl ?h0 ?h1) ?k1 ?k2 ?k3 ?k4 ?k5 ?kK ?kd ?ku ?_; (case k1 => k_asm); (case k2 => k_asm); (case k3 => k_asm); (case k4 => k_asm); (case k5 => k_asm); (case kK => rfl); (case kd => ktr_room); (case ku => ktr_units); (case h0 => decide); (case h1 => decide); (case hl => (simp only [List.length_map, List.length_take]; omega)))
  intro r1 t1 h1 tk1 F1 N1
  (try dsimp only)
  k_steps
  refine Halt.out ?_
  (refine' Ctr.useZ (third_ct _ _ _ _ _ _ _ _ _ _ _ (.head _) hI ?hl ?h0 ?h1) ?k1 ?k2 ?k3 ?k4 ?k5 ?kK ?kd ?ku ?_; (case k1 => k_asm); (case k2 => k_asm); (case k3 => k_asm); (case k4 => k_asm); (case k5 => k_asm); (case kK => rfl); (case kd => ktr_room); (case ku => ktr_units); (case h0 => decide); (case h1 => decide); (case hl => (simp only [List.length_map, List.length_take]; omega)))
  intro r2 t2 h2 tk2 F2 N2
  (try dsimp only)
  k_steps
  refine Halt.out ?_
  (refine' Ctr.useZ (third_ct _ _ _ _ _ _ _ _ _ _ _ (.head _) hI ?hl ?h0 ?h1) ?k1 ?k2 ?k3 ?k4 ?k5 ?kK ?kd ?ku ?_; (case k1 => k_asm); (case k2 => k_asm); (case k3 => k_asm); (case k4 => k_asm); (case k5 => k_asm); (case kK => rfl); (case kd => ktr_room); (case ku => ktr_units); (case h0 => decide); (case h1 => decide); (case hl => (simp only [List.length_map, List.length_take]; omega)))
  intro r3 t3 h3 tk3 F3 N3
  (try dsimp only)
  k_steps
  refine Halt.out ?_
  rename Fr _ _ _ _ => FF
  obtain ⟨a, ea, ha1, ha2⟩ := val_ab (2 + r1) (3 + r2)
  obtain ⟨b, eb, hb1, hb2⟩ := val_ab (2 + r1) (5 + r3)
  rw [ea, eb] at FF
  rw [ea]
  clear ea eb
  refine pow_int_small (by omega) (by omega) (by decide) ?_
  rw [Int.toNat_natCast]
  k_steps
  refine Halt.out ?_
  (refine' Ctr.useL (oct_ct _ _ _ _ _ _ _ (pow_lo a) (pow_hi ha2)) ?k1 ?k2 ?k3 ?k4 ?k5 ?kK ?kd ?ku ?_; (case k1 => k_asm); (case k2 => k_asm); (case k3 => k_asm); (case k4 => k_asm); (case k5 => k_asm); (case kK => rfl); (case kd => ktr_room); (case ku => ktr_units))
  intro Da wa na h4 tk4 F4 N4 iA lA
  (try dsimp only)
  k_steps
  refine Halt.out ?_
  refine pow_int_small (by omega) (by omega) (by decide) ?_
  rw [Int.toNat_natCast]
  k_steps
  refine Halt.out ?_
  (refine' Ctr.useL (oct_ct _ _ _ _ _ _ _ (pow_lo b) (pow_hi hb2)) ?k1 ?k2 ?k3 ?k4 ?k5 ?kK ?kd ?ku ?_; (case k1 => k_asm); (case k2 => k_asm); (case k3 => k_asm); (case k4 => k_asm); (case k5 => k_asm); (case kK => rfl); (case kd => ktr_room); (case ku => ktr_units))
  intro Db wb nb h5 tk5 F5 N5 iB lB
  (try dsimp only)
  k_steps
  refine Halt.out ?_
  refine kmk_add_ints F5 N5 (PySem.IsL.isList (n := na) (N5 _ (.tail _ (.head _))).1) (PySem.IsL.isList (n := nb) (N5 _ (.head _)).1) iA iB ?_ (by have z1 := oct_len ha2; have z2 := oct_len hb2; rw [sizeLine_eq]; omega)
  intro Dc wc h6 F6 N6 lC iC
  replace N6 := news_head N6
  clear N5 N4 F4 F5 lA lB iA iB
  k_steps
  refine Halt.out ?_
  refine lst_iter F6 N6 (.head _) ?_
  intro I h7 F7 N7 lI
  clear N6 F6
  k_steps
  refine Halt.out ?_
  (refine' Ctr.useN (Ctr.val (var_ct _ _ _ _ _ _ _ _ _ _ _ _ (.head _) (one_ne lI) iC app_left (oct_ok ha1 ha2)) (oct_val ha2)) ?k1 ?k2 ?k3 ?k4 ?k5 ?kK ?kd ?ku ?_; (case k1 => k_asm); (case k2 => k_asm); (case k3 => k_asm); (case k4 => k_asm); (case k5 => k_asm); (case kK => rfl); (case kd => ktr_room); (case ku => ktr_units))
  intro t8 h8 tk8 F8 N8
  (try dsimp only)
  k_steps
  refine Halt.out ?_
  (refine' Ctr.useN (Ctr.val (var_ct _ _ _ _ _ _ _ _ _ _ _ _ (.head _) (one_ne lI) iC app_right (oct_ok hb1 hb2)) (oct_val hb2)) ?k1 ?k2 ?k3 ?k4 ?k5 ?kK ?kd ?ku ?_; (case k1 => k_asm); (case k2 => k_asm); (case k3 => k_asm); (case k4 => k_asm); (case k5 => k_asm); (case kK => rfl); (case kd => ktr_room); (case ku => ktr_units))
  intro t9 h9 tk9 F9 N9
  replace N9 := news_none N9
  (try dsimp only)
  k_steps
  refine Halt.out ?_
  (refine' Ctr.useS (flags_ct _ _ _ _ _ a _ ha1 ha2) ?k1 ?k2 ?k3 ?k4 ?k5 ?kK ?kd ?ku ?_; (case k1 => k_asm); (case k2 => k_asm); (case k3 => k_asm); (case k4 => k_asm); (case k5 => k_asm); (case kK => rfl); (case kd => ktr_room); (case ku => ktr_units))
  intro t10 h10 tk10 F10 N10
  (try dsimp only)
  k_steps
  refine Halt.out ?_
  refine KSpl.split1 F10 N10 (by decide +kernel) ?_ (by have z := flags_len ha2; rw [sizeLine_eq]; omega)
  intro D1 l1 h11 tk11 e1 sa1 F11 N11 _
  rw [split_flags ha1 ha2] at e1
  rw [e1] at sa1
  have w1 := strs_len e1
  (try dsimp only)
  k_steps
  refine Halt.out ?_
  (refine' Ctr.useS (flags_ct _ _ _ _ _ b _ hb1 hb2) ?k1 ?k2 ?k3 ?k4 ?k5 ?kK ?kd ?ku ?_; (case k1 => k_asm); (case k2 => k_asm); (case k3 => k_asm); (case k4 => k_asm); (case k5 => k_asm); (case kK => rfl); (case kd => ktr_room); (case ku => ktr_units))
  intro t12 h12 tk12 F12 N12
  (try dsimp only)
  k_steps
  refine Halt.out ?_
  refine KSpl.split1 F12 N12 (by decide +kernel) ?_ (by have z := flags_len hb2; rw [sizeLine_eq]; omega)
  intro D2 l2 h13 tk13 e2 sa2 F13 N13 _
  rw [split_flags hb1 hb2] at e2
  rw [e2] at sa2
  have w2 := strs_len e2
  (try dsimp only)
  k_steps
  refine Halt.out ?_
  rename News _ _ _ _ => NW
  rename Fr _ _ _ _ => FW
  refine kst_len NW (.tail _ (.head _)) w1 (by omega) ?_
  k_steps
  refine Halt.out ?_
  refine kst_len NW (.head _) w2 (by omega) ?_
  have hqa := ql_len a
  have hqb := ql_len b
  k_steps
  refine Halt.out ?_
  rw [ql_x, ql_X]
  obtain ⟨g, hg1, hga, hg2, es, eg⟩ := gcd_all ha1 ha2 hb1 hb2
  (refine' Ctr.useI (Ctr.val (bin_ct _ _ _ _ _ a b _ _ ha1 ha2 hb1 hb2) es) ?k1 ?k2 ?k3 ?k4 ?k5 ?kK ?kd ?ku ?_; (case k1 => k_asm); (case k2 => k_asm); (case k3 => k_asm); (case k4 => k_asm); (case k5 => k_asm); (case kK => rfl); (case kd => ktr_room); (case ku => ktr_units))
  intro t14 h14 tk14 F14 N14
  (try dsimp only)
  k_steps
  refine Halt.out ?_
  (refine' Ctr.useI (Ctr.val (euc_ct _ _ _ _ _ _ _ _ _ (pow_lo a) (pow_lo b)) eg) ?k1 ?k2 ?k3 ?k4 ?k5 ?kK ?kd ?ku ?_; (case k1 => k_asm); (case k2 => k_asm); (case k3 => k_asm); (case k4 => k_asm); (case k5 => k_asm); (case kK => rfl); (case kd => ktr_room); (case ku => ktr_units))
  intro t15 h15 tk15 F15 N15
  (try dsimp only)
  k_steps
  refine Halt.out ?_
  (refine' Ctr.useS (flags_ct _ _ _ _ _ g _ hg1 hg2) ?k1 ?k2 ?k3 ?k4 ?k5 ?kK ?kd ?ku ?_; (case k1 => k_asm); (case k2 => k_asm); (case k3 => k_asm); (case k4 => k_asm); (case k5 => k_asm); (case kK => rfl); (case kd => ktr_room); (case ku => ktr_units))
  intro t16 h16 tk16 F16 N16
  (try dsimp only)
  k_steps
  refine Halt.out ?_
  refine KSpl.split1 F16 N16 (by decide +kernel) ?_ (by have z := flags_len hg2; rw [sizeLine_eq]; omega)
  intro D3 l3 h17 tk17 e3 sa3 F17 N17 _
  rw [split_flags hg1 hg2] at e3
  rw [e3] at sa3
  have w3 := strs_len e3
  (try dsimp only)
  k_steps
  refine Halt.out ?_
  rename News _ _ _ _ => NX
  refine kst_len NX (.head _) w3 (by omega) ?_
  k_steps
  refine Halt.out ?_
  rename Fr _ _ _ _ => FX
  (refine' kmk_slice_lit FX NX (PySem.IsL.isList (n := 0) (NX _ (.tail _ (.tail _ (.head _)))).1) ?xp ?xq (upto_take (strValues l1) g) ?_ ?xs ?xt ?xz; (case xp => kmk_part); (case xq => kmk_part); (case xs => with_unfolding_all rfl); (case xt => kmk_pure); (case xz => rw [List.size_toArray, w1, sizeLine_eq]; omega))
  intro D4 h18 F18 N18 l4
  have sa4 := StrsAre.take' sa1 g
  rw [words_take hga] at sa4
  (try dsimp only)
  k_steps
  refine Halt.out ?_
  (refine' eq_words N18 (.tail _ (.head _)) sa3 (.head _) sa4 hg2 ?xu ?_; (case xu => ktr_units))
  k_steps))
end Mine
theorem PySem.Challenge.cw_tx0022_01_holds : PySem.Challenge.rw_tx0022_01.Holds :=
  Mine.law_holds
