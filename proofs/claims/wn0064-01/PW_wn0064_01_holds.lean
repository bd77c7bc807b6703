import PyProof.Rows.All
import Wide.All
import OpenK.AllK
import Wide.FinOn
import PySem.Challenge.RW_wn0064_01
open PySem PySem.W PyProof.Rows
set_option Elab.async false
namespace Mine
set_option maxRecDepth 100000 in
set_option maxHeartbeats 8000000 in
open_top hd for PySem.Challenge.rw_wn0064_01

/-- what every contract of a global def says: from any frame of a def, with the ledger at hand -/
def CC (f : Addr) (dN uN : Nat) (ask : List (Addr × Obj) → List Value → Prop) (give : List (Addr × Obj) → List Value → Value → List (Addr × Obj) → Prop) : Prop :=
  ∀ (w : World) (mean : ExcName → Option Value) (mg mb : Str → Option Value) (dp un : Nat) (gd : Option (List Code)) (cn : Str) (cs : Scope) (a : Addr) (ccd : Value) (cl : List (Str × Addr)) (outer : List Env) (A₀ : Around) (base h₀ : Heap) (L : Addr) (m : Str → Option Value)
    (news : List (Addr × Obj)) (s : Shared) (vs : List Value) (Q E : Value → Shared → Prop),
    Below A₀ base outer h₀ → Fr h₀ L s.heap m → (hd.heap_39 w.params).In h₀ → News h₀ L s.heap news → Top hd.view_39 [] mean mg mb h₀ → cs.kind = .function → ask news vs → dp + dN < recursionLimit → un + uN < cLine →
    (∀ v tl h' tk', Fr h₀ L h' m → News h₀ L h' (tl ++ news) → (∀ q ∈ news, ∀ p ∈ tl, q.1 < p.1) → give news vs v tl → Q v { s with heap := h', toks := tk' }) →
    wpAny (model PySem.Challenge.rw_wn0064_01.prog w) (ktrTop dp un gd cn cs L a ccd cl outer) (call (.ref f) vs) Q E s

/-- what a frame is known to hold -/
def Knows (m : Str → Option Value) : List (Str × Value) → Prop
  | [] => True
  | p :: r => m p.1 = some p.2 ∧ Knows m r
theorem Knows.all {m : Str → Option Value} : ∀ {ps : List (Str × Value)}, Knows m ps → ∀ p ∈ ps, m p.1 = some p.2
  | _ :: _, ⟨h, _⟩, _, .head _ => h
  | _ :: _, ⟨_, r⟩, _, .tail _ hm => r.all _ hm
theorem fr_known {h₀ h : Heap} {L : Addr} {m : Str → Option Value} (ps : List (Str × Value)) (hp : Knows m ps) (F : Fr h₀ L h m) : Fr h₀ L h (kstB m ps) := by
  have e : kstB m ps = m := funext fun z => kstB_eq hp.all fun _ => rfl
  rw [e]; exact F

open PySem.Calls PySem.Spec PySem.NumText
local macro_rules | `(tactic| tb_start) => `(tactic| repeat' (first
  | (k_unfold; (try dsimp only))
  | (with_reducible refine ite_tt ?_) | (with_reducible refine ite_ff ?_)
  | (k_closed; k_dflt (first | refine ite_neg (by decide) ?_ | refine ite_pos (by decide) ?_))
  | ((fail_if_success (with_reducible show @ite _ _ _ _ _)); (fail_if_success (with_reducible show wpAny _ _ (exec (Stmt.While _ _ _ _) _) _ _ _)); (fail_if_success (with_reducible show wpAny _ _ (exec (Stmt.For _ _ _ _ _) _) _ _ _)); (fail_if_success (with_reducible show wpAny _ _ (call (Value.ref _) _) _ _ _)); (fail_if_success (with_reducible show wpAny _ _ (pyIter _) _ _ _)); (fail_if_success (with_reducible show wpAny _ _ (eval (Expr.ListComp _ _ _ _) _) _ _ _)); (fail_if_success (with_reducible show wpAny _ _ (compareOp CmpOp.NotEq (Value.ref _) (Value.ref _)) _ _ _));
     first | walk1 | (dsimp only; walk1) | (leave1; try dsimp only))))
local macro_rules | `(tactic| cell_ask $C:term) => `(tactic| (
  k_dflt (refine' $C _ _ _ _ _ _ _ _ _ _ _ _ _ _ _ _ _ _ _ _ _ _ _ ?k1 ?k2 ?k3 ?k4 ?k5 ?kK ?ka ?kd ?ku ?kR)
  (case k1 => k_asm)
  (case k2 => k_asm)
  (case k3 => k_asm)
  (case k4 => k_asm)
  (case k5 => k_asm)
  (case kK => first | exact rfl | assumption)
  (case kd => ktr_room)
  (case ku => ktr_units)))
local macro_rules | `(tactic| cell_enter) => `(tactic| (refine' code_def ?k1 ?k2 ?k3 ?k4 ?k5 ?kA ?kF ?kK ?k6 ?k7 ?k8 ?k9 ?kB ?_ ?c2 ?c3 ?c4 ?c5; (case kA => exact rfl); (case kF => exact rfl); (case kK => first | exact rfl | assumption); (case k1 => k_asm); (case k2 => k_asm); (case k3 => k_asm); (case k4 => k_asm); (case k5 => k_asm); (case k6 => k_is); (case k7 => k_is); (case k8 => ktr_room); (case k9 => exact BindsTo.of_eq rfl); (case c5 => decide); (case kB => exact locs rfl); (case c2 => exact rfl); (case c3 => exact rfl); (case c4 => exact rfl); k_whole; intro g' L' h' FG' F' N' B' X' T'; (try dsimp only); (try k_fold)))

/-- a text by its signs -/
def Tx (l : List Nat) : Str := ⟨l.toArray⟩
theorem Tx_len (l : List Nat) : (Tx l).length = l.length := by simp [Tx, Str.length]
theorem Tx_toList (l : List Nat) : (Tx l).cps.toList = l := rfl
theorem Tx_app (a b : List Nat) : Tx a ++ Tx b = Tx (a ++ b) := by
  apply Str.ext'
  show a.toArray ++ b.toArray = (a ++ b).toArray
  simp
theorem Tx_slice {l : List Nat} {i j : Int} {a b : Nat} (hi : i = a) (hj : j = b) (hab : a ≤ b) (hb : b ≤ l.length) : Txt.slice (Tx l) (some i) (some j) = Tx ((l.drop a).take (b - a)) := by
  subst hi hj
  exact StrLaws.sliceText_nat (Tx l) hab (by rw [Tx_len]; exact hb)
theorem Tx_to {l : List Nat} {j : Int} {b : Nat} (hj : j = b) (hb : b ≤ l.length) : Txt.slice (Tx l) none (some j) = Tx (l.take b) := by
  subst hj
  have h := StrLaws.sliceText_to (x := Tx l) (j := (b : Int)) ⟨by omega, by rw [Tx_toList]; omega⟩
  refine Eq.trans h ?_
  simp only [Tx_toList, List.drop_zero]
  have e : ((b : Int) - 0).toNat = b := by omega
  rw [e]; rfl
theorem Tx_from {l : List Nat} {i : Int} {a : Nat} (hi : i = a) (ha : a ≤ l.length) : Txt.slice (Tx l) (some i) none = Tx (l.drop a) := by
  subst hi
  have h := StrLaws.sliceText_from (x := Tx l) (i := (a : Int)) ⟨by omega, by rw [Tx_toList]; omega⟩
  refine Eq.trans h ?_
  simp only [Tx_toList]
  have e : ((l.length : Int) - (a : Int)).toNat = l.length - a := by omega
  have e2 : ((a : Nat) : Int).toNat = a := by omega
  rw [e, e2, List.take_of_length_le (by simp)]; rfl
theorem Tx_all (l : List Nat) : Txt.slice (Tx l) none none = Tx l := by
  have e : Txt.slice (Tx l) none none = Txt.slice (Tx l) (some 0) none := by
    show StrLaws.sliceText _ _ _ = StrLaws.sliceText _ _ _
    unfold StrLaws.sliceText
    rw [StrLaws.sliceIdx_none_lo]
  rw [e, Tx_from (i := 0) (a := 0) rfl (by omega)]; rfl
theorem Tx_last {l : List Nat} (h : 1 ≤ l.length) : Txt.slice (Tx l) (some (-1)) none = Tx (l.drop (l.length - 1)) := by
  have h := StrLaws.sliceText_from_neg (x := Tx l) (i := -1) (by omega) (by rw [Tx_len]; omega)
  refine Eq.trans h ?_
  simp only [Tx_toList, Tx_len]
  have e2 : ((-1 : Int) + (l.length : Int)).toNat = l.length - 1 := by omega
  rw [e2, List.take_of_length_le (by simp; omega)]; rfl
theorem Tx_last0 : Txt.slice (Tx []) (some (-1)) none = Tx [] := by decide
theorem Tx_but {l : List Nat} (h : 1 ≤ l.length) : Txt.slice (Tx l) none (some (-1)) = Tx (l.take (l.length - 1)) := by
  have h := StrLaws.sliceText_to_neg (x := Tx l) (j := -1) (by omega) (by rw [Tx_len]; omega)
  refine Eq.trans h ?_
  simp only [Tx_toList, Tx_len, List.drop_zero]
  have e2 : ((-1 : Int) + (l.length : Int) - 0).toNat = l.length - 1 := by omega
  rw [e2]; rfl
theorem Tx_item {l : List Nat} {i : Int} {a c : Nat} (hi : i = a) (hc : l[a]? = some c) : Txt.item (Tx l) i = Tx [c] := by
  subst hi
  have e : Txt.charAt (Tx l) (a : Int) = some c := StrLaws.at_nonneg (by omega) (by
    show (Tx l).cps[a]? = some c
    show l.toArray[a]? = some c
    simpa using hc)
  show Str.mk #[(Txt.charAt (Tx l) (a : Int)).getD 0] = _
  rw [e]; rfl
theorem Tx_beq (a b : List Nat) : (Tx a == Tx b) = (a == b) := by
  have h : (Tx a = Tx b) ↔ (a = b) := ⟨fun h => by have := congrArg (fun x : Str => x.cps.toList) h; exact this, fun h => by rw [h]⟩
  by_cases e : a = b
  · subst e; simp
  · rw [beq_eq_false_iff_ne.mpr (fun q => e (h.mp q)), beq_eq_false_iff_ne.mpr e]
theorem Tx_bne (a b : List Nat) : (Tx a != Tx b) = (a != b) := by rw [bne, bne, Tx_beq]
/-- a run of quotes -/
abbrev qs (n : Nat) : List Nat := List.replicate n 34
def r257 (n : Nat) : List Nat := [50, 53, 55, 32, 34] ++ qs n ++ [120]
theorem r257_len (n : Nat) : (r257 n).length = n + 6 := by simp [r257]
theorem r257_q {n k : Nat} (h : k < n) : (r257 n)[5 + k]? = some 34 := by
  unfold r257
  rw [List.append_assoc, List.getElem?_append_right (by simp)]
  have e : 5 + k - [50, 53, 55, 32, 34].length = k := by simp
  rw [e, List.getElem?_append_left (by simpa using h)]
  simp [h]
theorem r257_x (n : Nat) : (r257 n)[5 + n]? = some 120 := by
  unfold r257
  rw [List.getElem?_append_right (by simp; omega)]
  have e : 5 + n - ([50, 53, 55, 32, 34] ++ qs n).length = 0 := by simp; omega
  rw [e]; rfl
theorem r257_a (n : Nat) : Txt.slice (Tx (r257 n)) none (some 3) = Str.ofString "257" := by
  rw [Tx_to (j := 3) (b := 3) rfl (by rw [r257_len]; omega)]
  show Tx [50, 53, 55] = _
  decide
theorem r257_b (n : Nat) : Txt.slice (Tx (r257 n)) (some 3) (some 5) = Str.ofString " \"" := by
  rw [Tx_slice (i := 3) (j := 5) (a := 3) (b := 5) rfl rfl (by omega) (by rw [r257_len]; omega)]
  show Tx [32, 34] = _
  decide
/-- what parse257 tells of it -/
def half (n : Nat) : List Nat := if n % 2 = 0 then qs (n / 2) ++ [120] else qs (n / 2)
theorem qs_succ (j : Nat) : qs j ++ [34] = qs (j + 1) := by rw [qs, qs, List.replicate_succ']
theorem half_even {n j : Nat} (h : 2 * j = n) : qs j ++ [120] = half n := by
  unfold half; rw [if_pos (by omega), show n / 2 = j by omega]
theorem half_odd {n j : Nat} (h : 2 * j + 1 = n) : qs j = half n := by
  unfold half; rw [if_neg (by omega), show n / 2 = j by omega]
/-- the letters of Int2AP -/
def apd (v : Nat) : List UInt8 := if _h : v = 0 then [] else apd (v / 16) ++ [UInt8.ofNat (65 + v % 16)]
termination_by v
decreasing_by omega
theorem apd_zero : apd 0 = [] := by rw [apd]; simp
theorem apd_pos {v : Nat} (h : v ≠ 0) : apd v = apd (v / 16) ++ [UInt8.ofNat (65 + v % 16)] := by rw [apd, dif_neg h]
theorem apd_len : ∀ (k v : Nat), v < 16 ^ k → (apd v).length ≤ k
  | 0, v, h => by rw [show v = 0 by omega, apd_zero]; simp
  | k + 1, v, h => by
    by_cases e : v = 0
    · subst e; rw [apd_zero]; simp
    · rw [apd_pos e, List.length_append]
      have := apd_len k (v / 16) (by rw [Nat.pow_succ] at h; omega)
      simp only [List.length_cons, List.length_nil]; omega
theorem fdiv_nat (v : Nat) : Int.fdiv (v : Int) 16 = ((v / 16 : Nat) : Int) := by
  rw [Int.fdiv_eq_ediv_of_nonneg _ (by omega)]; omega
theorem fmod_nat (v : Nat) : Int.fmod (v : Int) 16 = ((v % 16 : Nat) : Int) := by
  rw [Int.fmod_eq_emod_of_nonneg _ (by omega)]; omega
theorem ap_cut (r : Nat) (h : r < 16) : KBy.picked #[65, 66, 67, 68, 69, 70, 71, 72, 73, 74, 75, 76, 77, 78, 79, 80] (some (r : Int)) (some ((r : Int) + 1)) = #[UInt8.ofNat (65 + r)] := by
  have all : ∀ r : Fin 16, KBy.picked #[65, 66, 67, 68, 69, 70, 71, 72, 73, 74, 75, 76, 77, 78, 79, 80] (some ((r : Nat) : Int)) (some (((r : Nat) : Int) + 1)) = #[UInt8.ofNat (65 + r)] := by decide +kernel
  exact all ⟨r, h⟩
/-- what _law_halvings tells -/
def bits (v : Nat) : List Int := if _h : v = 0 then [] else ((v % 2 : Nat) : Int) :: bits (v / 2)
termination_by v
decreasing_by omega
theorem bits_zero : bits 0 = [] := by rw [bits]; simp
theorem bits_pos {v : Nat} (h : v ≠ 0) : bits v = ((v % 2 : Nat) : Int) :: bits (v / 2) := by rw [bits, dif_neg h]
theorem qs_mul (n : Nat) : Txt.mul (Str.ofString "\"") (n : Int) = Tx (qs n) := by
  apply Str.ext'
  apply Array.toList_inj.mp
  rw [show Str.ofString "\"" = ⟨#[34]⟩ from by decide, mul_one_list]
  show _ = qs n
  rw [show ((n : Nat) : Int).toNat = n by omega]
theorem r257_cat (v : Nat) : Str.ofString "257 \"" ++ Tx (qs v) ++ Str.ofString "x" = Tx (r257 v) := by
  rw [show Str.ofString "257 \"" = Tx [50, 53, 55, 32, 34] from by decide, show Str.ofString "x" = Tx [120] from by decide, Tx_app, Tx_app]; rfl
theorem half_len (v : Nat) : (half v).length ≤ v + 1 := by
  unfold half; split <;> simp <;> omega
theorem qs_from (n j : Nat) (h : j ≤ n) : Txt.slice (Tx (qs n)) (some (j : Int)) none = Tx (qs (n - j)) := by
  rw [Tx_from rfl (by simpa using h), List.drop_replicate]
theorem qs_item (n j : Nat) (h : j < n) : Txt.item (Tx (qs n)) (j : Int) = Tx [34] := Tx_item rfl (by simp [h])
theorem qs_beq (n p : Nat) : (Tx (qs n) == Tx (qs p)) = decide (n = p) := by
  rw [Tx_beq]
  by_cases h : n = p
  · subst h; simp
  · rw [decide_eq_false h, beq_eq_false_iff_ne]
    exact fun e => h (by simpa using congrArg List.length e)
/-- the reply 229 of the law's making: a mark, the signs of a number -/
def r229 (c : Nat) (D : List Nat) : List Nat := [50, 50, 57, 32, 108, 101, 102, 116, 32, 40] ++ [c, c, c] ++ D ++ [c, 41]
theorem r229_len (c : Nat) (D : List Nat) : (r229 c D).length = D.length + 15 := by simp [r229]
theorem r229_a (c : Nat) (D : List Nat) : Txt.slice (Tx (r229 c D)) none (some 3) = Str.ofString "229" := by
  rw [Tx_to (j := 3) (b := 3) rfl (by rw [r229_len]; omega)]
  show Tx [50, 50, 57] = _
  decide
/-- a tuple object -/
abbrev tupOf (us : List Value) : Obj := { cls := .type "tuple", data := .seq us.toArray }
theorem At_one {l : List Nat} {c i : Nat} : StrLaws.At (Tx l) ⟨#[c]⟩ (Tx l).length i ↔ l[i]? = some c := StrLaws.subAt_one (Tx l) c i
theorem find_at {l : List Nat} {c k : Nat} (hk : l[k]? = some c) (hb : ∀ j, j < k → l[j]? ≠ some c) : Txt.find (Tx l) ⟨#[c]⟩ = (k : Int) := by
  unfold Txt.find
  rcases StrLaws.occ_head (Tx l) ⟨#[c]⟩ 1 (Nat.le_refl 1) with ⟨h0, hn⟩ | ⟨i, r, h0, hi, hn⟩
  · exact absurd (At_one.mpr hk) (hn k)
  · rw [h0]
    have h1 : ¬ k < i := fun q => hn k q (At_one.mpr hk)
    have h2 : ¬ i < k := fun q => hb i q (At_one.mp hi)
    show (i : Int) = k
    omega
theorem find3_at {l : List Nat} {c k a : Nat} {i : Int} (ha : i = a) (hak : a ≤ k) (hk : l[k]? = some c) (hb : ∀ j, a ≤ j → j < k → l[j]? ≠ some c) : Txt.find3 (Tx l) ⟨#[c]⟩ i = (k : Int) := by
  subst ha
  have hf : fromIndex (Tx l).length (a : Int) = a := by unfold fromIndex; rw [if_neg (by omega)]; omega
  unfold Txt.find3
  rw [hf]
  rcases StrLaws.occ_head_from (Tx l) ⟨#[c]⟩ a 1 (Nat.le_refl 1) with ⟨h0, hn⟩ | ⟨i, r, h0, hlo, hi, hn⟩
  · exact absurd (At_one.mpr hk) (hn k hak)
  · rw [h0]
    have h1 : ¬ k < i := fun q => hn k hak q (At_one.mpr hk)
    have h2 : ¬ i < k := fun q => hb i hlo q (At_one.mp hi)
    show (i : Int) = k
    omega
theorem r229_find (c : Nat) (D : List Nat) : Txt.find (Tx (r229 c D)) (Str.ofString "(") = 9 := by
  rw [show Str.ofString "(" = ⟨#[40]⟩ from by decide]
  refine find_at (k := 9) rfl fun j hj => ?_
  have e : (r229 c D)[j]? = ([50, 50, 57, 32, 108, 101, 102, 116, 32] : List Nat)[j]? := by
    have h : r229 c D = [50, 50, 57, 32, 108, 101, 102, 116, 32] ++ ([40] ++ [c, c, c] ++ D ++ [c, 41]) := by simp [r229]
    rw [h, List.getElem?_append_left (by simpa using hj)]
  rw [e]
  have all : ∀ j : Fin 9, ([50, 50, 57, 32, 108, 101, 102, 116, 32] : List Nat)[j.1]? ≠ some 40 := by decide
  exact all ⟨j, hj⟩
theorem r229_at (c : Nat) (D : List Nat) (j : Nat) : (r229 c D)[10 + j]? = ([c, c, c] ++ D ++ [c, 41])[j]? := by
  have h : r229 c D = [50, 50, 57, 32, 108, 101, 102, 116, 32, 40] ++ ([c, c, c] ++ D ++ [c, 41]) := by simp [r229]
  rw [h, List.getElem?_append_right (by simp)]
  simp
theorem r229_find3 (c : Nat) (D : List Nat) (hc : c ≠ 41) (hD : 41 ∉ D) {i : Int} (hi : i = 10) : Txt.find3 (Tx (r229 c D)) (Str.ofString ")") i = ((14 + D.length : Nat) : Int) := by
  rw [show Str.ofString ")" = ⟨#[41]⟩ from by decide]
  refine find3_at (a := 10) (k := 14 + D.length) hi (by omega) ?_ fun j h1 h2 => ?_
  · rw [show 14 + D.length = 10 + (4 + D.length) by omega, r229_at, List.getElem?_append_right (by simp; omega)]
    have e : 4 + D.length - ([c, c, c] ++ D).length = 1 := by simp; omega
    rw [e]; rfl
  · obtain ⟨k, rfl⟩ := Nat.exists_eq_add_of_le h1
    rw [r229_at]
    intro h
    have h3 : ([c, c, c] ++ D ++ [c, 41])[k]? = ([c, c, c] ++ D ++ [c])[k]? := by
      have e : [c, c, c] ++ D ++ [c, 41] = ([c, c, c] ++ D ++ [c]) ++ [41] := by simp
      rw [e, List.getElem?_append_left (by simp; omega)]
    rw [h3] at h
    have h4 := List.mem_of_getElem? h
    simp only [List.mem_append, List.mem_cons, List.not_mem_nil, or_false] at h4
    rcases h4 with ((h4 | h4 | h4) | h4) | h4
    · exact hc h4.symm
    · exact hc h4.symm
    · exact hc h4.symm
    · exact hD h4
    · exact hc h4.symm
theorem r229_l (c : Nat) (D : List Nat) {i : Int} (hi : i = 10) : Txt.item (Tx (r229 c D)) i = Tx [c] := Tx_item (a := 10 + 0) hi (by rw [r229_at]; rfl)
theorem r229_r (c : Nat) (D : List Nat) {i : Int} (hi : i = 13 + D.length) : Txt.item (Tx (r229 c D)) i = Tx [c] := Tx_item (a := 10 + (3 + D.length)) (by omega) (by
  rw [r229_at, List.getElem?_append_right (by simp; omega)]
  have e : 3 + D.length - ([c, c, c] ++ D).length = 0 := by simp; omega
  rw [e]; rfl)
theorem r229_mid (c : Nat) (D : List Nat) {i j : Int} (hi : i = 10) (hj : j = 14 + D.length) : Txt.slice (Tx (r229 c D)) (some i) (some j) = Tx ([c, c, c] ++ D ++ [c]) := by
  rw [Tx_slice (a := 10) (b := 14 + D.length) hi (by omega) (by omega) (by rw [r229_len]; omega)]
  have h : r229 c D = [50, 50, 57, 32, 108, 101, 102, 116, 32, 40] ++ (([c, c, c] ++ D ++ [c]) ++ [41]) := by simp [r229]
  rw [h, List.drop_append_of_le_length (by simp)]
  show Tx ((([c, c, c] ++ D ++ [c]) ++ [41]).take _) = _
  rw [List.take_append_of_le_length (by simp; omega), List.take_of_length_le (by simp; omega)]
/-- one way alone to cut at a sign -/
theorem cut_unique {c : Nat} : ∀ {p q r s : List Nat}, c ∉ p → c ∉ q → p ++ c :: r = q ++ c :: s → p = q ∧ r = s
  | [], [], _, _, _, _, h => ⟨rfl, (List.cons.inj h).2⟩
  | [], b :: q, _, _, _, hq, h => absurd ((List.cons.inj h).1 ▸ List.mem_cons_self) hq
  | a :: p, [], _, _, hp, _, h => absurd ((List.cons.inj h).1 ▸ List.mem_cons_self) hp
  | a :: p, b :: q, _, _, hp, hq, h => by
    obtain ⟨h1, h2⟩ := List.cons.inj h
    obtain ⟨h3, h4⟩ := cut_unique (fun m => hp (List.mem_cons_of_mem _ m)) (fun m => hq (List.mem_cons_of_mem _ m)) h2
    exact ⟨by rw [h1, h3], h4⟩
theorem join_signs (c : Nat) (p q : Str) (r : List Str) : (Str.join ⟨#[c]⟩ (p :: q :: r)).cps.toList = p.cps.toList ++ c :: (Str.join ⟨#[c]⟩ (q :: r)).cps.toList := by
  show ((p ++ ⟨#[c]⟩ : Str) ++ Str.join ⟨#[c]⟩ (q :: r)).cps.toList = _
  rw [Str.cps_append, Str.cps_append]
  simp
theorem parts_unique (c : Nat) : ∀ (P Q : List Str), P ≠ [] → Q ≠ [] → (∀ p ∈ P, c ∉ p.cps.toList) → (∀ p ∈ Q, c ∉ p.cps.toList) → (Str.join ⟨#[c]⟩ P).cps.toList = (Str.join ⟨#[c]⟩ Q).cps.toList → P = Q
  | [], _, h, _, _, _, _ => absurd rfl h
  | _, [], _, h, _, _, _ => absurd rfl h
  | [p], [q], _, _, _, _, h => by
    have e : p = q := Str.ext' (Array.toList_inj.mp h)
    rw [e]
  | [p], q :: q' :: r, _, _, hp, _, h => by
    rw [join_signs] at h
    exact absurd (by show c ∈ (Str.join ⟨#[c]⟩ [p]).cps.toList; rw [h]; simp) (hp p (.head _))
  | p :: p' :: r, [q], _, _, _, hq, h => by
    rw [join_signs] at h
    exact absurd (by show c ∈ (Str.join ⟨#[c]⟩ [q]).cps.toList; rw [← h]; simp) (hq q (.head _))
  | p :: p' :: r, q :: q' :: s, _, _, hp, hq, h => by
    rw [join_signs, join_signs] at h
    obtain ⟨h1, h2⟩ := cut_unique (hp p (.head _)) (hq q (.head _)) h
    rw [Str.ext' (Array.toList_inj.mp h1), parts_unique c (p' :: r) (q' :: s) (by simp) (by simp) (fun x hx => hp x (.tail _ hx)) (fun x hx => hq x (.tail _ hx)) h2]
theorem split_229 (c : Nat) (D : List Nat) (hD : c ∉ D) : Txt.split (Tx ([c, c, c] ++ D ++ [c])) (Tx [c]) = [Tx [], Tx [], Tx [], Tx D, Tx []] := by
  have hj := StrLaws.join_split (Tx ([c, c, c] ++ D ++ [c])) (Tx [c])
  have hf := StrLaws.split_free (Tx ([c, c, c] ++ D ++ [c])) c
  refine parts_unique c _ _ ?_ (by simp) hf ?_ ?_
  · intro e
    have e' : Txt.split (Tx ([c, c, c] ++ D ++ [c])) (Tx [c]) = [] := e
    rw [e'] at hj
    have := congrArg (fun x : Str => x.cps.toList.length) hj
    simp [Str.join, Str.empty, Tx] at this
  · intro p hp
    simp only [List.mem_cons, List.not_mem_nil, or_false] at hp
    rcases hp with rfl | rfl | rfl | rfl | rfl <;> first | exact hD | exact List.not_mem_nil
  · refine (congrArg (fun x : Str => x.cps.toList) hj).trans ?_
    simp only [join_signs]
    show [c, c, c] ++ D ++ [c] = [] ++ c :: ([] ++ c :: ([] ++ c :: (D ++ c :: [])))
    simp
theorem news_two {h₀ h : Heap} {L a : Addr} {o : Obj} {r : Addr × Obj} {news : List (Addr × Obj)} (N : News h₀ L h ((a, o) :: r :: news)) : News h₀ L h ([(a, o)] ++ news) := fun p hp => by
  rcases List.mem_cons.mp hp with rfl | hp
  · exact N _ (.head _)
  · exact N _ (.tail _ (.tail _ hp))
theorem lt_one {a : Addr} {o : Obj} {news : List (Addr × Obj)} (h : AllLt a news) : ∀ q ∈ news, ∀ p ∈ [(a, o)], q.1 < p.1 := fun q hq p hp => by
  rcases List.mem_singleton.mp hp with rfl
  exact kst_ltOf h q hq
/-- what _law_read makes of letters -/
def apval (l : List UInt8) : Int := l.foldl (fun a b => 16 * a + (b.toNat : Int) - 65) 0
theorem apval_snoc (l : List UInt8) (b : UInt8) : apval (l ++ [b]) = 16 * apval l + (b.toNat : Int) - 65 := by
  unfold apval; rw [List.foldl_append]; rfl
theorem apd_good : ∀ n : Nat, apval (apd n) = n ∧ (∀ i, apval ((apd n).take i) ≤ n ∧ 0 ≤ apval ((apd n).take i)) ∧ ∀ i c, (apd n)[i]? = some c → 65 ≤ c.toNat ∧ c.toNat ≤ 80 ∧ (apval ((apd n).take i) = 0 → 66 ≤ c.toNat) := by
  intro n
  induction n using Nat.strongRecOn with
  | _ n ih =>
    by_cases h : n = 0
    · subst h
      rw [apd_zero]
      exact ⟨rfl, fun i => by simp [apval], fun i c hc => by simp at hc⟩
    · obtain ⟨h1, h2, h3⟩ := ih (n / 16) (by omega)
      have hd : (UInt8.ofNat (65 + n % 16)).toNat = 65 + n % 16 := by
        rw [UInt8.toNat_ofNat']
        exact Nat.mod_eq_of_lt (by omega)
      rw [apd_pos h]
      have hv : apval (apd (n / 16) ++ [UInt8.ofNat (65 + n % 16)]) = n := by
        rw [apval_snoc, h1, hd]; omega
      refine ⟨hv, fun i => ?_, fun i c hc => ?_⟩
      · rcases Nat.lt_or_ge (apd (n / 16)).length i with hi | hi
        · rw [List.take_of_length_le (by rw [List.length_append, List.length_singleton]; omega), hv]
          omega
        · rw [List.take_append_of_le_length hi]
          have := h2 i
          omega
      · rcases Nat.lt_or_ge i (apd (n / 16)).length with hi | hi
        · rw [List.getElem?_append_left hi] at hc
          rw [List.take_append_of_le_length (Nat.le_of_lt hi)]
          exact h3 i c hc
        · rw [List.getElem?_append_right hi] at hc
          have e : i - (apd (n / 16)).length = 0 := by
            rcases Nat.eq_zero_or_pos (i - (apd (n / 16)).length) with q | q
            · exact q
            · rw [List.getElem?_eq_none (by rw [List.length_singleton]; omega)] at hc
              cases hc
          rw [e] at hc
          have hc' : UInt8.ofNat (65 + n % 16) = c := Option.some.inj hc
          subst hc'
          have ei : i = (apd (n / 16)).length := by omega
          rw [List.take_append_of_le_length (by omega), ei, List.take_length, h1, hd]
          omega
theorem apval_next {l : List UInt8} {i : Nat} {c : UInt8} (h : l[i]? = some c) : apval (l.take (i + 1)) = 16 * apval (l.take i) + (c.toNat : Int) - 65 := by
  rw [List.take_add_one, h]; exact apval_snoc _ _

/-- a for over bytes, by what holds between the turns -/
theorem iter_bytesJ {prog : Program} {w : World} {A : Around} {E : Value → Shared → Prop} {s : Shared} {env : Env} {h₀ : Heap} {x : Str} {body : List Stmt} {Q : Flow → Shared → Prop} {b : Array UInt8} {tb : Tok} {m₀ : Str → Option Value} {news : List (Addr × Obj)}
    (J : Nat → (Str → Option Value) → List (Addr × Obj) → Prop) (hh : A.handled = none) (F : Fr h₀ env.locals s.heap m₀) (N : News h₀ env.locals s.heap news) (hj : J 0 m₀ news)
    (turn : ∀ i (c : UInt8) u m₁ news₁ h tk own, b[i]? = some c → news₁.map (·.1) = news.map (·.1) → OwnOff own (news.map (·.1)) → J i m₁ news₁ → Fr h₀ env.locals h (fun y => if y = x then some (.int (c.toNat : Int) u) else m₁ y) → News h₀ env.locals h (news₁ ++ own) →
      wpAny (model prog w) A (execs body env) (InvPostN h₀ env.locals (J (i + 1)) own (news.map (·.1)) { s with heap := h, toks := tk } Q) E { s with heap := h, toks := tk })
    (done : ∀ m₁ news₁ h tk, J b.size m₁ news₁ → Fr h₀ env.locals h m₁ → News h₀ env.locals h news₁ → Q .next { s with heap := h, toks := tk }) :
    wpAny (model prog w) A (pyIter (.bytes b tb)) (fun it s₂ => LoopAtV prog w A h₀ env x body Q E it s₂) E s := by
  refine KBw.pyIter_bytes ?_
  have W := KBw.walks (prog := prog) (w := w) hh s.heap.objs.size b tb
  refine loop_invN J W ?_ ?_ ?_ ?_ ⟨_, Heap.get?_push_size _ rfl, rfl, rfl⟩ (F.push _) (fun p hp => ⟨Heap.get?_push_of_some _ (N p hp).1, (N p hp).2⟩) hj ?_ ?_
  · intro hm
    exact absurd F.ns.lt ((List.mem_singleton.mp hm) ▸ Nat.lt_irrefl _)
  · intro b' hb
    rw [List.mem_singleton.mp hb]
    exact next_is_new F
  · intro p hp hI
    exact absurd (Heap.lt_size (N p hp).1) ((List.mem_singleton.mp hI) ▸ Nat.lt_irrefl _)
  · intro p hp hI
    exact absurd (Heap.lt_size (N p hp).1) ((List.mem_singleton.mp hI) ▸ Nat.lt_irrefl _)
  · rintro i v m₁ nx h tk own _ ⟨c, u, hc, rfl⟩ ha hoff hJ F₁ N₁
    exact turn i c u m₁ nx h tk own hc ha hoff hJ F₁ N₁
  · exact done
theorem mem_l {α : Type} {l r : List α} : ∀ p ∈ l, p ∈ l ++ r := fun _ h => List.mem_append_left _ h
theorem mem_r {α : Type} {l r : List α} : ∀ p ∈ r, p ∈ l ++ r := fun _ h => List.mem_append_right _ h

/-- how a turn ends under loop_grow: the ledger may have grown -/
def GrowEnd (h₀ : Heap) (L : Addr) (I : Addr) (oI : Obj) (J : (Str → Option Value) → List (Addr × Obj) → Prop) (s₁ s₂ : Shared) : Prop :=
  ∃ h' tk m' nx, s₂ = { s₁ with heap := h', toks := tk } ∧ Fr h₀ L h' m' ∧ News h₀ L h' ((I, oI) :: nx) ∧ (∀ p ∈ nx, p.1 ≠ I) ∧ J m' nx
def GrowPost (h₀ : Heap) (L : Addr) (I : Addr) (oI : Obj) (J : (Str → Option Value) → List (Addr × Obj) → Prop) (s₁ : Shared) (Q : Flow → Shared → Prop) (f : Flow) (s₂ : Shared) : Prop :=
  match f with
  | .ret v => Q (.ret v) s₂
  | .brk => Q .next s₂
  | _ => GrowEnd h₀ L I oI J s₁ s₂
section
variable {prog : Program} {w : World} {A : Around} {E : Value → Shared → Prop} {s : Shared} {env : Env} {h₀ : Heap} {x : Str} {body : List Stmt} {Q : Flow → Shared → Prop}
theorem loop_grow {I : Addr} {n : Nat} {P : Nat → Value → Prop} {St : Nat → Heap → Prop} {m₀ : Str → Option Value} {news : List (Addr × Obj)} (J : Nat → (Str → Option Value) → List (Addr × Obj) → Prop)
    (W : Walks prog w A I [I] [I] n P St) (hI : ∀ i h, St i h → ∃ o, h.get? I = some o) (hLf : env.locals ≠ I) (hwr : h₀.get? I = none) (hnw : ∀ p ∈ news, p.1 ≠ I) (hst : St 0 s.heap) (F : Fr h₀ env.locals s.heap m₀) (N : News h₀ env.locals s.heap news) (hj : J 0 m₀ news)
    (turn : ∀ i v m₁ nx h tk oI, i < n → P i v → J i m₁ nx → (∀ p ∈ nx, p.1 ≠ I) → Fr h₀ env.locals h (fun y => if y = x then some v else m₁ y) → News h₀ env.locals h ((I, oI) :: nx) →
      wpAny (model prog w) A (execs body env) (GrowPost h₀ env.locals I oI (J (i + 1)) { s with heap := h, toks := tk } Q) E { s with heap := h, toks := tk })
    (done : ∀ m₁ nx h tk, J n m₁ nx → Fr h₀ env.locals h m₁ → News h₀ env.locals h nx → Q .next { s with heap := h, toks := tk }) :
    LoopAtV prog w A h₀ env x body Q E (.ref I) s := by
  refine ⟨I, [I], [I], n, P, St, m₀, news, J, rfl, W, by simpa using hLf, by simpa using hwr, fun p hp => by simpa using hnw p hp, hst, F, N, hj, ?_, fun h' tk m' news' F' N' _ hJ => done m' news' h' tk hJ F' N'⟩
  rintro i v m₁ nx s₁ own ⟨h, tk, rfl⟩ hi hP hJ hn hown hget hall hst' F₁ N₁
  obtain ⟨oI, hoI⟩ := hI _ _ hst'
  have hin : (I, oI) ∈ own := hall I (by simp) hwr oI hoI
  have hn' : ∀ p ∈ nx, p.1 ≠ I := fun p hp => by simpa using hn p hp
  have N₂ : News h₀ env.locals h ((I, oI) :: nx) := fun p hp => by
    rcases List.mem_cons.mp hp with rfl | hp
    · exact N₁ _ (List.mem_append_left _ hin)
    · exact N₁ _ (List.mem_append_right _ hp)
  have hone : ∀ p ∈ own, p = (I, oI) := fun p hp => by
    have e1 : p.1 = I := by simpa using hown p hp
    have e2 := hget p hp
    rw [e1] at e2
    have e3 : p.2 = oI := Option.some.inj (e2.symm.trans hoI)
    exact Prod.ext e1 e3
  refine wpAny_mono (turn i v m₁ nx h tk oI hi hP hJ hn' F₁ N₂) (fun f s₂ p => ?_) fun _ _ e => e
  have fin : GrowEnd h₀ env.locals I oI (J (i + 1)) { s with heap := h, toks := tk } s₂ → LoopStepU h₀ env.locals [I] own (J (i + 1)) { s with heap := h, toks := tk } .next s₂ := by
    rintro ⟨h', tk', m', nx', e, F', N', hne, hJ'⟩
    refine ⟨rfl, h', tk', m', nx', e, F', fun p hp => ?_, fun p hp => by simpa using hne p hp, hJ'⟩
    rcases List.mem_append.mp hp with q | q
    · rw [hone p q]; exact N' _ (.head _)
    · exact N' _ (.tail _ q)
  cases f with
  | ret v => exact .ret p
  | brk => exact .brk p
  | next => exact .next (fin p)
  | cont => exact .cont (fin p)
theorem iter_rangeG {r : Addr} {a₀ b₀ : Int} {t₀ u₀ v₀ : Tok} {n : Nat} {m₀ : Str → Option Value} {news : List (Addr × Obj)} (J : Nat → (Str → Option Value) → List (Addr × Obj) → Prop)
    (hh : A.handled = none) (hr : IsRange s.heap r a₀ b₀ 1 t₀ u₀ v₀) (hsmall : Builtin.Range.small a₀ b₀ 1 = true) (hn : Builtin.Range.rangeSize a₀ b₀ 1 = (n : Int)) (F : Fr h₀ env.locals s.heap m₀) (N : News h₀ env.locals s.heap news) (hj : J 0 m₀ news)
    (turn : ∀ i t m₁ nx h tk I oI, i < n → J i m₁ nx → (∀ p ∈ nx, p.1 ≠ I) → Fr h₀ env.locals h (fun y => if y = x then some (.int (a₀ + (i : Int)) t) else m₁ y) → News h₀ env.locals h ((I, oI) :: nx) →
      wpAny (model prog w) A (execs body env) (GrowPost h₀ env.locals I oI (J (i + 1)) { s with heap := h, toks := tk } Q) E { s with heap := h, toks := tk })
    (done : ∀ m₁ nx h tk, J n m₁ nx → Fr h₀ env.locals h m₁ → News h₀ env.locals h nx → Q .next { s with heap := h, toks := tk }) :
    wpAny (model prog w) A (pyIter (.ref r)) (fun it s₂ => LoopAtV prog w A h₀ env x body Q E it s₂) E s := by
  refine wpAny_pyIter_range hr hsmall ?_
  have W := Walks.range (prog := prog) (w := w) hh s.heap.objs.size a₀ 1 n
  refine loop_grow (s := { s with heap := s.heap.push _ }) J W (fun i h st => ⟨_, st⟩) ?_ (next_is_new F) ?_ (by show IsRangeIter _ _ _ _ _; rw [hn]; simpa using Heap.get?_push_size _ rfl) (F.push _) (fun p hp => ⟨Heap.get?_push_of_some _ (N p hp).1, (N p hp).2⟩) hj ?_ ?_
  · intro e
    exact absurd F.ns.lt (e ▸ Nat.lt_irrefl _)
  · intro p hp e
    exact absurd (Heap.lt_size (N p hp).1) (e ▸ Nat.lt_irrefl _)
  · rintro i v m₁ nx h tk oI hi ⟨t, rfl⟩ hJ hne F₁ N₁
    have e1 : a₀ + (i : Int) * 1 = a₀ + (i : Int) := by omega
    rw [e1] at F₁
    exact turn i t m₁ nx h tk _ oI hi hJ hne F₁ N₁
  · intro m₁ nx h tk hJ F₁ N₁
    exact done m₁ nx h tk hJ F₁ N₁
end
/-- a list of references, each to an object of its kind -/
inductive RowsAre {α : Type} (R : α → Obj → Prop) (led : List (Addr × Obj)) : List Value → List α → Prop
  | nil : RowsAre R led [] []
  | cons {a : Addr} {o : Obj} {us : List Value} {x : α} {xs : List α} : (a, o) ∈ led → R x o → RowsAre R led us xs → RowsAre R led (.ref a :: us) (x :: xs)
theorem RowsAre.mono {α : Type} {R : α → Obj → Prop} {led led' : List (Addr × Obj)} {us : List Value} {xs : List α} (h : RowsAre R led us xs) (hs : ∀ p ∈ led, p ∈ led') : RowsAre R led' us xs := by
  induction h with
  | nil => exact .nil
  | cons hm hr _ ih => exact .cons (hs _ hm) hr ih
theorem RowsAre.snoc {α : Type} {R : α → Obj → Prop} {led : List (Addr × Obj)} {us : List Value} {xs : List α} {a : Addr} {o : Obj} {x : α} (h : RowsAre R led us xs) (hm : (a, o) ∈ led) (hr : R x o) : RowsAre R led (us ++ [.ref a]) (xs ++ [x]) := by
  induction h with
  | nil => exact .cons hm hr .nil
  | cons hm' hr' _ ih => exact .cons hm' hr' ih
theorem RowsAre.length {α : Type} {R : α → Obj → Prop} {led : List (Addr × Obj)} {us : List Value} {xs : List α} (h : RowsAre R led us xs) : us.length = xs.length := by
  induction h with
  | nil => rfl
  | cons _ _ _ ih => simp [ih]
theorem news_skip3 {h₀ h : Heap} {L : Addr} {a b c d : Addr × Obj} {r : List (Addr × Obj)} (N : News h₀ L h (a :: b :: c :: d :: r)) : News h₀ L h (a :: r) := fun p hp => by
  rcases List.mem_cons.mp hp with rfl | hp
  · exact N _ (.head _)
  · exact N _ (.tail _ (.tail _ (.tail _ (.tail _ hp))))
theorem append_3 {prog : Program} {w : World} {A : Around} {E : Value → Shared → Prop} {s : Shared} {h₀ : Heap} {L D : Addr} {m : Str → Option Value} {p1 p2 p3 : Addr × Obj} {rest : List (Addr × Obj)} {us : List Value} {n : Nat} {x : Value} {Q : Value → Shared → Prop} (F : Fr h₀ L s.heap m)
    (N : News h₀ L s.heap (p1 :: p2 :: p3 :: (D, listOf us.toArray n) :: rest)) (h1 : p1.1 ≠ D) (h2 : p2.1 ≠ D) (h3 : p3.1 ≠ D) (h4 : ∀ p ∈ rest, p.1 ≠ D) (hz : us.length ≤ 1000)
    (h : ∀ h', Fr h₀ L h' m → News h₀ L h' (p1 :: p2 :: p3 :: (D, listOf (us ++ [x]).toArray (n + 1)) :: rest) → Q .none { s with heap := h' }) : wpAny (model prog w) A (call (.builtin "list.append") [.ref D, x]) Q E s :=
  append_K (its := us.toArray) F N (.tail h1 (.tail h2 (.tail h3 (.head h4)))) (fun h' F' N' => h h' F' (by rw [List.push_toArray] at N'; exact N')) (by rw [List.size_toArray, PySem.sizeLine_eq]; omega)
theorem news_rows {h₀ h : Heap} {L : Addr} {t g i r : Addr × Obj} {tups news : List (Addr × Obj)} (N : News h₀ L h (t :: g :: i :: r :: (tups ++ news))) : News h₀ L h ((r :: t :: tups) ++ news) := fun p hp => by
  rcases List.mem_cons.mp hp with rfl | hp
  · exact N _ (.tail _ (.tail _ (.tail _ (.head _))))
  · rcases List.mem_cons.mp hp with rfl | hp
    · exact N _ (.head _)
    · exact N _ (.tail _ (.tail _ (.tail _ (.tail _ hp))))
theorem news_rowsI {h₀ h : Heap} {L : Addr} {t g i r : Addr × Obj} {tups news : List (Addr × Obj)} (N : News h₀ L h (t :: g :: i :: r :: (tups ++ news))) : News h₀ L h (i :: r :: ((t :: tups) ++ news)) := fun p hp => by
  rcases List.mem_cons.mp hp with rfl | hp
  · exact N _ (.tail _ (.tail _ (.head _)))
  · exact news_rows N p hp
theorem news_drop3 {h₀ h : Heap} {L : Addr} {t a b c : Addr × Obj} {r : List (Addr × Obj)} (N : News h₀ L h (t :: a :: b :: c :: r)) : News h₀ L h (t :: r) := news_skip3 N
theorem append_2 {prog : Program} {w : World} {A : Around} {E : Value → Shared → Prop} {s : Shared} {h₀ : Heap} {L D : Addr} {m : Str → Option Value} {p1 p2 : Addr × Obj} {rest : List (Addr × Obj)} {us : List Value} {n : Nat} {x : Value} {Q : Value → Shared → Prop} (F : Fr h₀ L s.heap m)
    (N : News h₀ L s.heap (p1 :: p2 :: (D, listOf us.toArray n) :: rest)) (h1 : p1.1 ≠ D) (h2 : p2.1 ≠ D) (h4 : ∀ p ∈ rest, p.1 ≠ D) (hz : us.length ≤ 1000)
    (h : ∀ h', Fr h₀ L h' m → News h₀ L h' (p1 :: p2 :: (D, listOf (us ++ [x]).toArray (n + 1)) :: rest) → Q .none { s with heap := h' }) : wpAny (model prog w) A (call (.builtin "list.append") [.ref D, x]) Q E s :=
  append_K (its := us.toArray) F N (.tail h1 (.tail h2 (.head h4))) (fun h' F' N' => h h' F' (by rw [List.push_toArray] at N'; exact N')) (by rw [List.size_toArray, PySem.sizeLine_eq]; omega)
theorem news_rows2 {h₀ h : Heap} {L : Addr} {t i r : Addr × Obj} {tups news : List (Addr × Obj)} (N : News h₀ L h (t :: i :: r :: (tups ++ news))) : News h₀ L h ((r :: t :: tups) ++ news) := fun p hp => by
  rcases List.mem_cons.mp hp with rfl | hp
  · exact N _ (.tail _ (.tail _ (.head _)))
  · rcases List.mem_cons.mp hp with rfl | hp
    · exact N _ (.head _)
    · exact N _ (.tail _ (.tail _ (.tail _ hp)))
theorem news_rowsI2 {h₀ h : Heap} {L : Addr} {t i r : Addr × Obj} {tups news : List (Addr × Obj)} (N : News h₀ L h (t :: i :: r :: (tups ++ news))) : News h₀ L h (i :: r :: ((t :: tups) ++ news)) := fun p hp => by
  rcases List.mem_cons.mp hp with rfl | hp
  · exact N _ (.tail _ (.head _))
  · exact news_rows2 N p hp

/-- the place that the last one of a circle has -/
def jp (s : Nat) : Nat := 1 + 2 * (s - 2 ^ ((bits s).length - 1))
/-- the circles, one after the other -/
def sizesF : Nat → Nat → List Nat
  | 0, _ => []
  | f + 1, s => s :: (if jp s = s then [] else sizesF f (jp s))
def bitsF : Nat → Nat → List Int
  | 0, _ => []
  | f + 1, v => if v = 0 then [] else ((v % 2 : Nat) : Int) :: bitsF f (v / 2)
theorem bitsF_eq : ∀ (f v : Nat), v ≤ f → bitsF f v = bits v
  | 0, v, h => by rw [show v = 0 by omega, bits_zero]; rfl
  | f + 1, v, h => by
    by_cases e : v = 0
    · subst e; rw [bits_zero]; rfl
    · rw [bits_pos e, ← bitsF_eq f (v / 2) (by omega)]
      show (if v = 0 then [] else _) = _
      rw [if_neg e]
def jpF (s : Nat) : Nat := 1 + 2 * (s - 2 ^ ((bitsF s s).length - 1))
theorem jpF_eq (s : Nat) : jpF s = jp s := by unfold jpF jp; rw [bitsF_eq s s (Nat.le_refl s)]
theorem jp_in (s : Nat) (h1 : 1 ≤ s) (h2 : s ≤ 40) : 1 ≤ jp s ∧ jp s ≤ s := by
  have all : ∀ s : Fin 41, 1 ≤ s.1 → 1 ≤ jpF s.1 ∧ jpF s.1 ≤ s.1 := by decide +kernel
  rw [← jpF_eq]
  exact all ⟨s, by omega⟩ h1
theorem pow_le (s : Nat) (h : s ≠ 0) : 2 ^ ((bits s).length - 1) ≤ s := by
  induction s using Nat.strongRecOn with
  | _ s ih =>
    rw [bits_pos h]
    by_cases e : s / 2 = 0
    · rw [e, bits_zero]; simp; omega
    · have h1 := ih (s / 2) (by omega) e
      have h2 : (bits (s / 2)).length ≠ 0 := by rw [bits_pos e]; simp
      obtain ⟨k, hk⟩ := Nat.exists_eq_succ_of_ne_zero h2
      rw [hk] at h1
      simp only [List.length_cons, hk, Nat.add_sub_cancel, Nat.succ_eq_add_one] at h1 ⊢
      rw [Nat.pow_succ]; omega
/-- the ring, turn by turn -/
def ringF {α : Type} : Nat → List α → List α
  | 0, xs => xs
  | f + 1, xs => if xs.length ≤ 1 then xs else ringF f (xs.drop 2 ++ xs.take 1)
theorem ringF_map {α β : Type} (g : α → β) : ∀ (f : Nat) (xs : List α), ringF f (xs.map g) = (ringF f xs).map g
  | 0, _ => rfl
  | f + 1, xs => by
    show (if (xs.map g).length ≤ 1 then xs.map g else ringF f ((xs.map g).drop 2 ++ (xs.map g).take 1)) = (if xs.length ≤ 1 then xs else ringF f (xs.drop 2 ++ xs.take 1)).map g
    rw [List.length_map]
    split
    · rfl
    · rw [← List.map_drop, ← List.map_take, ← List.map_append, ringF_map g f]
theorem ringF_step {α : Type} {xs : List α} (h : 1 < xs.length) : ringF xs.length xs = ringF (xs.drop 2 ++ xs.take 1).length (xs.drop 2 ++ xs.take 1) := by
  obtain ⟨k, hk⟩ := Nat.exists_eq_add_of_lt h
  have e : (xs.drop 2 ++ xs.take 1).length = k + 1 := by simp; omega
  rw [e, show xs.length = (k + 1) + 1 by omega]
  show (if xs.length ≤ 1 then xs else _) = _
  rw [if_neg (by omega)]
theorem ringF_end {α : Type} {xs : List α} (h : ¬ 1 < xs.length) : ringF xs.length xs = xs := by
  cases hk : xs.length with
  | zero => rfl
  | succ k => show (if xs.length ≤ 1 then xs else _) = xs; rw [if_pos (by omega)]
theorem ring_start (s : Nat) (h1 : 1 ≤ s) (h2 : s ≤ 40) (z : Int) : ringF s ((List.range s).map fun (i : Nat) => z + 1 + (i : Int)) = [z + jp s] := by
  have all : ∀ s : Fin 41, 1 ≤ s.1 → ringF s.1 (List.range s.1) = [jpF s.1 - 1] := by decide +kernel
  have h3 := (jp_in s h1 h2).1
  rw [ringF_map, all ⟨s, by omega⟩ h1]
  show [z + 1 + ((jpF s - 1 : Nat) : Int)] = _
  rw [jpF_eq]
  congr 1
  omega
theorem sizesF_stop {f s : Nat} (h : jp s = s) : sizesF (f + 1) s = [s] := by
  show s :: (if jp s = s then [] else sizesF f (jp s)) = _
  rw [if_pos h]
theorem sizesF_go {f s : Nat} (h : jp s ≠ s) : sizesF (f + 1) s = s :: sizesF f (jp s) := by
  show s :: (if jp s = s then [] else sizesF f (jp s)) = _
  rw [if_neg h]
/-- a row more -/
theorem rows_more {α : Type} {R : α → Obj → Prop} {tups : List (Addr × Obj)} {us : List Value} {xs : List α} {a : Addr} {o : Obj} {x : α} (h : RowsAre R tups us xs) (hr : R x o) : RowsAre R ((a, o) :: tups) (us ++ [.ref a]) (xs ++ [x]) :=
  (h.mono fun _ hp => .tail _ hp).snoc (.head _) hr
theorem off_more {tups : List (Addr × Obj)} {a rl : Addr} {o : Obj} (h : OwnOff tups [rl]) (hn : a ≠ rl) : OwnOff ((a, o) :: tups) [rl] := fun p hp b hb => by
  rcases List.mem_cons.mp hp with rfl | hp
  · rw [List.mem_singleton.mp hb]; exact hn
  · exact h p hp b hb
theorem lt_more {news tups : List (Addr × Obj)} {a : Addr} {o : Obj} (h : ∀ q ∈ news, ∀ p ∈ tups, q.1 < p.1) (hl : ∀ q ∈ news, q.1 < a) : ∀ q ∈ news, ∀ p ∈ (a, o) :: tups, q.1 < p.1 := fun q hq p hp => by
  rcases List.mem_cons.mp hp with rfl | hp
  · exact hl q hq
  · exact h q hq p hp

/-- the signs of a number -/
def dec (v : Nat) : List Nat := (Nat.toDigits 10 v).map Char.toNat
theorem str_dec (v : Nat) : Str.ofString (toString ((v : Nat) : Int)) = Tx (dec v) := by
  apply Str.ext'
  apply Array.toList_inj.mp
  rw [KIN.signs_num]; rfl
theorem dec_all (v : Nat) : AllDigits (dec v) := by
  intro c hc
  obtain ⟨ch, hch, e⟩ := List.mem_map.mp hc
  have r := digit_range (Nat.isDigit_of_mem_toDigits (by decide) (by decide) hch)
  rw [← e]
  exact r
theorem dec_ne (v : Nat) : dec v ≠ [] := by
  intro e
  have h := toDigits_len_ge 10 v
  rw [List.map_eq_nil_iff.mp e] at h
  exact absurd h (by decide)
theorem dec_len {v : Nat} (h : v < 10 ^ 20) : (dec v).length ≤ 21 := by
  have h1 := int_text_length_le10 (a := (v : Int)) (k := 20) (by decide) (by simpa using h)
  have h2 : (Str.ofString (toString ((v : Nat) : Int))).length = (toString ((v : Nat) : Int)).length := PySem.ofString_length _
  rw [str_dec, Tx_len] at h2
  omega
theorem dec_reads {v : Nat} (h : v < 10 ^ 20) : PySem.intText? (Tx (dec v)) = some (v : Int) := by
  have e := intText_digits (x := Tx (dec v)) (dec_all v) (dec_ne v) (by rw [Tx_len]; have := dec_len h; omega)
  rw [e]
  show some ((digitsVal ((Nat.toDigits 10 v).map Char.toNat) : Nat) : Int) = _
  rw [KIN.val_back]
/-- the marks of the replies -/
def mark (i : Nat) : Nat := [124, 33, 40, 34].getD (i % 4) 0
theorem mark_in (i : Nat) : mark i = 124 ∨ mark i = 33 ∨ mark i = 40 ∨ mark i = 34 := by
  unfold mark
  have h : i % 4 < 4 := Nat.mod_lt _ (by decide)
  generalize i % 4 = j at h
  have all : ∀ j : Fin 4, [124, 33, 40, 34].getD j.1 0 = 124 ∨ [124, 33, 40, 34].getD j.1 0 = 33 ∨ [124, 33, 40, 34].getD j.1 0 = 40 ∨ [124, 33, 40, 34].getD j.1 0 = 34 := by decide
  exact all ⟨j, h⟩
theorem mark_item (i : Nat) {k : Int} (hk : k = (i % 4 : Nat)) : Txt.item (Str.ofString "|!(\"") k = Tx [mark i] := by
  rw [show Str.ofString "|!(\"" = Tx [124, 33, 40, 34] from by decide]
  refine Tx_item hk ?_
  unfold mark
  have h : i % 4 < 4 := Nat.mod_lt _ (by decide)
  generalize i % 4 = j at h
  have all : ∀ j : Fin 4, ([124, 33, 40, 34] : List Nat)[j.1]? = some ([124, 33, 40, 34].getD j.1 0) := by decide
  exact all ⟨j, h⟩
theorem mark3 (c : Nat) : Txt.mul (Tx [c]) 3 = Tx [c, c, c] := by
  apply Str.ext'
  apply Array.toList_inj.mp
  rw [show Tx [c] = ⟨#[c]⟩ from rfl, mul_one_list]; rfl
theorem r229_cat (c : Nat) (D : List Nat) : Str.ofString "229 left (" ++ Tx [c, c, c] ++ Tx D ++ Tx [c] ++ Str.ofString ")" = Tx (r229 c D) := by
  rw [show Str.ofString "229 left (" = Tx [50, 50, 57, 32, 108, 101, 102, 116, 32, 40] from by decide, show Str.ofString ")" = Tx [41] from by decide, Tx_app, Tx_app, Tx_app, Tx_app]
  unfold r229
  simp
/-- a row of the told list -/
def ToldRow (z s : Nat) (o : Obj) : Prop := ∃ t1 t2 t3 t4 : Tok, o = tupOf [.int (s : Int) t1, .int (bits s).sum t2, .bytes (apd (z + jp s)).toArray t3, .int ((z : Int) + jp s) t4]
theorem bits_len (v : Nat) : (bits v).length ≤ v := by
  induction v using Nat.strongRecOn with
  | _ v ih =>
    by_cases h : v = 0
    · subst h; rw [bits_zero]; simp
    · rw [bits_pos h, List.length_cons]
      have := ih (v / 2) (by omega)
      omega
theorem bits_len1 {v : Nat} (h : v ≠ 0) : 1 ≤ (bits v).length := by rw [bits_pos h]; simp
theorem fmod4 (i : Nat) : (0 + (i : Int)).fmod 4 = ((i % 4 : Nat) : Int) := by
  rw [Int.fmod_eq_emod_of_nonneg _ (by omega)]; omega
theorem ahead_nat {vs : List Value} {ns : List Int} (_h : IntsAre vs ns) : ∃ z : Nat, ns.sum.fmod (10 ^ Int.toNat 18) = (z : Int) ∧ z < 1000000000000000000 := by
  have e : ((10 : Int) ^ Int.toNat 18) = 1000000000000000000 := by decide
  rw [e]
  have h0 := Int.fmod_nonneg_of_pos ns.sum (b := 1000000000000000000) (by decide)
  have h1 := Int.fmod_lt_of_pos ns.sum (b := 1000000000000000000) (by decide)
  exact ⟨(ns.sum.fmod 1000000000000000000).toNat, by omega, by omega⟩
theorem people_in (x : Int) : ∃ n : Nat, 1 + x.fmod 40 = (n : Int) ∧ 1 ≤ n ∧ n ≤ 40 := by
  have h0 := Int.fmod_nonneg_of_pos x (b := 40) (by decide)
  have h1 := Int.fmod_lt_of_pos x (b := 40) (by decide)
  exact ⟨(1 + x.fmod 40).toNat, by omega, by omega, by omega⟩
theorem people_two {x y k : Int} {i : Nat} (h : [1 + x.fmod 40, 1 + y.fmod 40][i]? = some k) : ∃ n : Nat, k = (n : Int) ∧ 1 ≤ n ∧ n ≤ 40 := by
  have hm := List.mem_of_getElem? h
  simp only [List.mem_cons, List.not_mem_nil, or_false] at hm
  rcases hm with rfl | rfl
  · exact people_in x
  · exact people_in y

abbrev Quad := Value × Value × Value × Value
/-- a tuple of four -/
def QRow (q : Quad) (o : Obj) : Prop := o = tupOf [q.1, q.2.1, q.2.2.1, q.2.2.2]
theorem RowsAre.at {α : Type} {R : α → Obj → Prop} {led : List (Addr × Obj)} {us : List Value} {xs : List α} (h : RowsAre R led us xs) : ∀ (i : Nat) (x : α), xs[i]? = some x → ∃ a o, us[i]? = some (.ref a) ∧ (a, o) ∈ led ∧ R x o := by
  induction h with
  | nil => intro i x hx; simp at hx
  | cons hm hr _ ih =>
    intro i x hx
    cases i with
    | zero =>
      have e := Option.some.inj (by simpa using hx)
      subst e
      exact ⟨_, _, rfl, hm, hr⟩
    | succ i => exact ih i x (by simpa using hx)
def F4Post (h₀ : Heap) (L I : Addr) (oI : Obj) (news : List (Addr × Obj)) (J : (Str → Option Value) → Prop) (s : Shared) (Q : Flow → Shared → Prop) (f : Flow) (s₂ : Shared) : Prop :=
  match f with
  | .ret v => Q (.ret v) s₂
  | .brk => Q .next s₂
  | _ => ∃ h' tk m', s₂ = { s with heap := h', toks := tk } ∧ Fr h₀ L h' m' ∧ News h₀ L h' ((I, oI) :: news) ∧ J m'
section
variable {prog : Program} {w : World} {A : Around} {E : Value → Shared → Prop} {s : Shared} {env : Env} {h₀ : Heap} {body : List Stmt} {Q : Flow → Shared → Prop}
theorem for4 {a b c d : Str} {pa pb pc pd tp pos : Pos} {kk : Nat} {iter : PySem.Expr} {m₀ : Str → Option Value} {news : List (Addr × Obj)} {ax : Addr} {us : List Value} {kax : Nat} {quads : List Quad} (J : Nat → (Str → Option Value) → Prop)
    (hh : A.handled = none) (ha : env.kindOf a = some .local) (hb : env.kindOf b = some .local) (hc : env.kindOf c = some .local) (hd : env.kindOf d = some .local)
    (hp : (env.scope.kind == .class || (env.scope.kind == .module && env.locals != env.globals)) = false)
    (F : Fr h₀ env.locals s.heap m₀) (N : News h₀ env.locals s.heap news) (hax : (ax, listOf us.toArray kax) ∈ news) (hq : RowsAre QRow news us quads) (hj : J 0 m₀)
    (hit : ∀ Q' : Value → Shared → Prop, Q' (.ref ax) s → wpAny (model prog w) A (eval iter env) Q' E s)
    (turn : ∀ i q m₁ h tk I oI, quads[i]? = some q → J i m₁ → Fr h₀ env.locals h (fun y => if y = d then some q.2.2.2 else if y = c then some q.2.2.1 else if y = b then some q.2.1 else if y = a then some q.1 else m₁ y) → News h₀ env.locals h ((I, oI) :: news) →
      wpAny (model prog w) A (execs body env) (F4Post h₀ env.locals I oI news (J (i + 1)) s Q) E { s with heap := h, toks := tk })
    (done : ∀ m₁ h tk, J quads.length m₁ → Fr h₀ env.locals h m₁ → News h₀ env.locals h news → Q .next { s with heap := h, toks := tk })
    (hs : ∀ x, foldedSetIterable iter env x = pure x) (hE : PassesOwn (model prog w) A env E) :
    wpAny (model prog w) A (exec (.For (.Tuple [.Name a pa, .Name b pb, .Name c pc, .Name d pd] kk tp) iter body [] pos) env) Q E s := by
  have hul : us.length = quads.length := hq.length
  have hlist : s.heap.IsList ax us.toArray := ⟨_, (N _ hax).1, rfl, kax, rfl⟩
  refine wpAny_For (hit _ ?_) hs
  refine wpAny_pyIter_list hlist ?_
  have hIne : ∀ p ∈ news, p.1 ≠ s.heap.objs.size := fun p hp => Nat.ne_of_lt (Heap.lt_size (N p hp).1)
  have hIL : env.locals ≠ s.heap.objs.size := Nat.ne_of_lt F.ns.lt
  have hI0 : h₀.get? s.heap.objs.size = none := next_is_new F
  refine codeAny_forLoop_any (R := fun r s' => match r with | .ok f => Q f s' | .error e => cameBackBy (model prog w) A env E e s')
    (fun k s' => ∃ h' tk m' i, s' = { s with heap := h', toks := tk } ∧ h'.IsListIter s.heap.objs.size ax i ∧ Fr h₀ env.locals h' m' ∧ News h₀ env.locals h' news ∧ J i m' ∧ i ≤ quads.length ∧ k = quads.length + 1 - i) ?_ (quads.length + 1)
    ⟨_, _, m₀, 0, rfl, ⟨_, Heap.get?_push_size _ rfl, rfl, rfl⟩, F.push _, fun p hp => ⟨Heap.get?_push_of_some _ (N p hp).1, (N p hp).2⟩, hj, Nat.zero_le _, rfl⟩
  rintro k s' ⟨h', tk, m', i, rfl, hit', F', N', hJ, hi, rfl⟩
  have hl' : h'.IsList ax us.toArray := ⟨_, (N' _ hax).1, rfl, kax, rfl⟩
  by_cases hlt : i < quads.length
  · have hqi : quads[i]? = some quads[i] := List.getElem?_eq_getElem hlt
    obtain ⟨aa, o, hu, hm, ho⟩ := hq.at i _ hqi
    generalize quads[i] = q at hqi ho
    obtain ⟨q1, q2, q3, q4⟩ := q
    have ho' : o = tupOf [q1, q2, q3, q4] := ho
    subst ho'
    refine wpAny_pyNext_list_item hit' hl' (x := .ref aa) (by simpa using hu) fun h1 hit1 hs1 => ?_
    have hk1 : ∀ b o, b ∉ [s.heap.objs.size] → h'.get? b = some o → h1.get? b = some o := fun b o hb e => hs1.extBut b o (by simpa using hb) e
    have F1 := LCg.fr_but F' hk1 hIL hI0
    have N1 := LCg.news_but N' hk1 hIne
    refine wpAny_letOwnedTupleGo_listiter hit1 ?_
    refine wpAny_assign_Tuple (items := #[q1, q2, q3, q4]) hh ⟨_, (N1 _ hm).1, rfl, 0, rfl⟩ rfl rfl fun h2 he2 => ?_
    have up2 : ∀ b o, h1.get? b = some o → h2.get? b = some o := fun b o e => he2 b o (Nat.ne_of_lt (Heap.lt_size e)) e
    have F2 : Fr h₀ env.locals h2 m' := F1.keeps up2
    have N2 : News h₀ env.locals h2 news := fun p hp => ⟨up2 _ _ (N1 p hp).1, (N1 p hp).2⟩
    refine assignInOrder_cons (wpAny_assign_Name (wpAny_storeName_local ha F2.ns (fun h3 hn3 hs3 => ?_) hp))
    have F3 := F2.set hn3 hs3
    refine assignInOrder_cons (wpAny_assign_Name (wpAny_storeName_local hb F3.ns (fun h4 hn4 hs4 => ?_) hp))
    have F4 := F3.set hn4 hs4
    refine assignInOrder_cons (wpAny_assign_Name (wpAny_storeName_local hc F4.ns (fun h5 hn5 hs5 => ?_) hp))
    have F5 := F4.set hn5 hs5
    refine assignInOrder_cons (wpAny_assign_Name (wpAny_storeName_local hd F5.ns (fun h6 hn6 hs6 => ?_) hp))
    have F6 := F5.set hn6 hs6
    refine assignInOrder_nil ?_
    have up6 : ∀ b o, b ≠ env.locals → h2.get? b = some o → h6.get? b = some o := fun b o hb e => hs6.extBut b o hb (hs5.extBut b o hb (hs4.extBut b o hb (hs3.extBut b o hb e)))
    obtain ⟨oI, heI, hcI, hdI⟩ := hit1
    have N6 : News h₀ env.locals h6 ((s.heap.objs.size, oI) :: news) := fun p hp => by
      rcases List.mem_cons.mp hp with rfl | hp
      · exact ⟨up6 _ _ (Ne.symm hIL) (up2 _ _ heI), Ne.symm hIL, hI0⟩
      · exact ⟨up6 _ _ (N2 p hp).2.1 (N2 p hp).1, (N2 p hp).2⟩
    refine wpAny_mono (wpAny_passesOwn hE (turn i _ m' h6 _ _ oI hqi hJ F6 N6)) (fun f s₃ h₃ => ?_) fun _ _ e => e
    cases f with
    | ret v => exact h₃
    | brk => exact h₃
    | next =>
      obtain ⟨h7, tk7, m7, rfl, F7, N7, hJ7⟩ := h₃
      exact ⟨quads.length + 1 - (i + 1), by omega, h7, tk7, m7, i + 1, rfl, ⟨oI, (N7 _ (.head _)).1, hcI, hdI⟩, F7, fun p hp => N7 p (.tail _ hp), hJ7, hlt, rfl⟩
    | cont =>
      obtain ⟨h7, tk7, m7, rfl, F7, N7, hJ7⟩ := h₃
      exact ⟨quads.length + 1 - (i + 1), by omega, h7, tk7, m7, i + 1, rfl, ⟨oI, (N7 _ (.head _)).1, hcI, hdI⟩, F7, fun p hp => N7 p (.tail _ hp), hJ7, hlt, rfl⟩
  · have hin : i = quads.length := by omega
    subst hin
    refine wpAny_pyNext_list_end hh hit' hl' (by rw [← hul]; simp) fun h1 he1 => wpAny_execs_nil ?_
    have hk1 : ∀ b o, b ∉ [s.heap.objs.size] → h'.get? b = some o → h1.get? b = some o := fun b o hb e => he1 b o (by simpa using hb) e
    exact done m' h1 _ hJ (LCg.fr_but F' hk1 hIL hI0) (LCg.news_but N' hk1 hIne)
end

def sizesFF : Nat → Nat → List Nat
  | 0, _ => []
  | f + 1, s => s :: (if jpF s = s then [] else sizesFF f (jpF s))
theorem sizesFF_eq : ∀ (f s : Nat), sizesFF f s = sizesF f s
  | 0, _ => rfl
  | f + 1, s => by
    show s :: (if jpF s = s then [] else sizesFF f (jpF s)) = s :: (if jp s = s then [] else sizesF f (jp s))
    rw [jpF_eq, sizesFF_eq f (jp s)]
def endsOk (s : Nat) : Bool := match (sizesFF 8 s).getLast? with
  | some t => (sizesFF 8 s).all (fun x => decide (1 ≤ x) && decide (x ≤ 40) && decide ((2 : Int) ^ ((bitsF x x).sum).toNat = (jpF t : Int) + 1))
  | none => false
/-- what the last circle is, told by the odd readings of each -/
theorem sizes_last (s : Nat) (h1 : 1 ≤ s) (h2 : s ≤ 40) : ∃ t, (sizesF 8 s).getLast? = some t ∧ ∀ x ∈ sizesF 8 s, 1 ≤ x ∧ x ≤ 40 ∧ (2 : Int) ^ ((bits x).sum).toNat = (jp t : Int) + 1 := by
  have all : ∀ s : Fin 41, 1 ≤ s.1 → endsOk s.1 = true := by decide +kernel
  have h := all ⟨s, by omega⟩ h1
  unfold endsOk at h
  dsimp only at h
  rw [sizesFF_eq] at h
  cases e : (sizesF 8 s).getLast? with
  | none => rw [e] at h; exact absurd h (by intro q; cases q)
  | some t =>
    rw [e] at h
    refine ⟨t, rfl, fun x hx => ?_⟩
    have q := List.all_eq_true.mp h x hx
    simp only [Bool.and_eq_true, decide_eq_true_eq] at q
    rw [bitsF_eq x x (Nat.le_refl x), jpF_eq] at q
    exact ⟨q.1.1, q.1.2, q.2⟩

/-- a pair of the first and the last of four -/
def PRow (q : Quad) (o : Obj) : Prop := o = tupOf [q.1, q.2.2.2]
section
variable {prog : Program} {w : World} {A : Around} {E : Value → Shared → Prop} {s : Shared} {env : Env} {h₀ : Heap} {L : Addr} {m : Str → Option Value} {Q : Value → Shared → Prop}
theorem comp4 {a b c d : Str} {pa pb pc pd tp pos p5 p6 p7 : Pos} {kk k5 : Nat} {iter : PySem.Expr} {scope : Scope} {cl : List (Str × Addr)} {news : List (Addr × Obj)} {ax : Addr} {us : List Value} {kax : Nat} {quads : List Quad}
    (hh : A.handled = none) (hclos : closureFor scope env = pure cl) (hcell : ∀ y ∈ scope.names, y.2 ≠ .cell) (hkind : scope.kind = .function)
    (hnames : ∀ y ∈ scope.names, y.2 = .local → scope.names.lookup y.1 = some .local)
    (ha : scope.names.lookup a = some .local) (hb : scope.names.lookup b = some .local) (hc : scope.names.lookup c = some .local) (hd : scope.names.lookup d = some .local)
    (hab : a ≠ b) (hac : a ≠ c) (had : a ≠ d) (hua : (a == ("__debug__" : Str)) = false) (hud : (d == ("__debug__" : Str)) = false)
    (F : Fr h₀ L s.heap m) (N : News h₀ L s.heap news) (hax : (ax, listOf us.toArray kax) ∈ news) (hq : RowsAre QRow news us quads) (hsz : quads.length ≤ sizeLine)
    (hit : ∀ Q' : Value → Shared → Prop, Q' (.ref ax) s → wpAny (model prog w) A (eval iter env) Q' E s)
    (fin : ∀ D ys tups h tk, Fr h₀ L h m → News h₀ L h ((D, LCg.lst ys) :: (tups ++ news)) → RowsAre PRow tups ys quads → Q (.ref D) { s with heap := h, toks := tk })
    (hs : ∀ x, foldedSetIterable iter env x = pure x) :
    wpAny (model prog w) A (eval (.ListComp (.Tuple [.Name a p5, .Name d p6] k5 p7) [⟨.Tuple [.Name a pa, .Name b pb, .Name c pc, .Name d pd] kk tp, iter, [], 0⟩] scope pos) env) Q E s := by
  have hul : us.length = quads.length := hq.length
  have hlist : s.heap.IsList ax us.toArray := ⟨_, (N _ hax).1, rfl, kax, rfl⟩
  rw [eval_ListComp]
  refine wpAny_comprehension_free (use := none) rfl hs hclos hkind hnames (hit _ ?_)
  refine wpAny_pyIter_list hlist ?_
  have hIne : ∀ p ∈ news, p.1 ≠ s.heap.objs.size := fun p hp => Nat.ne_of_lt (Heap.lt_size (N p hp).1)
  have hIL : L ≠ s.heap.objs.size := Nat.ne_of_lt F.ns.lt
  have hI0 : h₀.get? s.heap.objs.size = none := next_is_new F
  have hit1 : (s.heap.push { cls := .type "list_iterator", data := .fields #[.ref ax, .int 0 0] }).IsListIter s.heap.objs.size ax 0 := ⟨_, Heap.get?_push_size _ rfl, rfl, rfl⟩
  have F1 : Fr h₀ L (s.heap.push { cls := .type "list_iterator", data := .fields #[.ref ax, .int 0 0] }) m := F.push _
  have N1 : News h₀ L (s.heap.push { cls := .type "list_iterator", data := .fields #[.ref ax, .int 0 0] }) news := fun p hp => ⟨Heap.get?_push_of_some _ (N p hp).1, (N p hp).2⟩
  have hsI : (s.heap.push { cls := .type "list_iterator", data := .fields #[.ref ax, .int 0 0] }).objs.size = s.heap.objs.size + 1 := Heap.size_push ..
  generalize s.heap.objs.size = I at *
  generalize s.heap.push { cls := .type "list_iterator", data := .fields #[.ref ax, .int 0 0] } = h1 at *
  refine wpAny_newObj_type ?_
  have hD0 : h₀.get? h1.objs.size = none := next_is_new F1
  have hDL : L ≠ h1.objs.size := Nat.ne_of_lt F1.ns.lt
  have hDI : I ≠ h1.objs.size := by rw [hsI]; exact Nat.ne_of_lt (Nat.lt_succ_self _)
  have hDne : ∀ p ∈ news, p.1 ≠ h1.objs.size := fun p hp => Nat.ne_of_lt (Heap.lt_size (N1 p hp).1)
  have F2 : Fr h₀ L (h1.push (LCg.lst [])) m := F1.push _
  have hit2 : (h1.push (LCg.lst [])).IsListIter I ax 0 := by
    obtain ⟨o, e, r⟩ := hit1
    exact ⟨o, Heap.get?_push_of_some _ e, r⟩
  have N2 : News h₀ L (h1.push (LCg.lst [])) ((h1.objs.size, LCg.lst []) :: news) := fun p hp => by
    rcases List.mem_cons.mp hp with rfl | hp
    · exact ⟨Heap.get?_push_size _ rfl, Ne.symm hDL, hD0⟩
    · exact ⟨Heap.get?_push_of_some _ (N1 p hp).1, (N1 p hp).2⟩
  have hsD : (h1.push (LCg.lst [])).objs.size = h1.objs.size + 1 := Heap.size_push ..
  show wpAny _ _ (newFunctionEnv scope env.globals cl [] env.qual none .none (some env)) _ _ { s with heap := h1.push (LCg.lst []) }
  generalize h1.objs.size = D at *
  generalize h1.push (LCg.lst []) = h2 at *
  refine wpAny_newFunctionEnv hcell (by intro y hy; simp at hy) (fun h₃ hns₃ hsb₃ => ?_) hkind
  dsimp only at hns₃ hsb₃ ⊢
  have hC0 : h₀.get? h2.objs.size = none := next_is_new F2
  have hCL : L ≠ h2.objs.size := Nat.ne_of_lt F2.ns.lt
  have hCD : D ≠ h2.objs.size := by rw [hsD]; exact Nat.ne_of_lt (Nat.lt_succ_self _)
  have hCI : I ≠ h2.objs.size := by rw [hsD]; omega
  have hCne : ∀ p ∈ news, p.1 ≠ h2.objs.size := fun p hp => Nat.ne_of_lt (Heap.lt_size (N2 p (.tail _ hp)).1)
  have up3 : ∀ b o, h2.get? b = some o → h₃.get? b = some o := fun b o e => hsb₃.extBut b o (Nat.ne_of_lt (Heap.lt_size e)) (Heap.get?_push_of_some _ e)
  have F3 : Fr h₀ L h₃ m := F2.keeps up3
  have N3 : News h₀ L h₃ ((D, LCg.lst []) :: news) := fun p hp => ⟨up3 _ _ (N2 p hp).1, (N2 p hp).2⟩
  have hit3 : h₃.IsListIter I ax 0 := by
    obtain ⟨o, e, r⟩ := hit2
    exact ⟨o, up3 _ _ e, r⟩
  have hlt2 : I < h2.objs.size ∧ D < h2.objs.size := by constructor <;> omega
  generalize h2.objs.size = C at *
  have loop : codeAny (model prog w) A (.compLoop (.ListComp (.Tuple [.Name a p5, .Name d p6] k5 p7) [⟨.Tuple [.Name a pa, .Name b pb, .Name c pc, .Name d pd] kk tp, iter, [], 0⟩] scope pos) 0 (.ref I) (.ref D) (compEnvC scope cl C env))
      (compPost (model prog w) A E none Q (.ref D) C) { s with heap := h₃, toks := s.toks + ([] : List (Str × Value)).length } := by
    refine kcp_loop
      (fun k s' => ∃ h' tk i ys tups m', s' = { s with heap := h', toks := tk } ∧ i ≤ quads.length ∧ k = quads.length + 1 - i ∧ h'.IsListIter I ax i ∧ Fr h₀ L h' m ∧ h'.Ns C m' ∧ News h₀ L h' ((D, LCg.lst ys) :: (tups ++ news)) ∧
        (∀ p ∈ tups, p.1 ≠ I ∧ p.1 ≠ C ∧ p.1 ≠ D) ∧ RowsAre PRow tups ys (quads.take i)) ?_ (quads.length + 1)
      ⟨h₃, _, 0, [], [], _, rfl, Nat.zero_le _, rfl, hit3, F3, hns₃, N3, (fun _ hp => nomatch hp), by rw [List.take_zero]; exact RowsAre.nil⟩
    rintro k s' ⟨h', tk, i, ys, tups, m', rfl, hi, rfl, hit', F', hn', N', off', hR⟩
    have Nn : News h₀ L h' news := fun p hp => N' p (.tail _ (List.mem_append_right _ hp))
    have hl' : h'.IsList ax us.toArray := ⟨_, (Nn _ hax).1, rfl, kax, rfl⟩
    have offI : ∀ p ∈ (D, LCg.lst ys) :: (tups ++ news), p.1 ≠ I := fun p hp => by
      rcases List.mem_cons.mp hp with rfl | hp
      · exact Ne.symm hDI
      · rcases List.mem_append.mp hp with hp | hp
        · exact (off' p hp).1
        · exact hIne p hp
    have offC : ∀ p ∈ (D, LCg.lst ys) :: (tups ++ news), p.1 ≠ C := fun p hp => by
      rcases List.mem_cons.mp hp with rfl | hp
      · exact hCD
      · rcases List.mem_append.mp hp with hp | hp
        · exact (off' p hp).2.1
        · exact hCne p hp
    by_cases hlt : i < quads.length
    · have hqi : quads[i]? = some quads[i] := List.getElem?_eq_getElem hlt
      obtain ⟨aa, o, hu, hm, ho⟩ := hq.at i _ hqi
      have htake : quads.take (i + 1) = quads.take i ++ [quads[i]] := List.take_succ_eq_append_getElem hlt
      generalize quads[i] = q at hqi ho htake
      obtain ⟨q1, q2, q3, q4⟩ := q
      have ho' : o = tupOf [q1, q2, q3, q4] := ho
      subst ho'
      refine wpAny_pyNext_list_item hit' hl' (x := .ref aa) (by simpa using hu) fun h4 hit4 hs4 => ?_
      have hk4 : ∀ b o, b ∉ [I] → h'.get? b = some o → h4.get? b = some o := fun b o hb e => hs4.extBut b o (by simpa using hb) e
      have F4 := LCg.fr_but F' hk4 hIL hI0
      have N4 := LCg.news_but N' hk4 offI
      have hn4 : h4.Ns C m' := hn'.at' fun o e => hk4 _ o (by simpa using Ne.symm hCI) e
      refine wpAny_letOwnedTupleGo_listiter hit4 ?_
      refine wpAny_assign_Tuple (items := #[q1, q2, q3, q4]) hh ⟨_, (N4 _ (.tail _ (List.mem_append_right _ hm))).1, rfl, 0, rfl⟩ rfl rfl fun h5 he5 => ?_
      have up5 : ∀ b o, h4.get? b = some o → h5.get? b = some o := fun b o e => he5 b o (Nat.ne_of_lt (Heap.lt_size e)) e
      have hn5 : h5.Ns C m' := hn4.at' fun o e => up5 _ o e
      refine assignInOrder_cons (wpAny_assign_Name (wpAny_storeName_local (lookup_relabel_local ha) hn5 (fun h6 hn6 hs6 => ?_) (by simp [compEnvC, relabel, hkind])))
      refine assignInOrder_cons (wpAny_assign_Name (wpAny_storeName_local (lookup_relabel_local hb) hn6 (fun h7 hn7 hs7 => ?_) (by simp [compEnvC, relabel, hkind])))
      refine assignInOrder_cons (wpAny_assign_Name (wpAny_storeName_local (lookup_relabel_local hc) hn7 (fun h8 hn8 hs8 => ?_) (by simp [compEnvC, relabel, hkind])))
      refine assignInOrder_cons (wpAny_assign_Name (wpAny_storeName_local (lookup_relabel_local hd) hn8 (fun h9 hn9 hs9 => ?_) (by simp [compEnvC, relabel, hkind])))
      refine assignInOrder_nil ?_
      have up9 : ∀ b o, b ≠ C → h4.get? b = some o → h9.get? b = some o := fun b o hb e => hs9.extBut b o hb (hs8.extBut b o hb (hs7.extBut b o hb (hs6.extBut b o hb (up5 b o e))))
      have hit9 : h9.IsListIter I ax (i + 1) := by
        obtain ⟨o, e, r⟩ := hit4
        exact ⟨o, up9 _ _ hCI e, r⟩
      have F9 : Fr h₀ L h9 m := ((((F4.keeps up5).change hs6 (Ne.symm hCL) hC0).change hs7 (Ne.symm hCL) hC0).change hs8 (Ne.symm hCL) hC0).change hs9 (Ne.symm hCL) hC0
      have N9 : News h₀ L h9 ((D, LCg.lst ys) :: (tups ++ news)) := fun p hp => ⟨up9 _ _ (offC p hp) (N4 p hp).1, (N4 p hp).2⟩
      refine Tuple_ ?_
      refine spliced_cons (wpAny_Name (wpAny_loadName_local hkind (lookup_relabel_local ha) hn9 (v := q1) (by simp [hab, hac, had]) ?_) hua)
      refine spliced_cons (wpAny_Name (wpAny_loadName_local hkind (lookup_relabel_local hd) hn9 (v := q4) (by simp) ?_) hud)
      refine spliced_nil ?_
      refine wpAny_newObj_type ?_ (by show (2 : Nat) ≤ sizeLine; decide)
      have up10 : ∀ b o, h9.get? b = some o → (h9.push (tupOf [q1, q4])).get? b = some o := fun b o e => Heap.get?_push_of_some _ e
      have hT0 : h₀.get? h9.objs.size = none := next_is_new F9
      have hTL : L ≠ h9.objs.size := Nat.ne_of_lt F9.ns.lt
      have hTI : I ≠ h9.objs.size := Nat.ne_of_lt (by obtain ⟨o, e, _⟩ := hit9; exact Heap.lt_size e)
      have hTC : C ≠ h9.objs.size := Nat.ne_of_lt hn9.lt
      have hTD : D ≠ h9.objs.size := Nat.ne_of_lt (Heap.lt_size (N9 _ (.head _)).1)
      have zD := up10 _ _ (N9 _ (.head _)).1
      refine append_at (hsz := by show ys.toArray.size ≤ sizeLine; rw [List.size_toArray, hR.length, List.length_take]; omega) zD fun h11 hs11 hD11 => ?_
      have up11 : ∀ b o, b ≠ D → h9.get? b = some o → h11.get? b = some o := fun b o hb e => hs11.extBut b o hb (up10 b o e)
      have hn11 := hn9.at' fun o e => up11 _ o (Ne.symm hCD) e
      refine ⟨quads.length + 1 - (i + 1), by omega, h11, _, i + 1, ys ++ [.ref h9.objs.size], (h9.objs.size, tupOf [q1, q4]) :: tups, _, rfl, hlt, rfl, ?_, (F9.keeps up10).change hs11 (Ne.symm hDL) hD0, hn11, ?_, ?_, ?_⟩
      · obtain ⟨o, e, r⟩ := hit9
        exact ⟨o, up11 _ _ hDI e, r⟩
      · intro p hp
        rcases List.mem_cons.mp hp with rfl | hp
        · exact ⟨hD11.trans (congrArg some (LCg.lst_snoc ys _)), Ne.symm hDL, hD0⟩
        · rcases List.mem_cons.mp hp with rfl | hp
          · exact ⟨hs11.extBut _ _ (Ne.symm hTD) (Heap.get?_push_size _ rfl), Ne.symm hTL, hT0⟩
          · refine ⟨up11 _ _ ?_ (N9 p (.tail _ hp)).1, (N9 p (.tail _ hp)).2⟩
            rcases List.mem_append.mp hp with hp | hp
            · exact (off' p hp).2.2
            · exact hDne p hp
      · intro p hp
        rcases List.mem_cons.mp hp with rfl | hp
        · exact ⟨Ne.symm hTI, Ne.symm hTC, Ne.symm hTD⟩
        · exact off' p hp
      · rw [htake]
        exact (hR.mono fun _ hp => .tail _ hp).snoc (.head _) rfl
    · have hin : i = quads.length := by omega
      subst hin
      refine wpAny_pyNext_list_end hh hit' hl' (by rw [← hul]; simp) fun h4 he4 => ?_
      have hk4 : ∀ b o, b ∉ [I] → h'.get? b = some o → h4.get? b = some o := fun b o hb e => he4 b o (by simpa using hb) e
      have F4 := LCg.fr_but F' hk4 hIL hI0
      have N4 := LCg.news_but N' hk4 offI
      rw [List.take_length] at hR
      exact ⟨m', hn'.at' fun o e => hk4 _ o (by simpa using Ne.symm hCI) e, fun h'' hs'' => fin D ys tups h'' tk (F4.change hs'' (Ne.symm hCL) hC0) (fun p hp => ⟨hs''.extBut _ _ (offC p hp) (N4 p hp).1, (N4 p hp).2⟩) hR⟩
  refine codeAny_compStart_list loop ?_
  refine wpAny_pyIter_listiter hit3 ?_
  exact loop
end

set_option maxRecDepth 100000 in
set_option maxHeartbeats 8000000 in
theorem c257 (n : Nat) (hn : n ≤ 1000) : CC 79 1 8 (fun _ vs => ∃ t, vs = [.str (Tx (r257 n)) t]) (fun _ _ v tl => tl = [] ∧ ∃ t', v = .str (Tx (half n)) t') := by
  w_top off
  unfold CC
  k_fill
  intro w mean mg mb dp un gd cn cs a ccd cl outer A₀ base h₀ L m news s vs Q E B F X N T hk hask hdp hun hret
  obtain ⟨t, rfl⟩ := hask
  have hlen : (Tx (r257 n)).length = n + 6 := by rw [Tx_len, r257_len]
  refine wpAny_call ?_
  k_dflt cell_enter
  tb_start
  rw [if_neg (by rw [r257_a]; decide)]
  tb_start
  rw [if_neg (by rw [r257_b]; decide)]
  tb_start
  (rename Fr _ _ _ _ => lF'); (rename News _ _ _ _ => lN')
  refine While_inv2 (fun k m nx => nx = news ∧ ∃ (N i : Int) (d : List Nat) (t1 t2 t3 t4 : Tok), Knows m [(Str.ofString "resp", .str (Tx (r257 n)) t1), (Str.ofString "n", .int N t2), (Str.ofString "i", .int i t3), (Str.ofString "dirname", .str (Tx d) t4)] ∧ N = n + 6 ∧
    ((∃ j : Nat, i = 5 + 2 * j ∧ 2 * j ≤ n ∧ k = n + 6 - (5 + 2 * j) ∧ d = qs j) ∨ (i = n + 6 ∧ k = 0 ∧ d = half n))) (n₀ := n + 1) lF' lN' ⟨rfl, _, _, [], _, _, _, _, by with_unfolding_all exact ⟨rfl, rfl, rfl, rfl, trivial⟩, by rw [hlen]; rfl, .inl ⟨0, by omega, by omega, by omega, rfl⟩⟩ ?_
  clear lF' lN'
  rintro k m₁ nx h tk F₁ N₁ ⟨rfl, NN, i, d, t1, t2, t3, t4, hm, rfl, hcase⟩
  replace F₁ := fr_known _ hm F₁
  dsimp only [kstB] at F₁
  rcases hcase with ⟨j, rfl, hj, hk, rfl⟩ | ⟨rfl, hk, rfl⟩
  · have hqj : (Tx (qs j)).length = j := by rw [Tx_len]; simp
    tb_start
    rw [if_pos (by simp; omega)]
    rcases Nat.lt_or_ge (2 * j) n with hlt | hge
    · have hc : Txt.item (Tx (r257 n)) (5 + 2 * (j : Int)) = Tx [34] := Tx_item (a := 5 + 2 * j) (by omega) (r257_q hlt)
      tb_start
      rw [if_pos (by rw [hc]; decide)]
      tb_start
      rw [if_neg (by simp; omega)]
      rcases Nat.lt_or_ge (2 * j + 1) n with hlt2 | hge2
      · have hc2 : Txt.item (Tx (r257 n)) (5 + 2 * (j : Int) + 1) = Tx [34] := Tx_item (a := 5 + (2 * j + 1)) (by omega) (r257_q hlt2)
        tb_start
        rw [if_neg (by rw [hc2]; decide)]
        tb_start
        (rename Fr _ _ _ _ => lF'); (rename News _ _ _ _ => lN')
        rw [hc, Tx_app, qs_succ] at lF'
        dsimp only [WhileStep2]
        exact ⟨_, _, _, _, n + 6 - (5 + 2 * (j + 1)), rfl, lF', lN', by omega, rfl, _, _, _, _, _, _, _, by with_unfolding_all exact ⟨rfl, rfl, rfl, rfl, trivial⟩, rfl, .inl ⟨j + 1, by omega, by omega, rfl, rfl⟩⟩
      · have hc2 : Txt.item (Tx (r257 n)) (5 + 2 * (j : Int) + 1) = Tx [120] := Tx_item (a := 5 + 2 * j + 1) (by omega) (by have := r257_x n; rwa [show 5 + 2 * j + 1 = 5 + n by omega])
        tb_start
        rw [if_pos (by rw [hc2]; decide)]
        tb_start
        dsimp only [WhileStep2]
        tb_start
        exact hret _ [] _ _ (by assumption) (by assumption) (fun _ _ _ h => nomatch h) ⟨rfl, t4, by rw [half_odd (n := n) (j := j) (by omega)]⟩
    · have hc : Txt.item (Tx (r257 n)) (5 + 2 * (j : Int)) = Tx [120] := Tx_item (a := 5 + 2 * j) (by omega) (by have := r257_x n; rwa [show 5 + 2 * j = 5 + n by omega])
      tb_start
      rw [if_neg (by rw [hc]; decide)]
      tb_start
      (rename Fr _ _ _ _ => lF'); (rename News _ _ _ _ => lN')
      rw [hc, Tx_app, half_even (n := n) (by omega)] at lF'
      dsimp only [WhileStep2]
      exact ⟨_, _, _, _, 0, rfl, lF', lN', by omega, rfl, _, _, _, _, _, _, _, by with_unfolding_all exact ⟨rfl, rfl, rfl, rfl, trivial⟩, rfl, .inr ⟨by omega, rfl, rfl⟩⟩
  · tb_start
    rw [if_neg (by simp)]
    tb_start
    exact hret _ [] _ _ (by assumption) (by assumption) (fun _ _ _ h => nomatch h) ⟨rfl, t4, rfl⟩

set_option maxRecDepth 100000 in
set_option maxHeartbeats 8000000 in
theorem c86 (n : Nat) (hn : n < 18446744073709551616) : CC 86 1 8 (fun _ vs => ∃ (t : Tok), vs = [.int (-(n : Int)) t]) (fun _ _ r tl => tl = [] ∧ ∃ (t' : Tok), r = .bytes (apd n).toArray t') := by
  w_top off
  unfold CC
  k_fill
  intro w mean mg mb dp un gd cn cs a ccd cl outer A₀ base h₀ L m news s vs Q E B F X N T hk hask hdp hun hret
  obtain ⟨t, rfl⟩ := hask
  refine wpAny_call ?_
  k_dflt cell_enter
  tb_start
  (rename Fr _ _ _ _ => lF'); (rename News _ _ _ _ => lN')
  refine While_inv2 (fun k m nx => nx = news ∧ ∃ (v : Nat) (z : Int) (b : List UInt8) (t1 t2 t3 : Tok), Knows m [(Str.ofString "num", .int z t1), (Str.ofString "AP", .bytes #[65, 66, 67, 68, 69, 70, 71, 72, 73, 74, 75, 76, 77, 78, 79, 80] t2), (Str.ofString "val", .bytes b.toArray t3)] ∧ z = v ∧ k = v ∧ v < 18446744073709551616 ∧
    apd v ++ b = apd n) (n₀ := n) lF' lN' ⟨rfl, n, _, [], _, _, _, by with_unfolding_all exact ⟨rfl, rfl, rfl, trivial⟩, by (split <;> omega), rfl, hn, by simp⟩ ?_
  clear lF' lN'
  rintro k m₁ nx h tk F₁ N₁ ⟨rfl, v, z, b, t1, t2, t3, hm, rfl, hk, hv, he⟩
  replace F₁ := fr_known _ hm F₁
  dsimp only [kstB] at F₁
  tb_start
  have hb : b.length ≤ 16 := by
    have h1 := congrArg List.length he
    have h2 := apd_len 16 n (by omega)
    rw [List.length_append] at h1; omega
  have hb2 : b.toArray.size ≤ 16 := by simpa using hb
  by_cases hz : v = 0
  · rw [if_neg (by subst hz; decide)]
    tb_start
    refine hret _ [] _ _ (by assumption) (by assumption) (fun _ _ _ h => nomatch h) ⟨rfl, t3, ?_⟩
    rw [← he, hz, apd_zero]; rfl
  · rw [if_pos (by simpa using hz)]
    tb_start
    (rename Fr _ _ _ _ => lF'); (rename News _ _ _ _ => lN')
    refine KBc.slice_K (s := ⟨_, _, _, _, _⟩) lF' lN' rfl (by constructor) (by constructor) (by decide) (fun h' t' k F' N' kb => ?_)
    clear kb lF' lN'
    rw [fmod_nat, ap_cut _ (Nat.mod_lt _ (by omega))]
    rw [fmod_nat, fdiv_nat] at F'
    tb_start
    refine KBy.add_bytes (by simp; omega) (fun t' k => ?_)
    have ea : (#[UInt8.ofNat (65 + v % 16)] ++ b.toArray : Array UInt8) = (UInt8.ofNat (65 + v % 16) :: b).toArray := by simp
    rw [ea]
    tb_start
    (rename Fr _ _ _ _ => lF'); (rename News _ _ _ _ => lN')
    dsimp only [WhileStep2]
    exact ⟨_, _, _, _, v / 16, rfl, lF', fun p hp => lN' p (List.mem_cons_of_mem _ hp), by omega, rfl, v / 16, _, _, _, _, _, by with_unfolding_all exact ⟨rfl, rfl, rfl, trivial⟩, rfl, rfl, by omega, by rw [← he, apd_pos hz, List.append_assoc]; rfl⟩

set_option maxRecDepth 100000 in
set_option maxHeartbeats 8000000 in
theorem c107 (n : Nat) (hn : n ≤ 100) : CC 107 3 30 (fun _ vs => ∃ (t : Tok), vs = [.int (n : Int) t]) (fun _ _ r tl => ∃ (l : Addr) (us : List Value) (c : Nat), r = .ref l ∧ tl = [(l, listOf us.toArray c)] ∧ IntsAre us (bits n)) := by
  w_top off
  unfold CC
  k_fill
  intro w mean mg mb dp un gd cn cs a ccd cl outer A₀ base h₀ L m news s vs Q E B F X N T hk hask hdp hun hret
  obtain ⟨t, rfl⟩ := hask
  refine wpAny_call ?_
  k_dflt cell_enter
  tb_start
  (rename Fr _ _ _ _ => lF'); (rename News _ _ _ _ => lN')
  rw [qs_mul] at lF'
  have hMk : KstMark := kstMark
  refine While_inv2 (fun k m nx => ∃ (v : Nat) (l : Addr) (us : List Value) (c : Nat) (r : List Int) (t1 : Tok), nx = (l, listOf us.toArray c) :: news ∧ (∀ p ∈ news, p.1 < l) ∧ IntsAre us r ∧ Knows m [(Str.ofString "run", .str (Tx (qs v)) t1), (Str.ofString "odd", .ref l)] ∧ k = v ∧ v ≤ 100 ∧ r.length + v ≤ 100 ∧
    r ++ bits v = bits n) (n₀ := n) lF' lN' ⟨n, _, [], _, [], _, rfl, by assumption, .nil, by with_unfolding_all exact ⟨rfl, rfl, trivial⟩, rfl, hn, by simpa using hn, rfl⟩ ?_
  clear lF' lN'
  rintro k m₁ nx h tk F₁ N₁ ⟨v, l, us, c, r, t1, rfl, hlt, hus, hm, hk, hv, hr, he⟩
  replace F₁ := fr_known _ hm F₁
  dsimp only [kstB] at F₁
  have hlv : (Tx (qs v)).length = v := by rw [Tx_len]; simp
  tb_start
  rw [hlv]
  refine wpAny_call ?_
  k_dflt cell_enter
  tb_start
  by_cases hz : v = 0
  · rw [if_neg (by subst hz; decide)]
    tb_start
    exact hret _ [_] _ _ (by assumption) (by assumption) (fun q hq p hp => by rcases List.mem_singleton.mp hp with rfl; exact hlt q hq) ⟨l, us, c, rfl, rfl, by rw [← he, hz, bits_zero, List.append_nil]; exact hus⟩
  · rw [if_pos (by simp; omega)]
    tb_start
    rw [r257_cat]
    cell_ask (c257 v (by omega))
    case ka => exact ⟨_, rfl⟩
    case kR =>
      rintro rv tl h9 tk9 F9 N9 - ⟨rfl, t8, rfl⟩
      have hl9 := half_len v
      have hl8 : (Tx (half v)).length = (half v).length := Tx_len _
      tb_start
      by_cases hp : v % 2 = 0
      · have eh : half v = qs (v / 2) ++ [120] := by unfold half; rw [if_pos hp]
        have e1 : Txt.slice (Tx (half v)) (some (-1)) none = Str.ofString "x" := by
          rw [eh, Tx_last (by simp)]
          have : (qs (v / 2) ++ [120]).drop ((qs (v / 2) ++ [120]).length - 1) = [120] := by simp
          rw [this]; decide
        have e2 : Txt.slice (Tx (half v)) none (some (-1)) = Tx (qs (v / 2)) := by
          rw [eh, Tx_but (by simp)]; simp
        rw [if_pos (by rw [e1]; decide)]
        tb_start
        (rename Fr _ _ _ _ => lF'); (rename News _ _ _ _ => lN')
        rw [e2] at lF'
        simp only [List.push_toArray] at lN'
        dsimp only [WhileStep2]
        exact ⟨_, _, _, _, v / 2, rfl, lF', lN', by omega, v / 2, l, _, _, r ++ [0], _, rfl, hlt, hus.append (.cons _ _ .nil), by with_unfolding_all exact ⟨rfl, rfl, trivial⟩, rfl, by omega, by rw [List.length_append, List.length_singleton]; omega, by rw [← he, bits_pos hz, show v % 2 = 0 by omega, List.append_assoc]; rfl⟩
      · have eh : half v = qs (v / 2) := by unfold half; rw [if_neg hp]
        have e1 : (Txt.slice (Tx (half v)) (some (-1)) none == Str.ofString "x") = false := by
          rw [eh]
          by_cases h0 : v / 2 = 0
          · rw [h0]; decide
          · rw [Tx_last (by simp; omega)]
            have : (qs (v / 2)).drop ((qs (v / 2)).length - 1) = [34] := by rw [List.drop_replicate, List.length_replicate, show v / 2 - (v / 2 - 1) = 1 by omega]; rfl
            rw [this]; decide
        rw [if_neg (by rw [e1]; decide)]
        tb_start
        (rename Fr _ _ _ _ => lF'); (rename News _ _ _ _ => lN')
        rw [eh] at lF'
        simp only [List.push_toArray] at lN'
        dsimp only [WhileStep2]
        exact ⟨_, _, _, _, v / 2, rfl, lF', lN', by omega, v / 2, l, _, _, r ++ [1], _, rfl, hlt, hus.append (.cons _ _ .nil), by with_unfolding_all exact ⟨rfl, rfl, trivial⟩, rfl, by omega, by rw [List.length_append, List.length_singleton]; omega, by rw [← he, bits_pos hz, show v % 2 = 1 by omega, List.append_assoc]; rfl⟩

local macro_rules | `(tactic| walk_at "truthy str") => `(tactic| ((with_reducible show wpAny _ _ (truthy (Value.str (Txt.slice (Tx _) none none) _)) _ _ _); rw [Tx_all]))
local macro_rules | `(tactic| walk_at "subscriptTail Name Slice str ref") => `(tactic| ((with_reducible show wpAny _ _ (subscriptTail _ (Expr.Slice none (some (Expr.BoolOp _ _ _)) none _) _ _) _ _ _); (with_reducible rename Fr _ _ _ _ => F'); (with_reducible rename News _ _ _ _ => N'); (refine slice_strN_nn (hsz := ?hsz) (s := ⟨_, _, _, _, _⟩) F' N' ?_); (case hsz => size_fits); intro _ _ _ _ _))
set_option maxRecDepth 100000 in
set_option maxHeartbeats 8000000 in
theorem c28 (n p : Nat) (hn : n ≤ 1000) (hp : p ≤ n) : CC 28 3 30 (fun _ vs => ∃ (t1 t2 t3 : Tok), vs = [.str (Tx (qs n)) t1, .str (Tx (qs p)) t2, .int 0 t3]) (fun _ _ r tl => tl = [] ∧ ∃ (t' : Tok), r = .int (2 * ((n : Int) - p)) t') := by
  w_top off
  unfold CC
  k_fill
  intro w mean mg mb dp un gd cn cs a ccd cl outer A₀ base h₀ L m news s vs Q E B F X N T hk hask hdp hun hret
  obtain ⟨t1, t2, t3, rfl⟩ := hask
  have hln : (Tx (qs n)).length = n := by rw [Tx_len]; simp
  have hlp : (Tx (qs p)).length = p := by rw [Tx_len]; simp
  refine wpAny_call ?_
  k_dflt cell_enter
  tb_start
  by_cases he : n = p
  · rw [if_pos (by rw [qs_beq]; simpa using he)]
    tb_start
    exact hret _ [] _ _ (by assumption) (by assumption) (fun _ _ _ h => nomatch h) ⟨rfl, _, by rw [he]; congr 1; omega⟩
  · rw [if_neg (by rw [qs_beq]; simpa using he)]
    tb_start
    (rename Fr _ _ _ _ => lF'); (rename News _ _ _ _ => lN')
    refine While_inv2 (fun k m nx => nx = news ∧ ∃ (j : Nat) (z : Int) (t1 t2 t3 : Tok), Knows m [(Str.ofString "a", .str (Tx (qs n)) t1), (Str.ofString "b", .str (Tx (qs p)) t2), (Str.ofString "pre", .int z t3)] ∧ z = j ∧ j ≤ p ∧ k = p - j) (n₀ := p) lF' lN' ⟨rfl, 0, _, _, _, _, by with_unfolding_all exact ⟨rfl, rfl, rfl, trivial⟩, rfl, by omega, rfl⟩ ?_
    clear lF' lN'
    rintro k m₁ nx h tk F₁ N₁ ⟨hnx, j, z, t4, t5, t6, hm, rfl, hj, hk⟩
    rw [hnx] at N₁
    clear hnx
    replace F₁ := fr_known _ hm F₁
    dsimp only [kstB] at F₁
    tb_start
    have ea := qs_from n j (by omega)
    have eb := qs_from p j hj
    rw [if_pos (by rw [ea, Tx_len]; simp; omega)]
    tb_start
    by_cases hjp : j = p
    · rw [if_neg (by rw [eb, Tx_len, hjp]; simp)]
      tb_start
      (rename Fr _ _ _ _ => lF'); (rename News _ _ _ _ => lN')
      rw [ea, eb, hjp, Nat.sub_self] at lF'
      refine While_inv2 (fun k m nx' => nx' = news ∧ ∃ (t1 t2 t3 : Tok), Knows m [(Str.ofString "a", .str (Tx (qs (n - p))) t1), (Str.ofString "b", .str (Tx (qs 0)) t2), (Str.ofString "post", .int 0 t3)]) (n₀ := 0) lF' lN' ⟨rfl, _, _, _, by with_unfolding_all exact ⟨rfl, rfl, rfl, trivial⟩⟩ ?_
      clear lF' lN'
      rintro k' m₂ nx' h' tk' F₂ N₂ ⟨hnx, t7, t8, t9, hm2⟩
      rw [hnx] at N₂
      clear hnx
      replace F₂ := fr_known _ hm2 F₂
      dsimp only [kstB] at F₂
      have hl1 : (Tx (qs (n - p))).length = n - p := by rw [Tx_len]; simp
      have hl2 : (Tx (qs 0)).length = 0 := by rw [Tx_len]; simp
      tb_start
      rw [if_pos (by rw [hl1]; simp; omega)]
      tb_start
      rw [if_neg (by rw [hl1]; simp; omega)]
      tb_start
      rw [Tx_all]
      tb_start
      exact hret _ [] _ _ (by assumption) (by assumption) (fun _ _ _ h => nomatch h) ⟨rfl, _, by rw [hl1]; congr 1; omega⟩
    · have ia := qs_item n j (by omega)
      have ib := qs_item p j (by omega)
      rw [if_pos (by rw [eb, Tx_len]; simp; omega)]
      tb_start
      rw [if_pos (by rw [ia, ib]; decide)]
      tb_start
      (rename Fr _ _ _ _ => lF'); (rename News _ _ _ _ => lN')
      dsimp only [WhileStep2]
      exact ⟨_, _, _, _, p - (j + 1), rfl, lF', lN', by omega, rfl, j + 1, _, _, _, _, by with_unfolding_all exact ⟨rfl, rfl, rfl, trivial⟩, by omega, by omega, rfl⟩

set_option maxRecDepth 100000 in
set_option maxHeartbeats 8000000 in
theorem c72 (c : Nat) (hc : c = 124 ∨ c = 33 ∨ c = 40 ∨ c = 34) (D : List Nat) (v : Int) (hd : AllDigits D) (hd1 : D ≠ []) (hd2 : D.length ≤ 100) (hv : PySem.intText? (Tx D) = some v) (pv qv : Value) : CC 72 3 30 (fun news vs => ∃ (t1 : Tok) (pa : Addr), vs = [.str (Tx (r229 c D)) t1, .ref pa] ∧ (pa, tupOf [pv, qv]) ∈ news) (fun _ _ r tl => ∃ (ra : Addr) (t' : Tok), r = .ref ra ∧ tl = [(ra, tupOf [pv, .int v t'])]) := by
  w_top off
  unfold CC
  k_fill
  intro w mean mg mb dp un gd cn cs a ccd cl outer A₀ base h₀ L m news s vs Q E B F X N T hk hask hdp hun hret
  obtain ⟨t1, pa, rfl, hpa⟩ := hask
  have hln : (Tx (r229 c D)).length = D.length + 15 := by rw [Tx_len, r229_len]
  refine wpAny_call ?_
  k_dflt cell_enter
  tb_start
  rw [if_neg (by rw [r229_a]; decide)]
  tb_start
  (rename Fr _ _ _ _ => lF')
  rw [r229_find] at lF' ⊢
  tb_start
  have hc41 : c ≠ 41 := by omega
  have hcd : c ∉ D := fun h => by have := hd c h; omega
  have h41 : 41 ∉ D := fun h => by have := hd 41 h; omega
  have ef := r229_find3 c D hc41 h41 (i := 9 + 1) (by omega)
  (rename Fr _ _ _ _ => lF')
  rw [ef] at lF' ⊢
  rw [if_neg (by simp; omega)]
  tb_start
  have il := r229_l c D (i := 9 + 1) (by omega)
  have ir := r229_r c D (i := ((14 + D.length : Nat) : Int) - 1) (by omega)
  rw [if_neg (by rw [il, ir]; simp)]
  tb_start
  (rename (List.map _ _ = Txt.split _ _) => hsp)
  rw [r229_mid c D (i := 9 + 1) (j := ((14 + D.length : Nat) : Int)) (by omega) (by omega), il, split_229 c D hcd] at hsp
  kspl_open hsp
  (rename News _ _ _ _ => lN')
  simp only [strValues, List.map_cons, List.map_nil] at lN'
  rw [if_neg (by simp)]
  tb_start
  refine item_tupleT (l := [pv, qv]) (j := 0) ⟨_, (lN' _ (List.mem_cons_of_mem _ hpa)).1, rfl, 0, rfl⟩ (by decide) (by decide) rfl rfl ?_
  tb_start
  refine KIN.call_text hv (by rw [Tx_len]; omega) ?_
  tb_start
  (rename News _ _ _ _ => kN9)
  (rename _ ∧ AllLt _ _ => l9)
  exact hret _ [_] _ _ (by assumption) (news_two kN9) (lt_one l9.2) ⟨_, _, rfl, rfl⟩

set_option maxRecDepth 100000 in
set_option maxHeartbeats 8000000 in
theorem c128 (n : Nat) (hn : n < 18446744073709551616) : CC 128 1 8 (fun _ vs => ∃ (t : Tok), vs = [.bytes (apd n).toArray t]) (fun _ _ r tl => tl = [] ∧ ∃ (t' : Tok), r = .int (n : Int) t') := by
  w_top off
  unfold CC
  k_fill
  intro w mean mg mb dp un gd cn cs a ccd cl outer A₀ base h₀ L m news s vs Q E B F X N T hk hask hdp hun hret
  obtain ⟨t, rfl⟩ := hask
  obtain ⟨ga, gb, gc⟩ := apd_good n
  refine wpAny_call ?_
  k_dflt cell_enter
  tb_start
  (rename Fr _ _ _ _ => lF')
  with_unfolding_all refine' For_invVF lF' ?k1 ?k2 ?_
  case k1 => exact rfl
  case k2 => exact rfl
  tb_start
  (rename Fr _ _ _ _ => lF'); (rename News _ _ _ _ => lN')
  refine iter_bytesJ (fun i m nx => nx = news ∧ ∃ (z : Int) (t1 : Tok), Knows m [(Str.ofString "number", .int z t1)] ∧ z = apval ((apd n).take i)) rfl lF' lN' ⟨rfl, _, _, by with_unfolding_all exact ⟨rfl, trivial⟩, rfl⟩ ?_ ?_
  · clear lF' lN'
    rintro i c u m₁ nx h tk own hc ha hoff ⟨hnx, z, t1, hm, hz⟩ F₁ N₁
    rw [hnx] at N₁
    clear ha hnx
    have hc' : (apd n)[i]? = some c := by simpa using hc
    obtain ⟨g1, g2, g3⟩ := gc i c hc'
    obtain ⟨g4, g5⟩ := gb i
    have gn := apval_next hc'
    rw [← hz] at g3 g4 g5 gn
    clear hz
    replace F₁ := fr_known [(Str.ofString "octet", .int (c.toNat : Int) u), (Str.ofString "number", .int z t1)] (by with_unfolding_all exact ⟨rfl, hm.1, trivial⟩) F₁
    dsimp only [kstB] at F₁
    tb_start
    by_cases hz0 : z = 0
    · have := g3 hz0
      rw [if_pos (by simpa using hz0)]
      tb_start
      rw [if_neg (by simp; omega)]
      tb_start
      rw [if_neg (by simp; omega)]
      tb_start
      (rename Fr _ _ _ _ => lF'); (rename News _ _ _ _ => lN')
      exact InvEndN.intro lF' lN' ⟨rfl, _, _, by with_unfolding_all exact ⟨rfl, trivial⟩, by rw [gn]⟩ rfl mem_l mem_r
    · rw [if_neg (by simpa using hz0)]
      tb_start
      rw [if_neg (by simp; omega)]
      tb_start
      rw [if_neg (by simp; omega)]
      tb_start
      (rename Fr _ _ _ _ => lF'); (rename News _ _ _ _ => lN')
      exact InvEndN.intro lF' lN' ⟨rfl, _, _, by with_unfolding_all exact ⟨rfl, trivial⟩, by rw [gn]⟩ rfl mem_l mem_r
  · clear lF' lN'
    rintro m₁ nx h tk ⟨hnx, z, t1, hm, hz⟩ F₁ N₁
    rw [hnx] at N₁
    replace F₁ := fr_known _ hm F₁
    dsimp only [kstB] at F₁
    tb_start
    have hz' : z = n := by
      rw [hz, List.take_of_length_le (by simp), ga]
    exact hret _ [] _ _ (by assumption) (by assumption) (fun _ _ _ h => nomatch h) ⟨rfl, t1, by rw [hz']⟩

/-- a row of the ring's list -/
def RingRow (z : Int) (s : Nat) (o : Obj) : Prop := ∃ t1 t2 : Tok, o = tupOf [.int (s : Int) t1, .int (z + jp s) t2]
set_option maxRecDepth 100000 in
set_option maxHeartbeats 8000000 in
theorem c121 (z : Int) (n : Nat) (hz0 : 0 ≤ z) (hz1 : z < 1000000000000000000) (hn1 : 1 ≤ n) (hn2 : n ≤ 40) : CC 121 1 8 (fun _ vs => ∃ (t1 t2 : Tok), vs = [.int z t1, .int (n : Int) t2]) (fun _ _ r tl => ∃ (l : Addr) (us : List Value) (c : Nat) (tups : List (Addr × Obj)), r = .ref l ∧ tl = (l, listOf us.toArray c) :: tups ∧ RowsAre (RingRow z) tups us (sizesF 8 n)) := by
  w_top off
  unfold CC
  k_fill
  intro w mean mg mb dp un gd cn cs a ccd cl outer A₀ base h₀ L m news s vs Q E B F X N T hk hask hdp hun hret
  obtain ⟨t1, t2, rfl⟩ := hask
  refine wpAny_call ?_
  k_dflt cell_enter
  clear N F
  tb_start
  (rename Fr _ _ _ _ => lF')
  with_unfolding_all refine' For_invVF lF' ?k1 ?k2 ?_
  case k1 => exact rfl
  case k2 => exact rfl
  tb_start
  (rename Fr _ _ _ _ => lF'); (rename News _ _ _ _ => lN'); (rename IsRange _ _ _ _ _ _ _ _ => lR')
  have hMk : KstMark := kstMark
  refine iter_rangeG (n := 8) (fun i m nx => ∃ (rl : Addr) (us : List Value) (c : Nat) (tups : List (Addr × Obj)) (dn : List Nat) (sz : Nat) (w : Int) (t1 t2 : Tok), nx = (rl, listOf us.toArray c) :: (tups ++ news) ∧ (∀ p ∈ news, p.1 < rl) ∧ OwnOff tups [rl] ∧ (∀ q ∈ news, ∀ p ∈ tups, q.1 < p.1) ∧ RowsAre (RingRow z) tups us dn ∧ Knows m [(Str.ofString "ahead", .int z t1), (Str.ofString "size", .int w t2), (Str.ofString "rows", .ref rl)] ∧ w = sz ∧ 1 ≤ sz ∧ sz ≤ 40 ∧ dn.length = i ∧ dn ++ sizesF (8 - i) sz = sizesF 8 n)
    rfl lR' (by decide) (by decide) lF' lN' ⟨_, [], _, [], [], n, _, _, _, rfl, by assumption, by (intro p hp; cases hp), by (intro q hq p hp; cases hp), .nil, by with_unfolding_all exact ⟨rfl, rfl, rfl, trivial⟩, rfl, hn1, hn2, rfl, rfl⟩ ?_ ?_
  · clear lF' lN' lR'
    rintro i t m₁ nx h tk I oI hi ⟨rl, us, c, tups, dn, sz, w9, t3, t4, hnx, hlt, hoff, hlt2, hrows, hm, rfl, hs1, hs2, hdl, hsz⟩ hne F₁ N₁
    subst hnx
    replace F₁ := fr_known [(Str.ofString "ahead", .int z t3), (Str.ofString "size", .int (sz : Int) t4), (Str.ofString "rows", .ref rl)] (by with_unfolding_all exact ⟨hm.1, hm.2.1, hm.2.2.1, trivial⟩) F₁
    dsimp only [kstB] at F₁
    have hrI : rl ≠ I := hne _ (.head _)
    tb_start
    have en : (z + (sz : Int) + 1 - (z + 1)).toNat = sz := by omega
    (rename IntsAre _ _ => hvs)
    rw [en] at hvs
    have hst := ring_start sz hs1 hs2 z
    (rename Fr _ _ _ _ => lF'); (rename News _ _ _ _ => lN')
    refine While_inv2 (fun k m' nx' => ∃ (gl : Addr) (vs : List Value) (c' : Nat) (xs : List Int), nx' = (gl, listOf vs.toArray c') :: (I, oI) :: (rl, listOf us.toArray c) :: (tups ++ news) ∧ IntsAre vs xs ∧ (I < gl ∧ rl < gl ∧ AllLt gl (tups ++ news)) ∧
      Knows m' [(Str.ofString "ring", .ref gl), (Str.ofString "ahead", .int z t3), (Str.ofString "size", .int (sz : Int) t4), (Str.ofString "rows", .ref rl)] ∧ xs.length = k ∧ k ≤ 40 ∧ ringF xs.length xs = [z + jp sz]) (n₀ := sz) lF' lN'
      ⟨_, _, _, _, rfl, hvs, by assumption, by with_unfolding_all exact ⟨rfl, rfl, rfl, rfl, trivial⟩, by simp [rangeKs], hs2, by simpa [rangeKs] using hst⟩ ?_
    clear lF' lN'
    rintro k m₂ nx' h' tk' F₂ N₂ ⟨gl, vs', c', xs, hnx', hxs, hgl, hm2, hk2, hk40, hrun⟩
    subst hnx'
    obtain ⟨hg1, hg2, hg3⟩ := hgl
    replace F₂ := fr_known _ hm2 F₂
    dsimp only [kstB] at F₂
    have hvl := hxs.length
    tb_start
    by_cases hl1 : 1 < xs.length
    · rw [if_pos (by simp; omega)]
      tb_start
      (rename Fr _ _ _ _ => lF'); (rename News _ _ _ _ => lN'); (rename IntsAre _ (_ ++ _) => hI9); (rename _ < _ ∧ _ < _ ∧ _ < _ ∧ _ < _ ∧ _ < _ ∧ AllLt _ _ => l9)
      dsimp only [WhileStep2]
      exact ⟨_, _, _, _, k - 1, rfl, lF', news_skip3 lN', by omega, _, _, _, _, rfl, hI9, ⟨l9.2.2.2.1, l9.2.2.2.2.1, l9.2.2.2.2.2⟩, by with_unfolding_all exact ⟨rfl, rfl, rfl, rfl, trivial⟩, by rw [List.length_append, List.length_drop, List.length_take]; omega, by omega, by rw [← ringF_step hl1]; exact hrun⟩
    · rw [if_neg (by simp; omega)]
      rw [ringF_end hl1] at hrun
      subst hrun
      obtain ⟨tv, vs9, rfl, hv9⟩ := hxs.cons_inv
      have hv8 := hv9.nil_inv
      subst hv8
      have hul := hrows.length
      tb_start
      (rename Fr _ _ _ _ => lF'); (rename News _ _ _ _ => lN'); (rename _ < _ ∧ _ < _ ∧ _ < _ ∧ AllLt _ _ => l9)
      have hrest : ∀ p ∈ tups ++ news, p.1 ≠ rl := fun p hp => by
        rcases List.mem_append.mp hp with q | q
        · exact hoff p q rl (.head _)
        · exact Nat.ne_of_lt (hlt p q)
      refine append_3 lF' lN' (Nat.ne_of_gt l9.2.2.1) (Nat.ne_of_gt hg2) (Ne.symm hrI) hrest (by omega) ?_
      intro h5 F5 N5
      clear lF' lN'
      tb_start
      have e0 : ([z + (jp sz : Int)].getD (Int.toNat 0) 0) = z + jp sz := rfl
      have hltD := fun q (hq : q ∈ news) => kst_ltOf l9.2.2.2 q (List.mem_append_right _ hq)
      have e8 : 8 - i = (8 - (i + 1)) + 1 := by omega
      rw [e8] at hsz
      by_cases hstop : jp sz = sz
      · rw [if_pos (by rw [e0]; simp; omega)]
        tb_start
        dsimp only [GrowPost]
        tb_start
        (rename News h₀ _ _ _ => lN')
        rw [sizesF_stop hstop] at hsz
        refine hret _ (_ :: _ :: tups) _ _ (by assumption) (news_rows lN') ?_ ⟨rl, _, _, _, rfl, rfl, by rw [← hsz]; exact rows_more hrows ⟨_, _, rfl⟩⟩
        intro q hq p hp
        rcases List.mem_cons.mp hp with rfl | hp
        · exact hlt q hq
        · exact lt_more hlt2 hltD q hq p hp
      · rw [if_neg (by rw [e0]; simp; omega)]
        tb_start
        (rename Fr _ _ _ _ => lF'); (rename News _ _ _ _ => lN')
        rw [sizesF_go hstop] at hsz
        dsimp only [GrowPost]
        refine ⟨_, _, _, _, rfl, lF', news_rowsI lN', ?_, rl, _, _, _, dn ++ [sz], jp sz, _, _, _, rfl, hlt, off_more hoff (Nat.ne_of_gt l9.2.2.1), lt_more hlt2 hltD, rows_more hrows ⟨_, _, rfl⟩, by with_unfolding_all exact ⟨rfl, rfl, rfl, trivial⟩, by rw [e0]; omega, (jp_in sz hs1 hs2).1, by have := (jp_in sz hs1 hs2).2; omega, by simp [hdl], by rw [← hsz, List.append_assoc]; rfl⟩
        intro p hp
        rcases List.mem_cons.mp hp with rfl | hp
        · exact hrI
        · rcases List.mem_cons.mp hp with rfl | hp
          · exact Nat.ne_of_gt l9.2.1
          · exact hne _ (.tail _ hp)
  · clear lF' lN' lR'
    rintro m₁ nx h tk ⟨rl, us, c, tups, dn, sz, w9, t3, t4, hnx, hlt, hoff, hlt2, hrows, hm, rfl, hs1, hs2, hdl, hsz⟩ F₁ N₁
    subst hnx
    replace F₁ := fr_known _ hm F₁
    dsimp only [kstB] at F₁
    tb_start
    refine hret _ (_ :: tups) _ _ (by assumption) (by assumption) ?_ ⟨rl, us, c, tups, rfl, rfl, by rw [← hsz]; simpa [sizesF] using hrows⟩
    intro q hq p hp
    rcases List.mem_cons.mp hp with rfl | hp
    · exact hlt q hq
    · exact hlt2 q hq p hp

set_option maxRecDepth 100000 in
set_option maxHeartbeats 8000000 in
theorem c114 (z n : Nat) (hz1 : z < 1000000000000000000) (hn1 : 1 ≤ n) (hn2 : n ≤ 40) : CC 114 5 60 (fun _ vs => ∃ (t1 t2 : Tok), vs = [.int (z : Int) t1, .int (n : Int) t2]) (fun _ _ r tl => ∃ (l : Addr) (us : List Value) (c : Nat) (tups : List (Addr × Obj)), r = .ref l ∧ tl = (l, listOf us.toArray c) :: tups ∧ RowsAre (ToldRow z) tups us (sizesF 8 n)) := by
  w_top off
  unfold CC
  k_fill
  intro w mean mg mb dp un gd cn cs a ccd cl outer A₀ base h₀ L m news s vs Q E B F X N T hk hask hdp hun hret
  obtain ⟨t1, t2, rfl⟩ := hask
  refine wpAny_call ?_
  k_dflt cell_enter
  clear N F
  tb_start
  (rename Fr _ _ _ _ => lF')
  with_unfolding_all refine' For_invVF lF' ?k1 ?k2 ?_
  case k1 => exact rfl
  case k2 => exact rfl
  tb_start
  (rename Fr _ _ _ _ => lF'); (rename News _ _ _ _ => lN'); (rename IsRange _ _ _ _ _ _ _ _ => lR')
  have hMk : KstMark := kstMark
  refine iter_rangeG (n := 8) (fun i m nx => ∃ (rl : Addr) (us : List Value) (c : Nat) (tups : List (Addr × Obj)) (dn : List Nat) (sz : Nat) (w : Int) (t1 t2 : Tok), nx = (rl, listOf us.toArray c) :: (tups ++ news) ∧ (∀ p ∈ news, p.1 < rl) ∧ OwnOff tups [rl] ∧ (∀ q ∈ news, ∀ p ∈ tups, q.1 < p.1) ∧ RowsAre (ToldRow z) tups us dn ∧ Knows m [(Str.ofString "ahead", .int (z : Int) t1), (Str.ofString "size", .int w t2), (Str.ofString "rows", .ref rl)] ∧ w = sz ∧ 1 ≤ sz ∧ sz ≤ 40 ∧ dn.length = i ∧ dn ++ sizesF (8 - i) sz = sizesF 8 n)
    rfl lR' (by decide) (by decide) lF' lN' ⟨_, [], _, [], [], n, _, _, _, rfl, by assumption, by (intro p hp; cases hp), by (intro q hq p hp; cases hp), .nil, by with_unfolding_all exact ⟨rfl, rfl, rfl, trivial⟩, rfl, hn1, hn2, rfl, rfl⟩ ?_ ?_
  · clear lF' lN' lR'
    rintro i t m₁ nx h tk I oI hi ⟨rl, us, c, tups, dn, sz, w9, t3, t4, hnx, hlt, hoff, hlt2, hrows, hm, rfl, hs1, hs2, hdl, hsz⟩ hne F₁ N₁
    subst hnx
    replace F₁ := fr_known [(Str.ofString "ahead", .int (z : Int) t3), (Str.ofString "size", .int (sz : Int) t4), (Str.ofString "rows", .ref rl), (Str.ofString "turn", .int (0 + (i : Int)) t)] (by with_unfolding_all exact ⟨hm.1, hm.2.1, hm.2.2.1, rfl, trivial⟩) F₁
    dsimp only [kstB] at F₁
    have hrI : rl ≠ I := hne _ (.head _)
    tb_start
    cell_ask (c107 sz (by omega))
    case ka => exact ⟨_, rfl⟩
    case kR =>
      rintro rv tl h9 tk9 F9 N9 l9 ⟨ol, ous, oc, rfl, rfl, hous⟩
      dsimp only [List.cons_append, List.nil_append] at N9
      have hol := hous.length
      have hb1 := bits_len1 (v := sz) (by omega)
      have hb2 := bits_len sz
      have hp1 := pow_le sz (by omega)
      have hp0 : 1 ≤ 2 ^ ((bits sz).length - 1) := Nat.one_le_two_pow
      have hpow : (2 : Int) ^ (((bits sz).length : Int) - 1).toNat = ((2 ^ ((bits sz).length - 1) : Nat) : Int) := by
        rw [show (((bits sz).length : Int) - 1).toNat = (bits sz).length - 1 by omega]; simp
      have hjp : ((jp sz : Nat) : Int) = 1 + 2 * ((sz : Int) - (2 ^ ((bits sz).length - 1) : Nat)) := by
        unfold jp; omega
      generalize 2 ^ ((bits sz).length - 1) = pw at hp1 hp0 hpow hjp
      tb_start
      rw [hpow]
      tb_start
      rw [qs_mul, qs_mul]
      cell_ask (c28 sz pw (by omega) hp1)
      case ka => exact ⟨_, _, _, rfl⟩
      case kR =>
        rintro rv tl h8 tk8 F8 N8 - ⟨rfl, tv, rfl⟩
        dsimp only [List.nil_append] at N8
        have hjp2 := jp_in sz hs1 hs2
        have hv : (z : Int) + 1 + 2 * ((sz : Int) - (pw : Nat)) = ((z + jp sz : Nat) : Int) := by omega
        have hv20 : z + jp sz < 10 ^ 20 := by omega
        have hdl20 := dec_len hv20
        have hld : (Str.ofString (toString ((z : Int) + 1 + 2 * ((sz : Int) - (pw : Nat))))).length ≤ 21 := by rw [hv, str_dec, Tx_len]; exact hdl20
        have hmk : Txt.item (Str.ofString "|!(\"") ((0 + (i : Int)).fmod 4) = Tx [mark i] := mark_item i (fmod4 i)
        tb_start
        rw [hmk, mark3, hv, str_dec, r229_cat]
        cell_ask (c72 (mark i) (mark_in i) (dec (z + jp sz)) ((z + jp sz : Nat) : Int) (dec_all _) (dec_ne _) (by omega) (dec_reads hv20) (.int (sz : Int) t4) (.int (0 + (i : Int)) t))
        case ka => exact ⟨_, _, rfl, .head _⟩
        case kR =>
          rintro rv tl h7 tk7 F7 N7 l7 ⟨ra, tv2, rfl, rfl⟩
          dsimp only [List.cons_append, List.nil_append] at N7
          tb_start
          cell_ask (c86 (z + jp sz) (by omega))
          case ka => exact ⟨_, rfl⟩
          case kR =>
            rintro rv tl h6 tk6 F6 N6 - ⟨rfl, tv3, rfl⟩
            dsimp only [List.nil_append] at N6
            have hul := hrows.length
            have hra := l7 (rl, listOf us.toArray c) (.tail _ (.tail _ (.tail _ (.head _)))) _ (.head _)
            have hol2 := l9 (rl, listOf us.toArray c) (.tail _ (.head _)) _ (.head _)
            dsimp only at hra hol2
            tb_start
            (rename Fr _ _ _ _ => lF'); (rename News _ _ _ _ => lN'); (rename _ < _ ∧ _ < _ ∧ _ < _ ∧ _ < _ ∧ _ < _ ∧ AllLt _ _ => l6)
            have hrest : ∀ p ∈ tups ++ news, p.1 ≠ rl := fun p hp => by
              rcases List.mem_append.mp hp with q | q
              · exact hoff p q rl (.head _)
              · exact Nat.ne_of_lt (hlt p q)
            have hltD := fun q (hq : q ∈ news) => kst_ltOf l6.2.2.2.2.2 q (List.mem_append_right _ hq)
            refine append_2 lF' (news_drop3 lN') (Nat.ne_of_gt l6.2.2.2.2.1) (Ne.symm hrI) hrest (by omega) ?_
            intro h5 F5 N5
            clear lF' lN'
            tb_start
            refine wpAny_call ?_
            k_dflt cell_enter
            tb_start
            have e8 : 8 - i = (8 - (i + 1)) + 1 := by omega
            rw [e8] at hsz
            by_cases hstop : jp sz = sz
            · rw [if_pos (by simp; omega)]
              tb_start
              dsimp only [GrowPost]
              tb_start
              (rename News h₀ _ _ _ => lN')
              rw [sizesF_stop hstop] at hsz
              refine hret _ (_ :: _ :: tups) _ _ (by assumption) (news_rows2 lN') ?_ ⟨rl, _, _, _, rfl, rfl, by rw [← hsz]; exact rows_more hrows ⟨_, _, _, _, rfl⟩⟩
              intro q hq p hp
              rcases List.mem_cons.mp hp with rfl | hp
              · exact hlt q hq
              · exact lt_more hlt2 hltD q hq p hp
            · rw [if_neg (by simp; omega)]
              tb_start
              (rename Fr _ _ _ _ => lF'); (rename News _ _ _ _ => lN')
              rw [sizesF_go hstop] at hsz
              dsimp only [GrowPost]
              refine ⟨_, _, _, _, rfl, lF', news_rowsI2 lN', ?_, rl, _, _, _, dn ++ [sz], jp sz, _, _, _, rfl, hlt, off_more hoff (Nat.ne_of_gt l6.2.2.2.2.1), lt_more hlt2 hltD, rows_more hrows ⟨_, _, _, _, rfl⟩, by with_unfolding_all exact ⟨rfl, rfl, rfl, trivial⟩, by omega, hjp2.1, by omega, by simp [hdl], by rw [← hsz, List.append_assoc]; rfl⟩
              intro p hp
              rcases List.mem_cons.mp hp with rfl | hp
              · exact hrI
              · rcases List.mem_cons.mp hp with rfl | hp
                · exact Nat.ne_of_gt l6.2.2.2.1
                · exact hne _ (.tail _ hp)
  · clear lF' lN' lR'
    rintro m₁ nx h tk ⟨rl, us, c, tups, dn, sz, w9, t3, t4, hnx, hlt, hoff, hlt2, hrows, hm, rfl, hs1, hs2, hdl, hsz⟩ F₁ N₁
    subst hnx
    replace F₁ := fr_known _ hm F₁
    dsimp only [kstB] at F₁
    tb_start
    refine hret _ (_ :: tups) _ _ (by assumption) (by assumption) ?_ ⟨rl, us, c, tups, rfl, rfl, by rw [← hsz]; simpa [sizesF] using hrows⟩
    intro q hq p hp
    rcases List.mem_cons.mp hp with rfl | hp
    · exact hlt q hq
    · exact hlt2 q hq p hp

/-- what a row of the told list says of a circle -/
def ToldQ (z : Nat) (q : Quad) (x : Nat) : Prop := ∃ t1 t2 t3 t4 : Tok, q = (.int (x : Int) t1, .int (bits x).sum t2, .bytes (apd (z + jp x)).toArray t3, .int ((z : Int) + jp x) t4)
inductive Told (z : Nat) : List Quad → List Nat → Prop
  | nil : Told z [] []
  | cons {q : Quad} {x : Nat} {qs : List Quad} {xs : List Nat} : ToldQ z q x → Told z qs xs → Told z (q :: qs) (x :: xs)
theorem told_quads {z : Nat} {led : List (Addr × Obj)} {us : List Value} {xs : List Nat} (h : RowsAre (ToldRow z) led us xs) : ∃ quads, RowsAre QRow led us quads ∧ Told z quads xs := by
  induction h with
  | nil => exact ⟨[], .nil, .nil⟩
  | cons hm hr _ ih =>
    obtain ⟨qs, h1, h2⟩ := ih
    obtain ⟨t1, t2, t3, t4, rfl⟩ := hr
    exact ⟨(_, _, _, _) :: qs, .cons hm rfl h1, .cons ⟨t1, t2, t3, t4, rfl⟩ h2⟩
theorem Told.at {z : Nat} {quads : List Quad} {xs : List Nat} (h : Told z quads xs) : ∀ (i : Nat) (q : Quad), quads[i]? = some q → ∃ x, x ∈ xs ∧ ToldQ z q x := by
  induction h with
  | nil => intro i q hq; simp at hq
  | cons hx _ ih =>
    intro i q hq
    cases i with
    | zero =>
      have e := Option.some.inj (by simpa using hq)
      subst e
      exact ⟨_, .head _, hx⟩
    | succ i =>
      obtain ⟨x, hm, h⟩ := ih i q (by simpa using hq)
      exact ⟨x, .tail _ hm, h⟩
theorem Told.length {z : Nat} {quads : List Quad} {xs : List Nat} (h : Told z quads xs) : quads.length = xs.length := by
  induction h with
  | nil => rfl
  | cons _ _ ih => simp [ih]
theorem told_pairs {z : Nat} {tups : List (Addr × Obj)} {ys : List Value} {quads : List Quad} {xs : List Nat} (h : RowsAre PRow tups ys quads) (ht : Told z quads xs) : RowsAre (RingRow (z : Int)) tups ys xs := by
  induction h generalizing xs with
  | nil => cases ht; exact .nil
  | cons hm hr _ ih =>
    cases ht with
    | cons hx ht =>
      obtain ⟨t1, t2, t3, t4, rfl⟩ := hx
      exact .cons hm ⟨t1, t4, hr⟩ (ih ht)
def rowsDat (z : Int) (xs : List Nat) : List Dat := xs.map fun (x : Nat) => Dat.tuple [Dat.int (x : Int), Dat.int (z + (jp x : Int))]
theorem rows_dat {z : Int} {led : List (Addr × Obj)} {us : List Value} {xs : List Nat} (h : RowsAre (RingRow z) led us xs) : DatAll led us (rowsDat z xs) := by
  induction h with
  | nil => exact .nil
  | cons hm hr _ ih =>
    obtain ⟨t1, t2, rfl⟩ := hr
    exact .cons (.tuple (n := 0) hm (.cons (.int _ _) (.cons (.int _ _) .nil))) ih
theorem rows_ok (z : Int) (xs : List Nat) : ∀ d ∈ rowsDat z xs, kqdOk 8 d = true := fun d hd => by
  obtain ⟨x, _, rfl⟩ := List.mem_map.mp hd
  rfl
theorem rows_last {z : Int} {led : List (Addr × Obj)} {us : List Value} {xs : List Nat} {t : Nat} (h : RowsAre (RingRow z) led us xs) (ht : xs.getLast? = some t) : ∃ us' a t1 t2, us = us' ++ [.ref a] ∧ (a, tupOf [.int (t : Int) t1, .int (z + jp t) t2]) ∈ led := by
  induction h with
  | nil => simp at ht
  | @cons a o us x xs hm hr h' ih =>
    cases h' with
    | nil =>
      have e : x = t := Option.some.inj (by simpa using ht)
      subst e
      obtain ⟨t1, t2, rfl⟩ := hr
      exact ⟨[], a, t1, t2, rfl, hm⟩
    | cons hm2 hr2 h2 =>
      rw [List.getLast?_cons_cons] at ht
      obtain ⟨us', a', t1, t2, e, hm'⟩ := ih ht
      exact ⟨.ref a :: us', a', t1, t2, by rw [e]; rfl, hm'⟩
theorem sizesF_len : ∀ (f s : Nat), (sizesF f s).length ≤ f
  | 0, _ => by simp [sizesF]
  | f + 1, s => by
    show (s :: (if jp s = s then [] else sizesF f (jp s))).length ≤ f + 1
    have := sizesF_len f (jp s)
    split <;> simp <;> omega
section
variable {prog : Program} {w : World} {A : Around} {E : Value → Shared → Prop} {s : Shared} {h₀ : Heap} {L a b : Addr} {news n₁ n₂ : List (Addr × Obj)} {oa ob : Obj} {xs ys : List Value} {ka kb : Nat} {ds : List Dat} {Q : Value → Shared → Prop}
theorem ne_same (N : News h₀ L s.heap news) (ma : (a, oa) ∈ news) (ca : oa.cls = .type "list") (da : oa.data = .seq xs.toArray ka) (Da : DatAll n₁ xs ds) (sa : ∀ p ∈ n₁, p ∈ news)
    (mb : (b, ob) ∈ news) (cb : ob.cls = .type "list") (db : ob.data = .seq ys.toArray kb) (Db : DatAll n₂ ys ds) (sb : ∀ p ∈ n₂, p ∈ news)
    (ha : ∀ d ∈ ds, kqdOk 8 d = true) (hu : A.units + 64 < cLine) (h : Q (.bool false) s) : wpAny (model prog w) A (compareOp .NotEq (.ref a) (.ref b)) Q E s :=
  kqd_ne N ma ca da Da sa mb cb db Db sb ha ha hu (by simpa using h)
end
theorem bits_sum (v : Nat) : 0 ≤ (bits v).sum ∧ (bits v).sum ≤ (v : Int) := by
  induction v using Nat.strongRecOn with
  | _ v ih =>
    by_cases h : v = 0
    · subst h; rw [bits_zero]; simp
    · rw [bits_pos h, List.sum_cons]
      have := ih (v / 2) (by omega)
      omega
section
variable {prog : Program} {w : World} {A : Around} {E : Value → Shared → Prop} {s : Shared} {h₀ : Heap} {L l : Addr} {news : List (Addr × Obj)} {Q : Value → Shared → Prop}
theorem end_item {value slice : PySem.Expr} {us : List Value} {v : Value} {n : Nat} {u : Tok} (N : News h₀ L s.heap news) (hm : (l, listOf (us ++ [v]).toArray n) ∈ news) (h : Q v s)
    (hs : subscripted slice false (.ref l) (.int (-1) u) = operate [.ref l, .int (-1) u] (getItem (.ref l) (.int (-1) u)) := by with_unfolding_all rfl) :
    wpAny (model prog w) A (subscriptTail value slice (.ref l) (.int (-1) u)) Q E s :=
  kde_neg (vs := us ++ [v]) (j := us.length) ⟨_, (N _ hm).1, rfl, n, rfl⟩ (by decide) (by decide) (by
    rw [List.length_append, List.length_singleton]
    unfold seqIndex?
    simp only [show ((-1 : Int) < 0) from by decide, if_true]
    rw [if_pos (by simp only [Bool.and_eq_true, decide_eq_true_eq]; omega)]
    congr 1
    omega) (by simp) h hs
theorem tup_item1 {value slice : PySem.Expr} {v0 v1 : Value} {u : Tok} (N : News h₀ L s.heap news) (hm : (l, tupOf [v0, v1]) ∈ news) (h : Q v1 s)
    (hs : subscripted slice false (.ref l) (.int 1 u) = operate [.ref l, .int 1 u] (getItem (.ref l) (.int 1 u)) := by with_unfolding_all rfl) :
    wpAny (model prog w) A (subscriptTail value slice (.ref l) (.int 1 u)) Q E s :=
  item_tupleT (l := [v0, v1]) (j := 1) ⟨_, (N _ hm).1, rfl, 0, rfl⟩ (by decide) (by decide) rfl rfl h hs
end

local macro_rules | `(tactic| tb_start) => `(tactic| repeat' (first
  | (k_unfold; (try dsimp only))
  | (with_reducible refine ite_tt ?_) | (with_reducible refine ite_ff ?_)
  | (k_closed; k_dflt (first | refine ite_neg (by decide) ?_ | refine ite_pos (by decide) ?_))
  | ((fail_if_success (with_reducible show @ite _ _ _ _ _)); (fail_if_success (with_reducible show wpAny _ _ (exec (Stmt.While _ _ _ _) _) _ _ _)); (fail_if_success (with_reducible show wpAny _ _ (exec (Stmt.For _ _ _ _ _) _) _ _ _)); (fail_if_success (with_reducible show wpAny _ _ (call (Value.ref _) _) _ _ _)); (fail_if_success (with_reducible show wpAny _ _ (pyIter _) _ _ _)); (fail_if_success (with_reducible show wpAny _ _ (eval (Expr.ListComp _ _ _ _) _) _ _ _)); (fail_if_success (with_reducible show wpAny _ _ (compareOp CmpOp.NotEq (Value.ref _) (Value.ref _)) _ _ _));
     (fail_if_success (with_reducible show F4Post _ _ _ _ _ _ _ _ _ _)); (fail_if_success (with_reducible show InvEndN _ _ _ _ _ _ _)); (fail_if_success (with_reducible show wpAny _ _ (binaryOp Operator.Pow (Value.int 2 _) _) _ _ _)); (fail_if_success (with_reducible show wpAny _ _ (subscriptTail _ _ (Value.ref _) (Value.int _ _)) _ _ _));
     first | walk1 | (dsimp only; walk1) | (leave1; try dsimp only))))
set_option maxRecDepth 100000 in
set_option maxHeartbeats 8000000 in
theorem the_law : PySem.Challenge.rw_wn0064_01.Holds := hd (by
  w_top off
  k_go0
  all_goals try k_fold
  tb_start
  (rename IntsAre _ _ => hI0)
  obtain ⟨z, ez, hz1⟩ := ahead_nat hI0
  (rename Fr _ _ _ _ => lF')
  rw [ez] at lF'
  with_unfolding_all refine' For_invVF lF' ?k1 ?k2 ?_
  case k1 => exact rfl
  case k2 => exact rfl
  tb_start
  (rename Fr _ _ _ _ => lF'); (rename News _ _ _ _ => lN'); (rename IntsAre _ _ => hI)
  refine LSm.sum_ints lF' lN' rfl ⟨_, (lN' _ (.head _)).1, rfl, 0, rfl⟩ (hI.pick none none (some 2)) (fun h' tk t' F' N' => ?_)
  clear lF' lN'
  tb_start
  (rename Fr _ _ _ _ => lF'); (rename News _ _ _ _ => lN'); (rename IntsAre _ _ => hI)
  refine LSm.sum_ints lF' lN' rfl ⟨_, (lN' _ (.head _)).1, rfl, 0, rfl⟩ (hI.pick (some 1) none (some 2)) (fun h' tk t' F' N' => ?_)
  clear lF' lN'
  tb_start
  (rename Fr _ _ _ _ => lF'); (rename News _ _ _ _ => lN')
  refine iter_invNL (fun i m nx => ∃ t : Tok, Knows m [(Str.ofString "ahead", .int (z : Int) t)]) (nn := 0) (vs := [_, _]) (ns := [_, _]) rfl (.head _) (.cons _ _ (.cons _ _ .nil)) lF' lN' ⟨_, by with_unfolding_all exact ⟨rfl, trivial⟩⟩ ?_ ?_
  · clear lF' lN'
    rintro i k t m₁ nx h tk own hk hadr hoff hin ⟨t9, hm⟩ F₁ N₁
    obtain ⟨n, rfl, hn1, hn2⟩ := people_two hk
    replace F₁ := fr_known [(Str.ofString "ahead", .int (z : Int) t9), (Str.ofString "people", .int (n : Int) t)] (by with_unfolding_all exact ⟨hm.1, rfl, trivial⟩) F₁
    dsimp only [kstB] at F₁
    tb_start
    cell_ask (c114 z n hz1 hn1 hn2)
    case ka => exact ⟨_, _, rfl⟩
    case kR =>
      rintro rv tl h4 tk4 F4 N4 l4 ⟨l1, us1, c1, tups1, rfl, rfl, hrows1⟩
      tb_start
      cell_ask (c121 (z : Int) n (by omega) (by omega) hn1 hn2)
      case ka => exact ⟨_, _, rfl⟩
      case kR =>
        rintro rv tl h5 tk5 F5 N5 l5 ⟨l2, us2, c2, tups2, rfl, rfl, hrows2⟩
        dsimp only [List.cons_append, List.nil_append] at N5
        tb_start
        (rename Fr _ _ _ _ => lF'); (rename News _ _ _ _ => lN')
        obtain ⟨quads, hq1, hq2⟩ := told_quads hrows1
        have hql := hq2.length
        have hsl := sizesF_len 8 n
        refine comp4 (us := us1) (quads := quads) rfl (by with_unfolding_all rfl) (by decide) rfl (by decide) rfl rfl rfl rfl (by decide) (by decide) (by decide) (by decide) (by decide) lF' lN' (.tail _ (List.mem_append_right _ (.head _))) (hq1.mono fun p hp => .tail _ (List.mem_append_right _ (.tail _ (List.mem_append_left _ hp)))) (by rw [PySem.sizeLine_eq]; omega) ?hit ?fin (fun _ => rfl)
        case hit =>
          intro Q' hq'
          tb_start
          exact hq'
        case fin =>
          clear lF' lN'
          intro D ys tups3 h7 tk7 F7 N7 hr3
          tb_start
          refine ne_same N7 (.head _) rfl rfl (rows_dat (told_pairs hr3 hq2)) (fun p hp => .tail _ (List.mem_append_left _ hp)) (.tail _ (List.mem_append_right _ (.head _))) rfl rfl (rows_dat hrows2) (fun p hp => .tail _ (List.mem_append_right _ (.tail _ (List.mem_append_left _ hp)))) (rows_ok _ _) ?hu ?hne
          case hu => ke_room
          case hne =>
            tb_start
            obtain ⟨t, ht, hall⟩ := sizes_last n hn1 hn2
            obtain ⟨us', la, t7, t8, hus, hla⟩ := rows_last hrows2 ht
            subst hus
            refine for4 (quads := quads) (us := us1) (fun _ m => ∃ t : Tok, Knows m [(Str.ofString "ahead", .int (z : Int) t), (Str.ofString "due", .ref l2)]) rfl rfl rfl rfl rfl rfl F7 N7 (.tail _ (List.mem_append_right _ (.tail _ (List.mem_append_right _ (.head _))))) (hq1.mono fun p hp => .tail _ (List.mem_append_right _ (.tail _ (List.mem_append_right _ (.tail _ (List.mem_append_left _ hp)))))) ⟨_, by with_unfolding_all exact ⟨rfl, rfl, trivial⟩⟩ ?hit ?turn ?done (fun _ => rfl) ?hE
            case hit =>
              intro Q' hq'
              tb_start
              exact hq'
            case turn =>
              rintro i q m₉ h9 tk9 I9 oI9 hqi ⟨t6, hm9⟩ F9 N9
              obtain ⟨x, hx, u1, u2, u3, u4, rfl⟩ := hq2.at i q hqi
              have hx1 := (hall x hx).1
              have hx2 := (hall x hx).2.1
              have hjx := jp_in x hx1 hx2
              have hbs := bits_sum x
              have hne2 : ¬ (((jp t : Int) + 1 != (z : Int) + (jp t : Nat) - (z : Int) + 1) = true) := by simp only [bne_iff_ne, ne_eq, Decidable.not_not]; omega
              have hne : ¬ ((((z + jp x : Nat) : Int) != (z : Int) + (jp x : Nat)) = true) := by simp only [bne_iff_ne, ne_eq, Decidable.not_not]; omega
              clear F7 N7
              replace F9 := fr_known [(Str.ofString "ahead", .int (z : Int) t6), (Str.ofString "due", .ref l2), (Str.ofString "peer", .int (x : Int) u1), (Str.ofString "ones", .int (bits x).sum u2), (Str.ofString "word", .bytes (apd (z + jp x)).toArray u3), (Str.ofString "port", .int ((z : Int) + jp x) u4)] (by with_unfolding_all exact ⟨hm9.1, hm9.2.1, rfl, rfl, rfl, rfl, trivial⟩) F9
              dsimp only [kstB] at F9
              tb_start
              cell_ask (c128 (z + jp x) (by omega))
              case ka => exact ⟨_, rfl⟩
              case kR =>
                rintro rv tl h8 tk8 F8 N8 - ⟨rfl, tv, rfl⟩
                dsimp only [List.nil_append] at N8
                tb_start
                rw [if_neg hne]
                tb_start
                refine pow_int_small (by omega) (by omega) (by decide) ?_
                rw [(hall x hx).2.2]
                tb_start
                refine end_item N8 (.tail _ (.tail _ (List.mem_append_right _ (.head _)))) ?_
                tb_start
                refine tup_item1 N8 (.tail _ (.tail _ (List.mem_append_right _ (.tail _ (List.mem_append_left _ hla))))) ?_
                tb_start
                rw [if_neg hne2]
                tb_start
                dsimp only [F4Post]
                exact ⟨_, _, _, rfl, F8, N8, t6, by with_unfolding_all exact ⟨rfl, rfl, trivial⟩⟩
            case done =>
              rintro m₉ h9 tk9 ⟨t6, hm9⟩ F9 N9
              dsimp only
              tb_start
              exact InvEndN.intro F9 N9 ⟨hin, t6, hm9.1, trivial⟩ hadr (fun p hp => .tail _ (List.mem_append_right _ (.tail _ (List.mem_append_right _ (.tail _ (List.mem_append_right _ (List.mem_append_left _ hp))))))) (fun p hp => .tail _ (List.mem_append_right _ (.tail _ (List.mem_append_right _ (.tail _ (List.mem_append_right _ (List.mem_append_right _ hp)))))))
            case hE => passes_own
  · clear lF' lN'
    rintro m₁ nx h tk hin ⟨t9, hm⟩ F₁ N₁
    dsimp only
    walk1
    walk1
    walk1
    dsimp only
    k_end
    wrow_close)
end Mine
set_option maxRecDepth 100000 in
theorem PySem.Challenge.cw_wn0064_01_holds : PySem.Challenge.rw_wn0064_01.Holds := by
  exact Mine.the_law
