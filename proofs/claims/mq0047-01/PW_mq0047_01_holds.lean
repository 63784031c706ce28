import PyProof.Rows.All
import Wide.All
import OpenK.AllK
import Wide.FinOn
import Lean
import PySem.Challenge.RW_mq0047_01
set_option Elab.async false
set_option maxRecDepth 100000
set_option maxHeartbeats 8000000
set_option linter.unusedSimpArgs false
set_option linter.unusedVariables false
namespace Mine
section
open PySem PySem.W PyProof.Rows
/-- the sign's number that the law makes of one int of the script -/
def codeOf (x : Int) : Nat := if 46 ≤ Int.fmod x 255 then (Int.fmod x 255 + 1).toNat else (Int.fmod x 255).toNat
def textOf (ns : List Int) : Str := ⟨(ns.map codeOf).toArray⟩
/-- one turn of _gen_crc -/
def stepN (c : Nat) : Nat := if c % 2 = 1 then (c / 2) ^^^ 3988292384 else c / 2
def iterN (f : Nat → Nat) : Nat → Nat → Nat
  | 0, c => c
  | n + 1, c => f (iterN f n c)
def genN (c : Nat) : Nat := iterN stepN 8 c
theorem xor_and_nat : ∀ a b : Nat, (a ^^^ b) + 2 * (a &&& b) = a + b := by
  intro a
  induction a using Nat.strongRecOn with
  | ind a ih =>
    intro b
    by_cases h : a = 0
    · subst h; simp
    · have h2 := ih (a / 2) (by omega) (b / 2)
      have e1 : a ^^^ b = 2 * ((a ^^^ b) / 2) + (a ^^^ b) % 2 := by omega
      have e2 : a &&& b = 2 * ((a &&& b) / 2) + (a &&& b) % 2 := by omega
      rw [Nat.xor_div_two] at e1
      rw [Nat.and_div_two] at e2
      have e3 : (a ^^^ b) % 2 = (a % 2) ^^^ (b % 2) := Nat.xor_mod_two_pow (n := 1) (a := a) (b := b)
      have e4 : (a &&& b) % 2 = (a % 2) &&& (b % 2) := Nat.and_mod_two_pow (n := 1) (a := a) (b := b)
      rcases Nat.mod_two_eq_zero_or_one a with ha | ha <;> rcases Nat.mod_two_eq_zero_or_one b with hb | hb <;> rw [ha, hb] at e3 e4 <;> simp only [show ((0 : Nat) ^^^ 0) = 0 from rfl, show ((0 : Nat) ^^^ 1) = 1 from rfl, show ((1 : Nat) ^^^ 0) = 1 from rfl, show ((1 : Nat) ^^^ 1) = 0 from rfl, show ((0 : Nat) &&& 0) = 0 from rfl, show ((0 : Nat) &&& 1) = 0 from rfl, show ((1 : Nat) &&& 0) = 0 from rfl, show ((1 : Nat) &&& 1) = 1 from rfl] at e3 e4 <;> omega
theorem bitXor_nat (a b : Nat) : Builtin.bitXor (a : Int) (b : Int) = ((a ^^^ b : Nat) : Int) := by
  rw [bitXor_and, bitAnd_pp (by omega) (by omega)]
  have h := xor_and_nat a b
  simp only [Int.toNat_natCast]
  omega
/-- _law_forward: the octets as ints -/
def fwdFrom (s : Nat) (l : List Int) : Nat := l.foldl (fun s o => genN (s ^^^ o.toNat)) s
def fwdI (l : List Int) : Nat := fwdFrom 4294967295 l
theorem fwdFrom_snoc (s : Nat) (l : List Int) (o : Int) : fwdFrom s (l ++ [o]) = genN (fwdFrom s l ^^^ o.toNat) := by
  simp [fwdFrom, List.foldl_append]
/-- _law_back: one of its eight turns, and the octets taken from behind -/
def unN (s : Nat) : Nat := if 2147483648 ≤ s then (s ^^^ 3988292384) * 2 + 1 else s * 2
def bkN (s : Nat) (l : List Int) : Nat := l.foldl (fun s o => iterN unN 8 s ^^^ o.toNat) s
def backI (s : Nat) (l : List Int) : Nat := bkN s l.reverse
theorem bkN_snoc (s : Nat) (l : List Int) (o : Int) : bkN s (l ++ [o]) = iterN unN 8 (bkN s l) ^^^ o.toNat := by
  simp [bkN, List.foldl_append]
theorem xor_low {a b : Nat} (ha : a < 4294967296) (hb : b < 4294967296) : a ^^^ b < 4294967296 := Nat.xor_lt_two_pow (n := 32) ha hb
theorem xor_top {a b : Nat} (ha : 2147483648 ≤ a) (ha' : a < 4294967296) (hb : 2147483648 ≤ b) (hb' : b < 4294967296) : a ^^^ b < 2147483648 := by
  have h := Nat.shiftRight_xor_distrib (a := a) (b := b) (i := 31)
  rw [Nat.shiftRight_eq_div_pow, Nat.shiftRight_eq_div_pow, Nat.shiftRight_eq_div_pow] at h
  have e1 : a / 2 ^ 31 = 1 := by omega
  have e2 : b / 2 ^ 31 = 1 := by omega
  rw [e1, e2] at h
  simp only [Nat.xor_self] at h
  omega
theorem unN_lt {n : Nat} (h : n < 4294967296) : unN n < 4294967296 := by
  unfold unN
  split
  · have := xor_top (a := n) (b := 3988292384) (by omega) h (by omega) (by omega)
    omega
  · omega
theorem iterUn_lt {n : Nat} (h : n < 4294967296) : ∀ k, iterN unN k n < 4294967296
  | 0 => h
  | k + 1 => unN_lt (iterUn_lt h k)
theorem bkN_lt {s : Nat} (h : s < 4294967296) : ∀ {l : List Int}, (∀ o ∈ l, 0 ≤ o ∧ o < 256) → bkN s l < 4294967296 := by
  intro l
  induction l generalizing s with
  | nil => intro _; exact h
  | cons o l ih =>
    intro hl
    have ho := hl o (.head _)
    exact ih (s := iterN unN 8 s ^^^ o.toNat) (xor_low (iterUn_lt h 8) (by omega)) fun q hq => hl q (.tail _ hq)
/-- a text by its signs' numbers -/
def txt (l : List Nat) : Str := ⟨l.toArray⟩
theorem txt_length (l : List Nat) : (txt l).length = l.length := by simp [txt, Str.length]
theorem txt_append (a b : List Nat) : txt a ++ txt b = txt (a ++ b) := by
  refine PySem.Str.ext' (Array.toList_inj.mp ?_)
  rw [PySem.Str.cps_append, Array.toList_append]
  rfl
theorem txt_inj {a b : List Nat} (h : txt a = txt b) : a = b := by
  have := congrArg (fun x : Str => x.cps.toList) h
  simpa [txt] using this
theorem slice_take {l : List Nat} {j : Int} (h0 : 0 ≤ j) (h : j ≤ l.length) : Txt.slice (txt l) none (some j) = txt (l.take j.toNat) := by
  have e := eq_of_beq (slice_closes_to (x := txt l) (j := j) ⟨h0, by simpa [txt] using h⟩)
  rw [e]
  simp [txt]
theorem slice_drop {l : List Nat} {i : Int} (h0 : 0 ≤ i) (h : i ≤ l.length) : Txt.slice (txt l) (some i) none = txt (l.drop i.toNat) := by
  have e := slice_from_eq (x := txt l) (i := i) (b := l.length) h0 (by rw [txt_length]; exact h) (by rw [txt_length])
  rw [e]
  have e2 : ((l.drop i.toNat).take ((l.length : Int) - i).toNat) = l.drop i.toNat := List.take_of_length_le (by rw [List.length_drop]; omega)
  simp only [txt]
  rw [e2]
theorem dots_txt : Str.ofString "..." = txt [46, 46, 46] := by decide +kernel
/-- cram -/
def cramL (l : List Nat) (n : Int) : List Nat :=
  if n < l.length then l.take ((n - 3).fdiv 2).toNat ++ [46, 46, 46] ++ l.drop (l.length - (n - 3 - (((n - 3).fdiv 2).toNat : Int)).toNat) else l
end

section
open PySem PySem.W PyProof.Rows
open_top hd for PySem.Challenge.rw_mq0047_01
end

section
open PySem PySem.W PyProof.Rows
theorem gen_zero {c : Int} (h : 0 ≤ c) : c = ((iterN stepN ([] : List Int).length c.toNat : Nat) : Int) := by
  show c = ((c.toNat : Nat) : Int)
  omega
theorem gen_half (n : Nat) : (n : Int).fdiv (2 ^ Int.toNat 1) = ((n / 2 : Nat) : Int) := by
  rw [show (2 : Int) ^ Int.toNat 1 = 2 from rfl, Int.fdiv_eq_ediv_of_nonneg _ (by decide)]
  omega
theorem gen_odd {crc : Int} {c : Nat} {pre : List Int} {k : Int} (h : crc = ((iterN stepN pre.length c : Nat) : Int)) (a : Builtin.bitAnd crc 1 ≠ 0) :
    Builtin.bitXor (crc.fdiv (2 ^ Int.toNat 1)) 3988292384 = ((iterN stepN (pre ++ [k]).length c : Nat) : Int) := by
  subst h
  rw [bitAnd_m1] at a
  rw [List.length_append]
  show _ = ((stepN (iterN stepN pre.length c) : Nat) : Int)
  generalize iterN stepN pre.length c = n at a ⊢
  rw [gen_half]
  refine (bitXor_nat _ 3988292384).trans ?_
  unfold stepN
  rw [if_pos (by omega)]
theorem gen_even {crc : Int} {c : Nat} {pre : List Int} {k : Int} (h : crc = ((iterN stepN pre.length c : Nat) : Int)) (a : Builtin.bitAnd crc 1 = 0) :
    crc.fdiv (2 ^ Int.toNat 1) = ((iterN stepN (pre ++ [k]).length c : Nat) : Int) := by
  subst h
  rw [bitAnd_m1] at a
  rw [List.length_append]
  show _ = ((stepN (iterN stepN pre.length c) : Nat) : Int)
  generalize iterN stepN pre.length c = n at a ⊢
  rw [gen_half]
  unfold stepN
  rw [if_neg (by omega)]
theorem gen_end {x : Int} {c : Nat} (h : x = ((iterN stepN (rangeKs 0 (8 - 0 : Int).toNat).length c : Nat) : Int)) : x = ((genN c : Nat) : Int) := by
  rw [h, rangeKs_length]; rfl
/-- what a call of the def at f gives back, k frames deep at most -/
def Tells (k : Nat) (w : World) (mean : ExcName → Option Value) (mg mb : Str → Option Value) (f : Addr) (news : List (Addr × Obj)) (vs : List Value) (R : Tok → Value) : Prop :=
  ∀ (dp un : Nat) (gd : Option (List Code)) (cn : Str) (cs : Scope) (a : Addr) (ccd : Value) (cl : List (Str × Addr)) (outer : List Env) (A₀ : Around) (base h₀ : Heap) (L : Addr) (m : Str → Option Value) (s : Shared) (Q E : Value → Shared → Prop),
    Below A₀ base outer h₀ → Fr h₀ L s.heap m → (hd.heap_39 w.params).In h₀ → News h₀ L s.heap news → Top hd.view_39 (looseW hd.view_39 []) mean mg mb h₀ → cs.kind = .function →
    dp + k < recursionLimit → un + 8 * k < cLine →
    (∀ (t : Tok) (h' : Heap) (tk' : Nat), Fr h₀ L h' m → News h₀ L h' news → Q (R t) { s with heap := h', toks := tk' }) →
    wpAny (model Challenge.rw_mq0047_01.row.prog w) (ktrTop dp un gd cn cs L a ccd cl outer) (call (.ref f) vs) Q E s
theorem tells_use {k : Nat} {w : World} {mean : ExcName → Option Value} {mg mb : Str → Option Value} {f : Addr} {news : List (Addr × Obj)} {vs : List Value} {R : Tok → Value}
    {dp un : Nat} {gd : Option (List Code)} {cn : Str} {cs : Scope} {a : Addr} {ccd : Value} {cl : List (Str × Addr)} {outer : List Env} {A₀ : Around} {base h₀ : Heap} {L : Addr} {m : Str → Option Value} {s : Shared} {Q E : Value → Shared → Prop}
    (C : Tells k w mean mg mb f news vs R) (B : Below A₀ base outer h₀) (F : Fr h₀ L s.heap m) (X : (hd.heap_39 w.params).In h₀) (N : News h₀ L s.heap news) (T : Top hd.view_39 (looseW hd.view_39 []) mean mg mb h₀) (hk : cs.kind = .function)
    (hd : dp + k < recursionLimit) (hu : un + 8 * k < cLine)
    (ret : ∀ (t : Tok) (h' : Heap) (tk' : Nat), Fr h₀ L h' m → News h₀ L h' news → Q (R t) { s with heap := h', toks := tk' }) :
    wpAny (model Challenge.rw_mq0047_01.row.prog w) (ktrTop dp un gd cn cs L a ccd cl outer) (call (.ref f) vs) Q E s :=
  C _ _ _ _ _ _ _ _ _ _ _ _ _ _ _ _ _ B F X N T hk hd hu ret
local macro_rules | `(tactic| walk_at "pyIter ref") => `(tactic| k_extra "pyIter ref")
theorem gen_tells (w : World) (mean : ExcName → Option Value) (mg mb : Str → Option Value) (news : List (Addr × Obj)) (c : Int) (hc : 0 ≤ c) (t : Tok) :
    Tells 1 w mean mg mb 35 news [.int c t] (fun t => .int (genN c.toNat : Int) t) := by
  unfold Tells
  k_fill
  (k_with "pyIter ref" => k_state_short (fun pre crc => crc = ((iterN stepN pre.length c.toNat : Nat) : Int)) "crc")
  (k_with "state" => (first | exact gen_zero (by assumption) | exact gen_odd (by assumption) (by assumption) | exact gen_even (by assumption) (by assumption)))
  (k_with "tree" => exact gen_end (by assumption))
  intros
  rename_i hret
  refine wpAny_call ?_
  k_dflt cell_enter
  k_steps
  all_goals cb_end hret
end

section
open PySem PySem.W PyProof.Rows
theorem fwd_zero : (4294967295 : Int) = ((fwdI [] : Nat) : Int) := rfl
theorem xor_ge {s : Int} {n : Nat} {o : Int} (h : s = (n : Int)) (ho : 0 ≤ o) : Builtin.bitXor s o = ((n ^^^ o.toNat : Nat) : Int) := by
  have e : o = ((o.toNat : Nat) : Int) := by omega
  rw [h]
  conv => lhs; rw [e]
  exact bitXor_nat _ _
theorem xor_pos {s : Int} {n : Nat} {o : Int} (h : s = (n : Int)) (ho : 0 ≤ o) : 0 ≤ Builtin.bitXor s o := by
  rw [xor_ge h ho]; omega
theorem fwd_step {s : Int} {pre : List Int} {o : Int} (h : s = ((fwdI pre : Nat) : Int)) (ho : 0 ≤ o) : ((genN (Builtin.bitXor s o).toNat : Nat) : Int) = ((fwdI (pre ++ [o]) : Nat) : Int) := by
  rw [xor_ge h ho, Int.toNat_natCast]
  unfold fwdI
  rw [fwdFrom_snoc]
local macro_rules | `(tactic| walk_at "pyIter ref") => `(tactic| (k_extra "pyIter ref"))
local macro_rules | `(tactic| k_memK) => `(tactic| assumption)
local macro_rules | `(tactic| walk_at "call ref") => `(tactic| k_extra "call ref")
theorem fwd_tells (w : World) (mean : ExcName → Option Value) (mg mb : Str → Option Value) (news : List (Addr × Obj)) (l : Addr) (vs : List Value) (n : Nat) (ns : List Int) (hm : (l, W.listOf vs.toArray n) ∈ news) (hi : IntsAre vs ns) (hp : ∀ o ∈ ns, 0 ≤ o) :
    Tells 2 w mean mg mb 42 news [.ref l] (fun t => .int (fwdI ns : Int) t) := by
  unfold Tells
  k_fill
  (k_with "pyIter ref" => (k_state (fun pre state => state = ((fwdI pre : Nat) : Int)) "state"))
  (k_with "state" => (first | exact fwd_zero | exact fwd_step (by assumption) (hp _ (by assumption))))
  (k_with "call ref" => (k_here; (with_reducible show wpAny _ _ (call (Value.ref 35) [Value.int _ _]) _ _ _); k_dflt (refine' tells_use (gen_tells _ _ _ _ _ _ ?kp _) ?k1 ?k2 ?k3 ?k4 ?k5 ?kK ?kd ?ku ?_; (case kp => exact xor_pos (by assumption) (hp _ (by assumption))); (case k1 => k_asm); (case k2 => k_asm); (case k3 => k_asm); (case k4 => k_asm); (case k5 => k_asm); (case kK => first | exact rfl | assumption); (case kd => ktr_room); (case ku => ktr_units); k_whole); intro t9 h9 tk9 F9 N9; (try dsimp only); (try k_fold)))
  intros
  rename_i hret
  refine wpAny_call ?_
  k_dflt cell_enter
  k_steps
  all_goals cb_end hret
end

section
open PySem PySem.W PyProof.Rows
local macro_rules | `(tactic| k_memK) => `(tactic| assumption)
local macro_rules | `(tactic| walk_at "pyIter ref") => `(tactic| (k_extra "pyIter ref"))
local macro_rules | `(tactic| walk_at "subscriptTail Name Slice ref ref") => `(tactic| k_extra "subscriptTail Name Slice ref ref")
theorem mem_isList {h₀ h : Heap} {L l : Addr} {news : List (Addr × Obj)} {vs : List Value} {n : Nat} (N : News h₀ L h news) (hm : (l, W.listOf vs.toArray n) ∈ news) : h.IsList l vs.toArray := ⟨_, (N _ hm).1, rfl, n, rfl⟩
theorem back_size {vs : List Value} {ns : List Int} (hi : IntsAre vs ns) (hl : ns.length ≤ 64) : vs.toArray.size ≤ sizeLine := by
  rw [List.size_toArray, hi.length, sizeLine_eq]; omega
theorem back_zero {c : Int} (h : 0 ≤ c ∧ c < 4294967296) : c = ((bkN c.toNat [] : Nat) : Int) := by
  show c = ((c.toNat : Nat) : Int)
  omega
theorem un_zero {x : Int} {n : Nat} (h : x = (n : Int)) : x = ((iterN unN ([] : List Int).length n : Nat) : Int) := h
theorem un_hi {x : Int} {n : Nat} {pre : List Int} {k : Int} (h : x = ((iterN unN pre.length n : Nat) : Int)) (a : 2147483648 ≤ x) :
    Builtin.bitXor x 3988292384 * 2 + 1 = ((iterN unN (pre ++ [k]).length n : Nat) : Int) := by
  rw [xor_ge h (by decide), List.length_append]
  show _ = ((unN (iterN unN pre.length n) : Nat) : Int)
  generalize iterN unN pre.length n = q at h ⊢
  unfold unN
  rw [if_pos (by omega), show (3988292384 : Int).toNat = 3988292384 from rfl]
  omega
theorem un_lo {x : Int} {n : Nat} {pre : List Int} {k : Int} (h : x = ((iterN unN pre.length n : Nat) : Int)) (a : ¬ 2147483648 ≤ x) :
    x * 2 = ((iterN unN (pre ++ [k]).length n : Nat) : Int) := by
  rw [List.length_append]
  show _ = ((unN (iterN unN pre.length n) : Nat) : Int)
  generalize iterN unN pre.length n = q at h ⊢
  unfold unN
  rw [if_neg (by omega)]
  omega
theorem back_step {x : Int} {s₀ : Nat} {pre ns : List Int} {o : Int} (h : x = ((iterN unN (rangeKs 0 (8 - 0 : Int).toNat).length (bkN s₀ pre) : Nat) : Int)) (hp : ∀ o ∈ ns, 0 ≤ o ∧ o < 256) (hm : o ∈ ns.reverse) :
    Builtin.bitXor x o = ((bkN s₀ (pre ++ [o]) : Nat) : Int) := by
  rw [xor_ge h (hp o (List.mem_reverse.mp hm)).1, bkN_snoc, rangeKs_length]
  rfl
theorem back_end {x : Int} {s₀ : Nat} {ns : List Int} (h : x = ((bkN s₀ ns.reverse : Nat) : Int)) : x = ((backI s₀ ns : Nat) : Int) := h
theorem back_tells (w : World) (mean : ExcName → Option Value) (mg mb : Str → Option Value) (news : List (Addr × Obj)) (s₀ : Int) (ts : Tok) (l : Addr) (vs : List Value) (n : Nat) (ns : List Int) (hm : (l, W.listOf vs.toArray n) ∈ news) (hi : IntsAre vs ns) (hp : ∀ o ∈ ns, 0 ≤ o ∧ o < 256) (hs : 0 ≤ s₀ ∧ s₀ < 4294967296) (hl : ns.length ≤ 64) :
    Tells 1 w mean mg mb 49 news [.int s₀ ts, .ref l] (fun t => .int (backI s₀.toNat ns : Int) t) := by
  unfold Tells
  k_fill
  (k_with "pyIter ref" => (k_of "octet" => (k_state (fun pre state => state = ((bkN s₀.toNat pre : Nat) : Int)) "state")))
  (k_with "pyIter ref" => (k_of "_" => (k_state_short (fun pre state => state = ((iterN unN pre.length (bkN s₀.toNat kPre) : Nat) : Int)) "state")))
  (k_with "state" => (first | exact back_zero hs | exact un_zero (by assumption) | exact un_hi (by assumption) (by assumption) | exact un_lo (by assumption) (by assumption) | exact back_step (by assumption) hp (by assumption)))
  (k_with "subscriptTail Name Slice ref ref" => (k_here; (with_reducible show wpAny _ _ (subscriptTail _ (PySem.Expr.Slice none none (some _) _) (Value.ref _) (Value.ref _)) _ _ _); k_dflt (refine' krv_ints ?F ?N ?l ?k ?i ?_ ?s ?t ?z; (case F => k_asm); (case N => k_asm); (case l => exact mem_isList (by assumption) hm); (case k => exact IsPart.int _ _); (case i => exact hi); (case s => with_unfolding_all rfl); (case t => kmk_pure); (case z => exact back_size hi hl)); intro D' ws' h' F' N' l1 hI' hC'; (try k_lt l1); (try k_sweep)))
  (k_with "tree" => exact back_end (by assumption))
  intros
  rename_i hret
  refine wpAny_call ?_
  k_dflt cell_enter
  k_steps
  all_goals cb_end hret
end

section
open PySem PySem.W PyProof.Rows
theorem cram_cut {l : List Nat} {n : Int} (a : n < ((txt l).length : Int)) :
    Txt.slice (txt l) none (some (if (n - 3).fdiv 2 > 0 then (n - 3).fdiv 2 else 0)) ++ Str.ofString "..." ++
      Txt.slice (txt l)
        (some
          (((txt l).length : Int) -
            if (n - 3 - if (n - 3).fdiv 2 > 0 then (n - 3).fdiv 2 else 0) > 0 then
              n - 3 - if (n - 3).fdiv 2 > 0 then (n - 3).fdiv 2 else 0
            else 0))
        none = txt (cramL l n) := by
  rw [txt_length] at a ⊢
  have e1 : (if (n - 3).fdiv 2 > 0 then (n - 3).fdiv 2 else 0) = ((((n - 3).fdiv 2).toNat : Nat) : Int) := by split <;> omega
  have hq : (n - 3).fdiv 2 = (n - 3) / 2 := Int.fdiv_eq_ediv_of_nonneg _ (by decide)
  rw [e1]
  have e2 : (if (n - 3 - ((((n - 3).fdiv 2).toNat : Nat) : Int)) > 0 then n - 3 - ((((n - 3).fdiv 2).toNat : Nat) : Int) else 0) = (((n - 3 - ((((n - 3).fdiv 2).toNat : Nat) : Int)).toNat : Nat) : Int) := by split <;> omega
  rw [e2, slice_take (by omega) (by omega), slice_drop (by omega) (by omega), dots_txt, txt_append, txt_append]
  unfold cramL
  rw [if_pos a, Int.toNat_natCast]
  congr 3
  omega
theorem cram_leave {l : List Nat} {n : Int} (a : ¬ n < ((txt l).length : Int)) : txt l = txt (cramL l n) := by
  rw [txt_length] at a
  unfold cramL
  rw [if_neg a]
theorem cram_tells (w : World) (mean : ExcName → Option Value) (mg mb : Str → Option Value) (news : List (Addr × Obj)) (l : List Nat) (tx : Tok) (n : Int) (tn : Tok) (hx : l.length ≤ 64) :
    Tells 1 w mean mg mb 28 news [.str (txt l) tx, .int n tn] (fun t => .str (txt (cramL l n)) t) := by
  have hx' : (txt l).length ≤ 64 := by rw [txt_length]; exact hx
  unfold Tells
  k_fill
  (k_with "tree" => (first | exact cram_cut (by assumption) | exact cram_leave (by assumption)))
  intros
  rename_i hret
  refine wpAny_call ?_
  k_dflt cell_enter
  k_steps
  all_goals cb_end hret
end

section
open PySem PySem.W PyProof.Rows
theorem at_dots {L : List Nat} {i : Nat} (h : StrLaws.At (txt L) (txt [46, 46, 46]) (txt L).length i) : L[i]? = some 46 ∧ L[i + 2]? = some 46 := by
  obtain ⟨h1, h2⟩ := h
  rw [StrLaws.subAt_eq] at h2
  have h3 : (L.drop i).take 3 = [46, 46, 46] := by simpa [txt, Str.length] using h2
  constructor
  · have := congrArg (fun l => l[0]?) h3
    simpa using this
  · have := congrArg (fun l => l[2]?) h3
    simpa using this
theorem at_dots_here (A B : List Nat) : StrLaws.At (txt (A ++ [46, 46, 46] ++ B)) (txt [46, 46, 46]) (txt (A ++ [46, 46, 46] ++ B)).length A.length := by
  refine ⟨?_, ?_⟩
  · rw [txt_length, txt_length]; simp
  · rw [StrLaws.subAt_eq]
    simp [txt, Str.length]
theorem at_dots_only {A B : List Nat} (hA : 46 ∉ A) (hB : 46 ∉ B) {i : Nat} (h : StrLaws.At (txt (A ++ [46, 46, 46] ++ B)) (txt [46, 46, 46]) (txt (A ++ [46, 46, 46] ++ B)).length i) : i = A.length := by
  obtain ⟨h1, h2⟩ := at_dots h
  rcases Nat.lt_trichotomy i A.length with h3 | h3 | h3
  · rw [List.append_assoc, List.getElem?_append_left h3] at h1
    exact absurd (List.mem_of_getElem? h1) hA
  · exact h3
  · rw [List.getElem?_append_right (by simp; omega)] at h2
    exact absurd (List.mem_of_getElem? h2) hB
theorem strSub_txt (L : List Nat) (i j : Nat) : Builtin.Str.strSub (txt L) i j = txt ((L.drop i).take (j - i)) := by
  refine PySem.Str.ext' (Array.toList_inj.mp ?_)
  rw [StrLaws.strSub_toList]
  simp [txt]
theorem split_dots {A B : List Nat} (hA : 46 ∉ A) (hB : 46 ∉ B) : Txt.split (txt (A ++ [46, 46, 46] ++ B)) (Str.ofString "...") = [txt A, txt B] := by
  rw [dots_txt]
  have hocc : Builtin.Str.occurrences (txt (A ++ [46, 46, 46] ++ B)) (txt [46, 46, 46]) 0 (txt (A ++ [46, 46, 46] ++ B)).length ((txt (A ++ [46, 46, 46] ++ B)).length + 1) = [A.length] := by
    rcases StrLaws.occ_head (txt (A ++ [46, 46, 46] ++ B)) (txt [46, 46, 46]) ((txt (A ++ [46, 46, 46] ++ B)).length + 1) (by omega) with ⟨_, hn⟩ | ⟨i, r, e, hi, _⟩
    · exact absurd (at_dots_here A B) (hn _)
    · obtain ⟨f, hc⟩ := StrLaws.occ_chain (txt (A ++ [46, 46, 46] ++ B)) (txt [46, 46, 46]) ((txt (A ++ [46, 46, 46] ++ B)).length + 1)
      rw [e] at hc ⊢
      have hi' := at_dots_only hA hB hi
      cases r with
      | nil => rw [hi']
      | cons c r =>
        have h2 := hc.2.2
        have h3 := h2.1
        have h4 := at_dots_only hA hB h2.2.1
        rw [txt_length] at h3
        simp only [List.length_cons, List.length_nil] at h3
        omega
  unfold Txt.split
  rw [if_neg, hocc, if_neg]
  · rw [StrLaws.partsBetween_eq]
    show [Builtin.Str.strSub _ 0 A.length, Builtin.Str.strSub _ (A.length + (txt [46, 46, 46]).length) _] = _
    rw [strSub_txt, strSub_txt, txt_length, txt_length]
    have e1 : ((A ++ [46, 46, 46] ++ B).drop 0).take (A.length - 0) = A := by simp
    have e2 : ((A ++ [46, 46, 46] ++ B).drop (A.length + [46, 46, 46].length)).take ((A ++ [46, 46, 46] ++ B).length - (A.length + [46, 46, 46].length)) = B := by
      rw [List.drop_append_of_le_length (by simp)]
      rw [List.drop_of_length_le (by simp), List.nil_append]
      exact List.take_of_length_le (by simp; omega)
    rw [e1, e2]
  · simp
  · rw [txt_length, txt_length]
    have hk : Builtin.Str.strKind (txt [46, 46, 46]) = 1 := by decide +kernel
    rw [hk]
    have hx : 1 ≤ Builtin.Str.strKind (txt (A ++ [46, 46, 46] ++ B)) := by
      unfold Builtin.Str.strKind
      split
      · omega
      · split <;> omega
    simp only [List.length_append, List.length_cons, List.length_nil, Bool.or_eq_true, decide_eq_true_eq]
    omega
theorem join_two (s a b : List Nat) : Txt.join (txt s) [txt a, txt b] = txt (a ++ s ++ b) := by
  unfold Txt.join
  rw [StrLaws.glued_eq_join]
  show txt a ++ txt s ++ txt b = _
  rw [txt_append, txt_append]
end

section
open PySem PySem.W PyProof.Rows
local macro_rules | `(tactic| walk_at "exec While Name cons nil") => `(tactic| (k_here; k_dflt (refine whl_start 100 ?_)))
local macro_rules | `(tactic| walk_at "call builtin:str.join") => `(tactic| k_extra "call builtin:str.join")
local macro_rules | `(tactic| walk_at "subscriptTail Name Slice ref ref") => `(tactic| k_extra "subscriptTail Name Slice ref ref")
theorem repl_join {A B s : List Nat} (hA : A.length ≤ 64) (hB : B.length ≤ 64) (hs : s.length ≤ 16) : JoinOk (txt s) [txt A, txt B] = true := by
  refine joinOk_of_weight ?_ ?_
  · simp only [List.map_cons, List.map_nil, List.sum_cons, List.sum_nil, List.length_cons, List.length_nil, txt_length]; omega
  · rw [txt_length]; exact hs
theorem repl_tells (w : World) (mean : ExcName → Option Value) (mg mb : Str → Option Value) (news : List (Addr × Obj)) (a b : List Nat) (tx : Tok) (sg : List Nat) (td ts : Tok) (ha : a.length ≤ 64) (hb : b.length ≤ 64) (hs : sg.length ≤ 16) (na : 46 ∉ a) (nb : 46 ∉ b) :
    Tells 1 w mean mg mb 21 news [.str (txt (a ++ [46, 46, 46] ++ b)) tx, .str (Str.ofString "...") td, .str (txt sg) ts] (fun t => .str (txt (a ++ sg ++ b)) t) := by
  have hx' : (txt (a ++ [46, 46, 46] ++ b)).length ≤ 200 := by rw [txt_length]; simp only [List.length_append, List.length_cons, List.length_nil]; omega
  have hs' : (txt sg).length ≤ 16 := by rw [txt_length]; exact hs
  unfold Tells
  k_fill
  (k_with "call builtin:str.join" => ((refine SC.join (by assumption) (Eq.trans (by assumption) (split_dots na nb)) (repl_join ha hb hs) ?_; rw [join_two]; intro _ _)))
  (k_with "subscriptTail Name Slice ref ref" => ((k_here; k_dflt (refine' slice_tuple_from (a := 2) ?q1 ?q2 ?q3 ?q4 ?q5 ?_ ?q6 ?q7 ?q8; (case q1 => k_asm); (case q2 => k_asm); (case q3 => exact News.isTup (by k_asm) (by k_memK)); (case q4 => decide); (case q5 => exact Nat.le_refl 2); (case q6 => with_unfolding_all rfl); (case q7 => kmk_pure); (case q8 => exact Nat.le_of_ble_eq_true rfl)); intro h' F' N'; (try k_sweep))))
  intros
  rename_i hret
  refine wpAny_call ?_
  k_dflt (refine' kp_rest ?k1 ?k2 ?k3 ?k4 ?k5 ?kA ?kF ?kK ?k6 ?k7 ?k8 ?kV ?kP ?kG ?kB ?_ ?c2 ?c3 ?c4 ?c5; (case kA => exact rfl); (case kF => exact rfl); (case kK => assumption); (case k1 => k_asm); (case k2 => k_asm); (case k3 => k_asm); (case k4 => k_asm); (case k5 => k_asm); (case k6 => k_is); (case k7 => k_is); (case k8 => ktr_room); (case kV => kl_lit); (case kP => exact rfl); (case kG => exact fun _ => rfl); (case kB => exact fun _ => locs rfl); (case c5 => decide); (case c2 => exact rfl); (case c3 => exact rfl); (case c4 => exact rfl); k_whole; intro D' g' L' h' l1 FG' F' N' B' X' T'; (try k_lt l1); (try dsimp only); (try k_lift B'); (try k_fold))
  k_steps
  all_goals cb_end hret
end

section
open PySem PySem.W PyProof.Rows
/-- the text of the script -/
def tOf (ns : List Int) : List Nat := (ns.take 16).map codeOf
/-- the text after i turns of cramming -/
def Ls (t : List Nat) : Nat → List Nat
  | 0 => t
  | i + 1 => cramL (Ls t i) (((Ls t i).length : Int) - 1)
def ordsL (l : List Nat) : List Int := l.map fun (n : Nat) => (n : Int)
def crcL (l : List Nat) : Nat := fwdI (ordsL l) ^^^ 4294967295
def bookD (t : List Nat) (k : Nat) : List Dat := (List.range k).map fun j => Dat.tuple [Dat.int ((Ls t j).length : Int), Dat.int (crcL (Ls t j) : Int)]
theorem text_zero : Str.ofString "" = txt (([] : List Int).map codeOf) := by decide +kernel
theorem codeOf_hi {x : Int} (h : 46 ≤ x.fmod 255) : codeOf x = (x.fmod 255 + 1).toNat := by unfold codeOf; rw [if_pos h]
theorem codeOf_lo {x : Int} (h : ¬ 46 ≤ x.fmod 255) : codeOf x = (x.fmod 255).toNat := by unfold codeOf; rw [if_neg h]
theorem text_hi {x : Str} {pre : List Int} {n : Int} (h : x = txt (pre.map codeOf)) (a : 46 ≤ n.fmod 255) : x ++ { cps := #[(n.fmod 255 + 1).toNat] } = txt ((pre ++ [n]).map codeOf) := by
  rw [h, List.map_append, ← txt_append, List.map_cons, List.map_nil, codeOf_hi a]; rfl
theorem text_lo {x : Str} {pre : List Int} {n : Int} (h : x = txt (pre.map codeOf)) (a : ¬ 46 ≤ n.fmod 255) : x ++ { cps := #[(n.fmod 255).toNat] } = txt ((pre ++ [n]).map codeOf) := by
  rw [h, List.map_append, ← txt_append, List.map_cons, List.map_nil, codeOf_lo a]; rfl
theorem cramL_same (l : List Nat) : cramL l (l.length : Int) = l := by unfold cramL; rw [if_neg (by omega)]
theorem cramL_len {l : List Nat} (h : l.length ≤ 16) : (cramL l ((l.length : Int) - 1)).length ≤ 16 := by
  unfold cramL
  have hq : ((l.length : Int) - 1 - 3).fdiv 2 = ((l.length : Int) - 1 - 3) / 2 := Int.fdiv_eq_ediv_of_nonneg _ (by decide)
  rw [if_pos (by omega), hq]
  simp only [List.length_append, List.length_take, List.length_drop, List.length_cons, List.length_nil]
  omega
theorem Ls_len {t : List Nat} (h : t.length ≤ 16) : ∀ i, (Ls t i).length ≤ 16
  | 0 => h
  | i + 1 => cramL_len (Ls_len h i)
theorem tOf_len (ns : List Int) : (tOf ns).length ≤ 16 := by
  unfold tOf
  rw [List.length_map, List.length_take]
  omega
theorem cut_zero {x : Str} {ns : List Int} (h : x = txt (List.map codeOf (List.take 16 ns))) : x = txt (Ls (tOf ns) ([] : List Int).length) ∧ ([] : List Dat) = bookD (tOf ns) ([] : List Int).length ∧ x.length ≤ 16 ∧ ([] : List Dat).length = ([] : List Int).length := by
  refine ⟨h, rfl, ?_, rfl⟩
  rw [h, txt_length]
  exact tOf_len ns
theorem codes_txt (l : List Nat) : KStt.codes (txt l) = ordsL l := by simp [KStt.codes, txt, ordsL]
theorem codes_pos {x : Str} : ∀ o ∈ KStt.codes x, 0 ≤ o := by
  intro o ho
  unfold KStt.codes at ho
  obtain ⟨c, _, rfl⟩ := List.mem_map.mp ho
  omega
theorem bookD_snoc (t : List Nat) (k : Nat) : bookD t (k + 1) = bookD t k ++ [Dat.tuple [Dat.int ((Ls t k).length : Int), Dat.int (crcL (Ls t k) : Int)]] := by
  unfold bookD
  rw [List.range_succ, List.map_append]
  rfl
theorem bookD_length (t : List Nat) (k : Nat) : (bookD t k).length = k := by simp [bookD]
theorem cut_step {x : Str} {ns : List Int} {pre : List Int} {k : Int} (h : x = txt (Ls (tOf ns) pre.length)) :
    txt (Ls (tOf ns) (pre.length + 1)) = txt (Ls (tOf ns) (pre ++ [k]).length) ∧ bookD (tOf ns) pre.length ++ [Dat.tuple [Dat.int (x.length : Int), Dat.int (Builtin.bitXor ((fwdI (KStt.codes x) : Nat) : Int) 4294967295)]] = bookD (tOf ns) (pre ++ [k]).length ∧ (txt (Ls (tOf ns) (pre.length + 1))).length ≤ 16 ∧
      (bookD (tOf ns) pre.length ++ [Dat.tuple [Dat.int (x.length : Int), Dat.int (Builtin.bitXor ((fwdI (KStt.codes x) : Nat) : Int) 4294967295)]]).length = (pre ++ [k]).length := by
  have e1 : (pre ++ [k]).length = pre.length + 1 := by simp
  have e2 : Builtin.bitXor ((fwdI (KStt.codes x) : Nat) : Int) 4294967295 = (crcL (Ls (tOf ns) pre.length) : Int) := by
    rw [h, codes_txt]
    exact bitXor_nat _ 4294967295
  rw [e1, e2, bookD_snoc, h, txt_length, txt_length]
  refine ⟨rfl, rfl, Ls_len (tOf_len ns) _, ?_⟩
  rw [List.length_append, bookD_length]
  rfl
end

section
open PySem PySem.W PyProof.Rows PySem.Calls
section
variable {prog : Program} {w : World} {A : Around} {E : Value → Shared → Prop} {s : Shared} {h₀ : Heap} {L : Addr} {m : Str → Option Value} {env : Env}

/-- a comprehension over a text's signs, no test: what the iterable must give -/
def TxtSrc (prog : Program) (w : World) (A : Around) (h₀ : Heap) (L : Addr) (m : Str → Option Value) (env : Env) (elt : Expr) (x : Str) (scope : Scope) (cl : List (Str × Addr)) (Q : Value → Shared → Prop) (xv : Value) (s₁ : Shared) : Prop :=
  ∃ y t news, xv = .str y t ∧ A.handled = none ∧ Fr h₀ L s₁.heap m ∧ News h₀ L s₁.heap news ∧ y.cps.size ≤ sizeLine ∧
    ∀ s₂ : Shared, (∃ h, s₂ = { s₁ with heap := h }) → LCg.CompRest prog w A h₀ L m env elt x scope cl s₂ (fun _ => True) (SignAt y) (LCg.FinE h₀ L m s₂ Q) y.cps.size 0 [] news

theorem comp_txt {elt iter : Expr} {x : Str} {px : Pos} {scope : Scope} {cl : List (Str × Addr)} {pos : Pos} {Q : Value → Shared → Prop} (hF₀ : Fr h₀ L s.heap m)
    (hclos : closureFor scope env = pure cl) (hcell : ∀ y ∈ scope.names, y.2 ≠ .cell) (hkind : scope.kind = .function)
    (hnames : ∀ y ∈ scope.names, y.2 = .local → scope.names.lookup y.1 = some .local) (hx : scope.names.lookup x = some .local)
    (h : wpAny (model prog w) A (eval iter env) (TxtSrc prog w A h₀ L m env elt x scope cl Q) E s)
    (hs : ∀ x, foldedSetIterable iter env x = pure x := by intro _; rfl) :
    wpAny (model prog w) A (eval (.ListComp elt [⟨.Name x px, iter, [], 0⟩] scope pos) env) Q E s := by
  rw [eval_ListComp]
  refine wpAny_comprehension_free (use := none) rfl hs hclos hkind hnames (wpAny_mono h (fun xv s₁ h₁ => ?_) fun _ _ e => e)
  obtain ⟨y, t, news, rfl, hh, F, N, hsz, R⟩ := h₁
  have key : ∀ (o : Obj) (nm : String), Walks prog w A s₁.heap.objs.size [s₁.heap.objs.size] [s₁.heap.objs.size] y.cps.size (SignAt y) (fun i h => h.IsStrIter s₁.heap.objs.size nm y t i) → (s₁.heap.push o).IsStrIter s₁.heap.objs.size nm y t 0 →
      wpAny (model prog w) A (newList []) (fun acc s₃ => wpAny (model prog w) A (newFunctionEnv scope env.globals cl [] env.qual none .none (some env)) (fun cenv s₄ =>
        codeAny (model prog w) A (.compStart (.ListComp elt [⟨.Name x px, iter, [], 0⟩] scope pos) 0 (.ref s₁.heap.objs.size) acc { cenv with scope := relabel scope env }) (compPost (model prog w) A E none Q acc cenv.locals) s₄) E s₃) E { s₁ with heap := s₁.heap.push o } := by
    intro o nm W hst
    refine LCg.block_U W hsz (fun i h st => by obtain ⟨o, e, _⟩ := st; exact ⟨o, e⟩) (S := fun _ => True) ?_ hcell hkind hx hst (fun b hb => ?_)
      (F.keeps fun _ _ e => Heap.get?_push_of_some _ e) (N.grown fun _ _ e => Heap.get?_push_of_some _ e) (Nat.ne_of_lt F.ns.lt) (next_is_new F) (fun p hp => Nat.ne_of_lt (Heap.lt_size (N p hp).1)) trivial (R _ ⟨_, rfl⟩) ?_
    · intro i h h' o' nw st e e' _ _ _
      refine W.frame i h h' st fun b hb q hq => ?_
      rw [List.mem_singleton.mp hb] at hq ⊢
      rw [e] at hq
      cases hq
      exact e'
    · rw [List.mem_singleton.mp hb]
      show s₁.heap.objs.size < (s₁.heap.push _).objs.size
      rw [Heap.size_push]; exact Nat.lt_succ_self _
    · intro D C h tk m' ys news' F' N' o1 hn hC₀ hD₀ hCL hDL hCD offC fin
      refine ⟨m', hn, fun h'' hs'' => fin D h'' tk (F'.change hs'' hCL hC₀) (fun p hp => ?_) o1⟩
      refine ⟨hs''.extBut _ _ ?_ (N' p hp).1, (N' p hp).2⟩
      rcases List.mem_cons.mp hp with rfl | hp
      · exact Ne.symm hCD
      · exact offC p hp
  cases ha : y.cps.all (· < 128)
  · exact wpAny_pyIter_wide ha (key _ _ (Walks.strWide hh _ y t) ⟨_, Heap.get?_push_size _ rfl, rfl, rfl⟩)
  · exact wpAny_pyIter_ascii ha (key _ _ (Walks.strAscii hh _ y t) ⟨_, Heap.get?_push_size _ rfl, rfl, rfl⟩)

theorem TxtSrc.intro {elt : Expr} {x : Str} {scope : Scope} {cl : List (Str × Addr)} {Q : Value → Shared → Prop} {y : Str} {t : Tok} {news : List (Addr × Obj)} {s₁ : Shared}
    (hh : A.handled = none) (F : Fr h₀ L s₁.heap m) (N : News h₀ L s₁.heap news) (hsz : y.length ≤ 64)
    (turn : ∀ (k : Nat) t I oI C oC D m₂ ys h tk (E' : Value → Shared → Prop), k ∈ y.cps.toList → LCg.NsObj oC m₂ → m₂ x = some (.str ⟨#[k]⟩ t) → Fr h₀ L h m → News h₀ L h ((I, oI) :: (C, oC) :: (D, LCg.lst ys) :: news) → LCg.Off3 I C D news → ((@Ne Nat I C) ∧ (@Ne Nat I D) ∧ (@Ne Nat C D)) →
      wpAny (model prog w) A (eval elt (compEnvC scope cl C env)) (LCg.CompEnd h₀ L m { s₁ with heap := h, toks := tk } I oI C oC D (LCg.lst ys) (fun _ => True) (fun v news' => KCfEl news (k : Int) v news')) E' { s₁ with heap := h, toks := tk })
    (fin : ∀ D ys h tk, IntsAre ys (KStt.codes y) → Fr h₀ L h m → News h₀ L h ((D, W.listOf ys.toArray ys.length) :: news) → LCg.Off1 D news → Q (.ref D) { s₁ with heap := h, toks := tk }) :
    TxtSrc prog w A h₀ L m env elt x scope cl Q (.str y t) s₁ := by
  refine ⟨y, t, news, rfl, hh, F, N, by rw [sizeLine_eq]; show y.length ≤ _; omega, ?_⟩
  rintro s₂ ⟨g, rfl⟩
  have hlen : (KStt.codes y).length = y.cps.size := KStt.codes_length y
  have key : ∀ (j i : Nat) (ys : List Value), i + j = y.cps.size → IntsAre ys ((KStt.codes y).take i) →
      LCg.CompRest prog w A h₀ L m env elt x scope cl { s₁ with heap := g } (fun _ => True) (SignAt y) (LCg.FinE h₀ L m { s₁ with heap := g } Q) j i ys news := by
    intro j
    induction j with
    | zero =>
      intro i ys hi hy
      have e : i = (KStt.codes y).length := by omega
      subst e
      rw [List.take_length] at hy
      exact LCg.CompRest.zero fun D h tk F' N' o1 => fin D ys h tk hy F' N' o1
    | succ j ih =>
      intro i ys hi hy
      refine LCg.CompRest.succ ?_
      intro v I oI C oC D m₂ h tk E' hv hC hx F' N' off ne
      obtain ⟨c, u, hc, rfl⟩ := hv
      refine wpAny_mono (turn c u I oI C oC D m₂ ys h tk E' (by rw [← Array.getElem?_toList] at hc; exact List.mem_of_getElem? hc) hC hx F' N' off ne) (fun z s₂ hq => ?_) fun _ _ e => e
      obtain ⟨h', tk', nw, e, F'', N'', off'', hS, hn, t', hz⟩ := hq
      rw [hn] at N'' off''
      refine ⟨h', tk', news, e, F'', N'', off'', hS, ?_⟩
      rw [hz]
      refine ih (i + 1) _ (by omega) ?_
      rw [List.take_add_one, KStt.code_at hc]
      simpa using IntsAre.append hy (.cons (c : Int) t' .nil)
  exact key _ 0 [] (by omega) (by simp only [List.take_zero]; exact .nil)
end
end

section
open PySem PySem.W PyProof.Rows PySem.Calls
/-- a pair of ints as an object -/
abbrev pairObj (a b : Int) (ta tb : Tok) (n : Nat) : Obj := { cls := .type "tuple", data := .seq #[.int a ta, .int b tb] n }
def PairEnd (h₀ : Heap) (L : Addr) (y : Str) (stored : List Str) (m₀ : Str → Option Value) (P : Str → Prop) (news own : List (Addr × Obj)) (s₁ s₂ : Shared) : Prop :=
  ∃ h' tk m' news', s₂ = { s₁ with heap := h', toks := tk } ∧ Fr h₀ L h' m' ∧ News h₀ L h' news' ∧ (∀ p ∈ news, p ∈ news') ∧ (∀ p ∈ own, p ∈ news') ∧ ∃ c t, m' y = some (.str c t) ∧ P c ∧ ∀ z, z ≠ y → stored.contains z = false → m' z = m₀ z
def PairPost (h₀ : Heap) (L : Addr) (y : Str) (stored : List Str) (m₀ : Str → Option Value) (P : Str → Prop) (news own : List (Addr × Obj)) (s₁ : Shared) (Q : Flow → Shared → Prop) (f : Flow) (s₂ : Shared) : Prop :=
  match f with
  | .ret v => Q (.ret v) s₂
  | .brk => Q .next s₂
  | _ => PairEnd h₀ L y stored m₀ P news own s₁ s₂
theorem PairEnd.intro {h₀ h' : Heap} {L : Addr} {y : Str} {stored : List Str} {m₀ m' : Str → Option Value} {P : Str → Prop} {news own news' : List (Addr × Obj)} {s₁ : Shared} {tk : Nat} {c : Str} {t : Tok}
    (F : Fr h₀ L h' m') (N : News h₀ L h' news') (hn : ∀ p ∈ news, p ∈ news') (ho : ∀ p ∈ own, p ∈ news') (hy : m' y = some (.str c t)) (hr : ∀ z, z ≠ y → stored.contains z = false → m' z = m₀ z) (hp : P c) :
    PairEnd h₀ L y stored m₀ P news own s₁ { s₁ with heap := h', toks := tk } := ⟨h', tk, m', news', rfl, F, N, hn, ho, c, t, hy, hp, hr⟩
section
variable {prog : Program} {w : World} {A : Around} {E : Value → Shared → Prop} {s : Shared} {env : Env} {h₀ : Heap} {body : List Stmt} {Q : Flow → Shared → Prop}
theorem pair_fr {L : Addr} {h : Heap} {y : Str} {stored : List Str} {m₀ m₁ : Str → Option Value} {c : Str} {t : Tok} (hy : m₁ y = some (.str c t)) (hr : ∀ z, z ≠ y → stored.contains z = false → m₁ z = m₀ z) (F : Fr h₀ L h m₁) :
    Fr h₀ L h (fun z => if z = y then some (.str c t) else if stored.contains z then m₁ z else m₀ z) := by
  have e : (fun z => if z = y then some (.str c t) else if stored.contains z then m₁ z else m₀ z) = m₁ := by
    funext z
    by_cases hz : z = y
    · rw [if_pos hz, hz, hy]
    · rw [if_neg hz]
      cases hc : stored.contains z with
      | true => simp
      | false => simp only [Bool.false_eq_true, if_false]; exact (hr z hz hc).symm
  rw [e]; exact F
theorem pairs_loop {elts : List Expr} {ke : Nat} {pe : Pos} {l : Addr} {vs : List Value} {nn : Nat} {m₀ : Str → Option Value} {news : List (Addr × Obj)} {c₀ : Str} {t₀ : Tok} (y : Str) (stored : List Str) (fa fb : Nat → Int) (P : Nat → Str → Prop)
    (hh : A.handled = none) (hl : (l, W.listOf vs.toArray nn) ∈ news) (hds : ∀ (j : Nat) (v : Value), j < vs.length → vs[vs.length - 1 - j]? = some v → ∃ T ta tb n, v = Value.ref T ∧ (T, pairObj (fa j) (fb j) ta tb n) ∈ news)
    (F : Fr h₀ env.locals s.heap m₀) (N : News h₀ env.locals s.heap news) (hy : m₀ y = some (.str c₀ t₀)) (hp : P vs.length c₀)
    (turn : ∀ j T ta tb n c t (u : Str → Option Value) h tk own, j < vs.length → OwnOff own (news.map (·.1)) → P (j + 1) c →
      Fr h₀ env.locals h (fun z => if z = y then some (.str c t) else if stored.contains z then u z else m₀ z) → News h₀ env.locals h ((T, pairObj (fa j) (fb j) ta tb n) :: (news ++ own)) →
      wpAny (model prog w) A (assign (.Tuple elts ke pe) env (.ref T)) (fun _ s₃ => wpAny (model prog w) A (execs body env) (PairPost h₀ env.locals y stored m₀ (P j) news own { s with heap := h, toks := tk } Q) E s₃) E { s with heap := h, toks := tk })
    (done : ∀ c t (u : Str → Option Value) h tk, P 0 c → Fr h₀ env.locals h (fun z => if z = y then some (.str c t) else if stored.contains z then u z else m₀ z) → News h₀ env.locals h news → Q .next { s with heap := h, toks := tk }) :
    wpAny (model prog w) A (pyIter (.ref l)) (fun it s₂ => TurnsAt prog w A h₀ env (.Tuple elts ke pe) body Q E it s₂) E s := by
  have hol : s.heap.get? l = some (W.listOf vs.toArray nn) := (N _ hl).1
  have hls : s.heap.IsList l vs.toArray := ⟨_, hol, rfl, nn, rfl⟩
  have hne : l ≠ s.heap.objs.size := Nat.ne_of_lt (Heap.lt_size hol)
  refine wpAny_pyIter_list hls ?_
  have WW := Walks.list (prog := prog) (w := w) hh s.heap.objs.size l hne vs.toArray
  have hlen : vs.toArray.size = vs.length := by simp
  rw [hlen] at WW
  refine ⟨_, _, _, vs.length, _, _, _, m₀, news, (fun i m nx => nx = news ∧ ∃ c t, m y = some (.str c t) ∧ P (vs.length - i) c ∧ ∀ z, z ≠ y → stored.contains z = false → m z = m₀ z), rfl, KTurns.ofWalks WW (fun i v s Q E st q => letGo_listiter st.1 q), ?_, ?_, ?_, ⟨⟨_, Heap.get?_push_size _ rfl, rfl, rfl⟩, hls.at fun o e => Heap.get?_push_of_some _ e⟩, F.push _, (fun p hp => ⟨Heap.get?_push_of_some _ (N p hp).1, (N p hp).2⟩), ⟨rfl, c₀, t₀, hy, hp, fun _ _ _ => rfl⟩, ?_, ?_⟩
  · intro hm
    rcases List.mem_cons.mp hm with e | hm
    · exact absurd F.ns.lt (e ▸ Nat.lt_irrefl _)
    · exact (N _ hl).2.1 ((List.mem_singleton.mp hm).symm)
  · intro b hb
    rw [List.mem_singleton.mp hb]
    exact next_is_new F
  · intro p hp hI
    exact absurd (Heap.lt_size (N p hp).1) ((List.mem_singleton.mp hI) ▸ Nat.lt_irrefl _)
  · rintro i v m₁ news₁ hh' tk' own hin hP ⟨rfl, c, t, hc, hpc, hrest⟩ hoff hown hget hfp hst F₁ N₁
    have hP' : vs[i]? = some v := by simpa using hP
    have hj : vs.length - i = (vs.length - 1 - i) + 1 := by omega
    have hj2 : vs.length - (i + 1) = vs.length - 1 - i := by omega
    have hj3 : vs.length - 1 - (vs.length - 1 - i) = i := by omega
    rw [hj] at hpc
    obtain ⟨T, ta, tb, n, rfl, hT⟩ := hds (vs.length - 1 - i) v (by omega) (by rw [hj3]; exact hP')
    have hsep : OwnOff (own.filter fun p => decide (p.1 = s.heap.objs.size)) (news₁.map (·.1)) := by
      intro p hp b hb e
      obtain ⟨q, hq, rfl⟩ := List.mem_map.mp hb
      have h1 : p.1 = s.heap.objs.size := by simpa using (List.mem_filter.mp hp).2
      exact absurd (Heap.lt_size (N q hq).1) (by rw [← e, h1]; exact Nat.lt_irrefl _)
    have N₂ : News h₀ env.locals hh' ((T, pairObj (fa (vs.length - 1 - i)) (fb (vs.length - 1 - i)) ta tb n) :: (news₁ ++ own.filter fun p => decide (p.1 = s.heap.objs.size))) := fun p hp => by
      rcases List.mem_cons.mp hp with rfl | hp
      · exact N₁ _ (List.mem_append.mpr (.inr hT))
      · exact N₁ p ((List.mem_append.mp hp).elim (fun h => List.mem_append.mpr (.inr h)) fun h => List.mem_append.mpr (.inl ((List.mem_filter.mp h).1)))
    have hlo : hh'.get? l = some (W.listOf vs.toArray nn) := (N₁ _ (List.mem_append.mpr (.inr hl))).1
    refine wpAny_mono (turn (vs.length - 1 - i) T ta tb n c t m₁ hh' tk' _ (by omega) hsep hpc (pair_fr hc hrest F₁) N₂) (fun _ s₃ h₃ => wpAny_mono h₃ (fun f s₂ p => ?_) fun _ _ e => e) fun _ _ e => e
    have fin : PairEnd h₀ env.locals y stored m₀ (P (vs.length - 1 - i)) news₁ (own.filter fun p => decide (p.1 = s.heap.objs.size)) { s with heap := hh', toks := tk' } s₂ →
        LoopStepU h₀ env.locals [s.heap.objs.size] own (fun m nx => nx = news₁ ∧ ∃ c t, m y = some (.str c t) ∧ P (vs.length - (i + 1)) c ∧ ∀ z, z ≠ y → stored.contains z = false → m z = m₀ z) { s with heap := hh', toks := tk' } .next s₂ := by
      rintro ⟨h', tk, m', news', e, F', N', hn, ho, hrest'⟩
      refine ⟨rfl, h', tk, m', news₁, e, F', fun p hp => ?_, fun p hp hI => ?_, rfl, by rw [hj2]; exact hrest'⟩
      · rcases List.mem_append.mp hp with h | h
        · by_cases hI : p.1 = s.heap.objs.size
          · exact N' p (ho p (List.mem_filter.mpr ⟨h, by simpa using hI⟩))
          · have h1 : p.1 = l := by
              rcases List.mem_cons.mp (hown p h) with h2 | h2
              · exact absurd h2 hI
              · exact List.mem_singleton.mp h2
            have h2 : hh'.get? p.1 = some p.2 := hget p h
            rw [h1, hlo] at h2
            have h3 : p = (l, W.listOf vs.toArray nn) := Prod.ext h1 (Option.some.inj h2).symm
            rw [h3]
            exact N' _ (hn _ hl)
        · exact N' p (hn p h)
      · exact absurd (Heap.lt_size (N p hp).1) ((List.mem_singleton.mp hI) ▸ Nat.lt_irrefl _)
    cases f with
    | ret v => exact .ret p
    | brk => exact .brk p
    | next => exact .next (fin p)
    | cont => exact .cont (fin p)
  · rintro h' tk m' news' F' N' _ ⟨rfl, c, t, hc, hpc, hrest⟩
    rw [Nat.sub_self] at hpc
    exact done c t m' h' tk hpc (pair_fr hc hrest F') N'
end
end

section
open PySem PySem.W PyProof.Rows
/-! the CRC, run forward and back -/
theorem stepN_lt {c : Nat} (h : c < 4294967296) : stepN c < 4294967296 := by
  unfold stepN
  split
  · exact xor_low (by omega) (by omega)
  · omega
theorem un_step {c : Nat} (h : c < 4294967296) : unN (stepN c) = c := by
  unfold stepN
  split
  · have h1 : 2147483648 ≤ (c / 2) ^^^ 3988292384 := by
      have hs := Nat.shiftRight_xor_distrib (a := c / 2) (b := 3988292384) (i := 31)
      rw [Nat.shiftRight_eq_div_pow, Nat.shiftRight_eq_div_pow, Nat.shiftRight_eq_div_pow] at hs
      have e1 : c / 2 / 2 ^ 31 = 0 := by omega
      have e2 : (3988292384 : Nat) / 2 ^ 31 = 1 := by decide
      rw [e1, e2] at hs
      simp only [Nat.zero_xor] at hs
      omega
    unfold unN
    rw [if_pos h1, Nat.xor_assoc, Nat.xor_self, Nat.xor_zero]
    omega
  · unfold unN
    rw [if_neg (by omega)]
    omega
theorem iterStep_lt {c : Nat} (h : c < 4294967296) : ∀ k, iterN stepN k c < 4294967296
  | 0 => h
  | k + 1 => stepN_lt (iterStep_lt h k)
theorem genN_lt {c : Nat} (h : c < 4294967296) : genN c < 4294967296 := iterStep_lt h 8
theorem iterN_succ' (f : Nat → Nat) : ∀ (k c : Nat), iterN f (k + 1) c = iterN f k (f c)
  | 0, _ => rfl
  | k + 1, c => congrArg f (iterN_succ' f k c)
theorem un_iter {c : Nat} (h : c < 4294967296) : ∀ k, iterN unN k (iterN stepN k c) = c
  | 0 => rfl
  | k + 1 => by
    rw [iterN_succ']
    show iterN unN k (unN (stepN (iterN stepN k c))) = c
    rw [un_step (iterStep_lt h k), un_iter h k]
theorem un_gen {c : Nat} (h : c < 4294967296) : iterN unN 8 (genN c) = c := un_iter h 8
theorem stepN_xor (a b : Nat) : stepN (a ^^^ b) = stepN a ^^^ stepN b := by
  have h2 : (a ^^^ b) / 2 = a / 2 ^^^ b / 2 := Nat.xor_div_two
  have h3 : (a ^^^ b) % 2 = (a % 2) ^^^ (b % 2) := Nat.xor_mod_two_pow (n := 1) (a := a) (b := b)
  unfold stepN
  rw [h2]
  rcases Nat.mod_two_eq_zero_or_one a with ha | ha <;> rcases Nat.mod_two_eq_zero_or_one b with hb | hb <;> rw [ha, hb] at h3 <;>
    simp only [show ((0 : Nat) ^^^ 0) = 0 from rfl, show ((0 : Nat) ^^^ 1) = 1 from rfl, show ((1 : Nat) ^^^ 0) = 1 from rfl, show ((1 : Nat) ^^^ 1) = 0 from rfl] at h3 <;>
    rw [h3, ha, hb]
  · simp
  · simp only [show ¬ ((0 : Nat) = 1) by decide, if_true, if_false]; rw [Nat.xor_assoc]
  · simp only [show ¬ ((0 : Nat) = 1) by decide, if_true, if_false]
    rw [Nat.xor_assoc, Nat.xor_assoc, Nat.xor_comm (b / 2)]
  · simp only [show ¬ ((0 : Nat) = 1) by decide, if_true, if_false]
    rw [Nat.xor_assoc, ← Nat.xor_assoc 3988292384, Nat.xor_comm 3988292384 (b / 2), Nat.xor_assoc (b / 2), Nat.xor_self, Nat.xor_zero]
theorem iterStep_xor (a b : Nat) : ∀ k, iterN stepN k (a ^^^ b) = iterN stepN k a ^^^ iterN stepN k b
  | 0 => rfl
  | k + 1 => by
    show stepN (iterN stepN k (a ^^^ b)) = stepN (iterN stepN k a) ^^^ stepN (iterN stepN k b)
    rw [iterStep_xor a b k, stepN_xor]
theorem stepN_dbl (x : Nat) : stepN (2 * x) = x := by unfold stepN; rw [if_neg (by omega)]; omega
theorem genN_shl (x : Nat) : genN (256 * x) = x := by
  unfold genN
  rw [show 256 * x = 2 * (2 * (2 * (2 * (2 * (2 * (2 * (2 * x))))))) by omega]
  rw [iterN_succ', stepN_dbl, iterN_succ', stepN_dbl, iterN_succ', stepN_dbl, iterN_succ', stepN_dbl, iterN_succ', stepN_dbl, iterN_succ', stepN_dbl, iterN_succ', stepN_dbl, iterN_succ', stepN_dbl]
  rfl
/-- the signs as one number, the first one lowest -/
def wordN : List Nat → Nat
  | [] => 0
  | c :: r => c + 256 * wordN r
theorem xor_byte {c x : Nat} (h : c < 256) : c ^^^ (256 * x) = c + 256 * x := by
  have h1 := xor_and_nat c (256 * x)
  have h2 : c &&& (256 * x) = 0 := by
    apply Nat.eq_of_testBit_eq
    intro i
    rw [Nat.testBit_and, Nat.zero_testBit]
    by_cases hi : i < 8
    · have : (256 * x).testBit i = false := by
        rw [show 256 * x = 2 ^ 8 * x from rfl, Nat.testBit_two_pow_mul]
        simp; omega
      rw [this, Bool.and_false]
    · have : c.testBit i = false := Nat.testBit_lt_two_pow (Nat.lt_of_lt_of_le h (by
        show 2 ^ 8 ≤ 2 ^ i
        exact Nat.pow_le_pow_right (by decide) (by omega)))
      rw [this, Bool.false_and]
  omega
def iterG : Nat → Nat → Nat
  | 0, s => s
  | k + 1, s => iterG k (genN s)
theorem fwd_word : ∀ (l : List Nat) (s : Nat), (∀ c ∈ l, c < 256) → fwdFrom s (ordsL l) = iterG l.length (s ^^^ wordN l)
  | [], s, _ => by simp [fwdFrom, ordsL, wordN, iterG]
  | c :: r, s, h => by
    have hc := h c (.head _)
    show fwdFrom (genN (s ^^^ (c : Int).toNat)) (ordsL r) = iterG r.length (genN (s ^^^ (c + 256 * wordN r)))
    rw [fwd_word r _ fun q hq => h q (.tail _ hq), Int.toNat_natCast, ← xor_byte hc, ← Nat.xor_assoc]
    congr 1
    unfold genN
    rw [iterStep_xor (s ^^^ c) (256 * wordN r)]
    congr 1
    exact (genN_shl (wordN r)).symm
theorem wordN_lt : ∀ (l : List Nat), (∀ c ∈ l, c < 256) → wordN l < 256 ^ l.length
  | [], _ => by decide
  | c :: r, h => by
    have h1 := wordN_lt r fun q hq => h q (.tail _ hq)
    have hc := h c (.head _)
    show c + 256 * wordN r < 256 ^ (r.length + 1)
    rw [Nat.pow_succ]
    omega
theorem wordN_low {l : List Nat} (h : ∀ c ∈ l, c < 256) (hl : l.length ≤ 4) : wordN l < 4294967296 := by
  have h1 := wordN_lt l h
  have h2 : 256 ^ l.length ≤ 256 ^ 4 := Nat.pow_le_pow_right (by decide) hl
  have h3 : (256 : Nat) ^ 4 = 4294967296 := by decide
  omega
theorem iterG_lt : ∀ (k : Nat) {s : Nat}, s < 4294967296 → iterG k s < 4294967296
  | 0, _, h => h
  | k + 1, _, h => iterG_lt k (genN_lt h)
theorem fwdFrom_lt {s : Nat} (h : s < 4294967296) : ∀ {l : List Int}, (∀ o ∈ l, 0 ≤ o ∧ o < 256) → fwdFrom s l < 4294967296 := by
  intro l
  induction l generalizing s with
  | nil => intro _; exact h
  | cons o l ih =>
    intro hl
    have ho := hl o (.head _)
    exact ih (s := genN (s ^^^ o.toNat)) (genN_lt (xor_low h (by omega))) fun q hq => hl q (.tail _ hq)
/-- back over the very octets -/
theorem back_fwd {s : Nat} (h : s < 4294967296) : ∀ {l : List Int}, (∀ o ∈ l, 0 ≤ o ∧ o < 256) → backI (fwdFrom s l) l = s := by
  intro l
  induction l generalizing s with
  | nil => intro _; rfl
  | cons o l ih =>
    intro hl
    have ho := hl o (.head _)
    have hs : s ^^^ o.toNat < 4294967296 := xor_low h (by omega)
    have ih' := ih (s := genN (s ^^^ o.toNat)) (genN_lt hs) fun q hq => hl q (.tail _ hq)
    unfold backI at ih' ⊢
    rw [List.reverse_cons, bkN_snoc]
    show iterN unN 8 (bkN (fwdFrom (genN (s ^^^ o.toNat)) l) l.reverse) ^^^ o.toNat = s
    rw [ih', un_gen hs, Nat.xor_assoc, Nat.xor_self, Nat.xor_zero]
theorem back_zeros {s : Nat} (h : s < 4294967296) : ∀ k, backI (iterG k s) (List.replicate k (0 : Int)) = s := by
  intro k
  have e : ∀ k s, iterG k s = fwdFrom s (List.replicate k (0 : Int)) := by
    intro k
    induction k with
    | zero => intro s; rfl
    | succ k ih =>
      intro s
      show iterG k (genN s) = fwdFrom (genN (s ^^^ (0 : Int).toNat)) (List.replicate k 0)
      rw [ih]
      simp
  rw [e]
  exact back_fwd h fun o ho => by
    have := List.eq_of_mem_replicate ho
    omega
/-! the cut of a text: ahead, the lost signs, behind -/
def fewN (l : List Nat) : Nat := min 4 l.length
def halfN (l : List Nat) : Nat := (l.length - fewN l) / 2
def pA (l : List Nat) : List Nat := l.take (halfN l)
def pM (l : List Nat) : List Nat := (l.drop (halfN l)).take (fewN l)
def pB (l : List Nat) : List Nat := l.drop (halfN l + fewN l)
theorem parts_eq (l : List Nat) : pA l ++ pM l ++ pB l = l := by
  unfold pA pM pB
  rw [List.append_assoc, ← List.drop_drop, List.take_append_drop, List.take_append_drop]
theorem half_le (l : List Nat) : halfN l + fewN l ≤ l.length := by unfold halfN fewN; omega
theorem pA_length (l : List Nat) : (pA l).length = halfN l := by
  have := half_le l
  unfold pA; rw [List.length_take]; omega
theorem pM_length (l : List Nat) : (pM l).length = fewN l := by
  have := half_le l
  unfold pM; rw [List.length_take, List.length_drop]; omega
theorem cram_parts (l : List Nat) : cramL l ((l.length : Int) - 1) = pA l ++ [46, 46, 46] ++ pB l := by
  unfold cramL
  have hq : ((l.length : Int) - 1 - 3).fdiv 2 = ((l.length : Int) - 1 - 3) / 2 := Int.fdiv_eq_ediv_of_nonneg _ (by decide)
  rw [if_pos (by omega), hq]
  have e1 : (((l.length : Int) - 1 - 3) / 2).toNat = halfN l := by unfold halfN fewN; omega
  rw [e1]
  have e2 : l.length - ((l.length : Int) - 1 - 3 - (halfN l : Int)).toNat = halfN l + fewN l := by unfold halfN fewN; omega
  rw [e2]
  rfl
theorem Ls_parts (t : List Nat) (j : Nat) : Ls t (j + 1) = pA (Ls t j) ++ [46, 46, 46] ++ pB (Ls t j) := cram_parts _
/-- how many turns -/
def KN (t : List Nat) : Nat := max 1 (t.length - 3)
/-- the text of m signs, cut by the middle -/
def Cm (t : List Nat) (m : Nat) : List Nat := t.take ((m - 3) / 2) ++ [46, 46, 46] ++ t.drop (t.length - ((m - 3) - (m - 3) / 2))
theorem Cm_length {t : List Nat} {m : Nat} (h3 : 3 ≤ m) (hm : m ≤ t.length + 3) : (Cm t m).length = m := by
  unfold Cm
  simp only [List.length_append, List.length_take, List.length_drop, List.length_cons, List.length_nil]
  omega
theorem Cm_take {t : List Nat} {m k : Nat} (hk : k ≤ (m - 3) / 2) (hm : m ≤ t.length + 3) : (Cm t m).take k = t.take k := by
  unfold Cm
  rw [List.append_assoc, List.take_append_of_le_length (by rw [List.length_take]; omega), List.take_take]
  congr 1
  omega
theorem Cm_drop {t : List Nat} {m k : Nat} (h3 : 3 ≤ m) (hm : m ≤ t.length + 3) (hk : k ≤ (m - 3) - (m - 3) / 2) : (Cm t m).drop (m - k) = t.drop (t.length - k) := by
  unfold Cm
  have hl : (List.take ((m - 3) / 2) t ++ [46, 46, 46]).length = (m - 3) / 2 + 3 := by
    simp only [List.length_append, List.length_take, List.length_cons, List.length_nil]
    omega
  rw [List.drop_append, List.drop_of_length_le (by omega), List.nil_append, List.drop_drop, hl]
  congr 1
  omega
theorem Cm_step {t : List Nat} {m : Nat} (h4 : 4 ≤ m) (hm : m ≤ t.length + 3) : cramL (Cm t m) ((m : Int) - 1) = Cm t (m - 1) := by
  have hl := Cm_length (t := t) (m := m) (by omega) hm
  unfold cramL
  have hq : ((m : Int) - 1 - 3).fdiv 2 = ((m : Int) - 1 - 3) / 2 := Int.fdiv_eq_ediv_of_nonneg _ (by decide)
  rw [if_pos (by omega), hq, hl]
  have e1 : (((m : Int) - 1 - 3) / 2).toNat = (m - 1 - 3) / 2 := by omega
  have e2 : ((m : Int) - 1 - 3 - ((((m : Int) - 1 - 3) / 2).toNat : Int)).toNat = (m - 1 - 3) - (m - 1 - 3) / 2 := by omega
  rw [e2, e1, Cm_take (by omega) hm, Cm_drop (by omega) hm (by omega)]
  rfl
theorem Ls_form {t : List Nat} (h4 : 4 ≤ t.length) : ∀ i, 1 ≤ i → i ≤ t.length - 3 → Ls t i = Cm t (t.length - i)
  | 0, h, _ => absurd h (by decide)
  | 1, _, _ => by
    show cramL t ((t.length : Int) - 1) = _
    unfold cramL Cm
    have hq : ((t.length : Int) - 1 - 3).fdiv 2 = ((t.length : Int) - 1 - 3) / 2 := Int.fdiv_eq_ediv_of_nonneg _ (by decide)
    rw [if_pos (by omega), hq]
    have e1 : (((t.length : Int) - 1 - 3) / 2).toNat = (t.length - 1 - 3) / 2 := by omega
    have e2 : ((t.length : Int) - 1 - 3 - ((((t.length : Int) - 1 - 3) / 2).toNat : Int)).toNat = (t.length - 1 - 3) - (t.length - 1 - 3) / 2 := by omega
    rw [e2, e1]
  | i + 2, _, h => by
    have ih := Ls_form h4 (i + 1) (by omega) (by omega)
    show cramL (Ls t (i + 1)) (((Ls t (i + 1)).length : Int) - 1) = _
    rw [ih, Cm_length (by omega) (by omega), Cm_step (by omega) (by omega)]
    congr 1
theorem Ls_end (t : List Nat) : Ls t (KN t) = [46, 46, 46] := by
  by_cases h : 4 ≤ t.length
  · have hk : KN t = t.length - 3 := by unfold KN; omega
    rw [hk, Ls_form h _ (by omega) (Nat.le_refl _)]
    have e : t.length - (t.length - 3) = 3 := by omega
    rw [e]
    unfold Cm
    simp
  · have hk : KN t = 1 := by unfold KN; omega
    rw [hk, Ls_parts]
    show pA t ++ [46, 46, 46] ++ pB t = _
    have e1 : pA t = [] := by
      have h0 : halfN t = 0 := by unfold halfN fewN; omega
      unfold pA; rw [h0]; rfl
    have e2 : pB t = [] := by
      have h0 : halfN t + fewN t = t.length := by unfold halfN fewN; omega
      unfold pB; rw [h0]; exact List.drop_length
    rw [e1, e2]; rfl
theorem Ls_clean {t : List Nat} (h : 46 ∉ t) {j : Nat} (hj : j < KN t) : 46 ∉ pA (Ls t j) ∧ 46 ∉ pB (Ls t j) := by
  cases j with
  | zero => exact ⟨fun q => h (List.mem_of_mem_take q), fun q => h (List.mem_of_mem_drop q)⟩
  | succ j =>
    have h4 : 4 ≤ t.length := by unfold KN at hj; omega
    have hj' : j + 1 < t.length - 3 := by unfold KN at hj; omega
    rw [Ls_form h4 (j + 1) (by omega) (by omega)]
    have hl := Cm_length (t := t) (m := t.length - (j + 1)) (by omega) (by omega)
    have hf : fewN (Cm t (t.length - (j + 1))) = 4 := by unfold fewN; omega
    have hh : halfN (Cm t (t.length - (j + 1))) = (t.length - (j + 1) - 4) / 2 := by unfold halfN; rw [hf, hl]
    constructor
    · unfold pA
      rw [hh, Cm_take (by omega) (by omega)]
      exact fun q => h (List.mem_of_mem_take q)
    · unfold pB
      rw [hh, hf]
      have e : (t.length - (j + 1) - 4) / 2 + 4 = (t.length - (j + 1)) - (t.length - (j + 1) - 4 - (t.length - (j + 1) - 4) / 2) := by omega
      rw [e, Cm_drop (by omega) (by omega) (by omega)]
      exact fun q => h (List.mem_of_mem_drop q)
theorem Ls_low {t : List Nat} (h : ∀ c ∈ t, c < 256) : ∀ i, ∀ c ∈ Ls t i, c < 256
  | 0 => h
  | i + 1 => by
    rw [Ls_parts]
    intro c hc
    have ih := Ls_low h i
    rcases List.mem_append.mp hc with hc | hc
    · rcases List.mem_append.mp hc with hc | hc
      · exact ih c (List.mem_of_mem_take hc)
      · rcases List.mem_cons.mp hc with rfl | hc
        · decide
        · rcases List.mem_cons.mp hc with rfl | hc
          · decide
          · rw [List.mem_singleton.mp hc]; decide
    · exact ih c (List.mem_of_mem_drop hc)
theorem codeOf_ok (x : Int) : codeOf x < 256 ∧ codeOf x ≠ 46 := by
  have h1 := Int.fmod_nonneg_of_pos x (b := 255) (by decide)
  have h2 := Int.fmod_lt_of_pos x (b := 255) (by decide)
  unfold codeOf
  split <;> omega
theorem tOf_ok (ns : List Int) : (∀ c ∈ tOf ns, c < 256) ∧ 46 ∉ tOf ns := by
  unfold tOf
  constructor
  · intro c hc
    obtain ⟨x, _, rfl⟩ := List.mem_map.mp hc
    exact (codeOf_ok x).1
  · intro hc
    obtain ⟨x, _, e⟩ := List.mem_map.mp hc
    exact (codeOf_ok x).2 e
end

section
open PySem PySem.W PyProof.Rows PySem.Calls
/-- the turns of loop 2, as the walk says them -/
theorem turns_eq {x : Str} {ns : List Int} (h : x = txt (List.map codeOf (List.take 16 ns))) : (rangeKs 0 (((if (x.length : Int) - 3 > 1 then (x.length : Int) - 3 else 1) - 0 : Int)).toNat).length = KN (tOf ns) := by
  have e : x.length = (tOf ns).length := by rw [h, txt_length]; rfl
  rw [rangeKs_length, e]
  unfold KN
  split <;> omega
theorem left_end {x y : Str} {ns : List Int} (h : x = txt (List.map codeOf (List.take 16 ns))) (hy : y = txt (Ls (tOf ns) (rangeKs 0 (((if (x.length : Int) - 3 > 1 then (x.length : Int) - 3 else 1) - 0 : Int)).toNat).length)) : y = Str.ofString "..." := by
  rw [hy, turns_eq h, Ls_end, dots_txt]
section
variable {prog : Program} {w : World} {A : Around} {E : Value → Shared → Prop} {s : Shared}
theorem ne_same {x y : Str} {t u : Tok} {Q : Value → Shared → Prop} (e : x = y) (h : Q (.bool false) s) : wpAny (model prog w) A (compareOp .NotEq (.str x t) (.str y u)) Q E s := by
  refine ne_str ?_
  rw [e, bne_self_eq_false]
  exact h
theorem eq_same {x y : Str} {t u : Tok} {Q : Value → Shared → Prop} (e : x = y) (h : Q (.bool true) s) : wpAny (model prog w) A (compareOp .Eq (.str x t) (.str y u)) Q E s := by
  refine eq_str ?_
  rw [e, beq_self_eq_true]
  exact h
end
/-- what loop 3 keeps -/
def BackP (ns : List Int) (r : Nat) (c : Str) : Prop := c = txt (Ls (tOf ns) r) ∧ c.length ≤ 16 ∧ r ≤ KN (tOf ns)
theorem pairs_start {x y : Str} {ns : List Int} {us : List Value} {L9 : List (Addr × Obj)} (h : x = txt (List.map codeOf (List.take 16 ns))) (hy : y = txt (Ls (tOf ns) (rangeKs 0 (((if (x.length : Int) - 3 > 1 then (x.length : Int) - 3 else 1) - 0 : Int)).toNat).length)) (hl : y.length ≤ 16)
    (hD : DatAll L9 us (bookD (tOf ns) (rangeKs 0 (((if (x.length : Int) - 3 > 1 then (x.length : Int) - 3 else 1) - 0 : Int)).toNat).length)) : BackP ns us.reverse.length y := by
  have e := turns_eq h
  rw [e] at hy hD
  have h2 := hD.length
  rw [bookD_length] at h2
  rw [List.length_reverse, h2]
  exact ⟨hy, hl, Nat.le_refl _⟩
theorem pairs_items {ns : List Int} {k : Nat} {us : List Value} {L9 news : List (Addr × Obj)} (hD : DatAll L9 us (bookD (tOf ns) k)) (hs : ∀ p ∈ L9, p ∈ news) :
    ∀ (j : Nat) (v : Value), j < us.reverse.length → us.reverse[us.reverse.length - 1 - j]? = some v → ∃ T ta tb n, v = Value.ref T ∧ (T, pairObj ((Ls (tOf ns) j).length : Int) (crcL (Ls (tOf ns) j) : Int) ta tb n) ∈ news := by
  intro j v hj hv
  have hl := hD.length
  rw [bookD_length] at hl
  rw [List.length_reverse] at hj hv
  rw [List.getElem?_reverse (by omega)] at hv
  have e : us.length - 1 - (us.length - 1 - j) = j := by omega
  rw [e] at hv
  obtain ⟨v', hv', hI⟩ := hD.get (k := j) (by rw [bookD_length]; omega)
  rw [hv] at hv'
  cases hv'
  have e2 : (bookD (tOf ns) k)[j]'(by rw [bookD_length]; omega) = Dat.tuple [Dat.int ((Ls (tOf ns) j).length : Int), Dat.int (crcL (Ls (tOf ns) j) : Int)] := by
    unfold bookD
    rw [List.getElem_map, List.getElem_range]
  rw [e2] at hI
  cases hI with
  | tuple hm ha =>
    cases ha with
    | cons h1 r1 =>
      cases h1 with
      | int i ta =>
        cases r1 with
        | cons h2 r2 =>
          cases h2 with
          | int i2 tb =>
            cases r2
            exact ⟨_, ta, tb, _, rfl, hs _ hm⟩
theorem book_size {x : Str} {ns : List Int} {us : List Value} {L9 : List (Addr × Obj)} (h : x = txt (List.map codeOf (List.take 16 ns)))
    (hD : DatAll L9 us (bookD (tOf ns) (rangeKs 0 (((if (x.length : Int) - 3 > 1 then (x.length : Int) - 3 else 1) - 0 : Int)).toNat).length)) : us.toArray.size ≤ sizeLine := by
  have e := turns_eq h
  rw [e] at hD
  have h2 := hD.length
  rw [bookD_length] at h2
  have h3 := tOf_len ns
  rw [List.size_toArray, sizeLine_eq, h2]
  unfold KN
  omega
end

section
open PySem PySem.W PyProof.Rows
theorem cram_same (w : World) (mean : ExcName → Option Value) (mg mb : Str → Option Value) (news : List (Addr × Obj)) {t : List Nat} {i : Nat} {x : Str} (tx : Tok) (tn : Tok) (hx : x = txt (Ls t i)) (ht : t.length ≤ 16) :
    Tells 1 w mean mg mb 28 news [.str x tx, .int (x.length : Int) tn] (fun u => .str x u) := by
  subst hx
  have h := cram_tells w mean mg mb news (Ls t i) tx ((Ls t i).length : Int) tn (Nat.le_trans (Ls_len ht i) (by decide))
  rw [cramL_same] at h
  rw [txt_length]
  exact h
theorem cram_next (w : World) (mean : ExcName → Option Value) (mg mb : Str → Option Value) (news : List (Addr × Obj)) {t : List Nat} {i : Nat} {x : Str} (tx : Tok) (tn : Tok) (hx : x = txt (Ls t i)) (ht : t.length ≤ 16) :
    Tells 1 w mean mg mb 28 news [.str x tx, .int ((x.length : Int) - 1) tn] (fun u => .str (txt (Ls t (i + 1))) u) := by
  subst hx
  rw [txt_length]
  exact cram_tells w mean mg mb news (Ls t i) tx (((Ls t i).length : Int) - 1) tn (Nat.le_trans (Ls_len ht i) (by decide))
end

section
open PySem PySem.W PyProof.Rows
theorem few_eq (l : List Nat) : (if (l.length : Int) < 4 then (l.length : Int) else 4) = ((fewN l : Nat) : Int) := by
  unfold fewN; split <;> omega
theorem half_eq (l : List Nat) : ((l.length : Int) - if (l.length : Int) < 4 then (l.length : Int) else 4).fdiv 2 = ((halfN l : Nat) : Int) := by
  rw [few_eq, Int.fdiv_eq_ediv_of_nonneg _ (by decide)]
  have := half_le l
  unfold halfN
  omega
theorem slice_A {t : List Nat} {j : Nat} {c : Str} (hc : c = txt (Ls t (j + 1))) :
    KStt.codes (Txt.slice c none (some ((((Ls t j).length : Int) - if ((Ls t j).length : Int) < 4 then ((Ls t j).length : Int) else 4).fdiv 2))) = ordsL (pA (Ls t j)) := by
  have hA := pA_length (Ls t j)
  rw [half_eq, hc, Ls_parts, slice_take (by omega) (by simp only [List.length_append, hA]; omega), codes_txt, Int.toNat_natCast, ← hA, List.append_assoc, List.take_left]
theorem slice_B {t : List Nat} {j : Nat} {c : Str} (hc : c = txt (Ls t (j + 1))) :
    KStt.codes (Txt.slice c (some ((((Ls t j).length : Int) - if ((Ls t j).length : Int) < 4 then ((Ls t j).length : Int) else 4).fdiv 2 + 3)) none) = ordsL (pB (Ls t j)) := by
  have hA := pA_length (Ls t j)
  have e : (((halfN (Ls t j) : Nat) : Int) + 3).toNat = (pA (Ls t j) ++ [46, 46, 46]).length := by
    rw [List.length_append, hA]; simp only [List.length_cons, List.length_nil]; omega
  rw [half_eq, hc, Ls_parts, slice_drop (by omega) (by simp only [List.length_append, hA, List.length_cons, List.length_nil]; omega), codes_txt, e, List.drop_left]
theorem ordsL_ok {l : List Nat} (h : ∀ c ∈ l, c < 256) : ∀ o ∈ ordsL l, 0 ≤ o ∧ o < 256 := by
  intro o ho
  obtain ⟨c, hc, rfl⟩ := List.mem_map.mp ho
  have := h c hc
  omega
/-- the state ahead of the signs behind the cut -/
def behindN (l : List Nat) : Nat := fwdFrom (fwdI (ordsL (pA l))) (ordsL (pM l))
def lostN (l : List Nat) : Nat := fwdI (ordsL (pA l)) ^^^ wordN (pM l)
theorem parts_low {l : List Nat} (h : ∀ c ∈ l, c < 256) : (∀ c ∈ pA l, c < 256) ∧ (∀ c ∈ pM l, c < 256) ∧ (∀ c ∈ pB l, c < 256) :=
  ⟨fun c hc => h c (List.mem_of_mem_take hc), fun c hc => h c (List.mem_of_mem_drop (List.mem_of_mem_take hc)), fun c hc => h c (List.mem_of_mem_drop hc)⟩
theorem fwdI_lt {l : List Nat} (h : ∀ c ∈ l, c < 256) : fwdI (ordsL l) < 4294967296 := fwdFrom_lt (by decide) (ordsL_ok h)
theorem behind_lt {l : List Nat} (h : ∀ c ∈ l, c < 256) : behindN l < 4294967296 := fwdFrom_lt (fwdI_lt (parts_low h).1) (ordsL_ok (parts_low h).2.1)
theorem fwd_parts (l : List Nat) : fwdI (ordsL l) = fwdFrom (behindN l) (ordsL (pB l)) := by
  have e : ordsL l = ordsL (pA l) ++ ordsL (pM l) ++ ordsL (pB l) := by
    unfold ordsL
    rw [← List.map_append, ← List.map_append, parts_eq]
  rw [e]
  unfold fwdI behindN fwdI fwdFrom
  rw [List.foldl_append, List.foldl_append]
theorem back_behind {l : List Nat} (h : ∀ c ∈ l, c < 256) : backI (fwdI (ordsL l)) (ordsL (pB l)) = behindN l := by
  rw [fwd_parts]
  exact back_fwd (behind_lt h) (ordsL_ok (parts_low h).2.2)
theorem back_lost {l : List Nat} (h : ∀ c ∈ l, c < 256) : backI (behindN l) (List.replicate (fewN l) (0 : Int)) = lostN l := by
  have e : behindN l = iterG (fewN l) (lostN l) := by
    unfold behindN lostN
    rw [fwd_word _ _ (parts_low h).2.1, pM_length]
  rw [e]
  have h4 : (pM l).length ≤ 4 := by rw [pM_length]; unfold fewN; omega
  exact back_zeros (xor_low (fwdI_lt (parts_low h).1) (wordN_low (parts_low h).2.1 h4)) _
theorem crc_back (l : List Nat) : Builtin.bitXor ((crcL l : Nat) : Int) 4294967295 = ((fwdI (ordsL l) : Nat) : Int) := by
  refine (bitXor_nat _ 4294967295).trans ?_
  unfold crcL
  rw [Nat.xor_assoc, Nat.xor_self, Nat.xor_zero]
theorem lost_xor (l : List Nat) : Builtin.bitXor ((lostN l : Nat) : Int) ((fwdI (ordsL (pA l)) : Nat) : Int) = ((wordN (pM l) : Nat) : Int) := by
  refine (bitXor_nat _ _).trans ?_
  unfold lostN
  rw [Nat.xor_comm, ← Nat.xor_assoc, Nat.xor_self, Nat.zero_xor]
section
variable (w : World) (mean : ExcName → Option Value) (mg mb : Str → Option Value) (news : List (Addr × Obj)) (l : Addr) (vs : List Value) (n : Nat)
theorem ahead_tells {t : List Nat} {j : Nat} {c : Str} (hm : (l, W.listOf vs.toArray n) ∈ news) (hi : IntsAre vs (KStt.codes (Txt.slice c none (some ((((Ls t j).length : Int) - if ((Ls t j).length : Int) < 4 then ((Ls t j).length : Int) else 4).fdiv 2))))) (hc : c = txt (Ls t (j + 1))) :
    Tells 2 w mean mg mb 42 news [.ref l] (fun u => .int (fwdI (ordsL (pA (Ls t j))) : Int) u) := by
  rw [slice_A hc] at hi
  refine fwd_tells w mean mg mb news l vs n _ hm hi ?_
  intro o ho
  obtain ⟨c, _, rfl⟩ := List.mem_map.mp ho
  omega
theorem behind_tells {t : List Nat} {j : Nat} {c : Str} (ts : Tok) (hm : (l, W.listOf vs.toArray n) ∈ news) (hi : IntsAre vs (KStt.codes (Txt.slice c (some ((((Ls t j).length : Int) - if ((Ls t j).length : Int) < 4 then ((Ls t j).length : Int) else 4).fdiv 2 + 3)) none))) (hc : c = txt (Ls t (j + 1)))
    (ht : ∀ c ∈ t, c < 256) (hl : t.length ≤ 16) : Tells 1 w mean mg mb 49 news [.int (Builtin.bitXor (crcL (Ls t j) : Int) 4294967295) ts, .ref l] (fun u => .int (behindN (Ls t j) : Int) u) := by
  have hlow := Ls_low ht j
  rw [slice_B hc] at hi
  rw [crc_back]
  have h2 := fwdI_lt hlow
  have h := back_tells w mean mg mb news ((fwdI (ordsL (Ls t j)) : Nat) : Int) ts l vs n _ hm hi (ordsL_ok (parts_low hlow).2.2) ⟨by omega, by omega⟩ (by
    have := Ls_len hl j
    unfold ordsL pB
    rw [List.length_map, List.length_drop]
    omega)
  rw [Int.toNat_natCast, back_behind hlow] at h
  exact h
theorem lost_tells {t : List Nat} {j : Nat} (ts : Tok) (hm : (l, W.listOf vs.toArray n) ∈ news) {zs : List Int} (hi : IntsAre vs zs) (hz : zs = List.replicate (fewN (Ls t j)) (0 : Int))
    (ht : ∀ c ∈ t, c < 256) : Tells 1 w mean mg mb 49 news [.int (behindN (Ls t j) : Int) ts, .ref l] (fun u => .int (lostN (Ls t j) : Int) u) := by
  have hlow := Ls_low ht j
  subst hz
  have h2 := behind_lt hlow
  have h := back_tells w mean mg mb news ((behindN (Ls t j) : Nat) : Int) ts l vs n _ hm hi (fun o ho => by have := List.eq_of_mem_replicate ho; omega) ⟨by omega, by omega⟩ (by
    rw [List.length_replicate]; unfold fewN; omega)
  rw [Int.toNat_natCast, back_lost hlow] at h
  exact h
end
theorem zeros_eq (l : List Nat) : (List.replicate (if (l.length : Int) < 4 then (l.length : Int) else 4).toNat [(0 : Int)]).flatten = List.replicate (fewN l) 0 := by
  rw [few_eq, Int.toNat_natCast]
  induction fewN l with
  | zero => rfl
  | succ k ih => rw [List.replicate_succ, List.flatten_cons, ih, List.replicate_succ]; rfl
theorem signs_zero {l : List Nat} : Str.ofString "" = txt ((pM l).take ([] : List Int).length) ∧ Builtin.bitXor ((lostN l : Nat) : Int) ((fwdI (ordsL (pA l)) : Nat) : Int) = ((wordN ((pM l).drop ([] : List Int).length) : Nat) : Int) ∧ (Str.ofString "").length ≤ 4 := by
  refine ⟨?_, lost_xor l, by decide +kernel⟩
  rw [List.length_nil, List.take_zero]
  decide +kernel
theorem signs_step {l : List Nat} {x : Str} {o : Int} {pre : List Int} {k : Int} (hx : x = txt ((pM l).take pre.length)) (ho : o = ((wordN ((pM l).drop pre.length) : Nat) : Int)) (hk : pre.length < ((if (l.length : Int) < 4 then (l.length : Int) else 4) - 0).toNat) (hl : ∀ c ∈ l, c < 256) :
    x ++ { cps := #[(o.fmod 256).toNat] } = txt ((pM l).take (pre ++ [k]).length) ∧ o.fdiv 256 = ((wordN ((pM l).drop (pre ++ [k]).length) : Nat) : Int) ∧ (x ++ { cps := #[(o.fmod 256).toNat] }).length ≤ 4 := by
  rw [few_eq] at hk
  have hM := pM_length l
  have hlt : pre.length < (pM l).length := by omega
  have e1 : (pre ++ [k]).length = pre.length + 1 := by simp
  have hd : (pM l).drop pre.length = (pM l)[pre.length]'hlt :: (pM l).drop (pre.length + 1) := List.drop_eq_getElem_cons hlt
  have hc : (pM l)[pre.length]'hlt < 256 := (parts_low hl).2.1 _ (List.getElem_mem hlt)
  rw [hd] at ho
  have ho' : o = (((pM l)[pre.length]'hlt + 256 * wordN ((pM l).drop (pre.length + 1)) : Nat) : Int) := ho
  have h1 : o.fmod 256 = (((pM l)[pre.length]'hlt : Nat) : Int) := by
    rw [Int.fmod_eq_emod_of_nonneg _ (by decide), ho']
    omega
  have h2 : o.fdiv 256 = ((wordN ((pM l).drop (pre.length + 1)) : Nat) : Int) := by
    rw [Int.fdiv_eq_ediv_of_nonneg _ (by decide), ho']
    omega
  rw [h1, h2, e1, Int.toNat_natCast, hx]
  have e2 : txt ((pM l).take pre.length) ++ { cps := #[(pM l)[pre.length]'hlt] } = txt ((pM l).take (pre.length + 1)) := by
    have e3 : (pM l).take (pre.length + 1) = (pM l).take pre.length ++ [(pM l)[pre.length]'hlt] := by
      rw [List.take_add_one, List.getElem?_eq_getElem hlt]; rfl
    rw [e3, ← txt_append]
    rfl
  refine ⟨e2, rfl, ?_⟩
  rw [e2, txt_length, List.length_take]
  unfold fewN at hM
  omega
theorem lost_none {l : List Nat} {o : Int} (ho : o = ((wordN ((pM l).drop (rangeKs 0 ((if (l.length : Int) < 4 then (l.length : Int) else 4) - 0 : Int).toNat).length) : Nat) : Int)) : o = 0 := by
  rw [rangeKs_length, few_eq, ← pM_length] at ho
  have e : ((((pM l).length : Nat) : Int) - 0).toNat = (pM l).length := by omega
  rw [e, List.drop_length] at ho
  exact ho
section
variable {prog : Program} {w : World} {A : Around} {E : Value → Shared → Prop} {s : Shared}
theorem ne_int_same {x y : Int} {t u : Tok} {Q : Value → Shared → Prop} (e : x = y) (h : Q (.bool false) s) : wpAny (model prog w) A (compareOp .NotEq (.int x t) (.int y u)) Q E s := by
  refine ne_int ?_
  rw [e]
  simpa using h
end
theorem repl_back (w : World) (mean : ExcName → Option Value) (mg mb : Str → Option Value) (news : List (Addr × Obj)) {t : List Nat} {j : Nat} {c x : Str} (tx td ts : Tok) (hc : c = txt (Ls t (j + 1)))
    (hx : x = txt ((pM (Ls t j)).take (rangeKs 0 ((if ((Ls t j).length : Int) < 4 then ((Ls t j).length : Int) else 4) - 0 : Int).toNat).length)) (hj : j + 1 ≤ KN t) (ht : 46 ∉ t) (hl : t.length ≤ 16) :
    Tells 1 w mean mg mb 21 news [.str c tx, .str (Str.ofString "...") td, .str x ts] (fun u => .str (txt (Ls t j)) u) := by
  have e : ((((pM (Ls t j)).length : Nat) : Int) - 0).toNat = (pM (Ls t j)).length := by omega
  rw [rangeKs_length, few_eq, ← pM_length, e, List.take_length] at hx
  have hcl := Ls_clean ht (j := j) (by omega)
  have hlen := Ls_len hl j
  have h := repl_tells w mean mg mb news (pA (Ls t j)) (pB (Ls t j)) tx (pM (Ls t j)) td ts (by rw [pA_length]; have := half_le (Ls t j); omega) (by unfold pB; rw [List.length_drop]; omega) (by rw [pM_length]; unfold fewN; omega) hcl.1 hcl.2
  rw [parts_eq, ← Ls_parts, ← hx, ← hc] at h
  exact h
theorem back_next {ns : List Int} {j : Nat} (h : j + 1 ≤ KN (tOf ns)) : BackP ns j (txt (Ls (tOf ns) j)) := by
  refine ⟨rfl, ?_, by omega⟩
  rw [txt_length]
  exact Ls_len (tOf_len ns) j
theorem back_text {ns : List Int} {c x : Str} (hc : c = txt (Ls (tOf ns) 0)) (hx : x = txt (List.map codeOf (List.take 16 ns))) : c = x := by rw [hc, hx]; rfl
end

section
open PySem PySem.W PyProof.Rows
local macro_rules | `(tactic| walk_at "pyIter ref") => `(tactic| k_extra "pyIter ref")
local macro_rules | `(tactic| walk_at "call ref") => `(tactic| k_extra "call ref")
local macro_rules | `(tactic| walk_at "eval ListComp") => `(tactic| (k_here; k_dflt (refine comp_txt (by k_asm) (by with_unfolding_all rfl) (by decide) (by rfl) (by decide) (by rfl) ?_)))
local macro_rules | `(tactic| walk_at "TxtSrc") => `(tactic| (k_here; k_dflt (refine' TxtSrc.intro ?a1 ?a2 ?a3 ?a4 (fun k' t' I' oI' C' oC' D' m' ys' h' tk' E' hk' hC' hx' F' N' off' ne' => ?_) (fun D' ys' h' tk' hI' F' N' o1' => ?_); (case a1 => exact rfl); (case a2 => k_asm); (case a3 => k_asm); (case a4 => first | assumption | omega | fail "size")); (all_goals (try (simp only [LCg.Off3, and_true] at off'))); (all_goals (try (simp only [LCg.Off1, and_true] at o1'))); (all_goals (try dsimp only)); (all_goals (try k_fold))))
local macro_rules | `(tactic| walk_at "KCfEl") => `(tactic| exact ⟨rfl, _, rfl⟩)
local macro_rules | `(tactic| walk_at "exec For Tuple Subscript cons nil") => `(tactic| (k_here; (rename Fr _ _ _ _ => lF'); (with_unfolding_all refine' For_turns lF' ?_ ?fs ?fe; (case fs => (intro _; rfl)); (case fe => first | passes_own | with_unfolding_all passes_own); k_whole)))
local macro_rules | `(tactic| walk_at "compareOp NotEq str str") => `(tactic| k_extra "compareOp NotEq str str")
local macro_rules | `(tactic| walk_at "subscriptTail Name Slice ref ref") => `(tactic| k_extra "subscriptTail Name Slice ref ref")
local macro_rules | `(tactic| walk_at "compareOp NotEq int int") => `(tactic| k_extra "compareOp NotEq int int")
local macro_rules | `(tactic| walk_at "compareOp Eq str str") => `(tactic| k_extra "compareOp Eq str str")
local macro_rules | `(tactic| walk_at "PairPost") => `(tactic| (dsimp only [PairPost]))
local macro_rules | `(tactic| walk_at "PairEnd") => `(tactic| k_extra "PairEnd")
theorem law_holds : PySem.Challenge.rw_mq0047_01.Holds := hd (by
  (k_with "pyIter ref" => (k_of "x" => (k_state (fun pre text => text = txt (pre.map codeOf) ∧ text.length = pre.length) "text")))
  (k_with "pyIter ref" => (k_of "_" => (k_dat (fun pre left book => left = txt (Ls (tOf nsX) pre.length) ∧ book = bookD (tOf nsX) pre.length ∧ left.length ≤ 16 ∧ book.length = pre.length) "left" "book*")))
  (k_with "pyIter ref" => (k_of "_" => (k_state (fun pre signs lost => signs = txt ((pM (Ls (tOf nsX) kj)).take pre.length) ∧ lost = ((wordN ((pM (Ls (tOf nsX) kj)).drop pre.length) : Nat) : Int) ∧ signs.length ≤ 4) "signs" "lost")))
  (k_with "state" => (first | exact signs_zero | exact signs_step (by assumption) (by assumption) (by assumption) (Ls_low (tOf_ok nsX).1 _) | exact cut_zero (by assumption) | exact cut_step (by assumption) | exact ⟨text_zero, rfl⟩ | exact ⟨text_hi (by assumption) (by assumption), by (rw [Str.length_append, List.length_append]; simp_all [Str.length])⟩  | exact ⟨text_lo (by assumption) (by assumption), by (rw [Str.length_append, List.length_append]; simp_all [Str.length])⟩))
  (k_with "call ref" => (k_here; (with_reducible show wpAny _ _ (call (Value.ref 42) [Value.ref _]) _ _ _); (k_dflt (first | (refine' tells_use (ahead_tells _ _ _ _ _ _ _ _ ?km ?ki kE) ?k1 ?k2 ?k3 ?k4 ?k5 ?kK ?kd ?ku ?_; (case k2 => k_asm); (case k4 => k_asm); (case km => k_memK); (case ki => assumption)) | (refine' tells_use (fwd_tells _ _ _ _ _ _ _ _ _ ?km ?ki codes_pos) ?k1 ?k2 ?k3 ?k4 ?k5 ?kK ?kd ?ku ?_; (case k2 => k_asm); (case k4 => k_asm); (case km => k_memK); (case ki => assumption))); k_dflt ((case k1 => k_asm); (case k3 => k_asm); (case k5 => k_asm); (case kK => first | exact rfl | assumption); (case kd => ktr_room); (case ku => ktr_units))); k_whole; intro t9 h9 tk9 F9 N9; (try dsimp only); (try k_fold)))
  (k_with "call ref" => (k_here; (with_reducible show wpAny _ _ (call (Value.ref 49) [Value.int _ _, Value.ref _]) _ _ _); (k_dflt (first | (refine' tells_use (behind_tells _ _ _ _ _ _ _ _ _ ?km ?ki kE (tOf_ok nsX).1 (tOf_len nsX)) ?k1 ?k2 ?k3 ?k4 ?k5 ?kK ?kd ?ku ?_; (case k2 => k_asm); (case k4 => k_asm); (case km => k_memK); (case ki => assumption)) | (refine' tells_use (lost_tells _ _ _ _ _ _ _ _ _ ?km ?ki ?kz (tOf_ok nsX).1) ?k1 ?k2 ?k3 ?k4 ?k5 ?kK ?kd ?ku ?_; (case k2 => k_asm); (case k4 => k_asm); (case km => k_memK); (case ki => first | assumption | l_ints); (case kz => exact zeros_eq _))); k_dflt ((case k1 => k_asm); (case k3 => k_asm); (case k5 => k_asm); (case kK => first | exact rfl | assumption); (case kd => ktr_room); (case ku => ktr_units))); k_whole; intro t9 h9 tk9 F9 N9; (try dsimp only); (try k_fold)))
  (k_with "call ref" => (k_here; (with_reducible show wpAny _ _ (call (Value.ref 21) [Value.str _ _, Value.str _ _, Value.str _ _]) _ _ _); (k_dflt (refine' tells_use (repl_back _ _ _ _ _ _ _ _ kE ?kx kR (tOf_ok nsX).2 (tOf_len nsX)) ?k1 ?k2 ?k3 ?k4 ?k5 ?kK ?kd ?ku ?_; (case kx => assumption); (case k2 => k_asm); (case k4 => k_asm); (case k1 => k_asm); (case k3 => k_asm); (case k5 => k_asm); (case kK => first | exact rfl | assumption); (case kd => ktr_room); (case ku => ktr_units))); k_whole; intro t9 h9 tk9 F9 N9; (try dsimp only); (try k_fold)))
  (k_with "call ref" => (k_here; (with_reducible show wpAny _ _ (call (Value.ref 28) [Value.str _ _, Value.int _ _]) _ _ _); k_dflt (first | refine' tells_use (cram_same _ _ _ _ _ _ _ ?kp (tOf_len nsX)) ?k1 ?k2 ?k3 ?k4 ?k5 ?kK ?kd ?ku ?_ | refine' tells_use (cram_next _ _ _ _ _ _ _ ?kp (tOf_len nsX)) ?k1 ?k2 ?k3 ?k4 ?k5 ?kK ?kd ?ku ?_); k_dflt ((case kp => assumption); (case k1 => k_asm); (case k2 => k_asm); (case k3 => k_asm); (case k4 => k_asm); (case k5 => k_asm); (case kK => first | exact rfl | assumption); (case kd => ktr_room); (case ku => ktr_units)); k_whole; intro t9 h9 tk9 F9 N9; (try dsimp only); (try k_fold)))
  (k_with "compareOp NotEq int int" => (refine ne_int_same (lost_none (by assumption)) ?_))
  (k_with "compareOp Eq str str" => (refine eq_same (back_text (by assumption) (by assumption)) ?_))
  (k_with "PairEnd" => ((rename News _ _ _ _ => kEndNews); (with_unfolding_all (refine' PairEnd.intro ?e1 ?e2 ?e3 ?e4 ?e5 ?e6 ?e7; (case e1 => assumption); (case e2 => exact kEndNews)); (case e3 => kd_inAll); (case e4 => (intro p hp; kst_mem)); (case e5 => with_unfolding_all rfl); (case e6 => (intro z h1 h3; (simp only [List.contains_cons, List.contains_nil, Bool.or_false, Bool.or_eq_false_iff, beq_eq_false_iff_ne, ne_eq] at h3); (simp [h1, h3]; done))); (case e7 => exact back_next (by assumption)))))
  (k_with "compareOp NotEq str str" => (refine ne_same (left_end (by assumption) (by assumption)) ?_))
  (k_with "subscriptTail Name Slice ref ref" => (k_here; (with_reducible show wpAny _ _ (subscriptTail _ (PySem.Expr.Slice none none (some _) _) (Value.ref _) (Value.ref _)) _ _ _); k_dflt (refine' krv_lit ?q1 ?q2 ?q3 ?q4 ?q5 ?_ ?q6 ?q7 ?q8; (case q1 => k_asm); (case q2 => k_asm); (case q3 => exact News.isList (by k_asm) (by k_memK)); (case q4 => exact IsPart.int _ _); (case q5 => exact rfl); (case q6 => with_unfolding_all rfl); (case q7 => kmk_pure); (case q8 => exact book_size (by assumption) (by assumption))); intro D' h' F' N' l1; (try k_lt l1); (try k_sweep)))
  (k_with "pyIter ref" => ((with_reducible show wpAny _ _ (pyIter (Value.ref _)) (fun it s₂ => TurnsAt _ _ _ _ _ _ _ _ _ it s₂) _ _); k_here; (rename Fr _ _ _ _ => lF'); (rename News _ _ _ _ => lN'); (with_unfolding_all refine' pairs_loop (Str.ofString "left") [Str.ofString "size", Str.ofString "told", Str.ofString "few", Str.ofString "half", Str.ofString "ahead", Str.ofString "behind", Str.ofString "lost", Str.ofString "signs", Str.ofString "_"] (fun j => ((Ls (tOf nsX) j).length : Int)) (fun j => (crcL (Ls (tOf nsX) j) : Int)) (BackP nsX) ?p1 ?p2 ?p3 lF' lN' ?p4 ?p5 (fun kj kT kta ktb kn kc kt kU kH kTk kOwn kLt kOff kP kFr kNews => ?_) (fun kc kt kU kH kTk kP kFr kNews => ?_); (case p1 => rfl); (case p2 => k_memK); (case p3 => exact pairs_items (by assumption) (by kd_inAll)); (case p4 => rfl); (case p5 => exact pairs_start (by assumption) (by assumption) (by assumption) (by assumption)); (all_goals (try clear lF' lN')); (all_goals (obtain ⟨kE, kLe, kR⟩ := kP)); (all_goals (try simp only [List.nil_append, List.cons_append, List.append_nil] at kNews)); (all_goals (try simp only [List.map_cons, List.map_nil] at kOff)); (all_goals (try dsimp only at kNews)); (all_goals (try dsimp only)); (all_goals (try k_fold)))))
  k_go0
  rename List Int => nsX
  all_goals try k_fold
  k_steps
  skip)
end
end Mine
theorem PySem.Challenge.cw_mq0047_01_holds : PySem.Challenge.rw_mq0047_01.Holds := by
  exact Mine.law_holds
