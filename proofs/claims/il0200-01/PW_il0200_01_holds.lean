import PyProof.Rows.All
import Wide.All
import OpenK.AllK
import Wide.FinOn
import PySem.Challenge.RW_il0200_01
open PySem PySem.W PyProof.Rows
set_option Elab.async false
set_option compiler.extract_closed false
section PartHd
namespace Mine
set_option maxRecDepth 100000 in
set_option maxHeartbeats 8000000 in
open_top hd for PySem.Challenge.rw_il0200_01
end Mine
end PartHd
local macro_rules | `(tactic| walk_at "m_std") => `(tactic| (
  (case k1 => k_asm); (case k2 => k_asm); (case k3 => k_asm); (case k4 => k_asm); (case k5 => k_asm); (case kK => first | exact rfl | assumption); (case kd => ktr_room); (case ku => ktr_units)))
local macro_rules | `(tactic| walk_at "m_enter") => `(tactic| (refine' code_def ?k1 ?k2 ?k3 ?k4 ?k5 ?kA ?kF ?kK ?k6 ?k7 ?k8 ?k9 ?kB ?_ ?c2 ?c3 ?c4 ?c5; (case kA => exact rfl); (case kF => exact rfl); (case kK => first | exact rfl | assumption); (case k1 => k_asm); (case k2 => k_asm); (case k3 => k_asm); (case k4 => k_asm); (case k5 => k_asm); (case k6 => k_is); (case k7 => k_is); (case k8 => ktr_room); (case k9 => exact BindsTo.of_eq rfl); (case c5 => decide); (case kB => exact locs rfl); (case c2 => exact rfl); (case c3 => exact rfl); (case c4 => exact rfl); k_whole; intro g' L' h' FG' F' N' B' X' T'; (try dsimp only); (try k_lift B'); (try k_fold)))
section PartC1
namespace Mine
theorem or_128 (x : Int) : Builtin.bitOr x 128 = x + 128 * (1 - x / 128 % 2) := by
  rw [bitOr_and]
  have h := kbt_bit x 7
  have e : (2 : Int) ^ 7 = 128 := by decide
  rw [e] at h
  rw [h]
  omega
theorem and_128 (x : Int) : Builtin.bitAnd x 128 = 128 * (x / 128 % 2) := by
  have h := kbt_bit x 7
  have e : (2 : Int) ^ 7 = 128 := by decide
  rw [e] at h
  rw [h]
  omega
theorem or_32 (x : Int) : Builtin.bitOr (Builtin.bitAnd x 127) 32 + 32 = x % 128 + 64 - 32 * (x % 128 / 32 % 2) := by
  rw [bitOr_and, bitAnd_m7]
  have h := kbt_bit (x % 128) 5
  have e : (2 : Int) ^ 5 = 32 := by decide
  rw [e] at h
  rw [h]
  omega
theorem or_lo (x : Int) : 0 ≤ Builtin.bitOr (Builtin.bitAnd x 127) 32 + 32 := by rw [or_32]; omega
theorem or_hi (x : Int) : Builtin.bitOr (Builtin.bitAnd x 127) 32 + 32 ≤ 1114111 := by rw [or_32]; omega
/-- the signs that unctrl writes -/
def unL (x : Int) : List Nat :=
  (if x / 128 % 2 = 1 then [33] else []) ++
    (if x = 127 then [94, 63] else if 32 ≤ x % 128 ∧ x % 128 ≤ 126 then [(x % 128).toNat] else [94, (x % 128 + 64 - 32 * (x % 128 / 32 % 2)).toNat])
def unS (x : Int) : Str := ⟨(unL x).toArray⟩
theorem un_bang (l : List Nat) : Str.ofString "!" ++ (⟨l.toArray⟩ : Str) = ⟨(33 :: l).toArray⟩ := by
  have e : Str.ofString "!" = ⟨#[33]⟩ := by decide
  rw [e]
  refine congrArg Str.mk ?_
  show #[33] ++ l.toArray = (33 :: l).toArray
  simp
theorem un_hat (l : List Nat) : Str.ofString "^" ++ (⟨l.toArray⟩ : Str) = ⟨(94 :: l).toArray⟩ := by
  have e : Str.ofString "^" = ⟨#[94]⟩ := by decide
  rw [e]
  refine congrArg Str.mk ?_
  show #[94] ++ l.toArray = (94 :: l).toArray
  simp
theorem un_q : Str.ofString "^?" = ⟨[94, 63].toArray⟩ := by decide
theorem un_of {x : Int} {l : List Nat} (h : l = unL x) : (⟨l.toArray⟩ : Str) = unS x := by rw [h]; rfl
section
variable {x : Int}
theorem bit_no (h : Builtin.bitAnd x 128 = 0) : ¬ x / 128 % 2 = 1 := by rw [and_128] at h; omega
theorem bit_yes (h : Builtin.bitAnd x 128 ≠ 0) : x / 128 % 2 = 1 := by rw [and_128] at h; omega
theorem un_1 (h : x = 127) (h2 : Builtin.bitAnd x 128 ≠ 0) : Str.ofString "!" ++ Str.ofString "^?" = unS x := by
  subst h; exact absurd (by decide) h2
theorem un_2 (h : x = 127) (h2 : Builtin.bitAnd x 128 = 0) : Str.ofString "^?" = unS x := by
  subst h; decide
theorem un_3 (h : x ≠ 127) (h1 : 32 ≤ Builtin.bitAnd x 127 ∧ Builtin.bitAnd x 127 ≤ 126) (h2 : Builtin.bitAnd x 128 ≠ 0) : Str.ofString "!" ++ (⟨#[(Builtin.bitAnd x 127).toNat]⟩ : Str) = unS x := by
  rw [un_bang]
  refine un_of ?_
  rw [bitAnd_m7] at *
  unfold unL
  rw [if_pos (bit_yes h2), if_neg h, if_pos h1]; rfl
theorem un_4 (h : x ≠ 127) (h1 : 32 ≤ Builtin.bitAnd x 127 ∧ Builtin.bitAnd x 127 ≤ 126) (h2 : Builtin.bitAnd x 128 = 0) : (⟨#[(Builtin.bitAnd x 127).toNat]⟩ : Str) = unS x := by
  refine un_of ?_
  rw [bitAnd_m7] at *
  unfold unL
  rw [if_neg (bit_no h2), if_neg h, if_pos h1]; rfl
theorem un_5 (h : x ≠ 127) (h1 : ¬ (32 ≤ Builtin.bitAnd x 127 ∧ Builtin.bitAnd x 127 ≤ 126)) (h2 : Builtin.bitAnd x 128 ≠ 0) :
    Str.ofString "!" ++ (Str.ofString "^" ++ (⟨#[(Builtin.bitOr (Builtin.bitAnd x 127) 32 + 32).toNat]⟩ : Str)) = unS x := by
  rw [un_hat, un_bang]
  refine un_of ?_
  rw [or_32]
  rw [bitAnd_m7] at *
  unfold unL
  rw [if_pos (bit_yes h2), if_neg h, if_neg h1]; rfl
theorem un_6 (h : x ≠ 127) (h1 : ¬ (32 ≤ Builtin.bitAnd x 127 ∧ Builtin.bitAnd x 127 ≤ 126)) (h2 : Builtin.bitAnd x 128 = 0) :
    Str.ofString "^" ++ (⟨#[(Builtin.bitOr (Builtin.bitAnd x 127) 32 + 32).toNat]⟩ : Str) = unS x := by
  rw [un_hat]
  refine un_of ?_
  rw [or_32]
  rw [bitAnd_m7] at *
  unfold unL
  rw [if_neg (bit_no h2), if_neg h, if_neg h1]; rfl
theorem unL_len (x : Int) : (unL x).length ≤ 3 := by
  unfold unL
  rw [List.length_append]
  split <;> split <;> (try split) <;> simp
theorem unS_len (x : Int) : (unS x).length ≤ 3 := unL_len x
end
section
variable {w : World} {mean : ExcName → Option Value} {mg mb : Str → Option Value} {news : List (Addr × Obj)}
  {dp un : Nat} {gd : Option (List Code)} {cn : Str} {cs : Scope} {a : Addr} {ccd : Value} {cl : List (Str × Addr)} {outer : List Env} {A₀ : Around} {base h₀ : Heap} {L : Addr} {m : Str → Option Value} {s : Shared} {Q E : Value → Shared → Prop}
set_option maxRecDepth 100000 in
set_option maxHeartbeats 8000000 in
theorem ctoi_use {x : Int} {tx : Tok} (B : Below A₀ base outer h₀) (F : Fr h₀ L s.heap m) (X : (hd.heap_39 w.params).In h₀) (N : News h₀ L s.heap news) (T : Top hd.view_39 (looseW hd.view_39 []) mean mg mb h₀) (hk : cs.kind = .function)
    (hdp : dp + 1 < recursionLimit) (hu : un + 8 < cLine)
    (ret : ∀ (t : Tok) (h' : Heap) (tk' : Nat), Fr h₀ L h' m → News h₀ L h' news → Q (.int (x) t) { s with heap := h', toks := tk' }) :
    wpAny (model PySem.Challenge.rw_il0200_01.row.prog w) (ktrTop dp un gd cn cs L a ccd cl outer) (call (.ref 21) [.int x tx]) Q E s := by
  w_on
  revert X; k_fill; intro X
  refine wpAny_call ?_
  cell_enter
  k_steps
  all_goals exact ret _ _ _ (by k_asm) (by k_asm)
end
local macro_rules | `(tactic| walk_at "call ref") => `(tactic| (
  k_here; (with_reducible show wpAny _ _ (call (Value.ref 21) [Value.int _ _]) _ _ _);
  k_dflt (refine' ctoi_use ?k1 ?k2 ?k3 ?k4 ?k5 ?kK ?kd ?ku ?_; walk_at "m_std"); intro t9 h9 tk9 F9 N9; (try dsimp only); (try k_fold)))
section
variable {w : World} {mean : ExcName → Option Value} {mg mb : Str → Option Value} {news : List (Addr × Obj)}
  {dp un : Nat} {gd : Option (List Code)} {cn : Str} {cs : Scope} {a : Addr} {ccd : Value} {cl : List (Str × Addr)} {outer : List Env} {A₀ : Around} {base h₀ : Heap} {L : Addr} {m : Str → Option Value} {s : Shared} {Q E : Value → Shared → Prop}
set_option maxRecDepth 100000 in
set_option maxHeartbeats 8000000 in
theorem isprint_use {x : Int} {tx : Tok} (B : Below A₀ base outer h₀) (F : Fr h₀ L s.heap m) (X : (hd.heap_39 w.params).In h₀) (N : News h₀ L s.heap news) (T : Top hd.view_39 (looseW hd.view_39 []) mean mg mb h₀) (hk : cs.kind = .function)
    (hdp : dp + 2 < recursionLimit) (hu : un + 16 < cLine)
    (ret : ∀ (t : Tok) (h' : Heap) (tk' : Nat), Fr h₀ L h' m → News h₀ L h' news → Q (.bool (decide (32 ≤ x ∧ x ≤ 126))) { s with heap := h', toks := tk' }) :
    wpAny (model PySem.Challenge.rw_il0200_01.row.prog w) (ktrTop dp un gd cn cs L a ccd cl outer) (call (.ref 28) [.int x tx]) Q E s := by
  w_on
  revert X; k_fill; intro X
  refine wpAny_call ?_
  cell_enter
  k_steps
  all_goals (refine cb_retB ret ?_ (by k_asm) (by k_asm); simp only [decide_eq_decide]; omega)
set_option maxRecDepth 100000 in
set_option maxHeartbeats 8000000 in
theorem ascii_use {x : Int} {tx : Tok} (B : Below A₀ base outer h₀) (F : Fr h₀ L s.heap m) (X : (hd.heap_39 w.params).In h₀) (N : News h₀ L s.heap news) (T : Top hd.view_39 (looseW hd.view_39 []) mean mg mb h₀) (hk : cs.kind = .function)
    (hdp : dp + 2 < recursionLimit) (hu : un + 16 < cLine)
    (ret : ∀ (t : Tok) (h' : Heap) (tk' : Nat), Fr h₀ L h' m → News h₀ L h' news → Q (.int (x % 128) t) { s with heap := h', toks := tk' }) :
    wpAny (model PySem.Challenge.rw_il0200_01.row.prog w) (ktrTop dp un gd cn cs L a ccd cl outer) (call (.ref 35) [.int x tx]) Q E s := by
  w_on
  revert X; k_fill; intro X
  refine wpAny_call ?_
  cell_enter
  k_steps
  all_goals exact cb_retI ret (bitAnd_m7 x) (by k_asm) (by k_asm)
set_option maxRecDepth 100000 in
set_option maxHeartbeats 8000000 in
theorem ctrl_use {x : Int} {tx : Tok} (B : Below A₀ base outer h₀) (F : Fr h₀ L s.heap m) (X : (hd.heap_39 w.params).In h₀) (N : News h₀ L s.heap news) (T : Top hd.view_39 (looseW hd.view_39 []) mean mg mb h₀) (hk : cs.kind = .function)
    (hdp : dp + 2 < recursionLimit) (hu : un + 16 < cLine)
    (ret : ∀ (t : Tok) (h' : Heap) (tk' : Nat), Fr h₀ L h' m → News h₀ L h' news → Q (.int (x % 32) t) { s with heap := h', toks := tk' }) :
    wpAny (model PySem.Challenge.rw_il0200_01.row.prog w) (ktrTop dp un gd cn cs L a ccd cl outer) (call (.ref 42) [.int x tx]) Q E s := by
  w_on
  revert X; k_fill; intro X
  refine wpAny_call ?_
  cell_enter
  k_steps
  all_goals exact cb_retI ret (bitAnd_m5 x) (by k_asm) (by k_asm)
set_option maxRecDepth 100000 in
set_option maxHeartbeats 8000000 in
theorem alt_use {x : Int} {tx : Tok} (B : Below A₀ base outer h₀) (F : Fr h₀ L s.heap m) (X : (hd.heap_39 w.params).In h₀) (N : News h₀ L s.heap news) (T : Top hd.view_39 (looseW hd.view_39 []) mean mg mb h₀) (hk : cs.kind = .function)
    (hdp : dp + 2 < recursionLimit) (hu : un + 16 < cLine)
    (ret : ∀ (t : Tok) (h' : Heap) (tk' : Nat), Fr h₀ L h' m → News h₀ L h' news → Q (.int (x + 128 * (1 - x / 128 % 2)) t) { s with heap := h', toks := tk' }) :
    wpAny (model PySem.Challenge.rw_il0200_01.row.prog w) (ktrTop dp un gd cn cs L a ccd cl outer) (call (.ref 49) [.int x tx]) Q E s := by
  w_on
  revert X; k_fill; intro X
  refine wpAny_call ?_
  cell_enter
  k_steps
  all_goals exact cb_retI ret (or_128 x) (by k_asm) (by k_asm)
end
local macro_rules | `(tactic| walk_at "call ref") => `(tactic| (
  k_here; (with_reducible show wpAny _ _ (call (Value.ref 28) [Value.int _ _]) _ _ _);
  k_dflt (refine' isprint_use ?k1 ?k2 ?k3 ?k4 ?k5 ?kK ?kd ?ku ?_; walk_at "m_std"); intro t9 h9 tk9 F9 N9; (try dsimp only); (try k_fold)))
local macro_rules | `(tactic| walk_at "call builtin:chr") => `(tactic| (
  k_here; (with_reducible show wpAny _ _ (call (Value.builtin "chr") [Value.int (Builtin.bitOr (Builtin.bitAnd _ 127) 32 + 32) _]) _ _ _); (refine chr_of_range (or_lo _) (or_hi _) ?_)))
section
variable {w : World} {mean : ExcName → Option Value} {mg mb : Str → Option Value} {news : List (Addr × Obj)}
  {dp un : Nat} {gd : Option (List Code)} {cn : Str} {cs : Scope} {a : Addr} {ccd : Value} {cl : List (Str × Addr)} {outer : List Env} {A₀ : Around} {base h₀ : Heap} {L : Addr} {m : Str → Option Value} {s : Shared} {Q E : Value → Shared → Prop}
set_option maxRecDepth 100000 in
set_option maxHeartbeats 8000000 in
theorem unctrl_use {x : Int} {tx : Tok} (B : Below A₀ base outer h₀) (F : Fr h₀ L s.heap m) (X : (hd.heap_39 w.params).In h₀) (N : News h₀ L s.heap news) (T : Top hd.view_39 (looseW hd.view_39 []) mean mg mb h₀) (hk : cs.kind = .function)
    (hdp : dp + 3 < recursionLimit) (hu : un + 24 < cLine)
    (ret : ∀ (t : Tok) (h' : Heap) (tk' : Nat), Fr h₀ L h' m → News h₀ L h' news → Q (.str (unS x) t) { s with heap := h', toks := tk' }) :
    wpAny (model PySem.Challenge.rw_il0200_01.row.prog w) (ktrTop dp un gd cn cs L a ccd cl outer) (call (.ref 56) [.int x tx]) Q E s := by
  w_on
  revert X; k_fill; intro X
  refine wpAny_call ?_
  cell_enter
  k_steps
  all_goals refine cb_retS ret ?_ (by k_asm) (by k_asm)
  all_goals first
    | exact un_1 (by assumption) (by assumption)
    | exact un_2 (by assumption) (by assumption)
    | exact un_3 (by assumption) (by assumption) (by assumption)
    | exact un_4 (by assumption) (by assumption) (by assumption)
    | exact un_5 (by assumption) (by assumption) (by assumption)
    | exact un_6 (by assumption) (by assumption) (by assumption)
end
end Mine
end PartC1
local macro_rules | `(tactic| walk_at "call ref") => `(tactic| (
  k_here; (with_reducible show wpAny _ _ (call (Value.ref 21) [Value.int _ _]) _ _ _);
  k_dflt (refine' Mine.ctoi_use ?k1 ?k2 ?k3 ?k4 ?k5 ?kK ?kd ?ku ?_; walk_at "m_std"); intro t9 h9 tk9 F9 N9; (try dsimp only); (try k_fold)))
local macro_rules | `(tactic| walk_at "call ref") => `(tactic| (
  k_here; (with_reducible show wpAny _ _ (call (Value.ref 28) [Value.int _ _]) _ _ _);
  k_dflt (refine' Mine.isprint_use ?k1 ?k2 ?k3 ?k4 ?k5 ?kK ?kd ?ku ?_; walk_at "m_std"); intro t9 h9 tk9 F9 N9; (try dsimp only); (try k_fold)))
local macro_rules | `(tactic| walk_at "call ref") => `(tactic| (
  k_here; (with_reducible show wpAny _ _ (call (Value.ref 35) [Value.int _ _]) _ _ _);
  k_dflt (refine' Mine.ascii_use ?k1 ?k2 ?k3 ?k4 ?k5 ?kK ?kd ?ku ?_; walk_at "m_std"); intro t9 h9 tk9 F9 N9; (try dsimp only); (try k_fold)))
local macro_rules | `(tactic| walk_at "call ref") => `(tactic| (
  k_here; (with_reducible show wpAny _ _ (call (Value.ref 42) [Value.int _ _]) _ _ _);
  k_dflt (refine' Mine.ctrl_use ?k1 ?k2 ?k3 ?k4 ?k5 ?kK ?kd ?ku ?_; walk_at "m_std"); intro t9 h9 tk9 F9 N9; (try dsimp only); (try k_fold)))
local macro_rules | `(tactic| walk_at "call ref") => `(tactic| (
  k_here; (with_reducible show wpAny _ _ (call (Value.ref 49) [Value.int _ _]) _ _ _);
  k_dflt (refine' Mine.alt_use ?k1 ?k2 ?k3 ?k4 ?k5 ?kK ?kd ?ku ?_; walk_at "m_std"); intro t9 h9 tk9 F9 N9; (try dsimp only); (try k_fold)))
local macro_rules | `(tactic| walk_at "call ref") => `(tactic| (
  k_here; (with_reducible show wpAny _ _ (call (Value.ref 56) [Value.int _ _]) _ _ _);
  k_dflt (refine' Mine.unctrl_use ?k1 ?k2 ?k3 ?k4 ?k5 ?kK ?kd ?ku ?_; walk_at "m_std"); intro t9 h9 tk9 F9 N9; (try dsimp only); (try k_fold)))
section PartC2
namespace Mine
/-- the reply's signs: the figures d between the marks c -/
def preL : List Nat := [50, 50, 57, 32, 103, 111, 32, 116, 111, 32, 40]
def postL : List Nat := [41, 32, 110, 111, 119]
def repL (d : List Nat) (c : Nat) : List Nat := preL ++ ([c, c, c] ++ (d ++ (c :: postL)))
abbrev repS (d : List Nat) (c : Nat) : Str := ⟨(repL d c).toArray⟩
theorem arr_len {l : List Nat} {n : Nat} (h : l.length = n) : (⟨l.toArray⟩ : Str).length ≤ n := Nat.le_of_eq h
theorem mul3 (c : Nat) : Txt.mul ⟨#[c]⟩ 3 = ⟨#[c, c, c]⟩ := by rfl
theorem arr_len1 (c : Nat) : (⟨#[c]⟩ : Str).length ≤ 1 := Nat.le_refl 1
theorem mul_ok (c : Nat) : MulOk (⟨#[c]⟩ : Str) 3 := mulOk_of 1 3 (arr_len1 c) (by decide) (by decide) (by decide) (by decide)
theorem mul3_len (c : Nat) : (Txt.mul ⟨#[c]⟩ 3).length ≤ 3 := by rw [mul3]; exact Nat.le_refl _
theorem str_cat (l r : List Nat) : (⟨l.toArray⟩ : Str) ++ (⟨r.toArray⟩ : Str) = ⟨(l ++ r).toArray⟩ := by
  refine congrArg Str.mk ?_
  show l.toArray ++ r.toArray = (l ++ r).toArray
  simp
theorem rep_end (d : List Nat) (c : Nat) : Str.ofString "229 go to (" ++ Txt.mul ⟨#[c]⟩ 3 ++ ⟨d.toArray⟩ ++ ⟨#[c]⟩ ++ Str.ofString ") now" = repS d c := by
  have e1 : Str.ofString "229 go to (" = ⟨preL.toArray⟩ := by decide
  have e2 : Str.ofString ") now" = ⟨postL.toArray⟩ := by decide
  rw [mul3, e1, e2, str_cat, str_cat, str_cat, str_cat]
  unfold repS repL
  simp only [List.append_assoc, List.cons_append, List.nil_append]
end Mine
local macro_rules | `(tactic| kt_len) => `(tactic| first
  | exact Mine.mul3_len _
  | exact Mine.arr_len (by assumption)
  | exact Mine.arr_len1 _)
local macro_rules | `(tactic| walk_at "binaryOp Mult str int") => `(tactic| (
  k_here; (with_reducible show wpAny _ _ (binaryOp Operator.Mult (Value.str (PySem.Str.mk (List.toArray [_])) _) (Value.int 3 _)) _ _ _); (refine SB.mul (Mine.mul_ok _) ?_); intro _ _))
namespace Mine
section
variable {w : World} {mean : ExcName → Option Value} {mg mb : Str → Option Value} {news : List (Addr × Obj)}
  {dp un : Nat} {gd : Option (List Code)} {cn : Str} {cs : Scope} {a : Addr} {ccd : Value} {cl : List (Str × Addr)} {outer : List Env} {A₀ : Around} {base h₀ : Heap} {L : Addr} {m : Str → Option Value} {s : Shared} {Q E : Value → Shared → Prop}
set_option maxRecDepth 100000 in
set_option maxHeartbeats 8000000 in
theorem reply_use {d : List Nat} {c : Nat} {tx ty : Tok} (B : Below A₀ base outer h₀) (F : Fr h₀ L s.heap m) (X : (hd.heap_39 w.params).In h₀) (N : News h₀ L s.heap news) (T : Top hd.view_39 (looseW hd.view_39 []) mean mg mb h₀) (hk : cs.kind = .function)
    (hdp : dp + 1 < recursionLimit) (hu : un + 8 < cLine)
    (hx : d.length = 9)
    (ret : ∀ (t : Tok) (h' : Heap) (tk' : Nat), Fr h₀ L h' m → News h₀ L h' news → Q (.str (repS d c) t) { s with heap := h', toks := tk' }) :
    wpAny (model PySem.Challenge.rw_il0200_01.row.prog w) (ktrTop dp un gd cn cs L a ccd cl outer) (call (.ref 114) [.str ⟨d.toArray⟩ tx, .str ⟨#[c]⟩ ty]) Q E s := by
  w_on
  revert X; k_fill; intro X
  refine wpAny_call ?_
  cell_enter
  k_steps
  all_goals exact cb_retS ret (rep_end d c) (by k_asm) (by k_asm)
set_option maxRecDepth 100000 in
set_option maxHeartbeats 8000000 in
theorem codes_use {x : Int} {tx : Tok} (B : Below A₀ base outer h₀) (F : Fr h₀ L s.heap m) (X : (hd.heap_39 w.params).In h₀) (N : News h₀ L s.heap news) (T : Top hd.view_39 (looseW hd.view_39 []) mean mg mb h₀) (hk : cs.kind = .function)
    (hdp : dp + 4 < recursionLimit) (hu : un + 32 < cLine)
    (ret : ∀ (t1 t2 t3 t4 : Tok) (l : Addr) (h' : Heap) (tk' : Nat), Fr h₀ L h' m → News h₀ L h' ((l, W.listOf [Value.int (x % 32) t1, .int (x % 128) t2, .str (unS x) t3, .int (x + 128 * (1 - x / 128 % 2)) t4].toArray 0) :: news) → (∀ p ∈ news, p.1 < l) → Q (.ref l) { s with heap := h', toks := tk' }) :
    wpAny (model PySem.Challenge.rw_il0200_01.row.prog w) (ktrTop dp un gd cn cs L a ccd cl outer) (call (.ref 121) [.int x tx]) Q E s := by
  w_on
  revert X; k_fill; intro X
  refine wpAny_call ?_
  cell_enter
  k_steps
  all_goals exact ret _ _ _ _ _ _ _ (by k_asm) (by k_asm) (by k_asm)
end
end Mine
end PartC2
local macro_rules | `(tactic| walk_at "call ref") => `(tactic| (
  k_here; (with_reducible show wpAny _ _ (call (Value.ref 114) [Value.str (PySem.Str.mk (List.toArray _)) _, Value.str (PySem.Str.mk (List.toArray _)) _]) _ _ _);
  k_dflt (refine' Mine.reply_use ?k1 ?k2 ?k3 ?k4 ?k5 ?kK ?kd ?ku (by assumption) ?_; walk_at "m_std"); intro t9 h9 tk9 F9 N9; (try dsimp only); (try k_fold)))
local macro_rules | `(tactic| walk_at "call ref") => `(tactic| (
  k_here; (with_reducible show wpAny _ _ (call (Value.ref 121) [Value.int _ _]) _ _ _);
  k_dflt (refine' Mine.codes_use ?k1 ?k2 ?k3 ?k4 ?k5 ?kK ?kd ?ku ?_; walk_at "m_std"); intro ta9 tb9 tc9 td9 l9 h9 tk9 F9 N9 l1; (try k_lt l1); (try dsimp only); (try k_fold)))
section PartT1
namespace Mine
open PySem.NumText
theorem mk_cps (l : List Nat) : (⟨l.toArray⟩ : Str).cps.toList = l := rfl
theorem mk_len (l : List Nat) : (⟨l.toArray⟩ : Str).length = l.length := by show l.toArray.size = _; exact List.size_toArray
theorem cut_ns {l : List Nat} {j : Int} (h0 : 0 ≤ j) (h2 : j ≤ l.length) : Txt.slice ⟨l.toArray⟩ none (some j) = ⟨(l.take j.toNat).toArray⟩ := by
  have h := slice_closes_toL (x := ⟨l.toArray⟩) h0 (by rw [mk_len]; exact h2)
  rw [beq_iff_eq.mp h]
  simp
theorem cut_ss {l : List Nat} {i j : Int} (h0 : 0 ≤ i) (h1 : i ≤ j) (h2 : j ≤ l.length) : Txt.slice ⟨l.toArray⟩ (some i) (some j) = ⟨((l.drop i.toNat).take (j - i).toNat).toArray⟩ := by
  have h := slice_closesL (x := ⟨l.toArray⟩) h0 h1 (by rw [mk_len]; exact h2)
  rw [beq_iff_eq.mp h]
theorem cut_sn {l : List Nat} {i : Int} (h0 : 0 ≤ i) (h2 : i ≤ l.length) : Txt.slice ⟨l.toArray⟩ (some i) none = ⟨(l.drop i.toNat).toArray⟩ := by
  have h := slice_closes_fromL (x := ⟨l.toArray⟩) (b := (l.length : Nat)) h0 (by rw [mk_len]; exact h2) (by rw [mk_len])
  rw [beq_iff_eq.mp h]
  congr 2
  show ((l.drop i.toNat).take ((l.length : Int) - i).toNat) = _
  refine List.take_of_length_le ?_
  rw [List.length_drop]
  omega
theorem item_at {l : List Nat} {i : Int} (h0 : 0 ≤ i) (h : i < l.length) : Txt.item ⟨l.toArray⟩ i = ⟨#[l.getD i.toNat 0]⟩ := by
  rw [item_meets ⟨h0, by rw [mk_len]; exact h⟩]
  congr 2
  show [(l.toArray).getD i.toNat 0] = _
  congr 1
  simp [List.getD, Array.getD]
  split <;> simp_all
theorem find_zero (x y : Str) : Txt.find x y = Txt.find3 x y 0 := by
  unfold Txt.find Txt.find3
  have e : PySem.fromIndex x.length 0 = 0 := by rfl
  rw [e]
  cases Builtin.Str.occurrences x y 0 x.length 1 <;> rfl
theorem find_at {l : List Nat} {c : Nat} {i : Int} {k : Nat} (hi : 0 ≤ i) (hk : i ≤ k) (hl : k < l.length) (hc : l.getD k 0 = c) (hn : ∀ v, i.toNat ≤ v → v < k → l.getD v 0 ≠ c) : Txt.find3 ⟨l.toArray⟩ ⟨#[c]⟩ i = (k : Int) := by
  have e : PySem.fromIndex (⟨l.toArray⟩ : Str).length i = i.toNat := by
    unfold PySem.fromIndex
    rw [if_neg (by omega)]
    omega
  have g : ∀ v, (⟨l.toArray⟩ : Str).cps.getD v 0 = l.getD v 0 := by
    intro v
    show (l.toArray).getD v 0 = _
    simp [List.getD, Array.getD]
    split <;> simp_all
  rcases StrLaws.find3_spec ⟨l.toArray⟩ c i with ⟨_, h⟩ | ⟨q, h1, h2, h3, h4, h5⟩
  · rw [e, mk_len] at h
    exact absurd (by rw [g]; exact hc) (h k (by omega) hl)
  · rw [h1]
    rw [e] at h2 h5
    rw [g] at h4
    rcases Nat.lt_trichotomy q k with hq | hq | hq
    · exact absurd h4 (hn q h2 hq)
    · rw [hq]
    · exact absurd (by rw [g]; exact hc) (h5 k (by omega) hq)
theorem len9 {d : List Nat} (h : d.length = 9) : ∃ a0 a1 a2 a3 a4 a5 a6 a7 a8, d = [a0, a1, a2, a3, a4, a5, a6, a7, a8] := by
  match d, h with
  | [a0, a1, a2, a3, a4, a5, a6, a7, a8], _ => exact ⟨_, _, _, _, _, _, _, _, _, rfl⟩
theorem repL_len {d : List Nat} (c : Nat) (h : d.length = 9) : (repL d c).length = 29 := by
  unfold repL preL postL
  simp only [List.length_append, List.length_cons, List.length_nil, h]
theorem find_open {d : List Nat} (c : Nat) (h : d.length = 9) : Txt.find ⟨(repL d c).toArray⟩ (Str.ofString "(") = 10 := by
  have e : Str.ofString "(" = ⟨#[40]⟩ := by decide
  rw [find_zero, e]
  refine find_at (k := 10) (by decide) (by decide) (by rw [repL_len c h]; decide) rfl ?_
  intro v _ hv
  match v, hv with
  | 0, _ | 1, _ | 2, _ | 3, _ | 4, _ | 5, _ | 6, _ | 7, _ | 8, _ | 9, _ => exact Nat.ne_of_beq_eq_false rfl
theorem find_shut {d : List Nat} {c : Nat} (h : d.length = 9) (hd : ∀ x ∈ d, x ≠ 41) (hc : c ≠ 41) : Txt.find3 ⟨(repL d c).toArray⟩ (Str.ofString ")") (10 + 1) = 24 := by
  have e : Str.ofString ")" = ⟨#[41]⟩ := by decide
  rw [e]
  obtain ⟨a0, a1, a2, a3, a4, a5, a6, a7, a8, rfl⟩ := len9 h
  refine find_at (k := 24) (by decide) (by decide) (by rw [repL_len c h]; decide) rfl ?_
  intro v hv1 hv
  have h1 : 11 ≤ v := hv1
  have m : ∀ x ∈ [a0, a1, a2, a3, a4, a5, a6, a7, a8], x ≠ 41 := hd
  simp only [List.forall_mem_cons] at m
  obtain ⟨m0, m1, m2, m3, m4, m5, m6, m7, m8, _⟩ := m
  match v, h1, hv with
  | 11, _, _ | 12, _, _ | 13, _, _ | 23, _, _ => exact hc
  | 14, _, _ => exact m0
  | 15, _, _ => exact m1
  | 16, _, _ => exact m2
  | 17, _, _ => exact m3
  | 18, _, _ => exact m4
  | 19, _, _ => exact m5
  | 20, _, _ => exact m6
  | 21, _, _ => exact m7
  | 22, _, _ => exact m8
  | n + 24, _, h => exact absurd h (by omega)
theorem item_left {d : List Nat} (c : Nat) (h : d.length = 9) : Txt.item ⟨(repL d c).toArray⟩ (10 + 1) = ⟨#[c]⟩ := by
  rw [item_at (by decide) (by rw [repL_len c h]; decide)]; rfl
theorem item_right {d : List Nat} (c : Nat) (h : d.length = 9) : Txt.item ⟨(repL d c).toArray⟩ (24 - 1) = ⟨#[c]⟩ := by
  rw [item_at (by decide) (by rw [repL_len c h]; decide)]
  obtain ⟨a0, a1, a2, a3, a4, a5, a6, a7, a8, rfl⟩ := len9 h
  rfl
theorem cut_head {d : List Nat} (c : Nat) (h : d.length = 9) : Txt.slice ⟨(repL d c).toArray⟩ none (some 3) = Str.ofString "229" := by
  rw [cut_ns (by decide) (by rw [repL_len c h]; decide)]
  have e : Str.ofString "229" = ⟨#[50, 50, 57]⟩ := by decide
  rw [e]; rfl
/-- what stands between the brackets -/
def midL (d : List Nat) (c : Nat) : List Nat := c :: c :: c :: (d ++ [c])
theorem cut_mid {d : List Nat} (c : Nat) (h : d.length = 9) : Txt.slice ⟨(repL d c).toArray⟩ (some (10 + 1)) (some 24) = ⟨(midL d c).toArray⟩ := by
  rw [cut_ss (by decide) (by decide) (by rw [repL_len c h]; decide)]
  obtain ⟨a0, a1, a2, a3, a4, a5, a6, a7, a8, rfl⟩ := len9 h
  rfl
/-- a text's parts, as lists of signs -/
def joinL (c : Nat) : List (List Nat) → List Nat
  | [] => []
  | [p] => p
  | p :: q :: r => p ++ c :: joinL c (q :: r)
theorem join_cps (c : Nat) : ∀ l : List Str, (Str.join ⟨#[c]⟩ l).cps.toList = joinL c (l.map (·.cps.toList))
  | [] => rfl
  | [_] => rfl
  | p :: q :: r => by
    have ih := join_cps c (q :: r)
    show (p ++ ⟨#[c]⟩ ++ Str.join ⟨#[c]⟩ (q :: r)).cps.toList = _
    rw [KT.app_list, KT.app_list, ih]
    simp [joinL]
theorem head_free {c : Nat} : ∀ {p q s t : List Nat}, c ∉ p → c ∉ q → p ++ c :: s = q ++ c :: t → p = q ∧ s = t
  | [], [], _, _, _, _, h => ⟨rfl, (List.cons.inj h).2⟩
  | [], y :: q, _, _, _, hq, h => absurd (List.mem_cons_self ..) ((List.cons.inj h).1 ▸ hq)
  | x :: p, [], _, _, hp, _, h => absurd (List.mem_cons_self ..) ((List.cons.inj h).1 ▸ hp)
  | x :: p, y :: q, _, _, hp, hq, h => by
    obtain ⟨h1, h2⟩ := List.cons.inj h
    obtain ⟨e1, e2⟩ := head_free (fun m => hp (List.mem_cons_of_mem _ m)) (fun m => hq (List.mem_cons_of_mem _ m)) h2
    exact ⟨by rw [h1, e1], e2⟩
theorem parts_one {c : Nat} : ∀ {ps qs : List (List Nat)}, ps ≠ [] → qs ≠ [] → (∀ p ∈ ps, c ∉ p) → (∀ q ∈ qs, c ∉ q) → joinL c ps = joinL c qs → ps = qs
  | [], _, h, _, _, _, _ => absurd rfl h
  | _, [], _, h, _, _, _ => absurd rfl h
  | [p], [q], _, _, _, _, h => by rw [show p = q from h]
  | [p], q :: q' :: r, _, _, hp, _, h => by
    have h' : p = q ++ c :: joinL c (q' :: r) := h
    exact absurd (by rw [h']; simp) (hp p (List.mem_cons_self ..))
  | p :: p' :: r, [q], _, _, _, hq, h => by
    have h' : p ++ c :: joinL c (p' :: r) = q := h
    exact absurd (by rw [← h']; simp) (hq q (List.mem_cons_self ..))
  | p :: p' :: r, q :: q' :: r', _, _, hp, hq, h => by
    have h' : p ++ c :: joinL c (p' :: r) = q ++ c :: joinL c (q' :: r') := h
    obtain ⟨e1, e2⟩ := head_free (hp p (List.mem_cons_self ..)) (hq q (List.mem_cons_self ..)) h'
    have ih := parts_one (ps := p' :: r) (qs := q' :: r') (by simp) (by simp) (fun x hx => hp x (List.mem_cons_of_mem _ hx)) (fun x hx => hq x (List.mem_cons_of_mem _ hx)) e2
    rw [e1, ih]
theorem split_ne (x y : Str) : Txt.split x y ≠ [] := by
  unfold Txt.split
  split
  · simp
  · split
    · simp
    · unfold Builtin.Str.partsBetween
      simp
theorem split_is {l : List Nat} {c : Nat} (ps : List (List Nat)) (h0 : ps ≠ []) (hf : ∀ p ∈ ps, c ∉ p) (hj : joinL c ps = l) : Txt.split ⟨l.toArray⟩ ⟨#[c]⟩ = ps.map fun p => ⟨p.toArray⟩ := by
  have h1 := StrLaws.join_split ⟨l.toArray⟩ ⟨#[c]⟩
  have h2 := StrLaws.split_free ⟨l.toArray⟩ c
  have h3 := congrArg (fun z : Str => z.cps.toList) h1
  rw [join_cps, mk_cps] at h3
  have h4 := parts_one (c := c) (by simpa using split_ne _ _) h0 (by
    intro p hp
    obtain ⟨z, hz, rfl⟩ := List.mem_map.mp hp
    exact h2 z hz) hf (h3.trans hj.symm)
  rw [← h4, List.map_map]
  have e : ((fun p : List Nat => (⟨p.toArray⟩ : Str)) ∘ fun x : Str => x.cps.toList) = id := by funext z; simp
  rw [e, List.map_id]
theorem split_mid {d : List Nat} {c : Nat} (hf : c ∉ d) : Txt.split ⟨(midL d c).toArray⟩ ⟨#[c]⟩ = [⟨#[]⟩, ⟨#[]⟩, ⟨#[]⟩, ⟨d.toArray⟩, ⟨#[]⟩] := by
  rw [split_is [[], [], [], d, []] (by simp) (by simp [hf]) (by simp [joinL, midL])]
  rfl
theorem lost_mid {d e : List Nat} {c : Nat} (hf : c ∉ d) (he : c ∉ e) : Txt.split ⟨(midL (d ++ c :: e) c).toArray⟩ ⟨#[c]⟩ = [⟨#[]⟩, ⟨#[]⟩, ⟨#[]⟩, ⟨d.toArray⟩, ⟨e.toArray⟩, ⟨#[]⟩] := by
  rw [split_is [[], [], [], d, e, []] (by simp) (by simp [hf, he]) (by simp [joinL, midL])]
  rfl
theorem int_of {d : List Nat} (h : AllDigits d) (hl : d.length = 9) : PySem.intText? ⟨d.toArray⟩ = some ((digitsVal d : Nat) : Int) := by
  have e := intText_digits (x := ⟨d.toArray⟩) h (by rw [mk_cps]; intro e; rw [e] at hl; cases hl) (by rw [mk_len, hl]; decide)
  rw [mk_cps] at e
  exact e
theorem at_lo {d : List Nat} {c : Nat} {i : Int} (h : d.length = 9) (hi : -29 ≤ i) : -((repS d c).length : Int) ≤ i := by
  rw [mk_len, repL_len c h]; omega
theorem at_hi {d : List Nat} {c : Nat} {i : Int} (h : d.length = 9) (hi : i < 29) : i < ((repS d c).length : Int) := by
  rw [mk_len, repL_len c h]; omega
theorem midL_len {d : List Nat} {c : Nat} (h : d.length = 9) : (midL d c).length = 13 := by
  unfold midL
  simp only [List.length_append, List.length_cons, List.length_nil, h]
theorem mid_fits {d : List Nat} {c : Nat} (h : d.length = 9) : (⟨(midL d c).toArray⟩ : Str).length + 2 ≤ sizeLine := by
  rw [mk_len, midL_len h]; decide
theorem ne_self (x : Str) : (x != x) = false := by simp
theorem drop2 {h₀ h : Heap} {L : Addr} {x y : Addr × Obj} {news : List (Addr × Obj)} (N : News h₀ L h (x :: y :: news)) : News h₀ L h (x :: news) := fun p hp => by
  rcases List.mem_cons.mp hp with rfl | hp
  · exact N _ (List.mem_cons_self ..)
  · exact N _ (List.mem_cons_of_mem _ (List.mem_cons_of_mem _ hp))
theorem drop1 {h₀ h : Heap} {L : Addr} {x : Addr × Obj} {news : List (Addr × Obj)} (N : News h₀ L h (x :: news)) : News h₀ L h news := fun p hp => N _ (List.mem_cons_of_mem _ hp)
theorem len640 {d : List Nat} (h : d.length = 9) : (⟨d.toArray⟩ : Str).length ≤ 640 := by
  rw [mk_len, h]; decide
end Mine
end PartT1
section PartC3
local macro_rules | `(tactic| walk_at "subscriptTail Name Slice str ref") => `(tactic| (
  k_here; (with_reducible show wpAny _ _ (subscriptTail _ (Expr.Slice none (some _) none _) (Value.str (PySem.Str.mk (List.toArray _)) _) _) _ _ _); (with_reducible rename Fr _ _ _ _ => F'); (with_reducible rename News _ _ _ _ => N'); (refine slice_strN_ns (hsz := ?hsz) (s := ⟨_, _, _, _, _⟩) F' N' ?_); (case hsz => walk_at "m_sz"); intro _ _ _ _ _; rw [Mine.cut_head _ (by assumption)]))
local macro_rules | `(tactic| walk_at "subscriptTail Name Slice str ref") => `(tactic| (
  k_here; (with_reducible show wpAny _ _ (subscriptTail _ (Expr.Slice (some _) (some _) none _) (Value.str (PySem.Str.mk (List.toArray _)) _) _) _ _ _); (with_reducible rename Fr _ _ _ _ => F'); (with_reducible rename News _ _ _ _ => N'); (refine slice_strN_ss (hsz := ?hsz) (s := ⟨_, _, _, _, _⟩) F' N' ?_); (case hsz => walk_at "m_sz"); intro _ _ _ _ _; rw [Mine.cut_mid _ (by assumption)]))
local macro_rules | `(tactic| walk_at "m_sz") => `(tactic| (rw [Mine.mk_len]; simp only [Mine.repL_len _ (by assumption)]; decide))
local macro_rules | `(tactic| walk_at "call builtin:str.find") => `(tactic| (
  k_here; (show wpAny _ _ (call (Value.builtin "str.find") [Value.str (PySem.Str.mk (List.toArray _)) _, _]) _ _ _); refine SC.find ?_; rw [Mine.find_open _ (by assumption)]))
local macro_rules | `(tactic| walk_at "call builtin:str.find") => `(tactic| (
  k_here; (show wpAny _ _ (call (Value.builtin "str.find") [Value.str (PySem.Str.mk (List.toArray _)) _, _, _]) _ _ _); refine SC.find3 ?_; rw [Mine.find_shut (by assumption) (by assumption) (by assumption)]))
local macro_rules | `(tactic| walk_at "subscriptTail Name BinOp str int") => `(tactic| (
  k_here; (show wpAny _ _ (subscriptTail _ _ (Value.str (PySem.Str.mk (List.toArray (Mine.repL _ _))) _) (Value.int (10 + 1) _)) _ _ _); refine item_str (by decide) (Mine.at_lo (by assumption) (by decide)) (Mine.at_hi (by assumption) (by decide)) ?_; intro _; rw [Mine.item_left _ (by assumption)]))
local macro_rules | `(tactic| walk_at "subscriptTail Name BinOp str int") => `(tactic| (
  k_here; (show wpAny _ _ (subscriptTail _ _ (Value.str (PySem.Str.mk (List.toArray (Mine.repL _ _))) _) (Value.int (24 - 1) _)) _ _ _); refine item_str (by decide) (Mine.at_lo (by assumption) (by decide)) (Mine.at_hi (by assumption) (by decide)) ?_; intro _; rw [Mine.item_right _ (by assumption)]))
local macro_rules | `(tactic| walk_at "call builtin:str.split") => `(tactic| (
  k_here; (show wpAny _ _ (call (Value.builtin "str.split") [Value.str (PySem.Str.mk (List.toArray (Mine.midL _ _))) _, Value.str (PySem.Str.mk (List.toArray _)) _]) _ _ _); refine KSpl.split1 (by k_asm) (by k_asm) rfl ?_ (Mine.mid_fits (by assumption)); intro D' l' h' k' e' a' F' N' l1; (try k_lt l1); rw [Mine.split_mid (by assumption)] at e'; kspl_open e'; (simp only [strValues, List.map_cons, List.map_nil] at N' a')))
local macro_rules | `(tactic| walk_at "call type:int") => `(tactic| (
  k_here; (show wpAny _ _ (call (Value.type "int") [Value.str (PySem.Str.mk (List.toArray _)) _]) _ _ _); refine KIN.call_text (Mine.int_of (by assumption) (by assumption)) (Mine.len640 (by assumption)) ?_))
local macro_rules | `(tactic| walk_at "compareOp NotEq str str") => `(tactic| (
  k_here; (with_reducible show wpAny _ _ (compareOp CmpOp.NotEq (Value.str _ _) (Value.str _ _)) _ _ _); refine ne_str ?_; rw [Mine.ne_self]))
local macro_rules | `(tactic| walk_at "subscriptTail Name Constant ref int") => `(tactic| (
  k_here; (with_reducible show wpAny _ _ (subscriptTail _ _ (Value.ref _) (Value.int 0 _)) _ _ _); k_dflt (refine' item_tupleT (News.isTup ?k1 ?k2) ?k3 ?k4 ?k5 ?k6 ?_; (case k1 => k_asm); (case k2 => first | assumption | exact List.Mem.tail _ (by assumption)); (case k3 => decide); (case k4 => decide); (case k5 => rfl); (case k6 => rfl))))
namespace Mine
section
variable {w : World} {mean : ExcName → Option Value} {mg mb : Str → Option Value} {news : List (Addr × Obj)}
  {dp un : Nat} {gd : Option (List Code)} {cn : Str} {cs : Scope} {a : Addr} {ccd : Value} {cl : List (Str × Addr)} {outer : List Env} {A₀ : Around} {base h₀ : Heap} {L : Addr} {m : Str → Option Value} {s : Shared} {Q E : Value → Shared → Prop}
set_option maxRecDepth 100000 in
set_option maxHeartbeats 8000000 in
theorem parse_use 
    {d : List Nat} {c : Nat} {hs : Str} {th tp : Tok} {pa : Addr} {k : Nat} (hpa : (pa, ({ cls := .type "tuple", data := .seq #[.str hs th, .int 21 tp] k } : Obj)) ∈ news)
    (hlen : d.length = 9) (hdig : PySem.NumText.AllDigits d) (h41 : ∀ x ∈ d, x ≠ 41) (hcd : c ∉ d) (hc2 : c ≠ 41) {tx : Tok} (B : Below A₀ base outer h₀) (F : Fr h₀ L s.heap m) (X : (hd.heap_39 w.params).In h₀) (N : News h₀ L s.heap news) (T : Top hd.view_39 (looseW hd.view_39 []) mean mg mb h₀) (hk : cs.kind = .function)
    (hdp : dp + 2 < recursionLimit) (hu : un + 16 < cLine)
    (ret : ∀ (l : Addr) (t : Tok) (h' : Heap) (tk' : Nat), Fr h₀ L h' m → News h₀ L h' ((l, ({ cls := .type "tuple", data := .seq #[.str hs th, .int ((PySem.NumText.digitsVal d : Nat) : Int) t] 0 } : Obj)) :: news) → Q (.ref l) { s with heap := h', toks := tk' }) :
    wpAny (model PySem.Challenge.rw_il0200_01.row.prog w) (ktrTop dp un gd cn cs L a ccd cl outer) (call (.ref 100) [.str (repS d c) tx, .ref pa]) Q E s := by
  w_on
  revert X; k_fill; intro X
  refine wpAny_call ?_
  cell_enter
  k_steps
  all_goals exact ret _ _ _ _ (by k_asm) (drop2 (by k_asm))
end
end Mine
end PartC3
section PartX1
namespace Mine
open PySem.Calls PySem.Spec
section
variable {prog : Program} {w : World} {A : Around} {E : Value → Shared → Prop} {s : Shared} {K : Frag} {e t C : Addr} {oe : Obj} {ws : Array Value} {m : Str} {tk : Tok}
open Builtin Builtin.Str Builtin.BaseException

theorem kind_bexc_str : builtinKind "BaseException.__str__" = some .slot := by kernel_rfl
theorem split_bexc_str : splitId "BaseException.__str__" = some ("BaseException", "__str__") := by kernel_rfl

theorem exc_looks {M : Model} {h : Heap} (he : h.get? e = some oe) : Looks M h (typeOf (.ref e)) oe.cls :=
  (Looks.ld (part := none) he).andThen .now

theorem exc_args {M : Model} {items : List Value} {Q : Value × List Value → Shared → Prop} (he : s.heap.get? e = some oe) (hd : oe.data = .fields ws) (h0 : ws[0]? = some (.ref t)) (ht : s.heap.TupAt t items) (hq : Q (.ref t, items) s) :
    wpAny M A (bexcArgs (.ref e)) Q E s := by
  obtain ⟨ot, k, hto, _, htd⟩ := ht
  unfold bexcArgs
  refine wpAny_bind (wpAny_field he hd h0 (wpAny_bind (wpAny_seqItems hto htd ?_)))
  have : items.toArray.toList = items := by simp
  show wpAny M A (pure (Value.ref t, items.toArray.toList)) Q E s
  rw [this]; exact wpAny_pure hq

theorem exc_entry {Q : Fin → Shared → Prop} (he : s.heap.get? e = some oe) (hd : oe.data = .fields ws) (h0 : ws[0]? = some (.ref t)) (ht : s.heap.TupAt t [.str m tk]) (hq : Q (.done (.ret (.str m tk))) s) :
    wpAny (model prog w) A (Builtin.«BaseException.__str__» ⟨[.ref e], []⟩) Q E s := by
  unfold Builtin.«BaseException.__str__»
  repeat (first | with_reducible refine exc_args he hd h0 ht ?_ | wp_step)
  exact hq

theorem exc_chk (X : K.In s.heap) (q : ktsIn K C "BaseException" = true) (he : s.heap.get? e = some oe) (hc : oe.cls = .ref C) :
    wpAny (model prog w) A (checkBuiltinCall "BaseException.__str__" ⟨.ref e :: [], []⟩) (fun _ s₁ => s₁ = s) (fun _ _ => False) s := by
  obtain ⟨nm, qn, N, bs, bm, hdct, sn, sub, ab, col, dd, k0, k1, k2, k3, k5, newId, hC, hb, _⟩ := kts_cls X q
  obtain ⟨h, g, d, tt, os⟩ := s
  have ha : argsOk "BaseException.__str__" ⟨.ref e :: [], []⟩ := F.args_bexc_str _
  have := @wpAny_check_slot_inst (id := "BaseException.__str__") (owner := "BaseException") (n := "__str__") (M := model prog w) (A := A) (E := fun _ _ => False) (h := h) (g := g) (d := d) (t := tt) (os := os) (Q := fun _ s₁ => s₁ = ⟨h, g, d, tt, os⟩) (rest := []) (x := e) (C := C) (o := oe) (nm := nm) (q := qn) (N := N) (bs := bs) (bm := bm) (hdct := hdct) (sn := sn) (sub := sub) (ab := ab) (col := col) (dd := dd) (k0 := k0) (k1 := k1) (k2 := k2) (k3 := k3) (k5 := k5) (newId := newId) kind_bexc_str split_bexc_str ha hb he hc hC rfl
  exact this
theorem exc_call {Q : Value → Shared → Prop} (X : K.In s.heap) (q : ktsIn K C "BaseException" = true) (he : s.heap.get? e = some oe) (hc : oe.cls = .ref C) (hd : oe.data = .fields ws) (h0 : ws[0]? = some (.ref t)) (ht : s.heap.TupAt t [.str m tk]) (hq : Q (.str m tk) s) :
    wpAny (model prog w) A (call (.builtin "BaseException.__str__") [.ref e]) Q E s := by
  refine wpAny_call ?_
  refine codeAny_call_builtin (b := Builtin.«BaseException.__str__») F.excStr_Exception.str.plain F.entry_bexc_str ?_
  refine wpAny_mono (exc_chk X q he hc) (fun _ s₁ e₁ => ?_) (fun _ _ x => x.elim)
  subst e₁
  refine exc_entry he hd h0 ht ?_
  exact hq
theorem exc_strOf {Q : Value → Shared → Prop} (hu : A.units < cLine) (X : K.In s.heap) (q : ktsIn K C "BaseException" = true) (hs : findIn K (.ref C) "__str__" = some (some (.builtin "BaseException.__str__")))
    (he : s.heap.get? e = some oe) (hc : oe.cls = .ref C) (hd : oe.data = .fields ws) (h0 : ws[0]? = some (.ref t)) (ht : s.heap.TupAt t [.str m tk]) (hq : Q (.str m tk) s) :
    wpAny (model prog w) A (PySem.Builtin.Str.strOf (.ref e)) Q E s := by
  unfold PySem.Builtin.Str.strOf
  rw [show isExactStr (.ref e) = false from rfl]
  refine wpAny_bind (m := cRoomFor _ _) (wpAny_cRoomFor hu ?_)
  refine wpAny_bind (m := callSpecial? (.ref e) (Str.ofString "__str__")) ?_
  unfold callSpecial?
  refine wpAny_bind (m := specialOf _ _) ?_
  unfold specialOf
  refine wpAny_bind ((exc_looks he).here ?_)
  rw [hc]
  refine (looks_findIn X hs).here ?_
  dsimp only
  simp only [F.excStr_Exception.str.bind]
  refine wpAny_holding (wpAny_bind (wpAny_pure (wpAny_bind ?_)))
  refine wpAny_mono (exc_call X q he hc hd h0 ht (Q := fun r s₁ => r = .str m tk ∧ Q r s₁) ⟨rfl, hq⟩) (fun r s₁ hr => ?_) fun _ _ y => y
  obtain ⟨rfl, hr⟩ := hr
  exact wpAny_pure (wpAny_pure hr)

theorem exc_str {Q : Value → Shared → Prop} (hu : A.in1.in1.units < cLine) (X : K.In s.heap) (q : ktsIn K C "BaseException" = true) (hs : findIn K (.ref C) "__str__" = some (some (.builtin "BaseException.__str__")))
    (he : s.heap.get? e = some oe) (hc : oe.cls = .ref C) (hd : oe.data = .fields ws) (h0 : ws[0]? = some (.ref t)) (ht : s.heap.TupAt t [.str m tk]) (hq : Q (.str m tk) s) :
    wpAny (model prog w) A (call (.type "str") [.ref e]) Q E s := by
  refine callType_codes (T := "str") (Bi := Builtin.«object.__init__») (Q₁ := fun r s₁ => r = .str m tk ∧ Q r s₁) PySem.F.called_str (PySem.F.typeCall_str_1 _) PySem.F.entry_object_init ?_ ?_
  · refine codeAny_of_tree ?_
    show wpAny _ A.in1.in1 (do checkBuiltinCall "str.__new__" ⟨[.type "str", .ref e], []⟩; again (.builtin "str.__new__" ⟨[.type "str", .ref e], []⟩)) _ _ s
    refine wpAny_bind (wpAny_of_eq (PySem.F.newCall_str_1 _) (wpAny_pure ⟨plainId_quiet (by decide +kernel) _, codeAny_builtin PySem.F.entry_str_new ?_⟩))
    rw [Around.under_plainId (by decide +kernel) _]
    rw [str_new_tree]
    refine wpAny_bind (wpAny_pure ?_)
    refine wpAny_bind (wpAny_of_eq isSubtype_str_str ?_)
    refine wpAny_bind (wpAny_mono (exc_strOf hu X q hs he hc hd h0 ht (Q := fun r s₁ => r = .str m tk ∧ Q r s₁) ⟨rfl, hq⟩) (fun r s₁ hr => wpAny_pure hr) fun _ _ y => y)
  · rintro obj s₁ ⟨rfl, hq⟩
    exact ⟨typeIs_str _ _ _, PySem.F.args_object_init_2 _ _, object_init_meets PySem.F.called_str.init.lookup PySem.F.called_str.made (by decide) prog w A.in1 _ s₁ ⟨typeIs_str _ _ _, rfl, hq⟩⟩
end

section
variable {prog : Program} {w : World} {A₀ A : Around} {s : Shared} {base h₀ : Heap} {env : Env} {L : Addr} {m : Str → Option Value} {news : List (Addr × Obj)} {K : Frag} {p : Program} {loose : List Str} {mean : ExcName → Option Value} {mg mb : Str → Option Value}
    {R : Result → Shared → Prop} {name qual : Str} {params : Arguments} {body : List Stmt} {scope : Scope} {dV kV doc pm cdv ct oc : Value} {an od : Option Addr} {osl : Array (Option Value)} {f : Addr} {args : Args} {binds : List (Str × Value)}

/-- the library's entry into a def that catches (code_defS0), its caller a frame with cells -/
theorem code_defS0X (B : Below A₀ base [] h₀) (F : Fr h₀ L s.heap m) (X₀ : K.In h₀) (N : News h₀ L s.heap news) (T : Top p loose mean mg mb h₀) (hA : A.frames = some [env]) (hf : env.frame = some L) (hke : env.scope.kind = .function)
    (ho : K.lookup f = some ⟨oc, od, .func (fnOf name qual params body scope dV kV doc pm an cdv ct), osl⟩) (hcd : codeIn K cdv qual = true) (hroom : A.depth < recursionLimit)
    (hbind : BindsTo s (fnOf name qual params body scope dV kV doc pm an cdv ct) args binds) (hloc : ∀ y ∈ binds, scope.names.lookup y.1 = some .local)
    (h : ∀ g L' h₁, Fr h₀ L g m → Fr g L' h₁ (fun y => binds.reverse.lookup y) → News g L' h₁ news → Below A base [env] g → K.In g → Top p loose mean mg mb g → KtsDicts ([env].filterMap (·.frame)) g →
      wpAny (model prog w) (A.deeper (envOf qual scope L' f cdv)) (execs body (envOf qual scope L' f cdv))
        (fun fl s' => LeaveS0 ([env].filterMap (·.frame)) h₀ L m g R (match fl with | .ret v => v | _ => .none) s')
        (fun e s' => wpAny (model prog w) (A.deeper (envOf qual scope L' f cdv)) (leaving (envOf qual scope L' f cdv) e) (fun _ s'' => R (.error e) s'') (fun e' s'' => R (.error e') s'') s')
        { s with heap := h₁, toks := s.toks + binds.length })
    (hco : scope.isCoroutine = false) (hgen : scope.isGenerator = false) (hk : scope.kind = .function)
    (hcell : ∀ x ∈ scope.names, x.2 ≠ .cell) : codeAny (model prog w) A (.call (.ref f) args) R s := by
  have X := X₀.keeps F.keep
  refine codeAny_call_def (fd := fnOf name qual params body scope dV kV doc pm an cdv ct) (body := body) (binds := binds) hroom (X _ _ ho) rfl (T.nolimit.keeps F.keep) (codeRec_of X hcd) rfl hbind hcell hloc (fun h₁ hns hk₁ => ?_) hco hgen hk
  obtain ⟨FG, BG, st, _⟩ := groundX (R := R) B F N hA hf hke
  have nL : L ∉ news.map (·.1) := fun q => by
    obtain ⟨p, hp, e⟩ := List.mem_map.mp q
    exact (N p hp).2.1 e
  obtain ⟨oL, es, ep, hL, hLd, hLk, hLf⟩ := F.ns
  have hLg : (hideAll s.heap (news.map (·.1))).get? L = some oL := hideAll_get (news.map (·.1)) hL nL
  have hN : ∀ h', h'.get? L = some oL → Heap.Ns h' L m := fun h' e => ⟨oL, es, ep, e, hLd, hLk, hLf⟩
  have hNs : ∀ (sl : Array (Option Value)) h', h'.get? L = some { oL with slots := sl } → Heap.Ns h' L m := fun sl h' e => ⟨_, es, ep, e, hLd, hLk, hLf⟩
  have hmem : ∀ {b : Addr}, b ∈ [env].filterMap (·.frame) → b = L := fun {b} hb => by
    obtain ⟨env', he, hf'⟩ := List.mem_filterMap.mp hb
    rw [List.mem_singleton.mp he, hf] at hf'
    exact (Option.some.inj hf').symm
  refine wpAny_mono (h _ s.heap.objs.size h₁ FG ⟨hns, fun b o e => hk₁ b o (of_hideAll _ e), Nat.le_of_eq (hideAll_size _ _)⟩
    (fun p hp => ⟨hk₁ _ _ (N p hp).1, Nat.ne_of_lt (Heap.lt_size (N p hp).1), hideAll_none _ (List.mem_map_of_mem hp)⟩) BG (X₀.keeps st) (T.keeps st) (fun b hb => by
      rw [hmem hb]
      exact ⟨oL, es, ep, hLg, hLd⟩)) (fun fl s' hl => ?_) fun _ _ y => y
  obtain ⟨g', L', m', news', T', F', N', k⟩ := hl
  have nL₀ : h₀.get? L = none := kts_self F
  obtain ⟨sl, hs⟩ := T'.up hLg
  refine k ⟨hNs sl _ (F'.keep _ _ hs), fun b o e => F'.keep b o (T'.other b o (st b o e) (fun q => by
    rw [hmem q, nL₀] at e
    cases e)), F.above⟩ fun p hp => ⟨(N' p hp).1, fun q => ?_, ?_⟩
  · have := (N' p hp).2.2; rw [q, hs] at this; cases this
  · cases q : h₀.get? p.1 with
    | none => rfl
    | some o =>
      obtain ⟨sl', hs'⟩ := T'.up (st _ _ q)
      have := (N' p hp).2.2
      rw [hs'] at this
      cases this
end
end Mine
end PartX1
section PartC4
local macro_rules | `(tactic| walk_at "subscriptTail Name Slice str ref") => `(tactic| (
  k_here; (with_reducible show wpAny _ _ (subscriptTail _ (Expr.Slice none (some _) none _) (Value.str (PySem.Str.mk (List.toArray _)) _) _) _ _ _); (with_reducible rename Fr _ _ _ _ => F'); (with_reducible rename News _ _ _ _ => N'); (refine slice_strN_ns (hsz := ?hsz) (s := ⟨_, _, _, _, _⟩) F' N' ?_); (case hsz => walk_at "m_sz"); intro _ _ _ _ _; rw [Mine.cut_head _ (by assumption)]))
local macro_rules | `(tactic| walk_at "subscriptTail Name Slice str ref") => `(tactic| (
  k_here; (with_reducible show wpAny _ _ (subscriptTail _ (Expr.Slice (some _) (some _) none _) (Value.str (PySem.Str.mk (List.toArray _)) _) _) _ _ _); (with_reducible rename Fr _ _ _ _ => F'); (with_reducible rename News _ _ _ _ => N'); (refine slice_strN_ss (hsz := ?hsz) (s := ⟨_, _, _, _, _⟩) F' N' ?_); (case hsz => walk_at "m_sz"); intro _ _ _ _ _; rw [Mine.cut_mid _ (by assumption)]))
local macro_rules | `(tactic| walk_at "m_sz") => `(tactic| (rw [Mine.mk_len]; simp only [Mine.repL_len _ (by assumption)]; decide))
local macro_rules | `(tactic| walk_at "call builtin:str.find") => `(tactic| (
  k_here; (show wpAny _ _ (call (Value.builtin "str.find") [Value.str (PySem.Str.mk (List.toArray _)) _, _]) _ _ _); refine SC.find ?_; rw [Mine.find_open _ (by assumption)]))
local macro_rules | `(tactic| walk_at "call builtin:str.find") => `(tactic| (
  k_here; (show wpAny _ _ (call (Value.builtin "str.find") [Value.str (PySem.Str.mk (List.toArray _)) _, _, _]) _ _ _); refine SC.find3 ?_; rw [Mine.find_shut (by assumption) (by assumption) (by assumption)]))
local macro_rules | `(tactic| walk_at "subscriptTail Name BinOp str int") => `(tactic| (
  k_here; (show wpAny _ _ (subscriptTail _ _ (Value.str (PySem.Str.mk (List.toArray (Mine.repL _ _))) _) (Value.int (10 + 1) _)) _ _ _); refine item_str (by decide) (Mine.at_lo (by assumption) (by decide)) (Mine.at_hi (by assumption) (by decide)) ?_; intro _; rw [Mine.item_left _ (by assumption)]))
local macro_rules | `(tactic| walk_at "subscriptTail Name BinOp str int") => `(tactic| (
  k_here; (show wpAny _ _ (subscriptTail _ _ (Value.str (PySem.Str.mk (List.toArray (Mine.repL _ _))) _) (Value.int (24 - 1) _)) _ _ _); refine item_str (by decide) (Mine.at_lo (by assumption) (by decide)) (Mine.at_hi (by assumption) (by decide)) ?_; intro _; rw [Mine.item_right _ (by assumption)]))
local macro_rules | `(tactic| walk_at "call builtin:str.split") => `(tactic| (
  k_here; (show wpAny _ _ (call (Value.builtin "str.split") [Value.str (PySem.Str.mk (List.toArray (Mine.midL _ _))) _, Value.str (PySem.Str.mk (List.toArray _)) _]) _ _ _); refine KSpl.split1 (by k_asm) (by k_asm) rfl ?_ (Mine.mid_fits (by assumption)); intro D' l' h' k' e' a' F' N' l1; (try k_lt l1); rw [Mine.lost_mid (by assumption) (by assumption)] at e'; kspl_open e'; (simp only [strValues, List.map_cons, List.map_nil] at N' a')))
local macro_rules | `(tactic| walk_at "call type:int") => `(tactic| (
  k_here; (show wpAny _ _ (call (Value.type "int") [Value.str (PySem.Str.mk (List.toArray _)) _]) _ _ _); refine KIN.call_text (Mine.int_of (by assumption) (by assumption)) (Mine.len640 (by assumption)) ?_))
local macro_rules | `(tactic| walk_at "compareOp NotEq str str") => `(tactic| (
  k_here; (with_reducible show wpAny _ _ (compareOp CmpOp.NotEq (Value.str _ _) (Value.str _ _)) _ _ _); refine ne_str ?_; rw [Mine.ne_self]))
local macro_rules | `(tactic| walk_at "subscriptTail Name Constant ref int") => `(tactic| (
  k_here; (with_reducible show wpAny _ _ (subscriptTail _ _ (Value.ref _) (Value.int 0 _)) _ _ _); k_dflt (refine' item_tupleT (News.isTup ?k1 ?k2) ?k3 ?k4 ?k5 ?k6 ?_; (case k1 => k_asm); (case k2 => first | assumption | exact List.Mem.tail _ (by assumption)); (case k3 => decide); (case k4 => decide); (case k5 => rfl); (case k6 => rfl))))
local macro_rules | `(tactic| walk_at "call ref") => `(tactic| (
  k_here; (with_reducible show wpAny _ _ (call (Value.ref 100) _) _ _ _); refine wpAny_call ?_; k_dflt walk_at "m_enter"))
local macro_rules | `(tactic| walk_at "call type:str") => `(tactic| (
  k_here; (show wpAny _ _ (call (Value.type "str") [Value.ref _]) _ _ _); (rename PyProof.Rows.Got _ _ _ _ _ => gX); (obtain ⟨oe9, ot9, ws9, nt9, g1, g2, g3, g4, g5, g6, g7⟩ := gX); k_dflt (refine' Mine.exc_str ?ku ?kX ?kq ?ks (News.get ?kN g1) g3 g4 g5 ⟨ot9, nt9, News.get ?kM g2, g6, g7⟩ ?_; (case ku => ktr_units); (case kN => k_asm); (case kM => k_asm); (case kX => k_in); (case kq => kts_isx); (case ks => k_is))))
namespace Mine
section
variable {w : World} {mean : ExcName → Option Value} {mg mb : Str → Option Value} {news : List (Addr × Obj)}
  {dp un : Nat} {gd : Option (List Code)} {cn : Str} {cs : Scope} {a : Addr} {ccd : Value} {cl : List (Str × Addr)} {outer : List Env} {A₀ : Around} {base h₀ : Heap} {L : Addr} {m : Str → Option Value} {s : Shared} {Q E : Value → Shared → Prop}
set_option maxRecDepth 100000 in
set_option maxHeartbeats 8000000 in
theorem lost_use
    {d e : List Nat} {c : Nat} {hs : Str} {th tp : Tok} {pa : Addr} {k : Nat} (hpa : (pa, ({ cls := .type "tuple", data := .seq #[.str hs th, .int 21 tp] k } : Obj)) ∈ news)
    (hlen : (d ++ c :: e).length = 9) (h41 : ∀ x ∈ d ++ c :: e, x ≠ 41) (hcd : c ∉ d) (hce : c ∉ e) (hc2 : c ≠ 41) {tx ty : Tok}
    (B : Below A₀ base [] h₀) (F : Fr h₀ L s.heap m) (X : (hd.heap_39 w.params).In h₀) (N : News h₀ L s.heap news) (T : Top hd.view_39 (looseW hd.view_39 []) mean mg mb h₀) (hk : cs.kind = .function)
    (XB : (hd.heap_39 w.params).In base) (TB : Top hd.view_39 (looseW hd.view_39 []) mean mg mb base)
    (hdp : dp + 8 < recursionLimit) (hu : un + 64 < cLine)
    (ret : ∀ (t : Tok) (h' : Heap) (tk' : Nat), Fr h₀ L h' m → News h₀ L h' news → Q (.bool true) { s with heap := h', toks := tk' }) :
    wpAny (model PySem.Challenge.rw_il0200_01.row.prog w) (ktrTop dp un gd cn cs L a ccd cl []) (call (.ref 128) [.str ⟨(d ++ c :: e).toArray⟩ tx, .str ⟨#[c]⟩ ty, .ref pa]) Q E s := by
  w_on
  revert X; k_fill; intro X
  refine wpAny_call ?_
  refine' code_defS0X ?k1 ?k2 ?k3 ?k4 ?k5 ?kA ?kF ?kK ?k6 ?k7 ?k8 ?k9 ?kB ?_ ?c2 ?c3 ?c4 ?c5; (case kA => exact rfl); (case kF => exact rfl); (case kK => assumption); (case k1 => k_asm); (case k2 => k_asm); (case k3 => k_asm); (case k4 => k_asm); (case k5 => k_asm); (case k6 => k_is); (case k7 => k_is); (case k8 => ktr_room); (case k9 => exact BindsTo.of_eq rfl); (case c5 => decide); (case kB => exact locs rfl); (case c2 => exact rfl); (case c3 => exact rfl); (case c4 => exact rfl); k_whole; intro g' L' h' FG' F' N' B' X' T' D'; (try dsimp only); (try k_lift B'); (try k_fold)
  k_steps
  all_goals exact cb_retB ret (beq_self_eq_true _) (by k_asm) (drop1 (by k_asm))
end
end Mine
end PartC4
local macro_rules | `(tactic| walk_at "m_parse") => `(tactic| (
  (case kp => first | k_mem | assumption); (case kq => assumption); (case kr => assumption); (case ks => assumption); (case kt => assumption); (case kv => assumption)))
local macro_rules | `(tactic| walk_at "call ref") => `(tactic| (
  k_here; (with_reducible show wpAny _ _ (call (Value.ref 100) [Value.str (PySem.Str.mk (List.toArray (Mine.repL _ _))) _, Value.ref _]) _ _ _);
  k_dflt (refine' Mine.parse_use ?kp ?kq ?kr ?ks ?kt ?kv ?k1 ?k2 ?k3 ?k4 ?k5 ?kK ?kd ?ku ?_; walk_at "m_std"; walk_at "m_parse"); intro l9 t9 h9 tk9 F9 N9; (try dsimp only); (try k_fold)))
section PartX2
namespace Mine
open PySem.Calls PySem.Spec
section
variable {prog : Program} {w : World} {A : Around} {E : Value → Shared → Prop} {s : Shared} {env : Env} {h₀ : Heap} {x : Str} {body : List Stmt} {Q : Flow → Shared → Prop}
/-- a loop over a range by ones, an invariant over the turn's number, the frame's map and the ledger -/
theorem range_inv {r : Addr} {a₀ b₀ : Int} {t₀ u₀ v₀ : Tok} {n : Nat} {m₀ : Str → Option Value} {news : List (Addr × Obj)} (J : Nat → (Str → Option Value) → List (Addr × Obj) → Prop)
    (hh : A.handled = none) (hr : IsRange s.heap r a₀ b₀ 1 t₀ u₀ v₀) (hsmall : Builtin.Range.small a₀ b₀ 1 = true) (hsz : Builtin.Range.rangeSize a₀ b₀ 1 = (n : Int)) (F : Fr h₀ env.locals s.heap m₀) (N : News h₀ env.locals s.heap news) (hj : J 0 m₀ news)
    (turn : ∀ (i : Nat) t m₁ nx h tk own, i < n → OwnOff own (nx.map (·.1)) → J i m₁ nx → Fr h₀ env.locals h (fun y => if y = x then some (.int (a₀ + (i : Int)) t) else m₁ y) → News h₀ env.locals h (nx ++ own) →
      wpAny (model prog w) A (execs body env) (InvPostG h₀ env.locals (J (i + 1)) own { s with heap := h, toks := tk } Q) E { s with heap := h, toks := tk })
    (done : ∀ m₁ nx h tk, J n m₁ nx → Fr h₀ env.locals h m₁ → News h₀ env.locals h nx → Q .next { s with heap := h, toks := tk }) :
    wpAny (model prog w) A (pyIter (.ref r)) (fun it s₂ => LoopAtV prog w A h₀ env x body Q E it s₂) E s := by
  refine wpAny_pyIter_range hr hsmall ?_
  have W : Walks prog w A s.heap.objs.size [s.heap.objs.size] [s.heap.objs.size] n (fun i v => i < n ∧ ∃ t, v = .int (a₀ + i * 1) t)
      (fun i h => IsRangeIter h s.heap.objs.size (a₀ + (i : Nat) * 1) ((n : Int) - (i : Nat)) 1) := (Walks.range hh _ a₀ 1 n).bound
  refine kdr_loop J W (fun _ h => h) (fun _ h => h) ?_ ?_ ?_ ?_ (by show IsRangeIter _ _ _ _ _; rw [hsz]; simpa using Heap.get?_push_size _ rfl) (F.push _) (fun p hp => ⟨Heap.get?_push_of_some _ (N p hp).1, (N p hp).2⟩) hj ?_ ?_
  · intro i h hi b hb
    rw [List.mem_singleton.mp hb]
    exact ⟨_, hi⟩
  · intro hm
    exact absurd F.ns.lt ((List.mem_singleton.mp hm) ▸ Nat.lt_irrefl _)
  · intro b hb
    rw [List.mem_singleton.mp hb]
    exact next_is_new F
  · intro p hp hI
    exact absurd (Heap.lt_size (N p hp).1) ((List.mem_singleton.mp hI) ▸ Nat.lt_irrefl _)
  · rintro i v m₁ nx h tk own hi ⟨_, t, rfl⟩ hoff hJ F₁ N₁
    have e1 : a₀ + (i : Int) * 1 = a₀ + (i : Int) := by omega
    rw [e1] at F₁
    exact turn i t m₁ nx h tk own hi hoff hJ F₁ N₁
  · exact done
end
/-- a name's value is known: the map says so by its text -/
theorem pin {m : Str → Option Value} {x : Str} {v : Value} (h : m x = some v) : m = fun y => if y = x then some v else m y := by
  funext y
  by_cases e : y = x
  · rw [if_pos e, e, h]
  · rw [if_neg e]
theorem pin1 {h₀ h : Heap} {L : Addr} {m : Str → Option Value} {a : Str} {va : Value} (F : Fr h₀ L h m) (h1 : m a = some va) : Fr h₀ L h (fun y => if y = a then some va else m y) := by
  rw [← pin h1]
  exact F
theorem pin3 {h₀ h : Heap} {L : Addr} {m : Str → Option Value} {x a b c : Str} {v : Option Value} {va vb vc : Value} (F : Fr h₀ L h (fun y => if y = x then v else m y)) (h1 : m a = some va) (h2 : m b = some vb) (h3 : m c = some vc) :
    Fr h₀ L h (fun y => if y = x then v else if y = a then some va else if y = b then some vb else if y = c then some vc else m y) := by
  have e : (fun y => if y = x then v else m y) = fun y => if y = x then v else if y = a then some va else if y = b then some vb else if y = c then some vc else m y := by
    funext y
    by_cases hx : y = x
    · rw [if_pos hx, if_pos hx]
    rw [if_neg hx, if_neg hx]
    by_cases g0 : y = a
    · rw [if_pos g0, g0, h1]
    rw [if_neg g0]
    by_cases g1 : y = b
    · rw [if_pos g1, g1, h2]
    rw [if_neg g1]
    by_cases g2 : y = c
    · rw [if_pos g2, g2, h3]
    rw [if_neg g2]
  rw [← e]
  exact F
theorem pin5 {h₀ h : Heap} {L : Addr} {m : Str → Option Value} {x a b c d e : Str} {v : Option Value} {va vb vc vd ve : Value} (F : Fr h₀ L h (fun y => if y = x then v else m y)) (h1 : m a = some va) (h2 : m b = some vb) (h3 : m c = some vc) (h4 : m d = some vd) (h5 : m e = some ve) :
    Fr h₀ L h (fun y => if y = x then v else if y = a then some va else if y = b then some vb else if y = c then some vc else if y = d then some vd else if y = e then some ve else m y) := by
  have e : (fun y => if y = x then v else m y) = fun y => if y = x then v else if y = a then some va else if y = b then some vb else if y = c then some vc else if y = d then some vd else if y = e then some ve else m y := by
    funext y
    by_cases hx : y = x
    · rw [if_pos hx, if_pos hx]
    rw [if_neg hx, if_neg hx]
    by_cases g0 : y = a
    · rw [if_pos g0, g0, h1]
    rw [if_neg g0]
    by_cases g1 : y = b
    · rw [if_pos g1, g1, h2]
    rw [if_neg g1]
    by_cases g2 : y = c
    · rw [if_pos g2, g2, h3]
    rw [if_neg g2]
    by_cases g3 : y = d
    · rw [if_pos g3, g3, h4]
    rw [if_neg g3]
    by_cases g4 : y = e
    · rw [if_pos g4, g4, h5]
    rw [if_neg g4]
  rw [← e]
  exact F
theorem map_of {h₀ h : Heap} {L : Addr} {m : Str → Option Value} (_F : Fr h₀ L h m) : ∃ m', m' = m := ⟨_, rfl⟩
theorem led_of {h₀ h : Heap} {L : Addr} {nl : List (Addr × Obj)} (_N : News h₀ L h nl) : ∃ nl', nl' = nl := ⟨_, rfl⟩
/-- the map behind a loop: one name turned, one forgotten, the others as they stood -/
theorem pinN {h₀ h : Heap} {L : Addr} {m mm : Str → Option Value} {a b : Str} {v : Value} (F : Fr h₀ L h m) (h1 : m a = some v) (h2 : ∀ z, z ≠ a → z ≠ b → m z = mm z) :
    Fr h₀ L h (fun y => if y = a then some v else if y = b then m y else mm y) := by
  have e : m = fun y => if y = a then some v else if y = b then m y else mm y := by
    funext y
    by_cases g : y = a
    · rw [if_pos g, g, h1]
    rw [if_neg g]
    by_cases g2 : y = b
    · rw [if_pos g2]
    rw [if_neg g2, h2 y g g2]
  rw [← e]
  exact F
theorem lt_all {d : Addr} : ∀ {l : List (Addr × Obj)}, AllLt d l → ∀ p ∈ l, @LT.lt Nat _ p.1 d
  | [], _, _, hp => nomatch hp
  | q :: r, h, p, hp => by
    rcases List.mem_cons.mp hp with rfl | hp
    · exact h.1
    · exact lt_all h.2 p hp
end Mine
end PartX2
section PartT2
namespace Mine
open PySem.NumText
/-- the figure at a place -/
def dgt (d : List Nat) (k : Nat) : Int := ((d.getD k 0 - 48 : Nat) : Int)
theorem getD_mem {d : List Nat} {k : Nat} (h : k < d.length) : d.getD k 0 ∈ d := by
  rw [List.getD_eq_getElem?_getD, List.getElem?_eq_getElem h]
  exact List.getElem_mem h
theorem dgt_lo (d : List Nat) (k : Nat) : 0 ≤ dgt d k := Int.natCast_nonneg _
theorem dgt_hi {d : List Nat} {k : Nat} (h : AllDigits d) : dgt d k ≤ 9 := by
  unfold dgt
  by_cases hk : k < d.length
  · have := h _ (getD_mem hk)
    omega
  · rw [List.getD_eq_getElem?_getD, List.getElem?_eq_none (by omega)]
    decide
theorem int_one {c : Nat} (h : 48 ≤ c ∧ c ≤ 57) : PySem.intText? ⟨#[c]⟩ = some ((c - 48 : Nat) : Int) := by
  have e := intText_digits (x := ⟨#[c]⟩) (fun x hx => by
    have hx' : x ∈ [c] := hx
    rw [List.mem_singleton.mp hx']; exact h) (by intro e; cases e) (by show 1 ≤ 4300; decide)
  rw [e]
  have : digitsVal [c] = c - 48 := by show 0 * 10 + (c - 48) = c - 48; omega
  exact congrArg (fun n : Nat => some (n : Int)) this
theorem int_at {d : List Nat} {k : Nat} (h : AllDigits d) (hk : k < d.length) : PySem.intText? ⟨#[d.getD k 0]⟩ = some (dgt d k) := int_one (h _ (getD_mem hk))
theorem len1_640 (c : Nat) : (⟨#[c]⟩ : Str).length ≤ 640 := by show 1 ≤ 640; decide
theorem str_digit {n : Int} (h0 : 0 ≤ n) (h9 : n ≤ 9) : Str.ofString (toString n) = ⟨#[48 + n.toNat]⟩ := by
  have h : ∀ k : Nat, k < 10 → Str.ofString (toString (k : Int)) = ⟨#[48 + (k : Int).toNat]⟩ := by decide +kernel
  obtain ⟨k, rfl⟩ := Int.eq_ofNat_of_zero_le h0
  exact h k (by omega)
theorem fm_lo (x : Int) : 0 ≤ Int.fmod x 10 := fmod_lo x (by decide)
theorem fm_hi (x : Int) : Int.fmod x 10 ≤ 9 := by have := fmod_hi x (n := 10) (by decide); omega
theorem take_len {d : List Nat} (n : Nat) (h : d.length = 9) : (⟨(d.take n).toArray⟩ : Str).length ≤ 9 := by
  rw [mk_len, List.length_take]; omega
theorem drop_len {d : List Nat} (n : Nat) (h : d.length = 9) : (⟨(d.drop n).toArray⟩ : Str).length ≤ 9 := by
  rw [mk_len, List.length_drop]; omega
theorem mid_len {d : List Nat} (n m : Nat) (h : d.length = 9) : (⟨((d.drop n).take m).toArray⟩ : Str).length ≤ 9 := by
  rw [mk_len, List.length_take, List.length_drop]; omega
theorem txt_lo {d : List Nat} {i : Int} (h : d.length = 9) (hi : 0 ≤ i) : -((⟨d.toArray⟩ : Str).length : Int) ≤ i := by
  rw [mk_len, h]; omega
theorem txt_hi {d : List Nat} {i : Int} (h : d.length = 9) (hi : i < 9) : i < ((⟨d.toArray⟩ : Str).length : Int) := by
  rw [mk_len, h]; omega
theorem txt_sz {d : List Nat} (h : d.length = 9) : (⟨d.toArray⟩ : Str).length ≤ sizeLine := by
  rw [mk_len, h]; decide

def Ways (place gap ways : Int) : Prop := (gap ≠ 0 ∧ ways = gap * 10 ^ place.toNat) ∨ ∃ q : Nat, place.toNat < q ∧ q ≤ 8 ∧ ways = gap * (10 ^ place.toNat - 10 ^ q)
/-- what a changed text is: its place, its gap, its ways -/
structure Chg (d cs : List Nat) (place gap ways : Int) : Prop where
  len : cs.length = 9
  dig : AllDigits cs
  p0 : 0 ≤ place
  p8 : place ≤ 8
  g0 : -9 ≤ gap
  g9 : gap ≤ 9
  val : ((digitsVal cs : Nat) : Int) = ((digitsVal d : Nat) : Int) + ways
  way : Ways place gap ways

abbrev tupO (xs : List Value) : Obj := { cls := .type "tuple", data := .seq xs.toArray }
/-- a value that stands for a change, its tuple in the ledger -/
def Item (d : List Nat) (led : List (Addr × Obj)) (v : Value) : Prop :=
  ∃ a cs place gap ways t1 t2 t3 t4, v = .ref a ∧ (a, tupO [.str ⟨cs.toArray⟩ t1, .int place t2, .int gap t3, .int ways t4]) ∈ led ∧ Chg d cs place gap ways
theorem Item.mono {d : List Nat} {led led' : List (Addr × Obj)} {v : Value} (h : Item d led v) (hs : ∀ p ∈ led, p ∈ led') : Item d led' v := by
  obtain ⟨a, cs, place, gap, ways, t1, t2, t3, t4, e, hm, hc⟩ := h
  exact ⟨a, cs, place, gap, ways, t1, t2, t3, t4, e, hs _ hm, hc⟩

def LJ (d : List Nat) (lc : Addr) (rest base : List (Addr × Obj)) (keep : List (Str × Value)) (bound : Nat) (m : Str → Option Value) (nx : List (Addr × Obj)) : Prop :=
  ∃ (vs : List Value) (n : Nat) (tl : List (Addr × Obj)), nx = (lc, W.listOf vs.toArray n) :: (tl ++ rest) ∧ (∀ p ∈ tl ++ rest, p.1 ≠ lc) ∧ (∀ p ∈ tl, ∀ q ∈ rest, q.1 ≠ p.1) ∧ (∀ v ∈ vs, Item d (tl ++ base) v) ∧ vs.length ≤ bound ∧ ∀ p ∈ keep, m p.1 = some p.2

section
variable {d : List Nat} {lc D L : Addr} {rest base tl own : List (Addr × Obj)} {keep : List (Str × Value)} {bound n k : Nat} {m' : Str → Option Value} {vs : List Value} {tup : Obj} {h₀ h' : Heap} {s₁ : Shared} {tk : Nat}
theorem lj_turn (F : Fr h₀ L h' m') (N : News h₀ L h' ((D, tup) :: (lc, W.listOf (vs ++ [Value.ref D]).toArray k) :: ((tl ++ rest) ++ own)))
    (hlt : ∀ p ∈ (lc, W.listOf vs.toArray n) :: ((tl ++ rest) ++ own), @LT.lt Nat _ p.1 D) (hoff : OwnOff own (((lc, W.listOf vs.toArray n) :: (tl ++ rest)).map (·.1)))
    (hne : ∀ p ∈ tl ++ rest, p.1 ≠ lc) (hsep : ∀ p ∈ tl, ∀ q ∈ rest, q.1 ≠ p.1) (hit : ∀ v ∈ vs, Item d (tl ++ base) v) (hb : vs.length + 1 ≤ bound) (hk : ∀ p ∈ keep, m' p.1 = some p.2)
    (hnew : Item d [(D, tup)] (Value.ref D)) : InvEndG h₀ L (LJ d lc rest base keep bound) own s₁ { s₁ with heap := h', toks := tk } := by
  refine InvEndG.intro (nx := (lc, W.listOf (vs ++ [Value.ref D]).toArray k) :: (((D, tup) :: tl) ++ rest)) F N ⟨vs ++ [Value.ref D], k, (D, tup) :: tl, rfl, ?_, ?_, ?_, ?_, hk⟩ ?_ ?_ ?_
  · intro p hp
    rcases List.mem_cons.mp hp with rfl | hp
    · exact (Nat.ne_of_lt (hlt _ (List.mem_cons_self ..))).symm
    · exact hne p hp
  · intro p hp q hq
    rcases List.mem_cons.mp hp with rfl | hp
    · exact Nat.ne_of_lt (hlt q (List.mem_cons_of_mem _ (List.mem_append_left _ (List.mem_append_right _ hq))))
    · exact hsep p hp q hq
  · intro v hv
    rcases List.mem_append.mp hv with hv | hv
    · exact (hit v hv).mono fun p hp => List.mem_cons_of_mem _ hp
    · rw [List.mem_singleton.mp hv]
      exact hnew.mono fun p hp => by rw [List.mem_singleton.mp hp]; exact List.mem_cons_self ..
  · simpa using hb
  · intro p hp b hb'
    have hb'' : b = lc ∨ b = D ∨ b ∈ (tl ++ rest).map (·.1) := by simpa using hb'
    rcases hb'' with rfl | rfl | hb''
    · exact hoff p hp _ (by simp)
    · exact Nat.ne_of_lt (hlt p (List.mem_cons_of_mem _ (List.mem_append_right _ hp)))
    · exact hoff p hp b (by simpa using Or.inr (by simpa using hb''))
  · intro p hp
    simp only [List.cons_append, List.mem_cons, List.mem_append] at hp ⊢
    rcases hp with h | h | h | h
    · exact .inr (.inl h)
    · exact .inl h
    · exact .inr (.inr (.inl (.inl h)))
    · exact .inr (.inr (.inl (.inr h)))
  · intro p hp
    exact List.mem_cons_of_mem _ (List.mem_cons_of_mem _ (List.mem_append_right _ hp))
/-- the outer turn's end: what the inner loop leaves -/
theorem lj_outer {nx : List (Addr × Obj)} {keep₂ : List (Str × Value)} {b₂ : Nat} (F : Fr h₀ L h' m') (N : News h₀ L h' nx) (hJ : LJ d lc ((D, tup) :: ((tl ++ rest) ++ own)) ((D, tup) :: (tl ++ base)) keep₂ b₂ m' nx)
    (hlt : ∀ p ∈ (lc, W.listOf vs.toArray n) :: ((tl ++ rest) ++ own), @LT.lt Nat _ p.1 D) (hoff : OwnOff own (((lc, W.listOf vs.toArray n) :: (tl ++ rest)).map (·.1)))
    (hsep : ∀ p ∈ tl, ∀ q ∈ rest, q.1 ≠ p.1) (hb : b₂ ≤ bound) (hk : ∀ p ∈ keep, p ∈ keep₂) :
    InvEndG h₀ L (LJ d lc rest base keep bound) own s₁ { s₁ with heap := h', toks := tk } := by
  obtain ⟨vs', n', tl', rfl, hne', hsep', hit', hb', hk'⟩ := hJ
  have sub : ∀ p ∈ (tl' ++ (D, tup) :: tl) ++ rest, p ∈ tl' ++ (D, tup) :: ((tl ++ rest) ++ own) := by
    intro p hp
    simp only [List.mem_append, List.mem_cons] at hp ⊢
    rcases hp with (h | h | h) | h
    · exact .inl h
    · exact .inr (.inl h)
    · exact .inr (.inr (.inl (.inl h)))
    · exact .inr (.inr (.inl (.inr h)))
  refine InvEndG.intro (nx := (lc, W.listOf vs'.toArray n') :: ((tl' ++ (D, tup) :: tl) ++ rest)) F N ⟨vs', n', tl' ++ (D, tup) :: tl, rfl, fun p hp => hne' p (sub p hp), ?_, ?_, Nat.le_trans hb' hb, fun p hp => hk' p (hk p hp)⟩ ?_ ?_ ?_
  · intro p hp q hq
    have hq' : q ∈ (tl ++ rest) ++ own := List.mem_append_left _ (List.mem_append_right _ hq)
    rcases List.mem_append.mp hp with hp | hp
    · exact hsep' p hp q (List.mem_cons_of_mem _ hq')
    · rcases List.mem_cons.mp hp with rfl | hp
      · exact Nat.ne_of_lt (hlt q (List.mem_cons_of_mem _ hq'))
      · exact hsep p hp q hq
  · intro v hv
    refine (hit' v hv).mono fun p hp => ?_
    simp only [List.mem_append, List.mem_cons] at hp ⊢
    rcases hp with h | h | h | h
    · exact .inl (.inl h)
    · exact .inl (.inr (.inl h))
    · exact .inl (.inr (.inr h))
    · exact .inr h
  · intro p hp b hb'
    have hp' : p ∈ (D, tup) :: ((tl ++ rest) ++ own) := List.mem_cons_of_mem _ (List.mem_append_right _ hp)
    obtain ⟨q, hq, rfl⟩ := List.mem_map.mp hb'
    rcases List.mem_cons.mp hq with rfl | hq
    · exact hoff p hp lc (by simp)
    · rcases List.mem_append.mp hq with hq | hq
      · rcases List.mem_append.mp hq with hq | hq
        · exact hsep' q hq p hp'
        · rcases List.mem_cons.mp hq with rfl | hq
          · exact Nat.ne_of_lt (hlt p (List.mem_cons_of_mem _ (List.mem_append_right _ hp)))
          · exact hoff p hp q.1 (List.mem_map.mpr ⟨q, List.mem_cons_of_mem _ (List.mem_append_left _ hq), rfl⟩)
      · exact hoff p hp q.1 (List.mem_map.mpr ⟨q, List.mem_cons_of_mem _ (List.mem_append_right _ hq), rfl⟩)
  · intro p hp
    rcases List.mem_cons.mp hp with rfl | hp
    · exact List.mem_cons_self ..
    · exact List.mem_cons_of_mem _ (sub p hp)
  · intro p hp
    exact List.mem_cons_of_mem _ (List.mem_append_right _ (List.mem_cons_of_mem _ (List.mem_append_right _ hp)))
end

theorem small_at (i : Nat) (hi : i < 9) : Builtin.Range.small (0 + (i : Int) + 1) 9 1 = true := by
  match i, hi with
  | 0, _ | 1, _ | 2, _ | 3, _ | 4, _ | 5, _ | 6, _ | 7, _ | 8, _ => exact of_decide_eq_true (by rfl)
theorem size_at (i : Nat) (hi : i < 9) : Builtin.Range.rangeSize (0 + (i : Int) + 1) 9 1 = ((8 - i : Nat) : Int) := by
  match i, hi with
  | 0, _ | 1, _ | 2, _ | 3, _ | 4, _ | 5, _ | 6, _ | 7, _ | 8, _ => rfl
theorem led_obj {h₀ h : Heap} {L : Addr} {D : Addr} {o : Obj} {rest : List (Addr × Obj)} (_N : News h₀ L h ((D, o) :: rest)) : ∃ o', o' = o := ⟨_, rfl⟩
theorem dv_acc : ∀ (cs : List Nat) (a : Nat), cs.foldl (fun acc c => acc * 10 + (c - 48)) a = a * 10 ^ cs.length + digitsVal cs
  | [], a => by simp [digitsVal]
  | c :: cs, a => by
    have h1 := dv_acc cs (a * 10 + (c - 48))
    have h2 := dv_acc cs (0 * 10 + (c - 48))
    have e : digitsVal (c :: cs) = cs.foldl (fun acc c => acc * 10 + (c - 48)) (0 * 10 + (c - 48)) := rfl
    rw [List.foldl_cons, h1, e, h2, List.length_cons, Nat.pow_succ]
    simp only [Nat.add_mul, Nat.zero_mul, Nat.zero_add]
    have : a * 10 * 10 ^ cs.length = a * (10 ^ cs.length * 10) := by rw [Nat.mul_assoc, Nat.mul_comm 10]
    omega
theorem dv_app (a b : List Nat) : digitsVal (a ++ b) = digitsVal a * 10 ^ b.length + digitsVal b := by
  have h := dv_acc b (digitsVal a)
  rw [← h]
  unfold digitsVal
  rw [List.foldl_append]
theorem dv_cons (c : Nat) (b : List Nat) : digitsVal (c :: b) = (c - 48) * 10 ^ b.length + digitsVal b := by
  have h := dv_app [c] b
  have e : digitsVal [c] = c - 48 := by show 0 * 10 + (c - 48) = _; omega
  rw [e] at h
  exact h
theorem cut_at {d : List Nat} {k : Nat} (h : k < d.length) : d = d.take k ++ d.getD k 0 :: d.drop (k + 1) := by
  have e : d.getD k 0 = d[k] := by rw [List.getD_eq_getElem?_getD, List.getElem?_eq_getElem h]; rfl
  rw [e, ← List.drop_eq_getElem_cons h, List.take_append_drop]
theorem cut_two {d : List Nat} {k m : Nat} (h1 : k < m) (h : m < d.length) : d = d.take k ++ d.getD k 0 :: ((d.drop (k + 1)).take (m - (k + 1)) ++ d.getD m 0 :: d.drop (m + 1)) := by
  have e1 := cut_at (d := d) (k := k) (by omega)
  have e2 := cut_at (d := d.drop (k + 1)) (k := m - (k + 1)) (by rw [List.length_drop]; omega)
  have g : (d.drop (k + 1)).getD (m - (k + 1)) 0 = d.getD m 0 := by
    simp only [List.getD_eq_getElem?_getD, List.getElem?_drop]
    rw [show k + 1 + (m - (k + 1)) = m by omega]
  rw [g, List.drop_drop, show k + 1 + (m - (k + 1) + 1) = m + 1 by omega] at e2
  rw [← e2]
  exact e1
theorem fm10 (x : Int) : Int.fmod x 10 = x % 10 := Int.fmod_eq_emod_of_nonneg x (by decide)
theorem dig_take {d : List Nat} (h : AllDigits d) (k : Nat) : AllDigits (d.take k) := fun c hc => h c (List.mem_of_mem_take hc)
theorem dig_drop {d : List Nat} (h : AllDigits d) (k : Nat) : AllDigits (d.drop k) := fun c hc => h c (List.mem_of_mem_drop hc)
theorem dig_app {a b : List Nat} (ha : AllDigits a) (hb : AllDigits b) : AllDigits (a ++ b) := fun c hc => (List.mem_append.mp hc).elim (ha c) (hb c)
theorem dig_cons {c : Nat} {b : List Nat} (hc : 48 ≤ c ∧ c ≤ 57) (hb : AllDigits b) : AllDigits (c :: b) := fun x hx => (List.mem_cons.mp hx).elim (fun e => e ▸ hc) (hb x)
theorem ix1 (i : Nat) : (0 + (i : Int)).toNat = i := by omega
theorem ix2 (i : Nat) : (0 + (i : Int) + 1).toNat = i + 1 := by omega
theorem ix3 {i : Nat} (_h : i < 9) : (8 - (0 + (i : Int))).toNat = 8 - i := by omega
theorem ix4 {i j m : Nat} (h : m = i + 1 + j) : (0 + (i : Int) + 1 + (j : Int)).toNat = m := by omega
theorem ix5 {i j m : Nat} (h : m = i + 1 + j) : (0 + (i : Int) + 1 + (j : Int) - (0 + (i : Int) + 1)).toNat = m - (i + 1) := by omega
theorem ix6 {i j m : Nat} (h : m = i + 1 + j) : (0 + (i : Int) + 1 + (j : Int) + 1).toNat = m + 1 := by omega
theorem ix7 {i j m : Nat} (h : m = i + 1 + j) : (8 - (0 + (i : Int) + 1 + (j : Int))).toNat = 8 - m := by omega
theorem ix8 {i j : Nat} (_hi : i < 9) (hj : j < 8 - i) : 0 ≤ 8 - (0 + (i : Int) + 1 + (j : Int)) := by omega
theorem ix9 {i j : Nat} : 8 - (0 + (i : Int) + 1 + (j : Int)) ≤ 8 := by omega
theorem ta {i j m : Nat} (h : m = i + 1 + j) : i < m := by omega
theorem tb {i j m : Nat} (_hi : i < 9) (hj : j < 8 - i) (h : m = i + 1 + j) : m < 9 := by omega
theorem tc {i j m : Nat} (_hi : i < 9) (hj : j < 8 - i) (h : m = i + 1 + j) : j + (8 - m + 1) = 8 - i := by omega
theorem td {i j m : Nat} (_hi : i < 9) (hj : j < 8 - i) (h : m = i + 1 + j) : min (m - (i + 1)) (9 - (i + 1)) = j := by omega
theorem te {i j m : Nat} (_hi : i < 9) (hj : j < 8 - i) (h : m = i + 1 + j) : 9 - (m + 1) = 8 - m := by omega
theorem tf {i j m : Nat} (_hi : i < 9) (hj : j < 8 - i) (h : m = i + 1 + j) : min i 9 + (min (m - (i + 1)) (9 - (i + 1)) + (9 - (m + 1) + 1) + 1) = 9 := by omega
theorem gp_lo {a b : Int} (h : 0 ≤ a) (h' : b ≤ 9) : -9 ≤ a - b := by omega
theorem gp_hi {a b : Int} (h : a ≤ 9) (h' : 0 ≤ b) : a - b ≤ 9 := by omega
theorem chg_one {d : List Nat} {i : Nat} {o nw step : Int} (hd : AllDigits d) (hl : d.length = 9) (hi : i < 9) (hs1 : 1 ≤ step) (hs2 : step ≤ 9) (ho : o = dgt d (0 + (i : Int)).toNat) (hn0 : 0 ≤ nw) (hn9 : nw ≤ 9) (hn : nw = Int.fmod (o + step) 10) :
    Chg d (List.take (0 + (i : Int)).toNat d ++ [48 + nw.toNat] ++ List.drop (0 + (i : Int) + 1).toNat d) (8 - (0 + (i : Int))) (nw - o) ((nw - o) * 10 ^ (8 - (0 + (i : Int))).toNat) := by
  have o0 := dgt_lo d (0 + (i : Int)).toNat
  have o9 := dgt_hi hd (k := (0 + (i : Int)).toNat)
  rw [← ho] at o0 o9
  rw [fm10] at hn
  have hne : nw - o ≠ 0 := by omega
  have e1 := ix1 i
  have e2 := ix2 i
  have e3 := ix3 hi
  rw [e1] at ho
  rw [e1, e2, List.append_assoc]
  refine ⟨?_, dig_app (dig_take hd _) (dig_cons (by omega) (dig_drop hd _)), by clear hn ho hd; omega, by clear hn ho hd; omega, gp_lo hn0 o9, gp_hi hn9 o0, ?_, .inl ⟨hne, rfl⟩⟩
  · simp only [List.length_append, List.length_take, List.length_cons, List.length_nil, List.length_drop]; omega
  · have hc := cut_at (d := d) (k := i) (by omega)
    rw [e3]
    have hv : digitsVal d = digitsVal (d.take i) * 10 ^ (8 - i + 1) + ((d.getD i 0 - 48) * 10 ^ (8 - i) + digitsVal (d.drop (i + 1))) := by
      conv => lhs; rw [hc]
      rw [dv_app, dv_cons, List.length_cons, List.length_drop, show d.length - (i + 1) = 8 - i by omega]
    rw [hv]
    show ((digitsVal (d.take i ++ (48 + nw.toNat) :: d.drop (i + 1)) : Nat) : Int) = _
    rw [dv_app, dv_cons, List.length_cons, List.length_drop, show d.length - (i + 1) = 8 - i by omega]
    have ho' : o = ((d.getD i 0 - 48 : Nat) : Int) := ho
    have hn' : nw = ((48 + nw.toNat - 48 : Nat) : Int) := by omega
    generalize digitsVal (d.take i) * 10 ^ (8 - i + 1) = A
    generalize digitsVal (d.drop (i + 1)) = B
    generalize hP : 10 ^ (8 - i) = P
    have hP' : (10 : Int) ^ (8 - i) = (P : Int) := by rw [← hP]; exact (Int.natCast_pow 10 (8 - i)).symm
    rw [hP', Int.sub_mul]
    conv => rhs; rw [ho', hn']
    simp only [Int.natCast_add, Int.natCast_mul]
    omega
theorem chg_two {d : List Nat} {i j : Nat} {o o2 : Int} (hd : AllDigits d) (hl : d.length = 9) (hi : i < 9) (hj : j < 8 - i) (ho : o = dgt d (0 + (i : Int)).toNat) (ho2 : o2 = dgt d (0 + (i : Int) + 1 + (j : Int)).toNat) :
    Chg d (List.take (0 + (i : Int)).toNat d ++ [d.getD (0 + (i : Int) + 1 + (j : Int)).toNat 0] ++ List.take (0 + (i : Int) + 1 + (j : Int) - (0 + (i : Int) + 1)).toNat (List.drop (0 + (i : Int) + 1).toNat d) ++ [d.getD (0 + (i : Int)).toNat 0] ++ List.drop (0 + (i : Int) + 1 + (j : Int) + 1).toNat d)
      (8 - (0 + (i : Int) + 1 + (j : Int))) (o - o2) ((o - o2) * (10 ^ (8 - (0 + (i : Int) + 1 + (j : Int))).toNat - 10 ^ (8 - (0 + (i : Int))).toNat)) := by
  have o0 := dgt_lo d (0 + (i : Int)).toNat
  have o9 := dgt_hi hd (k := (0 + (i : Int)).toNat)
  have p0 := dgt_lo d (0 + (i : Int) + 1 + (j : Int)).toNat
  have p9 := dgt_hi hd (k := (0 + (i : Int) + 1 + (j : Int)).toNat)
  rw [← ho] at o0 o9
  rw [← ho2] at p0 p9
  obtain ⟨m, hm⟩ : ∃ m, m = i + 1 + j := ⟨_, rfl⟩
  have e1 := ix1 i
  have e2 := ix2 i
  have e3 := ix3 hi
  have e4 := ix4 hm
  have e5 := ix5 hm
  have e6 := ix6 hm
  have e7 := ix7 hm
  rw [e1] at ho
  rw [e4] at ho2
  rw [e1, e2, e3, e4, e5, e6, e7]
  have hmm : m < d.length := by rw [hl]; exact tb hi hj hm
  have gi := hd _ (getD_mem (d := d) (k := i) (by rw [hl]; exact hi))
  have gm := hd _ (getD_mem (d := d) (k := m) hmm)
  have ec : List.take i d ++ [d.getD m 0] ++ List.take (m - (i + 1)) (List.drop (i + 1) d) ++ [d.getD i 0] ++ List.drop (m + 1) d =
      List.take i d ++ d.getD m 0 :: (List.take (m - (i + 1)) (List.drop (i + 1) d) ++ d.getD i 0 :: List.drop (m + 1) d) := by simp
  rw [ec]
  refine ⟨?_, dig_app (dig_take hd _) (dig_cons gm (dig_app (dig_take (dig_drop hd _) _) (dig_cons gi (dig_drop hd _)))), ix8 hi hj, ix9, gp_lo o0 p9, gp_hi o9 p0, ?_, .inr ⟨8 - i, by omega, by omega, by rw [e7]⟩⟩
  · simp only [List.length_append, List.length_take, List.length_cons, List.length_drop, hl]; exact tf hi hj hm
  · have hc := cut_two (d := d) (k := i) (m := m) (ta hm) hmm
    have l1 : (List.drop (m + 1) d).length = 8 - m := by rw [List.length_drop, hl]; exact te hi hj hm
    have l2 : (List.take (m - (i + 1)) (List.drop (i + 1) d)).length = j := by rw [List.length_take, List.length_drop, hl]; exact td hi hj hm
    have val : ∀ x y : Nat, digitsVal (List.take i d ++ x :: (List.take (m - (i + 1)) (List.drop (i + 1) d) ++ y :: List.drop (m + 1) d)) =
        digitsVal (List.take i d) * 10 ^ (j + (8 - m + 1) + 1) + ((x - 48) * 10 ^ (j + (8 - m + 1)) + (digitsVal (List.take (m - (i + 1)) (List.drop (i + 1) d)) * 10 ^ (8 - m + 1) + ((y - 48) * 10 ^ (8 - m) + digitsVal (List.drop (m + 1) d)))) := by
      intro x y
      rw [dv_app, dv_cons, dv_app, dv_cons, List.length_cons, List.length_append, List.length_cons, l1, l2]
    have hv : digitsVal d = _ := (congrArg digitsVal hc).trans (val _ _)
    rw [val, hv]
    have ho' : o = ((d.getD i 0 - 48 : Nat) : Int) := ho
    have ho2' : o2 = ((d.getD m 0 - 48 : Nat) : Int) := ho2
    rw [tc hi hj hm]
    generalize digitsVal (d.take i) * 10 ^ (8 - i + 1) = A
    generalize digitsVal (List.take (m - (i + 1)) (List.drop (i + 1) d)) * 10 ^ (8 - m + 1) = B
    generalize digitsVal (d.drop (m + 1)) = C
    generalize hP : 10 ^ (8 - i) = P
    generalize hR : 10 ^ (8 - m) = R
    have hP' : (10 : Int) ^ (8 - i) = (P : Int) := by rw [← hP]; exact (Int.natCast_pow 10 (8 - i)).symm
    have hR' : (10 : Int) ^ (8 - m) = (R : Int) := by rw [← hR]; exact (Int.natCast_pow 10 (8 - m)).symm
    rw [hP', hR', Int.mul_sub, Int.sub_mul, Int.sub_mul]
    conv => rhs; rw [ho', ho2']
    simp only [Int.natCast_add, Int.natCast_mul]
    clear o0 o9 p0 p9 e1 e2 e3 e4 e5 e6 e7 hmm gi gm l1 l2 hP' hR' ho' ho2' ho ho2 hi hj hl hP hR hm
    omega
theorem dv_turn {figs : List Int} {d : List Nat} {i : Nat} {v : Int} (hd : d = figs.map (fun k => 48 + k.toNat)) (hf : ∀ x ∈ figs, 0 ≤ x ∧ x ≤ 9) (hv : figs[i]? = some v) : ((digitsVal (d.take (i + 1)) : Nat) : Int) = ((digitsVal (d.take i) : Nat) : Int) * 10 + v := by
  have h1 : d[i]? = some (48 + v.toNat) := by rw [hd, List.getElem?_map, hv]; rfl
  have h2 : d.take (i + 1) = d.take i ++ [48 + v.toNat] := by rw [List.take_add_one, h1]; rfl
  rw [h2, dv_app]
  have e : digitsVal [48 + v.toNat] = v.toNat := by show 0 * 10 + (48 + v.toNat - 48) = _; omega
  have h3 := (hf v (List.mem_of_getElem? hv)).1
  rw [e]
  simp only [List.length_cons, List.length_nil]
  omega
end Mine
end PartT2
section PartX3
namespace Mine
open PySem.Calls PySem.Spec PySem.NumText
section
variable {prog : Program} {w : World} {A : Around} {E : Value → Shared → Prop} {s : Shared} {h₀ : Heap} {L : Addr} {m : Str → Option Value} {news : List (Addr × Obj)} {Q : Value → Shared → Prop} {l r : List Nat} {i j n a : Int} {k : Nat} {t u : Tok} {value slice : Expr}
theorem item_K (hl : l.length = 9) (h0 : 0 ≤ i) (h9 : i < 9) (h : Q (.str ⟨#[l.getD i.toNat 0]⟩ s.toks) { s with toks := s.toks + 1 })
    (hs : subscripted slice false (.str ⟨l.toArray⟩ t) (.int i u) = operate [.str ⟨l.toArray⟩ t, .int i u] (getItem (.str ⟨l.toArray⟩ t) (.int i u)) := by with_unfolding_all rfl)
    (ht : ∀ r, letTemporaryGo value (.str ⟨l.toArray⟩ t) r = pure () := by intro _; with_unfolding_all rfl) :
    wpAny (model prog w) A (subscriptTail value slice (.str ⟨l.toArray⟩ t) (.int i u)) Q E s :=
  item_str (fitsSsize_of (N := 9223372036854775808) (by omega) (by omega) (Int.le_refl _)) (txt_lo hl h0) (txt_hi hl h9) (fun _ => by rw [item_at h0 (by omega)]; exact h) hs ht
theorem ns_K {uj : Tok} (hF : Fr h₀ L s.heap m) (hN : News h₀ L s.heap news) (hl : l.length = 9) (h0 : 0 ≤ j) (h9 : j ≤ 9) (h : ∀ h' t' k, Fr h₀ L h' m → News h₀ L h' news → Q (.str ⟨(l.take j.toNat).toArray⟩ t') { s with heap := h', toks := k })
    (hs : subscripted slice false (.str ⟨l.toArray⟩ t) (.ref s.heap.objs.size) = operate [.ref s.heap.objs.size, .str ⟨l.toArray⟩ t] (getItem (.str ⟨l.toArray⟩ t) (.ref s.heap.objs.size)) := by with_unfolding_all rfl)
    (ht : ∀ r, letTemporaryGo value (.str ⟨l.toArray⟩ t) r = pure () := by intro _; with_unfolding_all rfl) :
    wpAny (model prog w) A (subscriptTail value slice (.str ⟨l.toArray⟩ t) (.ref s.heap.objs.size)) Q E { s with heap := s.heap.push { cls := .type "slice", data := .fields #[.none, .int j uj, .none] } } :=
  slice_strN_ns (hsz := txt_sz hl) hF hN (fun h' t' k a b => by rw [cut_ns h0 (by omega)]; exact h h' t' k a b) hs ht
theorem sn_K {ui : Tok} (hF : Fr h₀ L s.heap m) (hN : News h₀ L s.heap news) (hl : l.length = 9) (h0 : 0 ≤ i) (h9 : i ≤ 9) (h : ∀ h' t' k, Fr h₀ L h' m → News h₀ L h' news → Q (.str ⟨(l.drop i.toNat).toArray⟩ t') { s with heap := h', toks := k })
    (hs : subscripted slice false (.str ⟨l.toArray⟩ t) (.ref s.heap.objs.size) = operate [.ref s.heap.objs.size, .str ⟨l.toArray⟩ t] (getItem (.str ⟨l.toArray⟩ t) (.ref s.heap.objs.size)) := by with_unfolding_all rfl)
    (ht : ∀ r, letTemporaryGo value (.str ⟨l.toArray⟩ t) r = pure () := by intro _; with_unfolding_all rfl) :
    wpAny (model prog w) A (subscriptTail value slice (.str ⟨l.toArray⟩ t) (.ref s.heap.objs.size)) Q E { s with heap := s.heap.push { cls := .type "slice", data := .fields #[.int i ui, .none, .none] } } :=
  slice_strN_sn (hsz := txt_sz hl) hF hN (fun h' t' k a b => by rw [cut_sn h0 (by omega)]; exact h h' t' k a b) hs ht
theorem ss_K {ui uj : Tok} (hF : Fr h₀ L s.heap m) (hN : News h₀ L s.heap news) (hl : l.length = 9) (h0 : 0 ≤ i) (h1 : i ≤ j) (h9 : j ≤ 9) (h : ∀ h' t' k, Fr h₀ L h' m → News h₀ L h' news → Q (.str ⟨((l.drop i.toNat).take (j - i).toNat).toArray⟩ t') { s with heap := h', toks := k })
    (hs : subscripted slice false (.str ⟨l.toArray⟩ t) (.ref s.heap.objs.size) = operate [.ref s.heap.objs.size, .str ⟨l.toArray⟩ t] (getItem (.str ⟨l.toArray⟩ t) (.ref s.heap.objs.size)) := by with_unfolding_all rfl)
    (ht : ∀ r, letTemporaryGo value (.str ⟨l.toArray⟩ t) r = pure () := by intro _; with_unfolding_all rfl) :
    wpAny (model prog w) A (subscriptTail value slice (.str ⟨l.toArray⟩ t) (.ref s.heap.objs.size)) Q E { s with heap := s.heap.push { cls := .type "slice", data := .fields #[.int i ui, .int j uj, .none] } } :=
  slice_strN_ss (hsz := txt_sz hl) hF hN (fun h' t' k a b => by rw [cut_ss h0 h1 (by omega)]; exact h h' t' k a b) hs ht
theorem intd_K (hd : AllDigits l) (hl : l.length = 9) (hk : k < 9) (h : ∀ o, 0 ≤ o → o ≤ 9 → o = dgt l k → Q (.int o s.toks) { s with toks := s.toks + 1 }) : wpAny (model prog w) A (call (.type "int") [.str ⟨#[l.getD k 0]⟩ t]) Q E s :=
  KIN.call_text (int_at hd (by omega)) (len1_640 _) (h _ (dgt_lo l k) (dgt_hi hd) rfl)
theorem mod10_K (h : ∀ n, 0 ≤ n → n ≤ 9 → n = Int.fmod a 10 → Q (.int n s.toks) { s with toks := s.toks + 1 }) : wpAny (model prog w) A (binaryOp .Mod (.int a t) (.int 10 u)) Q E s :=
  mod_int' (by decide) (h _ (fm_lo a) (fm_hi a) rfl)
theorem str_K (h0 : 0 ≤ n) (h9 : n ≤ 9) (h : Q (.str ⟨#[48 + n.toNat]⟩ s.toks) { s with toks := s.toks + 1 }) : wpAny (model prog w) A (call (.type "str") [.int n t]) Q E s :=
  P.str_of_int (shown (N := 100) (by omega) (by omega) (by decide +kernel)) (by rw [str_digit h0 h9]; exact h)
theorem strM_K {ns : List Int} (hA : ∀ x ∈ ns, 0 ≤ x ∧ x ≤ 9) (hm : n ∈ ns) (h : Q (.str ⟨#[48 + n.toNat]⟩ s.toks) { s with toks := s.toks + 1 }) : wpAny (model prog w) A (call (.type "str") [.int n t]) Q E s :=
  str_K (hA n hm).1 (hA n hm).2 h
theorem cat_K (hz : l.length + r.length ≤ 1000) (h : ∀ t' k, Q (.str ⟨(l ++ r).toArray⟩ t') { s with toks := k }) : wpAny (model prog w) A (binaryOp .Add (.str ⟨l.toArray⟩ t) (.str ⟨r.toArray⟩ u)) Q E s :=
  add_str (fun t' k => by rw [str_cat]; exact h t' k) (by rw [mk_len, mk_len]; exact Nat.le_trans hz (by decide))
theorem mul_K {b : Int} (h0 : -1000 ≤ a) (h9 : a ≤ 1000) (h : Q (.int (a * b) s.toks) { s with toks := s.toks + 1 }) : wpAny (model prog w) A (binaryOp .Mult (.int a t) (.int b u)) Q E s :=
  mul_int h (PySem.IntMulOk.of_left (PySem.intBits_le_64 (by omega) (by omega)))
theorem app_K {D : Addr} {ys : List Value} {x : Value} {p₁ : Addr × Obj} {rest : List (Addr × Obj)} {c : Nat} (F : Fr h₀ L s.heap m) (N : News h₀ L s.heap (p₁ :: (D, W.listOf ys.toArray c) :: rest)) (h1 : p₁.1 ≠ D) (hap : ∀ p ∈ rest, p.1 ≠ D) (hz : ys.length ≤ 1000)
    (h : ∀ h', Fr h₀ L h' m → News h₀ L h' (p₁ :: (D, W.listOf (ys ++ [x]).toArray (c + 1)) :: rest) → Q .none { s with heap := h' }) :
    wpAny (model prog w) A (call (.builtin "list.append") [.ref D, x]) Q E s :=
  append_in2 (own := []) (hsz := Nat.le_trans hz (by decide)) F N (fun _ hp => nomatch hp) h1 hap h
end
end Mine
end PartX3
section PartC5
local macro_rules | `(tactic| walk_at "m_stop") => `(tactic| (fail_if_success (with_reducible show wpAny _ _ (pyIter _) _ _ _)))
local macro_rules | `(tactic| walk_at "exec For Name Call cons nil") => `(tactic| (k_here; (rename Fr _ _ _ _ => lF'); (with_unfolding_all refine' For_invVF lF' ?k1 ?k2 ?_; (case k1 => exact rfl); (case k2 => exact rfl); k_whole)))
local macro_rules | `(tactic| walk_at "subscriptTail Name Name str int") => `(tactic| (
  k_here; (with_reducible show wpAny _ _ (subscriptTail _ _ (Value.str (PySem.Str.mk (List.toArray _)) _) (Value.int _ _)) _ _ _); k_dflt (refine Mine.item_K (by assumption) (by omega) (by omega) ?_)))
local macro_rules | `(tactic| walk_at "subscriptTail Name Slice str ref") => `(tactic| (
  k_here; (with_reducible show wpAny _ _ (subscriptTail _ (Expr.Slice none (some _) none _) (Value.str (PySem.Str.mk (List.toArray _)) _) _) _ _ _); (with_reducible rename Fr _ _ _ _ => F'); (with_reducible rename News _ _ _ _ => N'); k_dflt (refine Mine.ns_K (s := ⟨_, _, _, _, _⟩) F' N' (by assumption) (by omega) (by omega) ?_); intro _ _ _ _ _))
local macro_rules | `(tactic| walk_at "subscriptTail Name Slice str ref") => `(tactic| (
  k_here; (with_reducible show wpAny _ _ (subscriptTail _ (Expr.Slice (some _) none none _) (Value.str (PySem.Str.mk (List.toArray _)) _) _) _ _ _); (with_reducible rename Fr _ _ _ _ => F'); (with_reducible rename News _ _ _ _ => N'); k_dflt (refine Mine.sn_K (s := ⟨_, _, _, _, _⟩) F' N' (by assumption) (by omega) (by omega) ?_); intro _ _ _ _ _))
local macro_rules | `(tactic| walk_at "subscriptTail Name Slice str ref") => `(tactic| (
  k_here; (with_reducible show wpAny _ _ (subscriptTail _ (Expr.Slice (some _) (some _) none _) (Value.str (PySem.Str.mk (List.toArray _)) _) _) _ _ _); (with_reducible rename Fr _ _ _ _ => F'); (with_reducible rename News _ _ _ _ => N'); k_dflt (refine Mine.ss_K (s := ⟨_, _, _, _, _⟩) F' N' (by assumption) (by omega) (by omega) (by omega) ?_); intro _ _ _ _ _))
local macro_rules | `(tactic| walk_at "call type:int") => `(tactic| (
  k_here; (show wpAny _ _ (call (Value.type "int") [Value.str (PySem.Str.mk (List.toArray [List.getD _ _ _])) _]) _ _ _); refine Mine.intd_K (by assumption) (by assumption) (by omega) ?_; intro _ _ _ _))
local macro_rules | `(tactic| walk_at "binaryOp Mod int int") => `(tactic| (
  k_here; (with_reducible show wpAny _ _ (binaryOp Operator.Mod (Value.int _ _) (Value.int 10 _)) _ _ _); refine Mine.mod10_K ?_; intro _ _ _ _))
local macro_rules | `(tactic| walk_at "binaryOp Mult int int") => `(tactic| (
  k_here; (with_reducible show wpAny _ _ (binaryOp Operator.Mult (Value.int _ _) (Value.int _ _)) _ _ _); k_dflt (refine Mine.mul_K (by omega) (by omega) ?_)))
local macro_rules | `(tactic| walk_at "binaryOp Pow int int") => `(tactic| (
  k_here; (with_reducible show wpAny _ _ (binaryOp Operator.Pow (Value.int 10 _) (Value.int _ _)) _ _ _); k_dflt (refine pow_int_small (by omega) (by omega) (by decide) ?_)))
local macro_rules | `(tactic| walk_at "call type:str") => `(tactic| (
  k_here; (show wpAny _ _ (call (Value.type "str") [Value.int _ _]) _ _ _); refine Mine.str_K (by omega) (by omega) ?_))
local macro_rules | `(tactic| walk_at "binaryOp Add str str") => `(tactic| (
  k_here; (with_reducible show wpAny _ _ (binaryOp Operator.Add (Value.str (PySem.Str.mk (List.toArray _)) _) (Value.str (PySem.Str.mk (List.toArray _)) _)) _ _ _); k_dflt (refine Mine.cat_K (by simp only [List.length_append, List.length_take, List.length_drop, List.length_cons, List.length_nil]; omega) ?_); intro _ _))
local macro_rules | `(tactic| walk_at "call builtin:list.append") => `(tactic| (
  k_here; (show wpAny _ _ (call (Value.builtin "list.append") [Value.ref _, Value.ref _]) _ _ _); (with_reducible rename Fr _ _ _ _ => F'); (with_reducible rename News _ _ _ _ => N'); (with_reducible rename @LT.lt Nat _ _ _ ∧ _ => l9); k_dflt (refine Mine.app_K F' N' (Nat.ne_of_gt l9.1) (by assumption) (by omega) ?_); intro _ _ _))
namespace Mine
section
variable {w : World} {mean : ExcName → Option Value} {mg mb : Str → Option Value} {news : List (Addr × Obj)}
  {dp un : Nat} {gd : Option (List Code)} {cn : Str} {cs : Scope} {a : Addr} {ccd : Value} {cl : List (Str × Addr)} {outer : List Env} {A₀ : Around} {base h₀ : Heap} {L : Addr} {m : Str → Option Value} {s : Shared} {Q E : Value → Shared → Prop}
set_option maxRecDepth 100000 in
set_option maxHeartbeats 8000000 in
theorem changes_use {d : List Nat} {step : Int} {tx ts : Tok} (B : Below A₀ base outer h₀) (F : Fr h₀ L s.heap m) (X : (hd.heap_39 w.params).In h₀) (N : News h₀ L s.heap news) (T : Top hd.view_39 (looseW hd.view_39 []) mean mg mb h₀) (hk : cs.kind = .function)
    (hdp : dp + 3 < recursionLimit) (hu : un + 24 < cLine)
    (hlen : d.length = 9) (hdig : PySem.NumText.AllDigits d) (hs1 : 1 ≤ step) (hs2 : step ≤ 9)
    (ret : ∀ (l : Addr) (vs : List Value) (n : Nat) (tl : List (Addr × Obj)) (h' : Heap) (tk' : Nat), Fr h₀ L h' m → News h₀ L h' ((l, W.listOf vs.toArray n) :: (tl ++ news)) → (∀ v ∈ vs, Item d tl v) → (∀ p ∈ tl ++ news, p.1 ≠ l) → (∀ p ∈ tl, ∀ q ∈ news, q.1 ≠ p.1) → Q (.ref l) { s with heap := h', toks := tk' }) :
    wpAny (model PySem.Challenge.rw_il0200_01.row.prog w) (ktrTop dp un gd cn cs L a ccd cl outer) (call (.ref 107) [.str ⟨d.toArray⟩ tx, .int step ts]) Q E s := by
  w_on
  revert X; k_fill; intro X
  refine wpAny_call ?_
  cell_enter
  repeat' ((walk_at "m_stop"); (first | (k_unfold; (try dsimp only)) | (k_end; wrow_close) | walk1 | (dsimp only; walk1) | (leave1; try dsimp only)))
  rename_i lc hp2 hl1 hp1 F1 N1 hp0 tk0 t1 u1 v1 hR hF hN hK
  clear F1 N1
  refine range_inv (fun i => LJ d lc news [] [(Str.ofString "text", .str ⟨d.toArray⟩ tx), (Str.ofString "step", .int step ts), (Str.ofString "changes", .ref lc)] (9 * i)) (n := 9) rfl hR (by decide) (by decide) hF hN ?_ ?_ ?_
  · refine ⟨[], 0, [], rfl, ?_, fun _ hp => (nomatch hp), fun _ hv => (nomatch hv), Nat.zero_le _, ?_⟩
    · intro p hp
      exact Nat.ne_of_lt (hl1 p hp)
    · intro p hp
      simp only [List.mem_cons, List.not_mem_nil, or_false] at hp
      rcases hp with rfl | rfl | rfl <;> rfl
  · intro i t m₁ nx h tk1 own hi hoff hJ F₁ N₁
    obtain ⟨vs, n, tl, rfl, hne, hsep, hit, hb, hkp⟩ := hJ
    have F₂ := pin3 F₁ (hkp (Str.ofString "text", .str ⟨d.toArray⟩ tx) (by simp)) (hkp (Str.ofString "step", .int step ts) (by simp)) (hkp (Str.ofString "changes", .ref lc) (by simp))
    have N₂ : News _ _ h ((lc, W.listOf vs.toArray n) :: ((tl ++ news) ++ own)) := N₁
    have hne2 : ∀ p ∈ (tl ++ news) ++ own, p.1 ≠ lc := fun p hp => (List.mem_append.mp hp).elim (hne p) fun hp => hoff p hp lc (by simp)
    clear F₁ N₁ hF hN hR
    repeat' ((walk_at "m_stop"); (first | (k_unfold; (try dsimp only)) | (k_end; wrow_close) | walk1 | (dsimp only; walk1) | (leave1; try dsimp only)))
    rename_i o oa ob oc hq7 nw na nb nc hq6 hq5 hq4 tq3 kq3 tq2 kq2 hq3 tq1 kq1 tq0 kq0 D hq2 Fq1 Nq1 hlt hq1 Fq0 Nq0 hq0 tkq tr1 tr2 tr3 hR2 hF2 hN2 hK2
    obtain ⟨tup, htup⟩ := led_obj hN2
    rw [← htup] at hN2
    have hN3 : News _ _ hq0 ((lc, W.listOf (vs ++ [Value.ref D]).toArray (n + 1)) :: ([] ++ (D, tup) :: ((tl ++ news) ++ own))) := fun p hp => hN2 p (by
      simp only [List.nil_append, List.mem_cons] at hp ⊢
      rcases hp with h | h | h
      · exact .inr (.inl h)
      · exact .inl h
      · exact .inr (.inr h))
    have hchg := chg_one hdig hlen hi hs1 hs2 oc na nb nc
    have hitem : Item d [(D, tup)] (.ref D) := ⟨D, _, _, _, _, _, _, _, _, rfl, by rw [htup]; exact List.mem_cons_self .., hchg⟩
    have hltD := lt_all (d := D) (l := (lc, W.listOf vs.toArray n) :: ((tl ++ news) ++ own)) hlt
    clear Nq1 Nq0 Fq1 Fq0 hN2
    obtain ⟨mm, hmm⟩ := map_of hF2
    obtain ⟨tko, hko⟩ : ∃ tk, mm (Str.ofString "old") = some (.int o tk) := ⟨_, by rw [hmm]; rfl⟩
    refine range_inv (fun j => LJ d lc ((D, tup) :: ((tl ++ news) ++ own)) ((D, tup) :: (tl ++ [])) [(Str.ofString "text", .str ⟨d.toArray⟩ tx), (Str.ofString "step", .int step ts), (Str.ofString "changes", .ref lc), (Str.ofString "k", .int (0 + (i : Int)) t), (Str.ofString "old", .int o tko)] (9 * i + 1 + j)) (n := 8 - i) rfl hR2 ?_ ?_ hF2 hN3 ?_ ?_ ?_
    · exact small_at i hi
    · exact size_at i hi
    · refine ⟨vs ++ [Value.ref D], n + 1, [], rfl, ?_, fun _ hp => (nomatch hp), ?_, by simpa using hb, ?_⟩
      · intro p hp
        rcases List.mem_cons.mp hp with rfl | hp
        · exact (Nat.ne_of_lt (hltD _ (List.mem_cons_self ..))).symm
        · exact hne2 p hp
      · intro v hv
        rcases List.mem_append.mp hv with hv | hv
        · exact (hit v hv).mono fun p hp => List.mem_cons_of_mem _ hp
        · rw [List.mem_singleton.mp hv]
          exact hitem.mono fun p hp => by rw [List.mem_singleton.mp hp]; exact List.mem_cons_self ..
      · intro p hp
        simp only [List.mem_cons, List.not_mem_nil, or_false] at hp
        rcases hp with rfl | rfl | rfl | rfl | rfl <;> first | (rw [← hmm]; exact hko) | rfl
    · intro j t2 m₂ nx2 h2 tk2 own2 hj hoff2 hJ2 F₃ N₃
      obtain ⟨vs2, n2, tl2, rfl, hne3, hsep3, hit3, hb3, hkp3⟩ := hJ2
      have F₄ := pin5 F₃ (hkp3 (Str.ofString "text", .str ⟨d.toArray⟩ tx) (by simp)) (hkp3 (Str.ofString "step", .int step ts) (by simp)) (hkp3 (Str.ofString "changes", .ref lc) (by simp)) (hkp3 (Str.ofString "k", .int (0 + (i : Int)) t) (by simp)) (hkp3 (Str.ofString "old", .int o tko) (by simp))
      have N₄ : News _ _ h2 ((lc, W.listOf vs2.toArray n2) :: ((tl2 ++ (D, tup) :: ((tl ++ news) ++ own)) ++ own2)) := N₃
      have hne4 : ∀ p ∈ (tl2 ++ (D, tup) :: ((tl ++ news) ++ own)) ++ own2, p.1 ≠ lc := fun p hp => (List.mem_append.mp hp).elim (hne3 p) fun hp => hoff2 p hp lc (by simp)
      clear F₃ N₃ hF2 hN3 hR2 F₂ N₂ hlt
      repeat' ((walk_at "m_stop"); (first | (k_unfold; (try dsimp only)) | (k_end; wrow_close) | walk1 | (dsimp only; walk1) | (leave1; try dsimp only)))
      rename_i o2 pa pb pc hz7 hz6 hz5 tz6 kz6 tz5 kz5 hz4 tz4 kz4 tz3 kz3 tz2 kz2 hz3 tz1 kz1 tz0 kz0 hz2 D2 hz1 Fz Nz hlt2 hz0 Fa Na
      have hltD2 := lt_all (d := D2) (l := (lc, W.listOf vs2.toArray n2) :: ((tl2 ++ (D, tup) :: ((tl ++ news) ++ own)) ++ own2)) hlt2
      refine lj_turn (n := n2) Fa Na hltD2 hoff2 hne3 hsep3 hit3 (by omega) ?_ ?_
      · intro p hp
        simp only [List.mem_cons, List.not_mem_nil, or_false] at hp
        rcases hp with rfl | rfl | rfl | rfl | rfl <;> rfl
      · exact ⟨D2, _, _, _, _, _, _, _, _, rfl, List.mem_cons_self .., chg_two hdig hlen hi hj oc pc⟩
    · intro m₃ nx3 h3 tk3 hJ3 F₅ N₅
      clear hF2 hN3 F₂ N₂
      repeat' ((walk_at "m_stop"); (first | (k_unfold; (try dsimp only)) | (k_end; wrow_close) | walk1 | (dsimp only; walk1) | (leave1; try dsimp only)))
      exact lj_outer (n := n) F₅ N₅ hJ3 hltD hoff hsep (by omega) (by
        intro p hp
        simp only [List.mem_cons, List.not_mem_nil, or_false] at hp ⊢
        rcases hp with rfl | rfl | rfl <;> simp)
  · intro m₃ nx3 h3 tk3 hJ3 F₅ N₅
    obtain ⟨vs, n, tl, rfl, hne, hsep, hit, hb, hkp⟩ := hJ3
    have F₆ := pin1 F₅ (hkp (Str.ofString "changes", .ref lc) (by simp))
    have N₆ : News _ _ h3 ((lc, W.listOf vs.toArray n) :: (tl ++ news)) := N₅
    clear hF hN F₅ N₅
    repeat' ((walk_at "m_stop"); (first | (k_unfold; (try dsimp only)) | (k_end; wrow_close) | walk1 | (dsimp only; walk1) | (leave1; try dsimp only)))
    exact ret lc vs n tl _ _ (by k_asm) (by k_asm) (fun v hv => (hit v hv).mono fun p hp => by simpa using hp) hne hsep

end
end Mine
end PartC5
section PartX4
namespace Mine
open PySem.Calls PySem.Spec PySem.NumText PyProof.V
section
variable {prog : Program} {w : World} {A : Around} {E : Value → Shared → Prop} {s : Shared} {env : Env} {h₀ : Heap} {target : Expr} {body : List Stmt} {Q : Flow → Shared → Prop}
/-- what a turn must leave -/
def TEnd (h₀ : Heap) (L I : Addr) (J : (Str → Option Value) → List (Addr × Obj) → Prop) (own : List (Addr × Obj)) (s₁ : Shared) (Q : Flow → Shared → Prop) (f : Flow) (s₂ : Shared) : Prop :=
  match f with
  | .ret v => Q (.ret v) s₂
  | .brk => Q .next s₂
  | _ => ∃ h' tk m' news' nx, s₂ = { s₁ with heap := h', toks := tk } ∧ Fr h₀ L h' m' ∧ News h₀ L h' news' ∧ (∀ p ∈ nx, p ∈ news') ∧ (∀ p ∈ own, p ∈ news') ∧ (∀ p ∈ nx, p.1 ≠ I) ∧ J m' nx
theorem TEnd.mk {L I : Addr} {J : (Str → Option Value) → List (Addr × Obj) → Prop} {own news' nx : List (Addr × Obj)} {s₁ : Shared} {h' : Heap} {tk : Nat} {m' : Str → Option Value} (F : Fr h₀ L h' m') (N : News h₀ L h' news') (h1 : ∀ p ∈ nx, p ∈ news') (h2 : ∀ p ∈ own, p ∈ news') (h3 : ∀ p ∈ nx, p.1 ≠ I) (hj : J m' nx) :
    TEnd h₀ L I J own s₁ Q .next { s₁ with heap := h', toks := tk } := ⟨h', tk, m', news', nx, rfl, F, N, h1, h2, h3, hj⟩

/-- a loop over a made list, whatever its target, by an invariant -/
theorem list_turns {l : Addr} {vs : List Value} {c : Nat} {m₀ : Str → Option Value} {news : List (Addr × Obj)} (J : Nat → (Str → Option Value) → List (Addr × Obj) → Prop)
    (hh : A.handled = none) (F : Fr h₀ env.locals s.heap m₀) (N : News h₀ env.locals s.heap news) (hm : (l, W.listOf vs.toArray c) ∈ news) (hj : J 0 m₀ news)
    (turn : ∀ i v m₁ nx h tk own I, vs[i]? = some v → (∀ p ∈ nx, p.1 ≠ I) → (∃ o, (I, o) ∈ own) → (∀ p ∈ own, p.1 = I ∨ p.1 = l) → J i m₁ nx → Fr h₀ env.locals h m₁ → News h₀ env.locals h (nx ++ own) →
      wpAny (model prog w) A (assign target env v) (fun _ s₃ => wpAny (model prog w) A (execs body env) (TEnd h₀ env.locals I (J (i + 1)) own { s with heap := h, toks := tk } Q) E s₃) E { s with heap := h, toks := tk })
    (done : ∀ m₁ nx h tk, J vs.length m₁ nx → Fr h₀ env.locals h m₁ → News h₀ env.locals h nx → Q .next { s with heap := h, toks := tk }) :
    wpAny (model prog w) A (pyIter (.ref l)) (fun it s₂ => TurnsAt prog w A h₀ env target body Q E it s₂) E s := by
  have hax := N _ hm
  have hl : s.heap.IsList l vs.toArray := ⟨_, hax.1, rfl, _, rfl⟩
  have hlt : l < s.heap.objs.size := Heap.lt_size hax.1
  have hne : l ≠ s.heap.objs.size := Nat.ne_of_lt hlt
  refine wpAny_pyIter_list hl ?_
  have W := KTurns.ofWalks (target := target) (Walks.list (prog := prog) (w := w) (A := A) hh s.heap.objs.size l hne vs.toArray) fun i v s Q E st q => letGo_listiter st.1 q
  refine ⟨s.heap.objs.size, [s.heap.objs.size, l], [s.heap.objs.size], vs.toArray.size, _, _, _, m₀, news, J, rfl, W, ?_, ?_, ?_, ⟨⟨_, Heap.get?_push_size _ rfl, rfl, rfl⟩, hl.at fun o e => Heap.get?_push_of_some _ e⟩, F.push _, (fun p hp => ⟨Heap.get?_push_of_some _ (N p hp).1, (N p hp).2⟩), hj, ?_, ?_⟩
  · intro hb
    have hb' : env.locals = s.heap.objs.size ∨ env.locals = l := by simpa using hb
    rcases hb' with e | e
    · exact absurd F.ns.lt (e ▸ Nat.lt_irrefl _)
    · exact hax.2.1 e.symm
  · intro b hb
    rw [List.mem_singleton.mp hb]
    exact next_is_new F
  · intro p hp hI
    exact absurd (Heap.lt_size (N p hp).1) ((List.mem_singleton.mp hI) ▸ Nat.lt_irrefl _)
  · intro i v m₁ news₁ h₁ tk₁ own hi hP hJ hoff hown hgot hmem hst F₁ N₁
    have hP' : vs[i]? = some v := by simpa using hP
    have N₂ : News h₀ env.locals h₁ (news₁ ++ own) := fun p hp => N₁ p ((List.mem_append.mp hp).elim (fun h => List.mem_append.mpr (.inr h)) fun h => List.mem_append.mpr (.inl h))
    obtain ⟨oI, hoI, _, _⟩ := hst.1
    have hIn := hmem s.heap.objs.size (by simp) (next_is_new F) oI hoI
    refine wpAny_mono (turn i v m₁ news₁ h₁ tk₁ own s.heap.objs.size hP' (fun p hp e => hoff p hp (by rw [e]; exact List.mem_singleton.mpr rfl)) ⟨oI, hIn⟩ (fun p hp => by simpa using hown p hp) hJ F₁ N₂) (fun _ s₃ h₃ => wpAny_mono h₃ (fun f s₂ p => ?_) fun _ _ e => e) fun _ _ e => e
    have fin : (∃ h' tk m' news' nx, s₂ = { s with heap := h', toks := tk } ∧ Fr h₀ env.locals h' m' ∧ News h₀ env.locals h' news' ∧ (∀ p ∈ nx, p ∈ news') ∧ (∀ p ∈ own, p ∈ news') ∧ (∀ p ∈ nx, p.1 ≠ s.heap.objs.size) ∧ J (i + 1) m' nx) →
        LoopStepU h₀ env.locals [s.heap.objs.size] own (J (i + 1)) { s with heap := h₁, toks := tk₁ } .next s₂ := by
      rintro ⟨h', tk, m', news', nx, e, F', N', hn, ho, hI, hj'⟩
      exact ⟨rfl, h', tk, m', nx, e, F', fun p hp => N' p ((List.mem_append.mp hp).elim (ho p) (hn p)), fun p hp hq => hI p hp (List.mem_singleton.mp hq), hj'⟩
    cases f with
    | ret v => exact .ret p
    | brk => exact .brk p
    | next => exact .next (fin p)
    | cont => exact .cont (fin p)
  · intro h' tk m' news' F' N' _ hJ
    rw [List.size_toArray] at hJ
    exact done m' news' h' tk hJ F' N'

theorem if_join {prog : Program} {w : World} {A : Around} {E : Value → Shared → Prop} {s : Shared} {env : Env} {test : Expr} {suite rest : List Stmt} {pos : Pos} {Q : Flow → Shared → Prop} (P : Shared → Prop)
    (h1 : wpAny (model prog w) A (exec (.If test suite [] pos) env) (fun f s' => f = .next ∧ P s') E s) (h2 : ∀ s', P s' → wpAny (model prog w) A (execs rest env) Q E s') :
    wpAny (model prog w) A (execs (.If test suite [] pos :: rest) env) Q E s := by
  refine wpAny_execs_cons (wpAny_mono h1 (fun f s' h => ?_) fun _ _ e => e)
  obtain ⟨rfl, hp⟩ := h
  exact h2 s' hp
end
theorem ints_of {vs : List Value} {ns : List Int} (_h : IntsAre vs ns) : ∃ ns', ns' = ns := ⟨_, rfl⟩
theorem ints9 {vs : List Value} {ns : List Int} (h : IntsAre vs ns) (hl : ns.length = 9) : vs.length ≤ sizeLine := by rw [h.length, hl]; decide
theorem join_sig (f : Int → Nat) : ∀ l : List Int, Txt.join (Str.ofString "") (l.map fun k => (⟨#[f k]⟩ : Str)) = ⟨(l.map f).toArray⟩ := by
  intro l
  show Builtin.Str.glued _ _ = _
  rw [StrLaws.glued_eq_join]
  have e : Str.ofString "" = ⟨#[]⟩ := by decide
  rw [e]
  induction l with
  | nil => rfl
  | cons a r ih =>
    cases r with
    | nil => rfl
    | cons b r =>
      show (⟨#[f a]⟩ : Str) ++ ⟨#[]⟩ ++ Str.join ⟨#[]⟩ ((b :: r).map fun k => (⟨#[f k]⟩ : Str)) = _
      rw [ih]
      have e1 := str_cat [f a] []
      have e2 := str_cat ([f a] ++ []) ((b :: r).map f)
      show (⟨[f a].toArray⟩ : Str) ++ (⟨[].toArray⟩ : Str) ++ _ = _
      rw [e1, e2]
      rfl
theorem figs_len (script : List Int) : (List.map (fun k => Int.fmod k 10) (List.take 9 script) ++ List.drop (((List.map (fun k => Int.fmod k 10) (List.take 9 script)).length : Nat) : Int).toNat [4, 0, 9, 2, 8, 0, 6, 5, 1]).length = 9 := by
  rw [List.length_append, List.length_drop]
  simp only [List.length_map, List.length_take, List.length_cons, List.length_nil]
  omega
theorem figs_dig (script : List Int) : ∀ x ∈ List.map (fun k => Int.fmod k 10) (List.take 9 script) ++ List.drop (((List.map (fun k => Int.fmod k 10) (List.take 9 script)).length : Nat) : Int).toNat [4, 0, 9, 2, 8, 0, 6, 5, 1], 0 ≤ x ∧ x ≤ 9 := by
  intro x hx
  rcases List.mem_append.mp hx with hx | hx
  · obtain ⟨k, _, rfl⟩ := List.mem_map.mp hx
    exact ⟨fm_lo k, fm_hi k⟩
  · have h : ∀ y ∈ ([4, 0, 9, 2, 8, 0, 6, 5, 1] : List Int), 0 ≤ y ∧ y ≤ 9 := by decide
    exact h x (List.mem_of_mem_drop hx)
/-- the last sign that unctrl writes -/
def lastC (x : Int) : Nat := (unL x).getD ((unL x).length - 1) 0
theorem unL_pos (x : Int) : 1 ≤ (unL x).length := by
  unfold unL
  rw [List.length_append]
  split <;> split <;> (try split) <;> simp
theorem last_is (x : Int) : Txt.item (unS x) (-1) = ⟨#[lastC x]⟩ := by
  have h := unL_pos x
  have hl : (unS x).length = (unL x).length := mk_len _
  unfold Txt.item Txt.charAt
  have e : seqIndex? (-1) (unS x).length = some ((unL x).length - 1) := by
    rw [hl]
    simp [seqIndex?]
    omega
  rw [e]
  congr 2
  unfold lastC unS
  show [((unL x).toArray[(unL x).length - 1]?).getD 0] = _
  simp [List.getD]
section
variable {prog : Program} {w : World} {A : Around} {E : Value → Shared → Prop} {s : Shared} {Q : Value → Shared → Prop} {x : Int} {t u : Tok} {value slice : Expr}
theorem last_K (h : Q (.str ⟨#[lastC x]⟩ s.toks) { s with toks := s.toks + 1 })
    (hs : subscripted slice false (.str (unS x) t) (.int (-1) u) = operate [.str (unS x) t, .int (-1) u] (getItem (.str (unS x) t) (.int (-1) u)) := by with_unfolding_all rfl)
    (ht : ∀ r, letTemporaryGo value (.str (unS x) t) r = pure () := by intro _; with_unfolding_all rfl) :
    wpAny (model prog w) A (subscriptTail value slice (.str (unS x) t) (.int (-1) u)) Q E s :=
  item_str (by decide) (by have h1 := unL_pos x; have e : (unS x).length = (unL x).length := mk_len _; omega) (by have h1 := unL_pos x; have e : (unS x).length = (unL x).length := mk_len _; omega) (fun _ => by rw [last_is]; exact h) hs ht
/-- a sign in a written text -/
theorem in_K {c : Nat} {y : Str} (h : Q (.bool (decide (c ∈ y.cps.toList))) s) : wpAny (model prog w) A (compareOp .In (.str ⟨#[c]⟩ t) (.str y u)) Q E s :=
  in_str (by rw [StrLaws.found_one]; exact h)
end
def MarkP (G : Heap) (L : Addr) (m : Str → Option Value) (nl : List (Addr × Obj)) (s s' : Shared) : Prop :=
  ∃ (c : Nat) (h : Heap) (tk : Nat) (tt : Tok), s' = { s with heap := h, toks := tk } ∧ ¬ (48 ≤ c ∧ c ≤ 57) ∧ c ≠ 41 ∧ Fr G L h (fun y => if y = Str.ofString "mark" then some (.str ⟨#[c]⟩ tt) else m y) ∧ News G L h nl
theorem mark_join {prog : Program} {w : World} {A : Around} {E : Value → Shared → Prop} {s : Shared} {env : Env} {test : Expr} {suite rest : List Stmt} {pos : Pos} {Q : Flow → Shared → Prop} {G : Heap} {L : Addr} {m : Str → Option Value} {nl : List (Addr × Obj)} {c0 : Nat} {t0 : Tok}
    (F : Fr G L s.heap (fun y => if y = Str.ofString "mark" then some (.str ⟨#[c0]⟩ t0) else m y)) (N : News G L s.heap nl)
    (h1 : Fr G L s.heap (fun y => if y = Str.ofString "mark" then some (.str ⟨#[c0]⟩ t0) else m y) → News G L s.heap nl → wpAny (model prog w) A (exec (.If test suite [] pos) env) (fun f s' => f = .next ∧ MarkP G L m nl s s') E s)
    (h2 : ∀ c h tk tt, ¬ (48 ≤ c ∧ c ≤ 57) → c ≠ 41 → Fr G L h (fun y => if y = Str.ofString "mark" then some (.str ⟨#[c]⟩ tt) else m y) → News G L h nl → wpAny (model prog w) A (execs rest env) Q E { s with heap := h, toks := tk }) :
    wpAny (model prog w) A (execs (.If test suite [] pos :: rest) env) Q E s :=
  if_join (MarkP G L m nl s) (h1 F N) (by
    rintro s' ⟨c, h, tk, tt, rfl, g1, g2, F', N'⟩
    exact h2 c h tk tt g1 g2 F' N')
theorem mark_bar {G h : Heap} {L : Addr} {m : Str → Option Value} {nl : List (Addr × Obj)} {s : Shared} {o : Option Value} {t : Tok} {tk : Nat}
    (F : Fr G L h (fun y => if y = Str.ofString "mark" then some (.str (Str.ofString "|") t) else if y = Str.ofString "mark" then o else m y)) (N : News G L h nl) : MarkP G L m nl s { s with heap := h, toks := tk } := by
  refine ⟨124, h, tk, t, rfl, by decide, by decide, ?_, N⟩
  have e : (fun y => if y = Str.ofString "mark" then some (Value.str (Str.ofString "|") t) else if y = Str.ofString "mark" then o else m y) = fun y => if y = Str.ofString "mark" then some (.str ⟨#[124]⟩ t) else m y := by
    funext y
    by_cases hy : y = Str.ofString "mark"
    · rw [if_pos hy, if_pos hy]
      have : Str.ofString "|" = ⟨#[124]⟩ := by decide
      rw [this]
    · rw [if_neg hy, if_neg hy, if_neg hy]
  rw [← e]
  exact F
theorem mark_same {G h : Heap} {L : Addr} {m : Str → Option Value} {nl : List (Addr × Obj)} {s : Shared} {c : Nat} {t : Tok} {tk : Nat} (hc : ¬ c ∈ (Str.ofString "0123456789)").cps.toList)
    (F : Fr G L h (fun y => if y = Str.ofString "mark" then some (.str ⟨#[c]⟩ t) else m y)) (N : News G L h nl) : MarkP G L m nl s { s with heap := h, toks := tk } := by
  have e : (Str.ofString "0123456789)").cps.toList = [48, 49, 50, 51, 52, 53, 54, 55, 56, 57, 41] := by decide
  rw [e] at hc
  simp only [List.mem_cons, List.not_mem_nil, or_false, not_or] at hc
  exact ⟨c, h, tk, t, rfl, by omega, by omega, F, N⟩
end Mine
end PartX4
section PartX5
namespace Mine
open PySem.Calls PySem.Spec PySem.NumText PyProof.V
theorem unS_ok (x : Int) : PyData.strOk (unS x) = true := by
  unfold PyData.strOk unS unL
  rw [Array.all_eq_true']
  intro c hc
  have hc' := List.mem_toArray.mp hc
  rw [decide_eq_true_eq]
  rcases List.mem_append.mp hc' with h | h
  · split at h <;> simp at h; omega
  · split at h
    · simp at h; omega
    · split at h
      · simp at h; omega
      · simp at h; omega
section
variable {prog : Program} {w : World} {A : Around} {E : Value → Shared → Prop} {s : Shared} {h₀ : Heap} {L : Addr} {news : List (Addr × Obj)} {Q : Value → Shared → Prop}
/-- two made tuples of a text and an int, with the same worth -/
theorem ne_tup_K {a b : Addr} {x : Str} {n n' : Int} {t1 t2 t3 t4 : Tok} {k k' : Nat} (N : News h₀ L s.heap news)
    (ha : (a, ({ cls := .type "tuple", data := .seq #[.str x t1, .int n t2] k } : Obj)) ∈ news) (hb : (b, ({ cls := .type "tuple", data := .seq #[.str x t3, .int n' t4] k' } : Obj)) ∈ news) (hn : n = n') (hx : PyData.strOk x = true)
    (hu : A.units + 64 < cLine) (h : Q (.bool false) s) : wpAny (model prog w) A (compareOp .NotEq (.ref a) (.ref b)) Q E s := by
  subst hn
  refine ne_dataH (da := .tuple [.str x, .int n]) (db := .tuple [.str x, .int n]) (reads_tuple_at (N.get ha) rfl rfl (.cons (.str _ _) (.cons (.int _ _) .nil))) (reads_tuple_at (N.get hb) rfl rfl (.cons (.str _ _) (.cons (.int _ _) .nil))) (by simp [SeqAt.shaped, PyData.canLay0, PyData.canLayAll0, PyData.depth, PyData.depthAll, hx]) (by simp [SeqAt.shaped, PyData.canLay0, PyData.canLayAll0, PyData.depth, PyData.depthAll, hx]) hu ?_
  have e : (!PyData.eqv (.tuple [.str x, .int n]) (.tuple [.str x, .int n])) = false := by simp [PyData.eqv, PyData.eqvAll]
  rw [e]
  exact h
/-- two made lists of four truth values, with the same worth -/
theorem ne_four_K {a b : Addr} {a1 a2 a3 a4 b1 b2 b3 b4 : Bool} (ha : s.heap.IsList a [Value.bool a1, .bool a2, .bool a3, .bool a4].toArray) (hb : s.heap.IsList b [Value.bool b1, .bool b2, .bool b3, .bool b4].toArray)
    (h1 : a1 = b1) (h2 : a2 = b2) (h3 : a3 = b3) (h4 : a4 = b4)
    (hu : A.units + 64 < cLine) (h : Q (.bool false) s) : wpAny (model prog w) A (compareOp .NotEq (.ref a) (.ref b)) Q E s := by
  subst h1 h2 h3 h4
  obtain ⟨o, g1, g2, k, g3⟩ := ha
  obtain ⟨o', g1', g2', k', g3'⟩ := hb
  refine ne_dataH (da := .list [.bool a1, .bool a2, .bool a3, .bool a4]) (db := .list [.bool a1, .bool a2, .bool a3, .bool a4]) (reads_list_at g1 g2 g3 (.cons (.bool _) (.cons (.bool _) (.cons (.bool _) (.cons (.bool _) .nil))))) (reads_list_at g1' g2' g3' (.cons (.bool _) (.cons (.bool _) (.cons (.bool _) (.cons (.bool _) .nil))))) (by simp [SeqAt.shaped, PyData.canLay0, PyData.canLayAll0, PyData.depth, PyData.depthAll]) (by simp [SeqAt.shaped, PyData.canLay0, PyData.canLayAll0, PyData.depth, PyData.depthAll]) hu ?_
  have e : (!PyData.eqv (.list [.bool a1, .bool a2, .bool a3, .bool a4]) (.list [.bool a1, .bool a2, .bool a3, .bool a4])) = false := by simp [PyData.eqv, PyData.eqvAll]
  rw [e]
  exact h
theorem cell_K {cn : Str} {cs : Scope} {a c : Addr} {ccd v : Value} {cl : List (Str × Addr)} {x : Str} {m : Str → Option Value} {Q : Unit → Shared → Prop} {o : Obj} {v₀ : Option Value} {rest : List (Addr × Obj)} (F : Fr h₀ L s.heap m) (N : News h₀ L s.heap news) (hc : cl.lookup x = some c) (hm : (c, o) ∈ news) (hd : o.data = .cell v₀) (hs : ∀ p ∈ rest, p ∈ news ∧ p.1 ≠ c)
    (h : ∀ h' o', Fr h₀ L h' m → News h₀ L h' ((c, o') :: rest) → o'.data = .cell (some v) → Q () { s with heap := h' })
    (hk : cs.kind = .function := by rfl) (hx : (envX cn cs L a ccd cl).kindOf x = some .cell := by rfl) : wpAny (model prog w) A (storeName (envX cn cs L a ccd cl) x v) Q E s :=
  storeX_C F (news := (c, o) :: rest) (fun p hp => (List.mem_cons.mp hp).elim (fun e => e ▸ N _ hm) fun hp => N p (hs p hp).1) hc (UpdF.head fun p hp => (hs p hp).2) hd h hk hx
theorem news_lt {h : Heap} (N : News h₀ L h news) : ∀ p ∈ news, p.1 < h.objs.size := fun p hp => Heap.lt_size (N p hp).1
theorem pick4 {h : Heap} {x1 x2 x3 x4 x5 x6 x7 x8 y z : Addr × Obj} (N : News h₀ L h [x1, x2, x3, x4, x5, x6, x7, x8, y, z]) : News h₀ L h [x1, x2, y, z] := fun p hp => N p (by
  simp only [List.mem_cons, List.not_mem_nil, or_false] at hp ⊢
  rcases hp with rfl | rfl | rfl | rfl <;> simp)
theorem ne_intK {a b : Int} {t u : Tok} (hn : a = b) (h : Q (.bool false) s) : wpAny (model prog w) A (compareOp .NotEq (.int a t) (.int b u)) Q E s := by
  refine ne_int ?_
  subst hn
  rw [bne_self_eq_false]
  exact h
theorem int_any {l : List Nat} (h : AllDigits l) (h0 : 1 ≤ l.length) (hl : l.length ≤ 9) : PySem.intText? ⟨l.toArray⟩ = some ((digitsVal l : Nat) : Int) := by
  have e := intText_digits (x := ⟨l.toArray⟩) h (by rw [mk_cps]; intro e; rw [e] at h0; cases h0) (by rw [mk_len]; omega)
  rw [mk_cps] at e
  exact e
theorem intS_K {d : List Nat} {k : Int} {t : Tok} (hd : AllDigits d) (hl : d.length = 9) (hk : k.toNat < 9) (h : Q (.int ((digitsVal (d.drop k.toNat) : Nat) : Int) s.toks) { s with toks := s.toks + 1 }) : wpAny (model prog w) A (call (.type "int") [.str ⟨(d.drop k.toNat).toArray⟩ t]) Q E s :=
  KIN.call_text (int_any (dig_drop hd _) (by rw [List.length_drop]; omega) (by rw [List.length_drop]; omega)) (by rw [mk_len, List.length_drop]; omega) h
end
/-- the low figures -/
theorem low_mod {d : List Nat} (hl : d.length = 9) {k j m : Nat} (hj : j = 9 - k) (hm : 10 ^ j % m = 0) : (digitsVal d : Int) % (m : Int) = (digitsVal (d.drop k) : Int) % (m : Int) := by
  have e : digitsVal d = digitsVal (d.take k ++ d.drop k) := by rw [List.take_append_drop]
  have h2 : digitsVal d % m = digitsVal (d.drop k) % m := by
    rw [e, dv_app, List.length_drop, hl, ← hj, Nat.add_mod, Nat.mul_mod, hm]
    simp
  have h3 := congrArg (fun n : Nat => (n : Int)) h2
  simpa using h3
theorem low32 {d : List Nat} (hl : d.length = 9) : (digitsVal d : Int) % 32 = (digitsVal (d.drop (4 : Int).toNat) : Int) % 32 := low_mod hl (k := 4) (j := 5) (m := 32) (by decide) (by decide)
theorem low128 {d : List Nat} (hl : d.length = 9) : (digitsVal d : Int) % 128 = (digitsVal (d.drop (2 : Int).toNat) : Int) % 128 := low_mod hl (k := 2) (j := 7) (m := 128) (by decide) (by decide)

theorem low32f {d : List Nat} (hl : d.length = 9) : (digitsVal d : Int) % 32 = Int.fmod (digitsVal (d.drop (4 : Int).toNat) : Int) 32 := by
  rw [Int.fmod_eq_emod_of_nonneg _ (by decide)]; exact low32 hl
theorem low128f {d : List Nat} (hl : d.length = 9) : (digitsVal d : Int) % 128 = Int.fmod (digitsVal (d.drop (2 : Int).toNat) : Int) 128 := by
  rw [Int.fmod_eq_emod_of_nonneg _ (by decide)]; exact low128 hl
theorem altf (x : Int) : x + 128 * (1 - x / 128 % 2) = x + 128 * (1 - Int.fmod (Int.fdiv x 128) 2) := by
  rw [Int.fmod_eq_emod_of_nonneg _ (by decide), Int.fdiv_eq_ediv_of_nonneg _ (by decide)]
theorem step_lo (x : Int) : 1 ≤ 1 + Int.fmod x 9 := by have := fmod_lo x (n := 9) (by decide); omega
theorem step_hi (x : Int) : 1 + Int.fmod x 9 ≤ 9 := by have := fmod_hi x (n := 9) (by decide); omega
theorem rebase {h₀ h : Heap} {L l : Addr} {o : Obj} {tl : List (Addr × Obj)} {x1 x2 y z : Addr × Obj} (N : News h₀ L h ((l, o) :: (tl ++ [x1, x2, y, z]))) : News h₀ L h (y :: x1 :: x2 :: z :: (l, o) :: tl) := fun p hp => N p (by
  simp only [List.mem_cons, List.mem_append, List.not_mem_nil, or_false] at hp ⊢
  rcases hp with rfl | rfl | rfl | rfl | rfl | hp
  · exact .inr (.inr (.inr (.inr (.inl rfl))))
  · exact .inr (.inr (.inl rfl))
  · exact .inr (.inr (.inr (.inl rfl)))
  · exact .inr (.inr (.inr (.inr (.inr rfl))))
  · exact .inl rfl
  · exact .inr (.inl hp))
theorem base_ne {h₀ h : Heap} {L l : Addr} {o : Obj} {tl : List (Addr × Obj)} {x1 x2 y z : Addr × Obj} (hne : ∀ p ∈ tl ++ [x1, x2, y, z], p.1 ≠ l) (hsep : ∀ p ∈ tl, ∀ q ∈ [x1, x2, y, z], q.1 ≠ p.1) (_N : News h₀ L h ((l, o) :: (tl ++ [x1, x2, y, z])))
    (h1 : (x1.1 : Nat) ≠ y.1) (h2 : (x2.1 : Nat) ≠ y.1) (h3 : (z.1 : Nat) ≠ y.1) : ∀ p ∈ x1 :: x2 :: z :: (l, o) :: tl, p.1 ≠ y.1 := by
  intro p hp
  simp only [List.mem_cons] at hp
  rcases hp with rfl | rfl | rfl | rfl | hp
  · exact h1
  · exact h2
  · exact h3
  · exact (hne y (by simp)).symm
  · exact (hsep p hp y (by simp)).symm
/-- the map behind the main loop -/
theorem pin7 {h₀ h : Heap} {L : Addr} {m mm : Str → Option Value} {a b c d e f g : Str} (F : Fr h₀ L h m) (h2 : ∀ z, z ≠ a → z ≠ b → z ≠ c → z ≠ d → z ≠ e → z ≠ f → z ≠ g → m z = mm z) :
    Fr h₀ L h (fun y => if y = a then m y else if y = b then m y else if y = c then m y else if y = d then m y else if y = e then m y else if y = f then m y else if y = g then m y else mm y) := by
  have e : m = fun y => if y = a then m y else if y = b then m y else if y = c then m y else if y = d then m y else if y = e then m y else if y = f then m y else if y = g then m y else mm y := by
    funext y
    by_cases g1 : y = a
    · rw [if_pos g1]
    rw [if_neg g1]
    by_cases g2 : y = b
    · rw [if_pos g2]
    rw [if_neg g2]
    by_cases g3 : y = c
    · rw [if_pos g3]
    rw [if_neg g3]
    by_cases g4 : y = d
    · rw [if_pos g4]
    rw [if_neg g4]
    by_cases g5 : y = e
    · rw [if_pos g5]
    rw [if_neg g5]
    by_cases g6 : y = f
    · rw [if_pos g6]
    rw [if_neg g6]
    by_cases g7 : y = g
    · rw [if_pos g7]
    rw [if_neg g7]
    exact h2 y g1 g2 g3 g4 g5 g6 g7
  rw [← e]
  exact F
/-- the depth of a change -/
def deepT (k : Int) : Int := [99, 0, 1, 0, 2, 0, 1, 0, 3, 0].getD k.toNat 0
def absI (g : Int) : Int := if g < 0 then -g else g
def okW (p : Nat) (g w : Int) : Bool :=
  (decide (w % 32 = 0) == decide (5 ≤ (p : Int) + deepT (absI g))) && (decide (w % 128 = 0) == decide (7 ≤ (p : Int) + deepT (absI g))) && (decide (w % 256 = 0) == decide (8 ≤ (p : Int) + deepT (absI g))) && (decide (w = 0) == decide (g = 0)) && decide (w ≠ 128) && decide (w ≠ -128)
theorem fin_one : ∀ p < 9, ∀ k : Nat, k < 19 → k ≠ 9 → okW p ((k : Int) - 9) (((k : Int) - 9) * 10 ^ p) = true := by decide +kernel
theorem fin_two : ∀ p < 9, ∀ k : Nat, k < 19 → ∀ q < 9, p < q → okW p ((k : Int) - 9) (((k : Int) - 9) * (10 ^ p - 10 ^ q)) = true := by decide +kernel
theorem ok_of {d cs : List Nat} {place gap ways : Int} (h : Chg d cs place gap ways) : okW place.toNat gap ways = true := by
  have g0 := h.g0
  have g9 := h.g9
  have p0 := h.p0
  have p8 := h.p8
  have e : gap = ((gap + 9).toNat : Int) - 9 := by omega
  rcases h.way with ⟨hg, e2⟩ | ⟨q, h1, h2, e2⟩
  · have hf := fin_one place.toNat (by omega) (gap + 9).toNat (by omega) (by omega)
    rw [← e] at hf
    rw [e2]
    exact hf
  · have hf := fin_two place.toNat (by omega) (gap + 9).toNat (by omega) q (by omega) h1
    rw [← e] at hf
    rw [e2]
    exact hf

/-- what unctrl writes, read back -/
def unR (r : Nat) (b : Bool) : List Nat :=
  (if r / 128 % 2 = 1 then [33] else []) ++
    (if b then [94, 63] else if 32 ≤ r % 128 ∧ r % 128 ≤ 126 then [r % 128] else [94, r % 128 + 64 - 32 * (r % 128 / 32 % 2)])
def unB : List Nat → Nat × Bool
  | [94, 63] => (127, true)
  | [33, 94, y] => (128 + (if y = 159 then 127 else y - 64), false)
  | [94, y] => (if y = 159 then 127 else y - 64, false)
  | [33, y] => (128 + y, false)
  | [y] => (y, false)
  | _ => (0, false)
theorem un_back : ∀ r < 256, unB (unR r false) = (r, false) := by decide +kernel
theorem un_back2 : unB (unR 127 true) = (127, true) := by decide +kernel
theorem un_as (x : Int) : unL x = unR (x % 256).toNat (decide (x = 127)) := by
  unfold unL unR
  have e1 : (x % 128).toNat = (x % 256).toNat % 128 := by omega
  have e2 : (x % 128 + 64 - 32 * (x % 128 / 32 % 2)).toNat = (x % 256).toNat % 128 + 64 - 32 * ((x % 256).toNat % 128 / 32 % 2) := by omega
  have c1 : (x / 128 % 2 = 1) ↔ ((x % 256).toNat / 128 % 2 = 1) := by omega
  have c2 : (32 ≤ x % 128 ∧ x % 128 ≤ 126) ↔ (32 ≤ (x % 256).toNat % 128 ∧ (x % 256).toNat % 128 ≤ 126) := by omega
  rw [e1, e2]
  simp only [c1, c2, decide_eq_true_eq]
theorem un_read (x : Int) : unB (unL x) = ((x % 256).toNat, decide (x = 127)) := by
  rw [un_as]
  by_cases h : x = 127
  · subst h
    exact un_back2
  · rw [decide_eq_false h]
    exact un_back _ (by omega)
theorem un_same (x y : Int) : (unS x == unS y) = (decide (x % 256 = y % 256) && ((x == 127) == (y == 127))) := by
  have h1 : unS x = unS y ↔ unL x = unL y := by
    unfold unS
    constructor
    · intro h
      have := congrArg (fun z : Str => z.cps.toList) h
      exact this
    · intro h
      rw [h]
  have h2 : unL x = unL y ↔ (x % 256 = y % 256 ∧ (x = 127 ↔ y = 127)) := by
    constructor
    · intro h
      have e := congrArg unB h
      rw [un_read, un_read] at e
      have e1 := congrArg Prod.fst e
      have e2 := congrArg Prod.snd e
      refine ⟨?_, by simpa using e2⟩
      have e1' : (x % 256).toNat = (y % 256).toNat := e1
      omega
    · rintro ⟨g1, g2⟩
      rw [un_as, un_as, g1]
      congr 1
      simpa using g2
  rw [Bool.eq_iff_iff]
  simp only [beq_iff_eq, Bool.and_eq_true, decide_eq_true_eq]
  rw [h1, h2]
  constructor
  · rintro ⟨g1, g2⟩
    refine ⟨g1, ?_⟩
    rw [Bool.eq_iff_iff]
    simpa using g2
  · rintro ⟨g1, g2⟩
    refine ⟨g1, ?_⟩
    rw [Bool.eq_iff_iff] at g2
    simpa using g2
section
variable {prog : Program} {w : World} {A : Around} {E : Value → Shared → Prop} {s : Shared} {Q : Value → Shared → Prop}
theorem deep_K {value slice : Expr} {l : Addr} {vs : List Value} {g : Int} {u : Tok} (hl : s.heap.IsList l vs.toArray) (hi : IntsAre vs [99, 0, 1, 0, 2, 0, 1, 0, 3, 0]) (h0 : -9 ≤ g) (h9 : g ≤ 9)
    (h : ∀ t, Q (.int (deepT (absI g)) t) s)
    (hs : subscripted slice false (.ref l) (.int (if g < 0 then -g else g) u) = operate [.ref l, .int (if g < 0 then -g else g) u] (getItem (.ref l) (.int (if g < 0 then -g else g) u)) := by with_unfolding_all rfl) (hg : ∀ r, letTemporaryGo value (.ref l) r = pure () := by intro _; with_unfolding_all rfl) :
    wpAny (model prog w) A (subscriptTail value slice (.ref l) (.int (if g < 0 then -g else g) u)) Q E s :=
  item_list_ints hl hi (by split <;> omega) (by show (if g < 0 then -g else g) < 10; split <;> omega) (by split <;> omega) h hs hg
/-- a store into the cell of the main loop -/
theorem turn_store {h₀ : Heap} {L : Addr} {cn : Str} {cs : Scope} {a c : Addr} {ccd v : Value} {cl : List (Str × Addr)} {x : Str} {m : Str → Option Value} {Q : Unit → Shared → Prop} {o : Obj} {v₀ : Option Value} {x1 x2 x3 : Addr × Obj} {T : List (Addr × Obj)}
    (F : Fr h₀ L s.heap m) (N : News h₀ L s.heap (x1 :: x2 :: x3 :: (c, o) :: T)) (hc : cl.lookup x = some c) (hd : o.data = .cell v₀) (h1 : x1.1 ≠ c) (h2 : x2.1 ≠ c) (hT : ∀ p ∈ T, p.1 ≠ c)
    (h : ∀ h' o', Fr h₀ L h' m → News h₀ L h' ((c, o') :: x1 :: x2 :: T) → o'.data = .cell (some v) → Q () { s with heap := h' })
    (hk : cs.kind = .function := by rfl) (hx : (envX cn cs L a ccd cl).kindOf x = some .cell := by rfl) : wpAny (model prog w) A (storeName (envX cn cs L a ccd cl) x v) Q E s :=
  cell_K F N hc (by simp) hd (rest := x1 :: x2 :: T) (fun p hp => by
    rcases List.mem_cons.mp hp with rfl | hp
    · exact ⟨by simp, h1⟩
    rcases List.mem_cons.mp hp with rfl | hp
    · exact ⟨by simp, h2⟩
    · exact ⟨by simp [hp], hT p hp⟩) h hk hx
end
section
variable {d cs : List Nat} {place gap ways n : Int} (h : Chg d cs place gap ways)
include h
theorem ok_six : (ways % 32 = 0 ↔ 5 ≤ place + deepT (absI gap)) ∧ (ways % 128 = 0 ↔ 7 ≤ place + deepT (absI gap)) ∧ (ways % 256 = 0 ↔ 8 ≤ place + deepT (absI gap)) ∧ (ways = 0 ↔ gap = 0) ∧ ways ≠ 128 ∧ ways ≠ -128 := by
  have e := ok_of h
  have p0 := h.p0
  unfold okW at e
  simp only [Bool.and_eq_true, beq_iff_eq, decide_eq_decide, decide_eq_true_eq] at e
  have ep : ((place.toNat : Nat) : Int) = place := by omega
  rw [ep] at e
  obtain ⟨⟨⟨⟨⟨e1, e2⟩, e3⟩, e4⟩, e5⟩, e6⟩ := e
  exact ⟨e1, e2, e3, e4, e5, e6⟩
theorem like1 : ((n + ways) % 32 == n % 32) = decide (5 ≤ place + deepT (absI gap)) := by
  have e := (ok_six h).1
  rw [Bool.eq_iff_iff, beq_iff_eq, decide_eq_true_eq, ← e]
  omega
theorem like2 : ((n + ways) % 128 == n % 128) = decide (7 ≤ place + deepT (absI gap)) := by
  have e := (ok_six h).2.1
  rw [Bool.eq_iff_iff, beq_iff_eq, decide_eq_true_eq, ← e]
  omega
theorem like3 : (unS (n + ways) == unS n) = (decide (8 ≤ place + deepT (absI gap)) && ((n + ways == 127) == (n == 127))) := by
  have e := (ok_six h).2.2.1
  rw [un_same]
  congr 1
  rw [decide_eq_decide, ← e]
  omega
theorem like3a (h8 : 8 ≤ place + deepT (absI gap)) : (unS (n + ways) == unS n) = ((n + ways == 127) == (n == 127)) := by
  rw [like3 h, decide_eq_true h8, Bool.true_and]
theorem like3b (h8 : ¬ 8 ≤ place + deepT (absI gap)) : (unS (n + ways) == unS n) = decide (8 ≤ place + deepT (absI gap)) := by
  rw [like3 h, decide_eq_false h8, Bool.false_and]
theorem like4 : (n + ways + 128 * (1 - (n + ways) / 128 % 2) == n + 128 * (1 - n / 128 % 2)) = (gap == 0) := by
  obtain ⟨_, _, _, e4, e5, e6⟩ := ok_six h
  rw [Bool.eq_iff_iff, beq_iff_eq, beq_iff_eq, ← e4]
  omega
end
end Mine
end PartX5
section PartX6
namespace Mine
open PySem.Calls PySem.Spec PySem.NumText PyProof.V
/-- what the main loop keeps -/
def LoopJ (mm : Str → Option Value) (c : Addr) (base : List (Addr × Obj)) (m : Str → Option Value) (nx : List (Addr × Obj)) : Prop :=
  ∃ o v, nx = (c, o) :: base ∧ o.data = .cell v ∧ ∀ z, z ≠ Str.ofString "changed" → z ≠ Str.ofString "place" → z ≠ Str.ofString "gap" → z ≠ Str.ofString "ways" → z ≠ Str.ofString "port" → z ≠ Str.ofString "deep" → z ≠ Str.ofString "alike" → m z = mm z
section
variable {prog : Program} {w : World} {A : Around} {E : Value → Shared → Prop} {s : Shared} {env : Env} {h₀ : Heap} {target : Expr} {body : List Stmt} {Q : Flow → Shared → Prop}
  {l c : Addr} {vs : List Value} {k : Nat} {mm : Str → Option Value} {o : Obj} {v₀ : Option Value} {base : List (Addr × Obj)}
theorem law_loop (hh : A.handled = none) (F : Fr h₀ env.locals s.heap mm) (N : News h₀ env.locals s.heap ((c, o) :: base)) (hm : (l, W.listOf vs.toArray k) ∈ base) (hd : o.data = .cell v₀) (hb : ∀ p ∈ base, p.1 ≠ c)
    (turn : ∀ v (m₁ : Str → Option Value) o' v₁ h tk own I, v ∈ vs → o'.data = .cell v₁ → (∀ p ∈ base ++ own, p.1 ≠ c) → (∀ p ∈ (c, o') :: base, p.1 ≠ I) → Fr h₀ env.locals h (fun y => if y = Str.ofString "changed" then m₁ y else if y = Str.ofString "place" then m₁ y else if y = Str.ofString "gap" then m₁ y else if y = Str.ofString "ways" then m₁ y else if y = Str.ofString "port" then m₁ y else if y = Str.ofString "deep" then m₁ y else if y = Str.ofString "alike" then m₁ y else mm y) → News h₀ env.locals h ((c, o') :: (base ++ own)) →
      wpAny (model prog w) A (assign target env v) (fun _ s₃ => wpAny (model prog w) A (execs body env) (TEnd h₀ env.locals I (LoopJ mm c base) own { s with heap := h, toks := tk } Q) E s₃) E { s with heap := h, toks := tk })
    (done : ∀ (m₁ : Str → Option Value) o' h tk, Fr h₀ env.locals h (fun y => if y = Str.ofString "changed" then m₁ y else if y = Str.ofString "place" then m₁ y else if y = Str.ofString "gap" then m₁ y else if y = Str.ofString "ways" then m₁ y else if y = Str.ofString "port" then m₁ y else if y = Str.ofString "deep" then m₁ y else if y = Str.ofString "alike" then m₁ y else mm y) → News h₀ env.locals h ((c, o') :: base) → Q .next { s with heap := h, toks := tk }) :
    wpAny (model prog w) A (pyIter (.ref l)) (fun it s₂ => TurnsAt prog w A h₀ env target body Q E it s₂) E s := by
  refine list_turns (fun _ => LoopJ mm c base) hh F N (List.mem_cons_of_mem _ hm) ⟨o, v₀, rfl, hd, fun _ _ _ _ _ _ _ _ => rfl⟩ ?_ ?_
  · intro i v m₁ nx h tk own I hv hnI _ hown hJ F₁ N₁
    obtain ⟨o', v₁, rfl, hd', hk⟩ := hJ
    refine turn v m₁ o' v₁ h tk own I (List.mem_of_getElem? hv) hd' ?_ hnI (pin7 F₁ hk) N₁
    intro p hp
    rcases List.mem_append.mp hp with hp | hp
    · exact hb p hp
    · rcases hown p hp with e | e
      · rw [e]
        exact fun q => hnI (c, o') (List.mem_cons_self ..) q.symm
      · rw [e]
        exact hb _ hm
  · intro m₁ nx h tk hJ F₁ N₁
    obtain ⟨o', v₁, rfl, hd', hk⟩ := hJ
    exact done m₁ o' h tk (pin7 F₁ hk) N₁
theorem turn_end {L I : Addr} {own : List (Addr × Obj)} {s₁ : Shared} {h' : Heap} {tk : Nat} {m' : Str → Option Value} {o' o'' : Obj} {v : Option Value} {news' : List (Addr × Obj)} (F : Fr h₀ L h' m') (N : News h₀ L h' news') (hn : ∀ p ∈ (c, o'') :: (base ++ own), p ∈ news') (hd : o''.data = .cell v) (hI : ∀ p ∈ (c, o') :: base, p.1 ≠ I)
    (hm : ∀ z, z ≠ Str.ofString "changed" → z ≠ Str.ofString "place" → z ≠ Str.ofString "gap" → z ≠ Str.ofString "ways" → z ≠ Str.ofString "port" → z ≠ Str.ofString "deep" → z ≠ Str.ofString "alike" → m' z = mm z) : TEnd h₀ L I (LoopJ mm c base) own s₁ Q .next { s₁ with heap := h', toks := tk } := by
  refine TEnd.mk (nx := (c, o'') :: base) F N (fun p hp => ?_) (fun p hp => hn p (List.mem_cons_of_mem _ (List.mem_append_right _ hp))) (fun p hp => ?_) ⟨o'', v, rfl, hd, hm⟩
  · rcases List.mem_cons.mp hp with rfl | hp
    · exact hn _ (List.mem_cons_self ..)
    · exact hn p (List.mem_cons_of_mem _ (List.mem_append_left _ hp))
  · rcases List.mem_cons.mp hp with rfl | hp
    · exact hI (c, o') (List.mem_cons_self ..)
    · exact hI p (List.mem_cons_of_mem _ hp)
end
theorem sub_turn {x y a b : Addr × Obj} {T : List (Addr × Obj)} : ∀ p ∈ y :: T, p ∈ x :: y :: a :: b :: T := by
  intro p hp
  rcases List.mem_cons.mp hp with rfl | hp
  · exact List.mem_cons_of_mem _ (List.mem_cons_self ..)
  · exact List.mem_cons_of_mem _ (List.mem_cons_of_mem _ (List.mem_cons_of_mem _ (List.mem_cons_of_mem _ hp)))
section
variable {w : World} {mean : ExcName → Option Value} {mg mb : Str → Option Value} {news : List (Addr × Obj)}
  {dp un : Nat} {gd : Option (List Code)} {cn : Str} {cs : Scope} {a : Addr} {ccd : Value} {cl : List (Str × Addr)} {A₀ : Around} {base h₀ : Heap} {L : Addr} {m : Str → Option Value} {s : Shared} {Q E : Value → Shared → Prop}
theorem fm9_lo (x : Int) : 0 ≤ Int.fmod x 9 := fmod_lo x (by decide)
theorem fm9_hi (x : Int) : Int.fmod x 9 ≤ 9 := by have := fmod_hi x (n := 9) (by decide); omega
theorem fm9_lo1 (x : Int) : 0 ≤ Int.fmod x 9 + 1 := by have := fm9_lo x; omega
theorem fm9_hi1 (x : Int) : Int.fmod x 9 + 1 ≤ 9 := by have := fmod_hi x (n := 9) (by decide); omega
theorem lost_use3 {d : List Nat} {c : Nat} {hs : Str} {th tp : Tok} {pa : Addr} {k : Nat} {x : Int} {tx ty : Tok} (hpa : (pa, ({ cls := .type "tuple", data := .seq #[.str hs th, .int 21 tp] k } : Obj)) ∈ news)
    (hlen : d.length = 9) (h41 : ∀ x ∈ d, x ≠ 41) (hcd : c ∉ d) (hc2 : c ≠ 41)
    (B : Below A₀ base [] h₀) (F : Fr h₀ L s.heap m) (X : (hd.heap_39 w.params).In h₀) (N : News h₀ L s.heap news) (T : Top hd.view_39 (looseW hd.view_39 []) mean mg mb h₀) (hk : cs.kind = .function)
    (XB : (hd.heap_39 w.params).In base) (TB : Top hd.view_39 (looseW hd.view_39 []) mean mg mb base)
    (hdp : dp + 8 < recursionLimit) (hu : un + 64 < cLine)
    (ret : ∀ (t : Tok) (h' : Heap) (tk' : Nat), Fr h₀ L h' m → News h₀ L h' news → Q (.bool true) { s with heap := h', toks := tk' }) :
    wpAny (model PySem.Challenge.rw_il0200_01.row.prog w) (ktrTop dp un gd cn cs L a ccd cl []) (call (.ref 128) [.str ⟨(d.take (Int.fmod x 9).toNat ++ [c] ++ d.drop (Int.fmod x 9 + 1).toNat).toArray⟩ tx, .str ⟨#[c]⟩ ty, .ref pa]) Q E s := by
  have e : d.take (Int.fmod x 9).toNat ++ [c] ++ d.drop (Int.fmod x 9 + 1).toNat = d.take (Int.fmod x 9).toNat ++ c :: d.drop (Int.fmod x 9 + 1).toNat := by simp
  rw [e]
  have h0 := fm9_lo x
  have h9 := fm9_hi1 x
  refine lost_use hpa ?_ ?_ (fun h => hcd (List.mem_of_mem_take h)) (fun h => hcd (List.mem_of_mem_drop h)) hc2 B F X N T hk XB TB hdp hu ret
  · rw [List.length_append, List.length_cons, List.length_take, List.length_drop]; omega
  · intro y hy
    rcases List.mem_append.mp hy with hy | hy
    · exact h41 y (List.mem_of_mem_take hy)
    · rcases List.mem_cons.mp hy with rfl | hy
      · exact hc2
      · exact h41 y (List.mem_of_mem_drop hy)
end
end Mine
end PartX6
section PartM1
local macro_rules | `(tactic| walk_at "subscriptTail List cons Slice ref ref") => `(tactic| (
  k_here; k_dflt (refine kba_turn (value' := PySem.Expr.Name (PySem.Str.ofString "_") ⟨0, 0, 0, 0⟩) (fun _ => rfl) ?_; refine' kmk_slice_ints ?F ?N ?l ?p ?q ?i ?m ?c ?_ ?s ?t ?z; (case F => k_asm); (case N => k_asm); (case l => kmk_list); (case p => kmk_part); (case q => kmk_part); (case i => l_ints); (case m => exact kmk_from (by l_ints) (Int.natCast_nonneg _)); (case c => exact List.length_drop ..); (case s => with_unfolding_all rfl); (case t => kmk_pure); (case z => exact Nat.le_of_ble_eq_true rfl)); intro D' ws' h' F' N' l1 hI' hC' hL'; (try k_lt l1); (try k_sweep)))
local macro_rules | `(tactic| walk_at "CompSrc") => `(tactic| (
  k_here; (with_reducible show LCg.CompSrc _ _ _ _ _ _ _ (Expr.Call _ _ _ _) _ _ _ _ _ _); k_dflt (refine LCg.CompSrc.ledger (by rfl) (by k_asm) (by k_asm) (by k_mem) (by rw [List.size_toArray]; exact Mine.ints9 (by assumption) (by assumption)) ?_; intro g'; (refine' kct_list (fun k => ⟨#[48 + k.toNat]⟩) (by assumption) (fun k' t' I' oI' C' oC' D' m' ys' h' tk' E' hk' hC' hx' F' N' off' ne' => ?_) ?_); (all_goals (try (simp only [LCg.Off3, and_true] at off'))); (all_goals (try ((show KPfMark → _); intro hMark'))))))
local macro_rules | `(tactic| walk_at "eval ListComp") => `(tactic| (
  k_here; (with_reducible show wpAny _ _ (eval (Expr.ListComp (Expr.Call _ _ _ _) _ _ _) _) _ _ _); k_dflt (refine LCg.ListComp_U (F₀ := by k_asm) (by with_unfolding_all rfl) (by decide) (by rfl) (by decide) (by rfl) ?_)))
local macro_rules | `(tactic| walk_at "call type:str") => `(tactic| (
  k_here; (show wpAny _ _ (call (Value.type "str") [Value.int _ _]) _ _ _); refine Mine.strM_K (by assumption) (by assumption) ?_))
local macro_rules | `(tactic| walk_at "m_s1") => `(tactic| (fail_if_success (with_reducible show wpAny _ _ (eval (Expr.ListComp (Expr.Call _ _ _ _) _ _ _) _) _ _ _)))
local macro_rules | `(tactic| walk_at "m_s2") => `(tactic| (fail_if_success (with_reducible show wpAny _ _ (call (Value.builtin "str.join") _) _ _ _)))
local macro_rules | `(tactic| walk_at "m_s3") => `(tactic| (fail_if_success (with_reducible show LCg.CompSrc _ _ _ _ _ _ _ _ _ _ _ _ _ _)))
local macro_rules | `(tactic| walk_at "m_s4") => `(tactic| (fail_if_success (with_reducible show wpAny _ _ (execs (Stmt.If _ _ _ _ :: _) _) _ _ _)))
local macro_rules | `(tactic| walk_at "subscriptTail Call Name cons nil UnaryOp str int") => `(tactic| (
  k_here; (show wpAny _ _ (subscriptTail _ _ (Value.str (Mine.unS _) _) (Value.int (-1) _)) _ _ _); refine Mine.last_K ?_))
local macro_rules | `(tactic| walk_at "m_s5") => `(tactic| (fail_if_success (with_reducible show wpAny _ _ (exec (Stmt.For _ _ _ _ _) _) _ _ _)))
local macro_rules | `(tactic| walk_at "compareOp In str str") => `(tactic| (
  k_here; (with_reducible show wpAny _ _ (compareOp CmpOp.In (Value.str _ _) (Value.str _ _)) _ _ _); k_dflt (refine Mine.in_K ?_)))
local macro_rules | `(tactic| walk_at "m_s6") => `(tactic| (fail_if_success (with_reducible show wpAny _ _ (pyIter _) _ _ _)))
local macro_rules | `(tactic| walk_at "binaryOp Mult int int") => `(tactic| (
  k_here; (with_reducible show wpAny _ _ (binaryOp Operator.Mult (Value.int _ _) (Value.int 10 _)) _ _ _); k_dflt (refine mul_int ?_ (PySem.IntMulOk.of_right (PySem.intBits_le_64 (by decide) (by decide))))))
local macro_rules | `(tactic| walk_at "m_s8") => `(tactic| (fail_if_success (with_reducible show wpAny _ _ (compareOp CmpOp.NotEq (Value.ref _) (Value.ref _)) _ _ _)))
local macro_rules | `(tactic| walk_at "compareOp NotEq ref ref") => `(tactic| (
  k_here; (with_reducible show wpAny _ _ (compareOp CmpOp.NotEq (Value.ref _) (Value.ref _)) _ _ _); (with_reducible rename News _ _ _ _ => N'); k_dflt (refine' Mine.ne_tup_K N' ?ka ?kb ?kn ?kx ?ku ?_; (case ka => first | k_mem | assumption); (case kb => first | k_mem | assumption); (case kx => exact Mine.unS_ok _); (case kn => first | rfl | assumption); (case ku => units_room)); replace N' := Mine.drop1 (Mine.drop1 N')))
local macro_rules | `(tactic| walk_at "call ref") => `(tactic| (
  k_here; (with_reducible show wpAny _ _ (call (Value.ref 56) [Value.int _ _]) _ _ _);
  k_dflt (refine' Mine.unctrl_use ?k1 ?k2 ?k3 ?k4 ?k5 ?kK ?kd ?ku ?_; walk_at "m_std"); intro t9 h9 tk9 F9 N9; have l9 := Mine.news_lt N9; (try k_lt l9); (try dsimp only); (try k_fold)))
local macro_rules | `(tactic| walk_at "call ref") => `(tactic| (
  k_here; (with_reducible show wpAny _ _ (call (Value.ref 107) [Value.str (PySem.Str.mk (List.toArray _)) _, Value.int _ _]) _ _ _);
  k_dflt (refine' Mine.changes_use ?k1 ?k2 ?k3 ?k4 ?k5 ?kK ?kd ?ku (by assumption) (by assumption) ?s1 ?s2 ?_; walk_at "m_std"; (case s1 => exact Mine.step_lo _); (case s2 => exact Mine.step_hi _)); intro lq vsq nq tlq h9 tk9 F9 N9 hitq hneq hsepq; (try dsimp only); (try k_fold)))
local macro_rules | `(tactic| walk_at "subscriptTail Name Slice str ref") => `(tactic| (
  k_here; (with_reducible show wpAny _ _ (subscriptTail _ (Expr.Slice (some _) none none _) (Value.str (PySem.Str.mk (List.toArray _)) _) _) _ _ _); (with_reducible rename Fr _ _ _ _ => F'); (with_reducible rename News _ _ _ _ => N'); k_dflt (refine Mine.sn_K (s := ⟨_, _, _, _, _⟩) F' N' (by assumption) (by first | omega | exact Mine.fm9_lo1 _) (by first | omega | exact Mine.fm9_hi1 _) ?_); intro _ _ _ _ _))
local macro_rules | `(tactic| walk_at "subscriptTail Name Slice str ref") => `(tactic| (
  k_here; (with_reducible show wpAny _ _ (subscriptTail _ (Expr.Slice none (some _) none _) (Value.str (PySem.Str.mk (List.toArray _)) _) _) _ _ _); (with_reducible rename Fr _ _ _ _ => F'); (with_reducible rename News _ _ _ _ => N'); k_dflt (refine Mine.ns_K (s := ⟨_, _, _, _, _⟩) F' N' (by assumption) (by first | omega | exact Mine.fm9_lo _) (by first | omega | exact Mine.fm9_hi _) ?_); intro _ _ _ _ _))
local macro_rules | `(tactic| walk_at "call type:int") => `(tactic| (
  k_here; (show wpAny _ _ (call (Value.type "int") [Value.str (PySem.Str.mk (List.toArray (List.drop _ _))) _]) _ _ _); refine Mine.intS_K (by assumption) (by assumption) (by decide) ?_))
local macro_rules | `(tactic| walk_at "compareOp NotEq int int") => `(tactic| (
  k_here; (with_reducible show wpAny _ _ (compareOp CmpOp.NotEq (Value.int _ _) (Value.int _ _)) _ _ _); k_dflt (refine Mine.ne_intK ?kn ?_; (case kn => first | with_reducible exact Mine.low32f (by assumption) | with_reducible exact Mine.low128f (by assumption) | with_reducible exact Mine.altf _))))
local macro_rules | `(tactic| walk_at "m_s9") => `(tactic| (fail_if_success (with_reducible show wpAny _ _ (storeName _ (Str.ofString "codes") _) _ _ _)))
local macro_rules | `(tactic| walk_at "m_s10") => `(tactic| (fail_if_success (with_reducible show wpAny _ _ (compareOp CmpOp.NotEq (Value.int _ _) (Value.int (_ + _) _)) _ _ _)))
local macro_rules | `(tactic| walk_at "m_s11") => `(tactic| (fail_if_success (with_reducible show wpAny _ _ (storeName _ (Str.ofString "others") _) _ _ _)))
local macro_rules | `(tactic| walk_at "m_s12") => `(tactic| (fail_if_success (with_reducible show wpAny _ _ (compareOp CmpOp.NotEq (Value.ref _) (Value.ref _)) _ _ _)))
local macro_rules | `(tactic| walk_at "binaryOp Add str str") => `(tactic| (
  k_here; (with_reducible show wpAny _ _ (binaryOp Operator.Add (Value.str (PySem.Str.mk (List.toArray _)) _) (Value.str (PySem.Str.mk (List.toArray _)) _)) _ _ _); k_dflt (refine Mine.cat_K (by simp only [List.length_append, List.length_take, List.length_drop, List.length_cons, List.length_nil]; omega) ?_); intro _ _))
local macro_rules | `(tactic| walk_at "call ref") => `(tactic| (
  k_here; (with_reducible show wpAny _ _ (call (Value.ref 128) [_, _, _]) _ _ _);
  k_dflt (refine' Mine.lost_use3 ?kp (by assumption) (by assumption) (by assumption) (by assumption) ?k1 ?k2 ?k3 ?k4 ?k5 ?kK ?kX ?kT ?kd ?ku ?_; walk_at "m_std"; (case kp => k_mem); (case kX => k_asm); (case kT => k_asm)); intro t9 h9 tk9 F9 N9; (try dsimp only); (try k_fold)))
local macro_rules | `(tactic| walk_at "subscriptTail Name Name ref int") => `(tactic| (
  k_here; (with_reducible show wpAny _ _ (subscriptTail (Expr.Name _ _) (Expr.Name _ _) (Value.ref _) (Value.int _ _)) _ _ _); k_dflt (refine' item_listL ?l ?a ?b ?x ?_; (case l => exact News.isList (by k_asm) (by k_mem)); (case a => decide); (case b => decide); (case x => rfl))))
local macro_rules | `(tactic| walk_at "CompSrc") => `(tactic| (
  k_here; (with_reducible show LCg.CompSrc _ _ _ _ _ _ _ (Expr.Compare _ _ _ _) _ _ _ _ _ _); k_dflt (refine LCg.CompSrc.range (by rfl) (by k_asm) (by k_asm) (by assumption) (by first | decide | rfl) (by first | rfl | decide) (by first | size_fits | exact Nat.le_of_ble_eq_true rfl) ?_; intro g'; lcg_lit)))
local macro_rules | `(tactic| walk_at "CompRest") => `(tactic| (
  (with_reducible show LCg.CompRest _ _ _ _ _ _ _ (Expr.Compare _ _ _ _) _ _ _ _ _ _ _ _ _ _ _); with_unfolding_all (refine LCg.CompRest.succ ?_; intro v' I' oI' C' oC' D' m' h' tk' E' hv' hC' hx' F' N' off' ne'; obtain ⟨t9', hv9'⟩ := hv'; subst hv9')))
local macro_rules | `(tactic| walk_at "CompEnd") => `(tactic| (refine LCg.CompEnd.intro (by assumption) (by assumption) _ (fun p hp => hp) (by assumption) ?src ?_; (case src => lcg_src)))
local macro_rules | `(tactic| walk_at "execs nil") => `(tactic| (k_here; refine wpAny_execs_nil ?_; (try dsimp only)))
namespace Mine
set_option maxRecDepth 100000 in
set_option maxHeartbeats 8000000 in
theorem law0 : PySem.Challenge.rw_il0200_01.Holds := hd (by
  w_on
  k_go0
  (all_goals try k_fold)
  repeat' ((walk_at "m_s1"); (first | (k_unfold; (try dsimp only)) | (k_end; wrow_close) | walk1 | (dsimp only; walk1) | (leave1; try dsimp only)))
  rename_i Df wsf hf1 hIf hlf hf0 Ff Nf
  obtain ⟨figs, hfigs⟩ := ints_of hIf
  have hf9 : figs.length = 9 := by rw [hfigs]; exact figs_len _
  have hfd : ∀ x ∈ figs, 0 ≤ x ∧ x ≤ 9 := by rw [hfigs]; exact figs_dig _
  rw [← hfigs] at hIf
  walk1
  repeat' ((walk_at "m_s3"); (first | (k_unfold; (try dsimp only)) | (k_end; wrow_close) | walk1 | (dsimp only; walk1) | (leave1; try dsimp only)))
  refine LCg.CompSrc.ledger (by rfl) (by k_asm) (by k_asm) (by k_mem) (by rw [List.size_toArray]; exact ints9 hIf hf9) ?_
  intro g'
  refine' kct_list (fun k => ⟨#[48 + k.toNat]⟩) hIf (fun k' t' I' oI' C' oC' D' m' ys' h' tk' E' hk' hC' hx' F' N' off' ne' => ?_) ?_
  · simp only [LCg.Off3, and_true] at off'
    intro hMark'
    k_steps
  · unfold KPfDone
    intro ys hCy hny
    repeat' ((walk_at "m_s2"); (first | (k_unfold; (try dsimp only)) | (k_end; wrow_close) | walk1 | (dsimp only; walk1) | (leave1; try dsimp only)))
    refine KT.join_1 (by first | assumption | is_list | exact News.isList (by k_asm) (by k_mem)) hCy (fun _ _ => rfl) (by omega) ?_
    intro tj kj ej
    rw [join_sig]
    obtain ⟨d, hd⟩ : ∃ d : List Nat, d = figs.map (fun k => 48 + k.toNat) := ⟨_, rfl⟩
    rw [← hd]
    have hlen : d.length = 9 := by rw [hd, List.length_map, hf9]
    have hdig : PySem.NumText.AllDigits d := by
      intro c hc
      rw [hd] at hc
      obtain ⟨k, hk, rfl⟩ := List.mem_map.mp hc
      have := hfd k hk
      omega
    repeat' ((walk_at "m_s4"); (first | (k_unfold; (try dsimp only)) | (k_end; wrow_close) | walk1 | (dsimp only; walk1) | (leave1; try dsimp only)))
    rename Fr _ _ _ _ => Fm
    rename News _ _ _ _ => Nm
    refine mark_join (c0 := lastC _) Fm Nm ?_ ?_
    · intro Fm1 Nm1
      clear Fm Nm
      k_steps
      · exact mark_bar (by k_asm) (by k_asm)
      · exact mark_same (by assumption) (by k_asm) (by k_asm)
    · intro c hc tkc tc hcd hc41 Fc Nc
      clear Fm Nm
      repeat' ((walk_at "m_s5"); (first | (k_unfold; (try dsimp only)) | (k_end; wrow_close) | walk1 | (dsimp only; walk1) | (leave1; try dsimp only)))
      rename Fr _ _ _ _ => Fl
      rename News _ _ _ _ => Nl
      obtain ⟨mm, hmm⟩ := map_of Fl
      obtain ⟨NL, hNL⟩ := led_of Nl
      have hmem : (Df, W.listOf wsf.toArray 0) ∈ NL := by rw [hNL]; k_mem
      refine For_turns Fl ?_
      repeat' ((walk_at "m_s6"); (first | (k_unfold; (try dsimp only)) | (k_end; wrow_close) | walk1 | (dsimp only; walk1) | (leave1; try dsimp only)))
      rw [← hmm] at Fl
      rw [← hNL] at Nl
      refine list_turns (fun i m nx => nx = NL ∧ (∃ t, m (Str.ofString "number") = some (.int ((PySem.NumText.digitsVal (d.take i) : Nat) : Int) t)) ∧ ∀ z, z ≠ Str.ofString "number" → z ≠ Str.ofString "figure" → m z = mm z) rfl Fl Nl hmem ⟨rfl, ⟨_, by rw [hmm]; rfl⟩, fun _ _ _ => rfl⟩ ?_ ?_
      · intro i v m₁ nx h tk1 own I hv hnI hown _ hJ F₁ N₁
        obtain ⟨e1, ⟨tn, hn⟩, hk⟩ := hJ
        rw [e1] at N₁ hnI
        obtain ⟨fi, tf, e2, hfi⟩ := IntsAre.at hIf i v hv
        subst e2
        have F₂ := pinN F₁ hn hk
        rw [hmm] at F₂
        clear F₁ Fl Nl
        k_steps
        refine TEnd.mk (nx := NL) (by k_asm) (by k_asm) (fun p hp => List.mem_append_left _ hp) (fun p hp => List.mem_append_right _ hp) hnI ⟨rfl, by rw [dv_turn hd hfd hfi]; exact ⟨_, rfl⟩, ?_⟩
        · intro z hz1 hz2
          rw [hmm]
          simp only [if_neg hz1, if_neg hz2]
      · intro m₃ nx h3 tk3 hJ F₅ N₅
        obtain ⟨e1, ⟨tn, hn⟩, hk⟩ := hJ
        rw [e1, hNL] at N₅
        have F₆ := pinN F₅ hn hk
        rw [hmm] at F₆
        clear F₅ Fl Nl
        have hnum : PySem.NumText.digitsVal (d.take wsf.length) = PySem.NumText.digitsVal d := by rw [List.take_of_length_le (by rw [hIf.length]; omega)]
        rw [hnum] at F₆
        have h41 : ∀ x ∈ d, x ≠ 41 := fun x hx => by have := hdig x hx; omega
        have hcd' : c ∉ d := fun hx => hcd (hdig c hx)
        repeat' ((walk_at "m_s9"); (first | (k_unfold; (try dsimp only)) | (k_end; wrow_close) | walk1 | (dsimp only; walk1) | (leave1; try dsimp only)))
        rename News _ _ _ _ => Nz
        replace Nz := pick4 Nz
        repeat' ((walk_at "m_s10"); (first | (k_unfold; (try dsimp only)) | (k_end; wrow_close) | walk1 | (dsimp only; walk1) | (leave1; try dsimp only)))
        walk1
        walk1
        walk1
        refine wpAny_execs_nil ?_
        (try dsimp only)
        repeat' ((walk_at "m_s5"); (first | (k_unfold; (try dsimp only)) | (k_end; wrow_close) | walk1 | (dsimp only; walk1) | (leave1; try dsimp only)))
        rename Fr _ _ _ _ => Fl
        refine For_turns Fl ?_
        repeat' ((walk_at "m_s6"); (first | (k_unfold; (try dsimp only)) | (k_end; wrow_close) | walk1 | (dsimp only; walk1) | (leave1; try dsimp only)))
        rename Fr _ _ _ _ => Fl2
        rename News _ _ _ _ => Nl2
        rename ∀ v ∈ _, Item _ _ v => hit
        have Nb := rebase Nl2
        have hbase := base_ne (by assumption) (by assumption) Nl2 (by show (_ : Nat) ≠ _; dsimp only; omega) (by show (_ : Nat) ≠ _; dsimp only; omega) (by show (_ : Nat) ≠ _; dsimp only; omega)
        obtain ⟨mm2, hmm2⟩ := map_of Fl2
        rw [← hmm2] at Fl2
        clear Nl2
        refine law_loop rfl Fl2 Nb (by k_mem) (by k_asm) hbase ?_ ?_
        · intro v m₁ o' v₁ h tk own I hv hcell hT hI F₁ N₁
          obtain ⟨ta, cs, place, gap, ways, t1, t2, t3, t4, e2, hmemT, hchg⟩ := hit v hv
          subst e2
          rw [hmm2] at F₁
          have hclen := hchg.len
          have hcdig := hchg.dig
          have hg0 := hchg.g0
          have hg9 := hchg.g9
          have hval := hchg.val
          have hcs41 : ∀ x ∈ cs, x ≠ 41 := fun x hx => by have := hcdig x hx; omega
          have hcn : c ∉ cs := fun hx => hcd (hcdig c hx)
          clear Fl2 Nb
          refine unpackN_ F₁ N₁ (News.isTup N₁ (List.mem_cons_of_mem _ (List.mem_append_left _ (List.mem_cons_of_mem _ (List.mem_cons_of_mem _ (List.mem_cons_of_mem _ (List.mem_cons_of_mem _ hmemT))))))) rfl rfl rfl ?_
          intro h' F' N'
          clear F₁ N₁
          repeat' ((walk_at "m_s11"); (first | (k_unfold; (try dsimp only)) | (k_end; wrow_close) | walk1 | (dsimp only; walk1) | (leave1; try dsimp only)))
          · rename News _ _ _ _ => Ns
            rename Fr _ _ _ _ => Fs
            refine turn_store Fs Ns rfl hcell (by show (_ : Nat) ≠ _; dsimp only; omega) (by show (_ : Nat) ≠ _; dsimp only; omega) hT ?_
            intro hz oz Fz Nz hcz
            clear Fs Ns
            repeat' ((walk_at "m_s12"); (first | (k_unfold; (try dsimp only)) | (k_end; wrow_close) | walk1 | (dsimp only; walk1) | (leave1; try dsimp only)))
            refine ne_four_K (News.isList (by k_asm) (by k_mem)) (News.isList (by k_asm) (by k_mem)) (like1 hchg) (like2 hchg) (like3a hchg (by assumption)) (like4 hchg) (by units_room) ?_
            k_steps
            refine turn_end (o' := o') (by k_asm) (by k_asm) sub_turn hcz hI ?_
            intro z h1 h2 h3 h4 h5 h6 h7
            rw [hmm2]
            simp only [if_neg h1, if_neg h2, if_neg h3, if_neg h4, if_neg h5, if_neg h6, if_neg h7]
          · rename News _ _ _ _ => Ns
            rename Fr _ _ _ _ => Fs
            refine turn_store Fs Ns rfl hcell (by show (_ : Nat) ≠ _; dsimp only; omega) (by show (_ : Nat) ≠ _; dsimp only; omega) hT ?_
            intro hz oz Fz Nz hcz
            clear Fs Ns
            repeat' ((walk_at "m_s12"); (first | (k_unfold; (try dsimp only)) | (k_end; wrow_close) | walk1 | (dsimp only; walk1) | (leave1; try dsimp only)))
            refine ne_four_K (News.isList (by k_asm) (by k_mem)) (News.isList (by k_asm) (by k_mem)) (like1 hchg) (like2 hchg) (like3b hchg (by assumption)) (like4 hchg) (by units_room) ?_
            k_steps
            refine turn_end (o' := o') (by k_asm) (by k_asm) sub_turn hcz hI ?_
            intro z h1 h2 h3 h4 h5 h6 h7
            rw [hmm2]
            simp only [if_neg h1, if_neg h2, if_neg h3, if_neg h4, if_neg h5, if_neg h6, if_neg h7]
        · intro m₁ o' h tk F₁ N₁
          rw [hmm2] at F₁
          clear Fl2 Nb
          k_steps)
end Mine
end PartM1
theorem PySem.Challenge.cw_il0200_01_holds : PySem.Challenge.rw_il0200_01.Holds := by
  exact Mine.law0
