import PyProof.Rows.All
import Wide.All
import OpenK.AllK
import Wide.FinOn
import Lean
import PySem.Challenge.RW_sh0006_01
open PySem PySem.W PyProof.Rows PySem.Spec PySem.Calls
set_option Elab.async false
set_option maxRecDepth 100000
set_option maxHeartbeats 8000000
namespace Mine
open_top hd for PySem.Challenge.rw_sh0006_01
variable {w : World} {mean : ExcName → Option Value} {mg mb : Str → Option Value}

abbrev Claim (w : World) (mean : ExcName → Option Value) (mg mb : Str → Option Value) (k : Nat) (f : Addr) (vs : List Value) (R : Tok → Value) : Prop :=
  ∀ (news : List (Addr × Obj)) (dp un : Nat) (gd : Option (List Code)) (cn : Str) (cs : Scope) (a : Addr) (ccd : Value) (cl : List (Str × Addr)) (outer : List Env) (A₀ : Around) (base h₀ : Heap) (L : Addr) (m : Str → Option Value) (s : Shared) (Q E : Value → Shared → Prop),
    Below A₀ base outer h₀ → Fr h₀ L s.heap m → (hd.heap_39 w.params).In h₀ → News h₀ L s.heap news → Top hd.view_39 (looseW hd.view_39 []) mean mg mb h₀ → cs.kind = .function →
    dp + k < recursionLimit → un + 10 * k < cLine → (∀ (t : Tok) (h' : Heap) (tk' : Nat), Fr h₀ L h' m → News h₀ L h' news → Q (R t) { s with heap := h', toks := tk' }) →
      wpAny (model (PySem.Challenge.rw_sh0006_01).row.prog w) (ktrTop dp un gd cn cs L a ccd cl outer) (call (.ref f) vs) Q E s

theorem use {f : Addr} {k : Nat} {vs : List Value} {R : Tok → Value} (C : Claim w mean mg mb k f vs R)
  {news : List (Addr × Obj)} {dp un : Nat} {gd : Option (List Code)} {cn : Str} {cs : Scope} {a : Addr} {ccd : Value} {cl : List (Str × Addr)} {outer : List Env} {A₀ : Around} {base h₀ : Heap} {L : Addr} {m : Str → Option Value} {s : Shared} {Q E : Value → Shared → Prop}
   (B : Below A₀ base outer h₀) (F : Fr h₀ L s.heap m) (X : (hd.heap_39 w.params).In h₀) (N : News h₀ L s.heap news) (T : Top hd.view_39 (looseW hd.view_39 []) mean mg mb h₀) (hk : cs.kind = .function)
   (hdp : dp + k < recursionLimit) (hun : un + 10 * k < cLine) (ret : ∀ (t : Tok) (h' : Heap) (tk' : Nat), Fr h₀ L h' m → News h₀ L h' news → Q (R t) { s with heap := h', toks := tk' }) :
      wpAny (model (PySem.Challenge.rw_sh0006_01).row.prog w) (ktrTop dp un gd cn cs L a ccd cl outer) (call (.ref f) vs) Q E s :=
  C news dp un gd cn cs a ccd cl outer A₀ base h₀ L m s Q E B F X N T hk hdp hun ret

def ch (n : Int) : Str := ⟨#[n.toNat]⟩
def orw (n : Int) : Int := if n < 128 then n + 128 else n
theorem orw_all : ∀ k : Fin 256, Builtin.bitOr (k.val : Int) 128 = orw (k.val : Int) := by decide +kernel
theorem orw_eq {n : Int} (h0 : 0 ≤ n) (h1 : n < 256) : Builtin.bitOr n 128 = orw n := by
  have h := orw_all ⟨n.toNat, by omega⟩
  simpa [Int.toNat_of_nonneg h0] using h
theorem and128_all : ∀ k : Fin 256, Builtin.bitAnd (k.val : Int) 128 = if (k.val : Int) < 128 then 0 else 128 := by decide +kernel
theorem and128_eq {n : Int} (h0 : 0 ≤ n) (h1 : n < 256) : Builtin.bitAnd n 128 = if n < 128 then 0 else 128 := by
  have h := and128_all ⟨n.toNat, by omega⟩
  simpa [Int.toNat_of_nonneg h0] using h
theorem or32_all : ∀ k : Fin 128, 32 ≤ Builtin.bitOr (k.val : Int) 32 ∧ Builtin.bitOr (k.val : Int) 32 < 128 := by decide +kernel
theorem or32_lt {n : Int} (h0 : 0 ≤ n) (h1 : n < 128) : 32 ≤ Builtin.bitOr n 32 ∧ Builtin.bitOr n 32 < 128 := by
  have h := or32_all ⟨n.toNat, by omega⟩
  simpa [Int.toNat_of_nonneg h0] using h
def repS (n : Int) : Str := if n = 127 then Str.ofString "^?" else if 32 ≤ n % 128 ∧ n % 128 ≤ 126 then ch (n % 128) else Str.ofString "^" ++ ch (Builtin.bitOr (n % 128) 32 + 32)
def unS (n : Int) : Str := if n < 128 then repS n else Str.ofString "!" ++ repS n
def capS : Str := Str.ofString "@ABCDEFGHIJKLMNOPQRSTUVWXYZ[\\]^_"
def wordS (c n : Int) (b : Bool) : Str := if c = 0 then Str.ofString "^" ++ Txt.item capS n else if c = 1 then Txt.item (Str.ofString " !\"#$%&'()*+,-./0123456789:;<=>?") n else if c = 2 then Txt.item capS n else if n < 31 then Txt.item (Str.ofString "`abcdefghijklmnopqrstuvwxyz{|}~") n else if b then Str.ofString "^?" else Str.ofString "^" ++ ch 159
def shS (c n : Int) (b : Bool) : Str := if b then wordS c n b else Str.ofString "!" ++ wordS c n b

theorem or32_and (x : Int) : 32 ≤ Builtin.bitOr (Builtin.bitAnd x 127) 32 ∧ Builtin.bitOr (Builtin.bitAnd x 127) 32 < 128 := by
  rw [bitAnd_m7]
  exact or32_lt (Int.emod_nonneg _ (by decide)) (Int.emod_lt_of_pos _ (by decide))
theorem chr_lo (x : Int) : 0 ≤ Builtin.bitOr (Builtin.bitAnd x 127) 32 + 32 := by have := or32_and x; omega
theorem chr_hi (x : Int) : Builtin.bitOr (Builtin.bitAnd x 127) 32 + 32 ≤ 1114111 := by have := or32_and x; omega
theorem capL : Str.length (Str.ofString "@ABCDEFGHIJKLMNOPQRSTUVWXYZ[\\]^_") = 32 := by decide +kernel
local macro_rules | `(tactic| walk_at "call builtin:chr") => `(tactic| (refine chr_of_range ?_ ?_ ?_; (first | exact chr_lo _ | (rw [bitAnd_m5]; omega) | (rw [orw_eq (by assumption) (by assumption)]; unfold orw; split <;> omega) | (rw [bitAnd_m7]; omega)); (first | exact chr_hi _ | (rw [bitAnd_m5]; omega) | (rw [orw_eq (by assumption) (by assumption)]; unfold orw; split <;> omega) | (rw [bitAnd_m7]; omega))))
theorem ctoi_int (n : Int) (t : Tok) : Claim w mean mg mb 1 21 [.int n t] (fun _ => .int n t) := by
  w_top off
  dsimp only [Claim]
  k_fill
  intro news dp un gd cn cs a ccd cl outer A₀ base h₀ L m s Q E B F X N T hk hdp hun hret
  refine wpAny_call ?_
  k_dflt cell_enter
  k_steps
  exact hret 0 _ _ (by k_asm) (by k_asm)
local macro_rules | `(tactic| walk_at "call ref") => `(tactic| (k_dflt (refine' use (ctoi_int _ _) ?k1 ?k2 ?k3 ?k4 ?k5 ?kK ?kd ?ku ?_); (case k1 => k_asm); (case k2 => k_asm); (case k3 => k_asm); (case k4 => k_asm); (case k5 => k_asm); (case kK => first | exact rfl | assumption); (case kd => ktr_room); (case ku => ktr_units); (intro t9 h9 tk9 F9 N9); (try dsimp only); (try k_fold)))
theorem ctoi_str (n : Int) (h0 : 0 ≤ n) (h1 : n < 256) (t : Tok) : Claim w mean mg mb 1 21 [.str (ch n) t] (fun t => .int n t) := by
  dsimp only [Claim]
  k_fill
  intro news dp un gd cn cs a ccd cl outer A₀ base h₀ L m s Q E B F X N T hk hdp hun hret
  refine wpAny_call ?_
  k_dflt cell_enter
  k_steps
  exact cb_retI (Q := Q) hret (Int.toNat_of_nonneg h0) (by k_asm) (by k_asm)
local macro_rules | `(tactic| walk_at "call ref") => `(tactic| (k_dflt (refine' use (ctoi_str _ (by first | assumption | omega | (rw [bitAnd_m7]; omega)) (by first | assumption | omega | (rw [bitAnd_m7]; omega)) _) ?k1 ?k2 ?k3 ?k4 ?k5 ?kK ?kd ?ku ?_); (case k1 => k_asm); (case k2 => k_asm); (case k3 => k_asm); (case k4 => k_asm); (case k5 => k_asm); (case kK => first | exact rfl | assumption); (case kd => ktr_room); (case ku => ktr_units); (intro t9 h9 tk9 F9 N9); (try dsimp only); (try k_fold)))
theorem isascii_int (n : Int) (h0 : 0 ≤ n) (h1 : n < 256) (t : Tok) : Claim w mean mg mb 2 28 [.int n t] (fun _ => .bool (decide (n ≤ 127))) := by
  dsimp only [Claim]
  k_fill
  intro news dp un gd cn cs a ccd cl outer A₀ base h₀ L m s Q E B F X N T hk hdp hun hret
  refine wpAny_call ?_
  k_dflt cell_enter
  k_steps
  all_goals first | exact cb_retB (Q := Q) hret (by first | rfl | (simp; omega) | (simp_all; done) | (simp_all; omega)) (by k_asm) (by k_asm)
local macro_rules | `(tactic| walk_at "call ref") => `(tactic| (k_dflt (refine' use (isascii_int _ (by first | assumption | omega | (rw [bitAnd_m7]; omega)) (by first | assumption | omega | (rw [bitAnd_m7]; omega)) _) ?k1 ?k2 ?k3 ?k4 ?k5 ?kK ?kd ?ku ?_); (case k1 => k_asm); (case k2 => k_asm); (case k3 => k_asm); (case k4 => k_asm); (case k5 => k_asm); (case kK => first | exact rfl | assumption); (case kd => ktr_room); (case ku => ktr_units); (intro t9 h9 tk9 F9 N9); (try dsimp only); (try k_fold)))
theorem isascii_str (n : Int) (h0 : 0 ≤ n) (h1 : n < 256) (t : Tok) : Claim w mean mg mb 2 28 [.str (ch n) t] (fun _ => .bool (decide (n ≤ 127))) := by
  dsimp only [Claim]
  k_fill
  intro news dp un gd cn cs a ccd cl outer A₀ base h₀ L m s Q E B F X N T hk hdp hun hret
  refine wpAny_call ?_
  k_dflt cell_enter
  k_steps
  all_goals first | exact cb_retB (Q := Q) hret (by first | rfl | (simp; omega) | (simp_all; done) | (simp_all; omega)) (by k_asm) (by k_asm)
local macro_rules | `(tactic| walk_at "call ref") => `(tactic| (k_dflt (refine' use (isascii_str _ (by first | assumption | omega | (rw [bitAnd_m7]; omega)) (by first | assumption | omega | (rw [bitAnd_m7]; omega)) _) ?k1 ?k2 ?k3 ?k4 ?k5 ?kK ?kd ?ku ?_); (case k1 => k_asm); (case k2 => k_asm); (case k3 => k_asm); (case k4 => k_asm); (case k5 => k_asm); (case kK => first | exact rfl | assumption); (case kd => ktr_room); (case ku => ktr_units); (intro t9 h9 tk9 F9 N9); (try dsimp only); (try k_fold)))
theorem isctrl_int (n : Int) (h0 : 0 ≤ n) (h1 : n < 256) (t : Tok) : Claim w mean mg mb 2 42 [.int n t] (fun _ => .bool (decide (n < 32))) := by
  dsimp only [Claim]
  k_fill
  intro news dp un gd cn cs a ccd cl outer A₀ base h₀ L m s Q E B F X N T hk hdp hun hret
  refine wpAny_call ?_
  k_dflt cell_enter
  k_steps
  all_goals first | exact cb_retB (Q := Q) hret (by first | rfl | (simp; omega) | (simp_all; done) | (simp_all; omega)) (by k_asm) (by k_asm)
local macro_rules | `(tactic| walk_at "call ref") => `(tactic| (k_dflt (refine' use (isctrl_int _ (by first | assumption | omega | (rw [bitAnd_m7]; omega)) (by first | assumption | omega | (rw [bitAnd_m7]; omega)) _) ?k1 ?k2 ?k3 ?k4 ?k5 ?kK ?kd ?ku ?_); (case k1 => k_asm); (case k2 => k_asm); (case k3 => k_asm); (case k4 => k_asm); (case k5 => k_asm); (case kK => first | exact rfl | assumption); (case kd => ktr_room); (case ku => ktr_units); (intro t9 h9 tk9 F9 N9); (try dsimp only); (try k_fold)))
theorem isctrl_str (n : Int) (h0 : 0 ≤ n) (h1 : n < 256) (t : Tok) : Claim w mean mg mb 2 42 [.str (ch n) t] (fun _ => .bool (decide (n < 32))) := by
  dsimp only [Claim]
  k_fill
  intro news dp un gd cn cs a ccd cl outer A₀ base h₀ L m s Q E B F X N T hk hdp hun hret
  refine wpAny_call ?_
  k_dflt cell_enter
  k_steps
  all_goals first | exact cb_retB (Q := Q) hret (by first | rfl | (simp; omega) | (simp_all; done) | (simp_all; omega)) (by k_asm) (by k_asm)
local macro_rules | `(tactic| walk_at "call ref") => `(tactic| (k_dflt (refine' use (isctrl_str _ (by first | assumption | omega | (rw [bitAnd_m7]; omega)) (by first | assumption | omega | (rw [bitAnd_m7]; omega)) _) ?k1 ?k2 ?k3 ?k4 ?k5 ?kK ?kd ?ku ?_); (case k1 => k_asm); (case k2 => k_asm); (case k3 => k_asm); (case k4 => k_asm); (case k5 => k_asm); (case kK => first | exact rfl | assumption); (case kd => ktr_room); (case ku => ktr_units); (intro t9 h9 tk9 F9 N9); (try dsimp only); (try k_fold)))
theorem ismeta_int (n : Int) (h0 : 0 ≤ n) (h1 : n < 256) (t : Tok) : Claim w mean mg mb 2 49 [.int n t] (fun _ => .bool (decide (127 < n))) := by
  dsimp only [Claim]
  k_fill
  intro news dp un gd cn cs a ccd cl outer A₀ base h₀ L m s Q E B F X N T hk hdp hun hret
  refine wpAny_call ?_
  k_dflt cell_enter
  k_steps
  all_goals first | exact cb_retB (Q := Q) hret (by first | rfl | (simp; omega) | (simp_all; done) | (simp_all; omega)) (by k_asm) (by k_asm)
local macro_rules | `(tactic| walk_at "call ref") => `(tactic| (k_dflt (refine' use (ismeta_int _ (by first | assumption | omega | (rw [bitAnd_m7]; omega)) (by first | assumption | omega | (rw [bitAnd_m7]; omega)) _) ?k1 ?k2 ?k3 ?k4 ?k5 ?kK ?kd ?ku ?_); (case k1 => k_asm); (case k2 => k_asm); (case k3 => k_asm); (case k4 => k_asm); (case k5 => k_asm); (case kK => first | exact rfl | assumption); (case kd => ktr_room); (case ku => ktr_units); (intro t9 h9 tk9 F9 N9); (try dsimp only); (try k_fold)))
theorem ismeta_str (n : Int) (h0 : 0 ≤ n) (h1 : n < 256) (t : Tok) : Claim w mean mg mb 2 49 [.str (ch n) t] (fun _ => .bool (decide (127 < n))) := by
  dsimp only [Claim]
  k_fill
  intro news dp un gd cn cs a ccd cl outer A₀ base h₀ L m s Q E B F X N T hk hdp hun hret
  refine wpAny_call ?_
  k_dflt cell_enter
  k_steps
  all_goals first | exact cb_retB (Q := Q) hret (by first | rfl | (simp; omega) | (simp_all; done) | (simp_all; omega)) (by k_asm) (by k_asm)
local macro_rules | `(tactic| walk_at "call ref") => `(tactic| (k_dflt (refine' use (ismeta_str _ (by first | assumption | omega | (rw [bitAnd_m7]; omega)) (by first | assumption | omega | (rw [bitAnd_m7]; omega)) _) ?k1 ?k2 ?k3 ?k4 ?k5 ?kK ?kd ?ku ?_); (case k1 => k_asm); (case k2 => k_asm); (case k3 => k_asm); (case k4 => k_asm); (case k5 => k_asm); (case kK => first | exact rfl | assumption); (case kd => ktr_room); (case ku => ktr_units); (intro t9 h9 tk9 F9 N9); (try dsimp only); (try k_fold)))
theorem isprint_int (n : Int) (h0 : 0 ≤ n) (h1 : n < 256) (t : Tok) : Claim w mean mg mb 2 35 [.int n t] (fun _ => .bool (decide (32 ≤ n ∧ n ≤ 126))) := by
  dsimp only [Claim]
  k_fill
  intro news dp un gd cn cs a ccd cl outer A₀ base h₀ L m s Q E B F X N T hk hdp hun hret
  refine wpAny_call ?_
  k_dflt cell_enter
  k_steps
  all_goals first | exact cb_retB (Q := Q) hret (by first | rfl | (simp; omega) | (simp_all; done) | (simp_all; omega)) (by k_asm) (by k_asm)
local macro_rules | `(tactic| walk_at "call ref") => `(tactic| (k_dflt (refine' use (isprint_int _ (by first | assumption | omega | (rw [bitAnd_m7]; omega)) (by first | assumption | omega | (rw [bitAnd_m7]; omega)) _) ?k1 ?k2 ?k3 ?k4 ?k5 ?kK ?kd ?ku ?_); (case k1 => k_asm); (case k2 => k_asm); (case k3 => k_asm); (case k4 => k_asm); (case k5 => k_asm); (case kK => first | exact rfl | assumption); (case kd => ktr_room); (case ku => ktr_units); (intro t9 h9 tk9 F9 N9); (try dsimp only); (try k_fold)))
theorem ctrl_int (n : Int) (h0 : 0 ≤ n) (h1 : n < 256) (t : Tok) : Claim w mean mg mb 2 56 [.int n t] (fun t => .int (n % 32) t) := by
  dsimp only [Claim]
  k_fill
  intro news dp un gd cn cs a ccd cl outer A₀ base h₀ L m s Q E B F X N T hk hdp hun hret
  refine wpAny_call ?_
  k_dflt cell_enter
  k_steps
  all_goals exact cb_retI (Q := Q) hret (by first | exact bitAnd_m5 _ | exact orw_eq h0 h1) (by k_asm) (by k_asm)
local macro_rules | `(tactic| walk_at "call ref") => `(tactic| (k_dflt (refine' use (ctrl_int _ (by first | assumption | omega | (rw [bitAnd_m7]; omega)) (by first | assumption | omega | (rw [bitAnd_m7]; omega)) _) ?k1 ?k2 ?k3 ?k4 ?k5 ?kK ?kd ?ku ?_); (case k1 => k_asm); (case k2 => k_asm); (case k3 => k_asm); (case k4 => k_asm); (case k5 => k_asm); (case kK => first | exact rfl | assumption); (case kd => ktr_room); (case ku => ktr_units); (intro t9 h9 tk9 F9 N9); (try dsimp only); (try k_fold)))
theorem ctrl_str (n : Int) (h0 : 0 ≤ n) (h1 : n < 256) (t : Tok) : Claim w mean mg mb 2 56 [.str (ch n) t] (fun t => .str (ch (n % 32)) t) := by
  dsimp only [Claim]
  k_fill
  intro news dp un gd cn cs a ccd cl outer A₀ base h₀ L m s Q E B F X N T hk hdp hun hret
  refine wpAny_call ?_
  k_dflt cell_enter
  k_steps
  all_goals exact cb_retS (Q := Q) hret (by first | (rw [bitAnd_m5]; rfl) | (rw [orw_eq h0 h1]; rfl)) (by k_asm) (by k_asm)
local macro_rules | `(tactic| walk_at "call ref") => `(tactic| (k_dflt (refine' use (ctrl_str _ (by first | assumption | omega | (rw [bitAnd_m7]; omega)) (by first | assumption | omega | (rw [bitAnd_m7]; omega)) _) ?k1 ?k2 ?k3 ?k4 ?k5 ?kK ?kd ?ku ?_); (case k1 => k_asm); (case k2 => k_asm); (case k3 => k_asm); (case k4 => k_asm); (case k5 => k_asm); (case kK => first | exact rfl | assumption); (case kd => ktr_room); (case ku => ktr_units); (intro t9 h9 tk9 F9 N9); (try dsimp only); (try k_fold)))
theorem alt_int (n : Int) (h0 : 0 ≤ n) (h1 : n < 256) (t : Tok) : Claim w mean mg mb 2 63 [.int n t] (fun t => .int (orw n) t) := by
  dsimp only [Claim]
  k_fill
  intro news dp un gd cn cs a ccd cl outer A₀ base h₀ L m s Q E B F X N T hk hdp hun hret
  refine wpAny_call ?_
  k_dflt cell_enter
  k_steps
  all_goals exact cb_retI (Q := Q) hret (by first | exact bitAnd_m5 _ | exact orw_eq h0 h1) (by k_asm) (by k_asm)
local macro_rules | `(tactic| walk_at "call ref") => `(tactic| (k_dflt (refine' use (alt_int _ (by first | assumption | omega | (rw [bitAnd_m7]; omega)) (by first | assumption | omega | (rw [bitAnd_m7]; omega)) _) ?k1 ?k2 ?k3 ?k4 ?k5 ?kK ?kd ?ku ?_); (case k1 => k_asm); (case k2 => k_asm); (case k3 => k_asm); (case k4 => k_asm); (case k5 => k_asm); (case kK => first | exact rfl | assumption); (case kd => ktr_room); (case ku => ktr_units); (intro t9 h9 tk9 F9 N9); (try dsimp only); (try k_fold)))
theorem alt_str (n : Int) (h0 : 0 ≤ n) (h1 : n < 256) (t : Tok) : Claim w mean mg mb 2 63 [.str (ch n) t] (fun t => .str (ch (orw n)) t) := by
  dsimp only [Claim]
  k_fill
  intro news dp un gd cn cs a ccd cl outer A₀ base h₀ L m s Q E B F X N T hk hdp hun hret
  refine wpAny_call ?_
  k_dflt cell_enter
  k_steps
  all_goals exact cb_retS (Q := Q) hret (by first | (rw [bitAnd_m5]; rfl) | (rw [orw_eq h0 h1]; rfl)) (by k_asm) (by k_asm)
local macro_rules | `(tactic| walk_at "call ref") => `(tactic| (k_dflt (refine' use (alt_str _ (by first | assumption | omega | (rw [bitAnd_m7]; omega)) (by first | assumption | omega | (rw [bitAnd_m7]; omega)) _) ?k1 ?k2 ?k3 ?k4 ?k5 ?kK ?kd ?ku ?_); (case k1 => k_asm); (case k2 => k_asm); (case k3 => k_asm); (case k4 => k_asm); (case k5 => k_asm); (case kK => first | exact rfl | assumption); (case kd => ktr_room); (case ku => ktr_units); (intro t9 h9 tk9 F9 N9); (try dsimp only); (try k_fold)))
theorem five_int (n : Int) (h0 : 0 ≤ n) (h1 : n < 256) (t : Tok) : Claim w mean mg mb 3 77 [.int n t] (fun t => .int (n % 32) t) := by
  dsimp only [Claim]
  k_fill
  intro news dp un gd cn cs a ccd cl outer A₀ base h₀ L m s Q E B F X N T hk hdp hun hret
  refine wpAny_call ?_
  k_dflt cell_enter
  k_steps
  all_goals first | exact hret _ _ _ (by k_asm) (by k_asm) | exact cb_retI (Q := Q) hret (by omega) (by k_asm) (by k_asm)
local macro_rules | `(tactic| walk_at "call ref") => `(tactic| (k_dflt (refine' use (five_int _ (by first | assumption | omega | (rw [bitAnd_m7]; omega)) (by first | assumption | omega | (rw [bitAnd_m7]; omega)) _) ?k1 ?k2 ?k3 ?k4 ?k5 ?kK ?kd ?ku ?_); (case k1 => k_asm); (case k2 => k_asm); (case k3 => k_asm); (case k4 => k_asm); (case k5 => k_asm); (case kK => first | exact rfl | assumption); (case kd => ktr_room); (case ku => ktr_units); (intro t9 h9 tk9 F9 N9); (try dsimp only); (try k_fold)))
theorem five_str (n : Int) (h0 : 0 ≤ n) (h1 : n < 256) (t : Tok) : Claim w mean mg mb 3 77 [.str (ch n) t] (fun t => .int (n % 32) t) := by
  dsimp only [Claim]
  k_fill
  intro news dp un gd cn cs a ccd cl outer A₀ base h₀ L m s Q E B F X N T hk hdp hun hret
  refine wpAny_call ?_
  k_dflt cell_enter
  k_steps
  all_goals first | exact hret _ _ _ (by k_asm) (by k_asm) | exact cb_retI (Q := Q) hret (by omega) (by k_asm) (by k_asm)
local macro_rules | `(tactic| walk_at "call ref") => `(tactic| (k_dflt (refine' use (five_str _ (by first | assumption | omega | (rw [bitAnd_m7]; omega)) (by first | assumption | omega | (rw [bitAnd_m7]; omega)) _) ?k1 ?k2 ?k3 ?k4 ?k5 ?kK ?kd ?ku ?_); (case k1 => k_asm); (case k2 => k_asm); (case k3 => k_asm); (case k4 => k_asm); (case k5 => k_asm); (case kK => first | exact rfl | assumption); (case kd => ktr_room); (case ku => ktr_units); (intro t9 h9 tk9 F9 N9); (try dsimp only); (try k_fold)))

theorem unctrl_int (n : Int) (h0 : 0 ≤ n) (h1 : n < 256) (t : Tok) : Claim w mean mg mb 3 70 [.int n t] (fun t => .str (unS n) t) := by
  w_top off
  dsimp only [Claim]
  k_fill
  intro news dp un gd cn cs a ccd cl outer A₀ base h₀ L m s Q E B F X N T hk hdp hun hret
  refine wpAny_call ?_
  k_dflt cell_enter
  k_steps
  all_goals first | exact cb_retS (Q := Q) hret (by clear hret; (try simp only [bitAnd_m7, and128_eq h0 h1] at *); simp only [unS, repS]; (repeat' split) <;> first | rfl | omega | (simp_all; done) | (simp_all; omega)) (by k_asm) (by k_asm)
local macro_rules | `(tactic| walk_at "call ref") => `(tactic| (k_dflt (refine' use (unctrl_int _ (by first | assumption | omega | (rw [bitAnd_m7]; omega)) (by first | assumption | omega | (rw [bitAnd_m7]; omega)) _) ?k1 ?k2 ?k3 ?k4 ?k5 ?kK ?kd ?ku ?_); (case k1 => k_asm); (case k2 => k_asm); (case k3 => k_asm); (case k4 => k_asm); (case k5 => k_asm); (case kK => first | exact rfl | assumption); (case kd => ktr_room); (case ku => ktr_units); (intro t9 h9 tk9 F9 N9); (try dsimp only); (try k_fold)))
theorem unctrl_str (n : Int) (h0 : 0 ≤ n) (h1 : n < 256) (t : Tok) : Claim w mean mg mb 3 70 [.str (ch n) t] (fun t => .str (unS n) t) := by
  dsimp only [Claim]
  k_fill
  intro news dp un gd cn cs a ccd cl outer A₀ base h₀ L m s Q E B F X N T hk hdp hun hret
  refine wpAny_call ?_
  k_dflt cell_enter
  k_steps
  all_goals first | exact cb_retS (Q := Q) hret (by clear hret; (try simp only [bitAnd_m7, and128_eq h0 h1] at *); simp only [unS, repS]; (repeat' split) <;> first | rfl | omega | (simp_all; done) | (simp_all; omega)) (by k_asm) (by k_asm)
local macro_rules | `(tactic| walk_at "call ref") => `(tactic| (k_dflt (refine' use (unctrl_str _ (by first | assumption | omega | (rw [bitAnd_m7]; omega)) (by first | assumption | omega | (rw [bitAnd_m7]; omega)) _) ?k1 ?k2 ?k3 ?k4 ?k5 ?kK ?kd ?ku ?_); (case k1 => k_asm); (case k2 => k_asm); (case k3 => k_asm); (case k4 => k_asm); (case k5 => k_asm); (case kK => first | exact rfl | assumption); (case kd => ktr_room); (case ku => ktr_units); (intro t9 h9 tk9 F9 N9); (try dsimp only); (try k_fold)))
theorem shown (c n : Int) (b : Bool) (h0 : 0 ≤ c) (h1 : c < 4) (h2 : 0 ≤ n) (h3 : n < 32) (t t1 : Tok) : Claim w mean mg mb 3 98 [.int c t, .int n t1, .bool b] (fun t => .str (shS c n b) t) := by
  dsimp only [Claim]
  k_fill
  intro news dp un gd cn cs a ccd cl outer A₀ base h₀ L m s Q E B F X N T hk hdp hun hret
  refine wpAny_call ?_
  k_dflt cell_enter
  k_steps
  all_goals first | exact cb_retS (Q := Q) hret (by clear hret; (try subst b); simp only [shS, wordS, capS]; (repeat' split) <;> first | rfl | omega | (simp_all; done)) (by k_asm) (by k_asm) | (exfalso; rename (_ < _ ∨ _ ≤ _) => hbad; rw [capL] at hbad; omega)
local macro_rules | `(tactic| walk_at "call ref") => `(tactic| (k_dflt (refine' use (shown _ _ _ (by first | assumption | omega) (by first | assumption | omega) (by first | assumption | omega) (by first | assumption | omega) _ _) ?k1 ?k2 ?k3 ?k4 ?k5 ?kK ?kd ?ku ?_); (case k1 => k_asm); (case k2 => k_asm); (case k3 => k_asm); (case k4 => k_asm); (case k5 => k_asm); (case kK => first | exact rfl | assumption); (case kd => ktr_room); (case ku => ktr_units); (intro t9 h9 tk9 F9 N9); (try dsimp only); (try k_fold)))

inductive ThingV : Value → Int × Bool → Prop
  | int (n : Int) (t : Tok) : ThingV (.int n t) (n, false)
  | str (n : Int) (t : Tok) : ThingV (.str (ch n) t) (n, true)
inductive ThingsV : List Value → List (Int × Bool) → Prop
  | nil : ThingsV [] []
  | cons {v : Value} {c : Int × Bool} {vs : List Value} {cs : List (Int × Bool)} : ThingV v c → ThingsV vs cs → ThingsV (v :: vs) (c :: cs)
theorem ThingsV.length {vs : List Value} {cs : List (Int × Bool)} (h : ThingsV vs cs) : vs.length = cs.length := by
  induction h with
  | nil => rfl
  | cons _ _ ih => simp [ih]
theorem ThingsV.at {vs : List Value} {cs : List (Int × Bool)} (h : ThingsV vs cs) : ∀ {i : Nat} {v : Value}, vs[i]? = some v → ∃ c, cs[i]? = some c ∧ ThingV v c := by
  induction h with
  | nil => intro i v e; simp at e
  | cons h1 _ ih =>
    intro i v e
    cases i with
    | zero => simp at e; subst e; exact ⟨_, rfl, h1⟩
    | succ i => simp at e; simpa using ih e
def fwStep (st : List Int × Int × Int) (c : Int × Bool) : List Int × Int × Int :=
  if 127 < c.1 then (st.1, st.2.1 + st.2.2 * (c.1 % 32), st.2.2 * 32) else (st.1 ++ [st.2.1 + st.2.2 * (c.1 % 32)], 0, 1)
def fw (cs : List (Int × Bool)) : List Int × Int × Int := cs.foldl fwStep ([], 0, 1)
theorem take_snoc {α : Type} {cs : List α} {i : Nat} {c : α} (h : cs[i]? = some c) : cs.take (i + 1) = cs.take i ++ [c] := by simp [List.take_add_one, h]
theorem fw_snoc (cs : List (Int × Bool)) (c : Int × Bool) : fw (cs ++ [c]) = fwStep (fw cs) c := by simp [fw, List.foldl_append]
theorem fw_bound (cs : List (Int × Bool)) : 0 ≤ (fw cs).2.1 ∧ (fw cs).2.1 < (fw cs).2.2 ∧ 1 ≤ (fw cs).2.2 ∧ (fw cs).2.2 ≤ 32 ^ cs.length ∧ (fw cs).1.length ≤ cs.length := by
  suffices h : ∀ n, ∀ cs : List (Int × Bool), cs.length = n → 0 ≤ (fw cs).2.1 ∧ (fw cs).2.1 < (fw cs).2.2 ∧ 1 ≤ (fw cs).2.2 ∧ (fw cs).2.2 ≤ 32 ^ cs.length ∧ (fw cs).1.length ≤ cs.length from h _ cs rfl
  intro n
  induction n with
  | zero => intro cs h; rw [List.length_eq_zero_iff.mp h]; simp [fw]
  | succ n ih =>
    intro cs0 hn
    have hne : cs0 ≠ [] := by intro h; simp [h] at hn
    obtain ⟨cs, c, rfl⟩ : ∃ cs c, cs0 = cs ++ [c] := ⟨cs0.dropLast, cs0.getLast hne, (List.dropLast_concat_getLast hne).symm⟩
    rw [fw_snoc]
    obtain ⟨h1, h2, h3, h4, h5⟩ := ih cs (by simpa using hn)
    have hp : (0 : Int) < 32 ^ (cs.length + 1) := Int.pow_pos (by decide)
    unfold fwStep
    split
    · simp only [List.length_append, List.length_cons, List.length_nil]
      have h6 : 0 ≤ c.1 % 32 := Int.emod_nonneg _ (by decide)
      have h7 : c.1 % 32 ≤ 31 := by omega
      have h8 : 0 ≤ (fw cs).2.2 * (c.1 % 32) := Int.mul_nonneg (by omega) h6
      have h9 : (fw cs).2.2 * (c.1 % 32) ≤ (fw cs).2.2 * 31 := Int.mul_le_mul_of_nonneg_left h7 (by omega)
      refine ⟨by omega, by omega, by omega, ?_, by omega⟩
      rw [Int.pow_succ]; omega
    · simp only [List.length_append, List.length_cons, List.length_nil]
      exact ⟨by omega, by omega, by omega, hp, by omega⟩

local macro_rules | `(tactic| k_all) => `(tactic| assumption)
local macro_rules | `(tactic| walk_at "exec For Name Name cons nil") => `(tactic| (k_here; (rename Fr _ _ _ _ => lF'); (with_unfolding_all refine' For_invVF lF' ?k1 ?k2 ?_; (case k1 => exact rfl); (case k2 => exact rfl); k_whole)))

theorem ne_of_lts {news : List (Addr × Obj)} {l : Addr} (h : ∀ p ∈ news, p.1 < l) : ∀ p ∈ news, p.1 ≠ l := fun p hp => Nat.ne_of_lt (h p hp)
theorem ne_app {news own : List (Addr × Obj)} {l : Addr} {o : Obj} (h : ∀ p ∈ news, p.1 ≠ l) (ho : OwnOff own (((l, o) :: news).map (·.1))) : ∀ p ∈ news ++ own, p.1 ≠ l := fun p hp => (List.mem_append.mp hp).elim (h p) fun hp => ho p hp l (List.mem_cons_self ..)
theorem know {m : Str → Option Value} {x : Str} {v : Value} (e : m x = some v) : m = fun y => if y = x then some v else m y := by
  funext y
  by_cases h : y = x
  · rw [if_pos h, h, e]
  · rw [if_neg h]
theorem know_in {h₀ h : Heap} {L : Addr} {m : Str → Option Value} {x z : Str} {v u : Value} (e : m x = some v) (F : Fr h₀ L h (fun y => if y = z then some u else m y)) : Fr h₀ L h (fun y => if y = z then some u else if y = x then some v else m y) := by
  rw [know e] at F
  exact F
theorem know3 {m : Str → Option Value} {x1 x2 x3 : Str} {v1 v2 v3 : Value} (e1 : m x1 = some v1) (e2 : m x2 = some v2) (e3 : m x3 = some v3) : m = fun y => if y = x1 then some v1 else if y = x2 then some v2 else if y = x3 then some v3 else m y := by
  funext y
  (repeat' split) <;> simp_all

theorem fwStep_hi {f : List Int} {a b n : Int} {q : Bool} (h : 127 < n) : fwStep (f, a, b) (n, q) = (f, a + b * (n % 32), b * 32) := by simp [fwStep, h]
theorem fwStep_lo {f : List Int} {a b n : Int} {q : Bool} (h : ¬ 127 < n) : fwStep (f, a, b) (n, q) = (f ++ [a + b * (n % 32)], 0, 1) := by simp [fwStep, h]
theorem inv_end1 {h₀ h' : Heap} {L lf : Addr} {J : (Str → Option Value) → List (Addr × Obj) → Prop} {m' : Str → Option Value} {own news : List (Addr × Obj)} {o o' : Obj} {s₁ : Shared} {tk : Nat} (F : Fr h₀ L h' m') (N : News h₀ L h' ((lf, o) :: (news ++ own)))
    (hoff : OwnOff own (((lf, o') :: news).map (·.1))) (hj : J m' ((lf, o) :: news)) : InvEndG h₀ L J own s₁ { s₁ with heap := h', toks := tk } :=
  InvEndG.intro F N hj hoff (fun p hp => by rw [← List.cons_append]; exact List.mem_append.mpr (.inl hp)) (fun p hp => by rw [← List.cons_append]; exact List.mem_append.mpr (.inr hp))
theorem ints_snoc {vs : List Value} {ns : List Int} {n : Int} {t : Tok} (h : IntsAre vs ns) : IntsAre (vs ++ [.int n t]) (ns ++ [n]) := h.append (.cons n t .nil)
abbrev tupOf (its : Array Value) : Obj := { cls := .type "tuple", data := .seq its }

theorem forwards {l : Addr} {vs : List Value} {nn : Nat} {cs' : List (Int × Bool)} (hV : ThingsV vs cs') (hc : ∀ c ∈ cs', 0 ≤ c.1 ∧ c.1 < 256) (hlen : cs'.length ≤ 15)
    (news : List (Addr × Obj)) (dp un : Nat) (gd : Option (List Code)) (cn : Str) (cs : Scope) (a : Addr) (ccd : Value) (cl : List (Str × Addr)) (outer : List Env) (A₀ : Around) (base h₀ : Heap) (L : Addr) (m : Str → Option Value) (s : Shared) (Q E : Value → Shared → Prop)
    (hl : (l, listOf vs.toArray nn) ∈ news)
    (B : Below A₀ base outer h₀) (F : Fr h₀ L s.heap m) (X : (hd.heap_39 w.params).In h₀) (N : News h₀ L s.heap news) (T : Top hd.view_39 (looseW hd.view_39 []) mean mg mb h₀) (hk : cs.kind = .function)
    (hdp : dp + 4 < recursionLimit) (hun : un + 10 * 4 < cLine)
    (hret : ∀ (D lf : Addr) (ws : List Value) (k : Nat) (t1 t2 : Tok) (h' : Heap) (tk' : Nat), (∀ p ∈ news, p.1 < lf) → lf < D → IntsAre ws (fw cs').1 → Fr h₀ L h' m → News h₀ L h' ((D, tupOf #[.ref lf, .int (fw cs').2.1 t1, .int (fw cs').2.2 t2]) :: (lf, listOf ws.toArray k) :: news) → Q (.ref D) { s with heap := h', toks := tk' }) :
      wpAny (model (PySem.Challenge.rw_sh0006_01).row.prog w) (ktrTop dp un gd cn cs L a ccd cl outer) (call (.ref 84) [.ref l]) Q E s := by
  w_top off
  revert X; k_fill; intro X
  refine wpAny_call ?_
  k_dflt cell_enter
  k_steps
  rename Fr _ _ _ _ => Fx
  rename News _ _ _ _ => Nx
  refine kdl_iter (J := fun i m₁ nx => ∃ (lf : Addr) (ws : List Value) (k : Nat) (t1 t2 : Tok), nx = (lf, listOf ws.toArray k) :: news ∧ (∀ p ∈ news, p.1 < lf) ∧ IntsAre ws (fw (cs'.take i)).1 ∧ m₁ (Str.ofString "found") = some (.ref lf) ∧ m₁ (Str.ofString "number") = some (.int (fw (cs'.take i)).2.1 t1) ∧ m₁ (Str.ofString "size") = some (.int (fw (cs'.take i)).2.2 t2)) rfl (List.mem_cons_of_mem _ hl) Fx Nx ⟨_, [], 0, _, _, rfl, by assumption, .nil, rfl, rfl, rfl⟩ ?turn ?done
  case turn =>
    rintro i v m₁ nx h tk own hv hoff hl1 ⟨lf, ws, k, t1, t2, rfl, hne, hI, hm1, hm2, hm3⟩ F₁ N₁
    clear Fx Nx
    obtain ⟨c, hci, hT⟩ := hV.at hv
    have hcb := hc c (List.mem_of_getElem? hci)
    have hbd := fw_bound (cs'.take i)
    have hil : i < cs'.length := (List.getElem?_eq_some_iff.mp hci).1
    have hpw : (32 : Int) ^ (cs'.take i).length ≤ 32 ^ 15 := by
      have h1 : (cs'.take i).length ≤ 15 := by rw [List.length_take]; omega
      exact_mod_cast Nat.pow_le_pow_right (by decide) h1
    rw [take_snoc hci, fw_snoc]
    generalize fw (cs'.take i) = st at *
    obtain ⟨fnd, num, sz⟩ := st
    dsimp only at hbd hI hm1 hm2 hm3
    obtain ⟨hb1, hb2, hb3, hb4, hb5⟩ := hbd
    have hb6 : sz ≤ 37778931862957161709568 := Int.le_trans hb4 hpw
    have hb7 : fnd.length ≤ 15 := by rw [List.length_take] at hb5; omega
    clear hb4 hpw hb5
    rw [know3 hm3 hm2 hm1] at F₁
    have hap := ne_app (ne_of_lts hne) hoff
    rw [List.cons_append] at N₁
    dsimp only [envOf] at F₁ N₁ ⊢
    cases hT
    all_goals
      rename_i n t
      dsimp only at hcb
      obtain ⟨hn0, hn1⟩ := hcb
      k_steps
    all_goals try (rename 127 < n => hh; rw [fwStep_hi hh]; exact inv_end1 (by k_asm) (by k_asm) hoff ⟨List.mem_cons_of_mem _ hl, lf, ws, k, _, _, rfl, hne, hI, rfl, rfl, rfl⟩)
    all_goals
      rename ¬ 127 < n => hh
      rw [fwStep_lo hh]
      rename Fr _ _ _ _ => Fe
      rename News _ _ _ _ => Ne
      rw [List.push_toArray] at Ne
      exact inv_end1 Fe Ne hoff ⟨List.mem_cons_of_mem _ hl, lf, _, k + 1, _, _, rfl, hne, (ints_snoc hI), rfl, rfl, rfl⟩
  case done =>
    rintro m₁ nx h tk ⟨lf, ws, k, t1, t2, rfl, hne, hI, hm1, hm2, hm3⟩ F₁ N₁
    clear Fx Nx
    have hlv : cs'.take vs.length = cs' := by rw [hV.length]; exact List.take_length
    rw [hlv] at hI hm2 hm3
    rw [know3 hm3 hm2 hm1] at F₁
    dsimp only [envOf] at F₁ N₁ ⊢
    k_steps
    rename lf < _ ∧ _ => hlt
    exact hret _ lf ws k t1 t2 _ _ hne hlt.1 hI (by k_asm) (by k_asm)

def bwStep (f : List Int) (c : Int × Bool) : List Int :=
  if 127 < c.1 then (match f.getLast? with | some x => f.dropLast ++ [x * 32 + c.1 % 32] | none => f ++ [c.1 % 32]) else f ++ [c.1 % 32]
def bw (cs : List (Int × Bool)) : List Int := cs.foldl bwStep []
theorem bw_snoc (cs : List (Int × Bool)) (c : Int × Bool) : bw (cs ++ [c]) = bwStep (bw cs) c := by simp [bw, List.foldl_append]
theorem bw_len (cs : List (Int × Bool)) : (bw cs).length ≤ cs.length := by
  suffices h : ∀ (cs : List (Int × Bool)) (f : List Int), (cs.foldl bwStep f).length ≤ f.length + cs.length by have := h cs []; simpa [bw] using this
  intro cs
  induction cs with
  | nil => intro f; simp
  | cons c cs ih =>
    intro f
    rw [List.foldl_cons]
    have h1 := ih (bwStep f c)
    have h2 : (bwStep f c).length ≤ f.length + 1 := by
      unfold bwStep
      split
      · split
        · simp only [List.length_append, List.length_dropLast, List.length_cons, List.length_nil]; omega
        · simp
      · simp
    simp only [List.length_cons]; omega
theorem bw_bound (cs : List (Int × Bool)) : ∀ y ∈ bw cs, 0 ≤ y ∧ y < 32 ^ cs.length := by
  suffices h : ∀ n, ∀ cs : List (Int × Bool), cs.length = n → ∀ y ∈ bw cs, 0 ≤ y ∧ y < 32 ^ cs.length from h _ cs rfl
  intro n
  induction n with
  | zero => intro cs h; rw [List.length_eq_zero_iff.mp h]; simp [bw]
  | succ n ih =>
    intro cs0 hn
    have hne : cs0 ≠ [] := by intro h; simp [h] at hn
    obtain ⟨cs, c, rfl⟩ : ∃ cs c, cs0 = cs ++ [c] := ⟨cs0.dropLast, cs0.getLast hne, (List.dropLast_concat_getLast hne).symm⟩
    rw [bw_snoc]
    have ih' := ih cs (by simpa using hn)
    have hp : (0 : Int) < 32 ^ cs.length := Int.pow_pos (by decide)
    have h6 : 0 ≤ c.1 % 32 := Int.emod_nonneg _ (by decide)
    have h7 : c.1 % 32 < 32 := Int.emod_lt_of_pos _ (by decide)
    have e : (32 : Int) ^ (cs ++ [c]).length = 32 ^ cs.length * 32 := by rw [List.length_append, List.length_singleton, Int.pow_succ]
    rw [e]
    have hold : ∀ y ∈ bw cs, 0 ≤ y ∧ y < 32 ^ cs.length * 32 := fun y hy => by have := ih' y hy; omega
    have hnew : 0 ≤ c.1 % 32 ∧ c.1 % 32 < 32 ^ cs.length * 32 := by omega
    unfold bwStep
    intro y hy
    split at hy
    · split at hy
      · rename_i x hx
        rcases List.mem_append.mp hy with hy | hy
        · exact hold y (List.dropLast_subset _ hy)
        · rw [List.mem_singleton.mp hy]
          have := ih' x (List.mem_of_getLast? hx)
          omega
      · rcases List.mem_append.mp hy with hy | hy
        · exact hold y hy
        · rw [List.mem_singleton.mp hy]; exact hnew
    · rcases List.mem_append.mp hy with hy | hy
      · exact hold y hy
      · rw [List.mem_singleton.mp hy]; exact hnew
theorem bwStep_hi {f : List Int} {x n : Int} {q : Bool} (h : 127 < n) : bwStep (f ++ [x]) (n, q) = f ++ [x * 32 + n % 32] := by simp [bwStep, h]
theorem bwStep_nil {n : Int} {q : Bool} : bwStep [] (n, q) = [n % 32] := by simp [bwStep]
theorem bwStep_lo {f : List Int} {n : Int} {q : Bool} (h : ¬ 127 < n) : bwStep f (n, q) = f ++ [n % 32] := by simp [bwStep, h]
theorem ThingsV.append {vs us : List Value} {cs ds : List (Int × Bool)} (h : ThingsV vs cs) (k : ThingsV us ds) : ThingsV (vs ++ us) (cs ++ ds) := by
  induction h with
  | nil => exact k
  | cons h1 _ ih => exact .cons h1 ih
theorem ThingsV.reverse {vs : List Value} {cs : List (Int × Bool)} (h : ThingsV vs cs) : ThingsV vs.reverse cs.reverse := by
  induction h with
  | nil => exact .nil
  | cons h1 _ ih => rw [List.reverse_cons, List.reverse_cons]; exact ih.append (.cons h1 .nil)
theorem inv_end {h₀ h' : Heap} {L : Addr} {J : (Str → Option Value) → List (Addr × Obj) → Prop} {m' : Str → Option Value} {own nx : List (Addr × Obj)} {s₁ : Shared} {tk : Nat} (F : Fr h₀ L h' m') (N : News h₀ L h' (nx ++ own))
    (hoff : OwnOff own (nx.map (·.1))) (hj : J m' nx) : InvEndG h₀ L J own s₁ { s₁ with heap := h', toks := tk } :=
  InvEndG.intro F N hj hoff (fun p hp => List.mem_append.mpr (.inl hp)) (fun p hp => List.mem_append.mpr (.inr hp))
theorem last_seq (n : Nat) : seqIndex? (-1) (n + 1) = some n := by
  have h := PySem.seqIndex_neg (k := -1) (n := n + 1) (by decide) (by omega)
  rw [h]; congr 1; omega
theorem last_set {u v : Value} : ∀ ws : List Value, ki_setL (ws ++ [u]) ws.length v = some (ws ++ [v])
  | [] => rfl
  | x :: r => by simp only [List.cons_append, List.length_cons, ki_setL, last_set r]
theorem ints_unsnoc {f : List Int} {x : Int} : ∀ {ws : List Value}, IntsAre ws (f ++ [x]) → ∃ (wi : List Value) (t : Tok), ws = wi ++ [.int x t] ∧ IntsAre wi f := by
  induction f with
  | nil => intro ws h; cases h with | cons _ t h => cases h; exact ⟨[], t, rfl, .nil⟩
  | cons a f ih => intro ws h; cases h with | cons _ t h => obtain ⟨wi, t', rfl, h'⟩ := ih h; exact ⟨.int a t :: wi, t', rfl, .cons a t h'⟩

section
variable {prog : Program} {w : World} {A : Around} {E : Value → Shared → Prop} {s : Shared} {h₀ : Heap} {L D : Addr} {m : Str → Option Value} {news news' : List (Addr × Obj)} {ws : List Value} {n : Nat} {t : Tok} {u v : Value}
theorem item_last {value slice : PySem.Expr} {Q : Value → Shared → Prop} (N : News h₀ L s.heap news) (hm : (D, listOf (ws ++ [u]).toArray n) ∈ news) (h : Q u s)
    (hs : subscripted slice false (.ref D) (.int (-1) t) = operate [.ref D, .int (-1) t] (getItem (.ref D) (.int (-1) t)) := by with_unfolding_all rfl) :
    wpAny (model prog w) A (subscriptTail value slice (.ref D) (.int (-1) t)) Q E s :=
  kde_neg (News.isList N hm) (by decide) (by decide) (by rw [List.length_append]; exact last_seq _) (by simp) h hs
theorem truthy_snoc {Q : Bool → Shared → Prop} (N : News h₀ L s.heap news) (hm : (D, listOf (ws ++ [u]).toArray n) ∈ news) (hfit : ws.length ≤ 100) (h : ∀ tk, Q true { s with toks := tk }) :
    wpAny (model prog w) A (truthy (.ref D)) Q E s := by
  have e : (!(ws ++ [u]).toArray.isEmpty) = true := by simp
  refine wpAny_truthy_list (News.isList N hm) (by rw [List.size_toArray, List.length_append, List.length_singleton]; omega) ?_
  rw [e]
  exact h _
theorem set_last {Q : Unit → Shared → Prop} (F : Fr h₀ L s.heap m) (N : News h₀ L s.heap news) (U : Upd D (listOf (ws ++ [u]).toArray n) (listOf (ws ++ [v]).toArray n) news news')
    (h : ∀ h', Fr h₀ L h' m → News h₀ L h' news' → Q () { s with heap := h' }) : wpAny (model prog w) A (setItem (.ref D) (.int (-1) t) v) Q E s :=
  ki_setNeg (its := (ws ++ [u]).toArray) F N (by decide) (by decide) (j := ws.length) (by rw [List.size_toArray, List.length_append]; exact last_seq _) (last_set ws) U h
end
section
local macro_rules | `(tactic| k_mem) => `(tactic| first | assumption | ((with_reducible refine List.mem_append.mpr (.inl ?_)); k_mem))
local macro_rules | `(tactic| walk_at "exec For Name Subscript cons nil") => `(tactic| (k_here; (rename Fr _ _ _ _ => lF'); (with_unfolding_all refine' For_invVF lF' ?k1 ?k2 ?_; (case k1 => exact rfl); (case k2 => exact rfl); k_whole)))
local macro_rules | `(tactic| walk_at "subscriptTail Name Slice ref ref") => `(tactic| (k_here; (with_reducible show wpAny _ _ (subscriptTail _ (PySem.Expr.Slice none none (some _) _) (Value.ref _) (Value.ref _)) _ _ _); k_dflt (refine' krv_lit ?F ?N ?l ?k ?e ?_ ?s ?t ?z; (case F => k_asm); (case N => k_asm); (case l => exact News.isList (by k_asm) (by k_mem)); (case k => exact IsPart.int _ _); (case e => exact rfl); (case s => with_unfolding_all rfl); (case t => kmk_pure); (case z => assumption)); intro D' h' F' N' l1; (try k_sweep)))
local macro_rules | `(tactic| walk_at "subscriptTail Name UnaryOp ref int") => `(tactic| (k_here; (with_reducible show wpAny _ _ (subscriptTail _ _ (Value.ref _) (Value.int _ _)) _ _ _); k_dflt (refine' item_last ?k1 ?k2 ?_ ?k3; (case k1 => k_asm); (case k2 => k_mem); (case k3 => with_unfolding_all rfl); k_whole)))
local macro_rules | `(tactic| walk_at "setItem ref int") => `(tactic| (k_here; k_dflt (refine' set_last ?F ?N ?U ?_; (case F => k_asm); (case N => k_asm); (case U => k_upd)); intro h' F' N'; (try k_sweep)))
local macro_rules | `(tactic| walk_at "truthy ref") => `(tactic| (k_here; (with_reducible show wpAny _ _ (truthy (Value.ref _)) _ _ _); k_dflt (refine' truthy_snoc ?k1 ?k2 ?k3 ?_; (case k1 => k_asm); (case k2 => k_mem); (case k3 => assumption); k_whole); intro _))

theorem backwards {l : Addr} {vs : List Value} {nn : Nat} {cs' : List (Int × Bool)} (hV : ThingsV vs cs') (hc : ∀ c ∈ cs', 0 ≤ c.1 ∧ c.1 < 256) (hlen : cs'.length ≤ 15)
    (news : List (Addr × Obj)) (dp un : Nat) (gd : Option (List Code)) (cn : Str) (cs : Scope) (a : Addr) (ccd : Value) (cl : List (Str × Addr)) (outer : List Env) (A₀ : Around) (base h₀ : Heap) (L : Addr) (m : Str → Option Value) (s : Shared) (Q E : Value → Shared → Prop)
    (hl : (l, listOf vs.toArray nn) ∈ news)
    (B : Below A₀ base outer h₀) (F : Fr h₀ L s.heap m) (X : (hd.heap_39 w.params).In h₀) (N : News h₀ L s.heap news) (T : Top hd.view_39 (looseW hd.view_39 []) mean mg mb h₀) (hk : cs.kind = .function)
    (hdp : dp + 4 < recursionLimit) (hun : un + 10 * 4 < cLine)
    (hret : ∀ (lf : Addr) (ws : List Value) (k : Nat) (h' : Heap) (tk' : Nat), IntsAre ws (bw cs'.reverse) → Fr h₀ L h' m → News h₀ L h' ((lf, listOf ws.toArray k) :: news) → Q (.ref lf) { s with heap := h', toks := tk' }) :
      wpAny (model (PySem.Challenge.rw_sh0006_01).row.prog w) (ktrTop dp un gd cn cs L a ccd cl outer) (call (.ref 91) [.ref l]) Q E s := by
  w_top off
  revert X; k_fill; intro X
  have hsz : vs.toArray.size ≤ sizeLine := by rw [List.size_toArray, hV.length, sizeLine_eq]; omega
  refine wpAny_call ?_
  k_dflt cell_enter
  k_steps
  rename Fr _ _ _ _ => Fx
  rename News _ _ _ _ => Nx
  rename Addr => D
  have hV' := hV.reverse
  have hvl : vs.toArray.toList.reverse = vs.reverse := rfl
  rw [hvl] at Nx
  refine kdl_iter (J := fun i m₁ nx => ∃ (lf : Addr) (ws : List Value) (k : Nat), nx = (D, listOf vs.reverse.toArray 0) :: (lf, listOf ws.toArray k) :: news ∧ (∀ p ∈ news, p.1 < lf) ∧ lf < D ∧ IntsAre ws (bw (cs'.reverse.take i)) ∧ m₁ (Str.ofString "found") = some (.ref lf)) rfl List.mem_cons_self Fx Nx ⟨_, [], 0, rfl, by assumption, (by assumption : ∀ p ∈ (_, _) :: news, p.1 < _) _ List.mem_cons_self, .nil, rfl⟩ ?turn ?done
  case turn =>
    rintro i v m₁ nx h tk own hv hoff hl1 ⟨lf, ws, k, rfl, hne, hlt, hI, hm1⟩ F₁ N₁
    clear Fx Nx
    obtain ⟨c, hci, hT⟩ := hV'.at hv
    have hcb := hc c (List.mem_reverse.mp (List.mem_of_getElem? hci))
    have hbl := bw_len (cs'.reverse.take i)
    have hbl2 : (bw (cs'.reverse.take i)).length ≤ 15 := by rw [List.length_take, List.length_reverse] at hbl; omega
    clear hbl
    have hbb : ∀ y ∈ bw (cs'.reverse.take i), 0 ≤ y ∧ y < 37778931862957161709568 := by
      intro y hy
      have h1 := bw_bound _ y hy
      have h2 : (32 : Int) ^ (cs'.reverse.take i).length ≤ 32 ^ 15 := by
        have h1 : (cs'.reverse.take i).length ≤ 15 := by rw [List.length_take, List.length_reverse]; omega
        exact_mod_cast Nat.pow_le_pow_right (by decide) h1
      exact ⟨h1.1, Int.lt_of_lt_of_le h1.2 h2⟩
    rw [take_snoc hci, bw_snoc]
    generalize bw (cs'.reverse.take i) = fnd at *
    rw [know hm1] at F₁
    have hap : ∀ p ∈ news ++ own, p.1 ≠ lf := fun p hp => (List.mem_append.mp hp).elim (fun h => Nat.ne_of_lt (hne p h)) fun hp => hoff p hp lf (List.mem_cons_of_mem _ List.mem_cons_self)
    replace hlt := ltN hlt
    rw [List.cons_append, List.cons_append] at N₁
    dsimp only [envOf] at F₁ N₁ ⊢
    rcases List.eq_nil_or_concat fnd with hf | ⟨fi, x, hf⟩
    all_goals subst hf
    case inl =>
      cases hI
      cases hT
      all_goals
        rename_i n t
        dsimp only at hcb
        obtain ⟨hn0, hn1⟩ := hcb
        k_steps
      all_goals
        rename Fr _ _ _ _ => Fe
        rename News _ _ _ _ => Ne
        rw [bwStep_nil]
        exact inv_end (nx := (D, listOf vs.reverse.toArray 0) :: (lf, listOf #[.int (n % 32) _] _) :: news) Fe Ne hoff ⟨List.mem_cons_self, lf, [.int (n % 32) _], _, rfl, hne, hlt, .cons _ _ .nil, rfl⟩
    case inr =>
      rw [List.concat_eq_append] at *
      obtain ⟨wi, tx, rfl, hI'⟩ := ints_unsnoc hI
      have hwi : wi.length ≤ 100 := by rw [hI'.length]; rw [List.length_append] at hbl2; omega
      obtain ⟨hx0, hx1⟩ := hbb x (by simp)
      cases hT
      all_goals
        rename_i n t
        dsimp only at hcb
        obtain ⟨hn0, hn1⟩ := hcb
        k_steps
      all_goals
        rename Fr _ _ _ _ => Fe
        rename News _ _ _ _ => Ne
      all_goals try (rename 127 < n => hh; rw [bwStep_hi hh]; exact inv_end (nx := (D, listOf vs.reverse.toArray 0) :: (lf, listOf (wi ++ [Value.int (x * 32 + n % 32) _]).toArray _) :: news) Fe Ne hoff ⟨List.mem_cons_self, lf, _, _, rfl, hne, hlt, ints_snoc hI', rfl⟩)
      all_goals
        rename ¬ 127 < n => hh
        rw [bwStep_lo hh]
        rw [List.push_toArray] at Ne
        exact inv_end (nx := (D, listOf vs.reverse.toArray 0) :: (lf, listOf ((wi ++ [Value.int x tx]) ++ [Value.int (n % 32) _]).toArray _) :: news) Fe Ne hoff ⟨List.mem_cons_self, lf, _, _, rfl, hne, hlt, ints_snoc (ints_snoc hI'), rfl⟩
  case done =>
    rintro m₁ nx h tk ⟨lf, ws, k, rfl, hne, hlt, hI, hm1⟩ F₁ N₁
    clear Fx Nx
    have hlv : cs'.reverse.take vs.reverse.length = cs'.reverse := by rw [hV'.length]; exact List.take_length
    rw [hlv] at hI
    rw [know hm1] at F₁
    dsimp only [envOf] at F₁ N₁ ⊢
    replace N₁ : News _ _ h ((lf, listOf ws.toArray k) :: news) := fun p hp => N₁ p (List.mem_cons_of_mem _ hp)
    k_steps
    exact hret lf ws k _ _ hI (by k_asm) (by k_asm)

end

def lawParts : List Stmt × Scope := match PySem.Challenge.pw_sh0006_01.main.body with
  | [_, _, _, _, _, _, _, _, _, _, _, _, _, _, .FunctionDef _ _ b _ _ _ sc _ _ _] => (b, sc)
  | _ => ([], { kind := .function, names := [], isGenerator := false, isCoroutine := false, more := [] })
def lawScope : Scope := lawParts.2
def outerBody : List Stmt := match lawParts.1 with
  | [_, _, _, _, _, _, _, .For _ _ b _ _, _, _, _, _] => b
  | _ => []
def innerBody : List Stmt := match outerBody with
  | [_, .For _ _ b _ _] => b
  | _ => []
def innerThen : List Stmt := match innerBody with
  | [.If _ b _ _] => b
  | _ => []
def checkBody : List Stmt := match lawParts.1 with
  | [_, _, _, _, _, _, _, _, _, _, .For _ _ b _ _, _] => b
  | _ => []
def envL (L fa : Addr) (cd : Value) : Env := envOf (Str.ofString "law") lawScope L fa cd
theorem inner_has : innerBody.length = 1 := by decide +kernel
theorem outer_has : outerBody.length = 2 := by decide +kernel
theorem check_has : checkBody.length = 1 := by decide +kernel

def cel (cs : List Int) (i : Nat) : Int := cs.getD i 0
def restAt (cs : List Int) (i j : Nat) : Int := cel cs i / 32 ^ j
def fiveAt (cs : List Int) (i j : Nat) : Int := restAt cs i j % 32
def colAt (cs : List Int) (i j : Nat) : Int := (cel cs ((i + j + 1) % 5) + i) % 4
def thingAt (cs : List Int) (p : Nat × Nat) : Int × Bool := ((if restAt cs p.1 (p.2 + 1) = 0 then 0 else 128) + (32 * colAt cs p.1 p.2 + fiveAt cs p.1 p.2), p.1 % 2 == 1)
def headAt (cs : List Int) (p : Nat × Nat) : List Int × Int × Int := (cs.take p.1, cel cs p.1 % 32 ^ p.2, 32 ^ p.2)
def tailAt (cs : List Int) (p : Nat × Nat) : List Int × Int × Int := (restAt cs p.1 p.2 :: cs.drop (p.1 + 1), 0, 1)
def pageAt (cs : List Int) (p : Nat × Nat) : Str := shS (colAt cs p.1 p.2) (fiveAt cs p.1 p.2) (decide (restAt cs p.1 (p.2 + 1) = 0))
def pageS (cs : List Int) : List (Nat × Nat) → Str
  | [] => Str.ofString ""
  | p :: r => pageAt cs p ++ pageS cs r
def isKey (cs : List Int) (i j : Nat) : Bool := j == 0 || decide (0 < restAt cs i j)
def keysAt (cs : List Int) (i j : Nat) : List (Nat × Nat) := ((List.range j).filter (isKey cs i)).map (fun k => (i, k))
def keysUp (cs : List Int) (i j : Nat) : List (Nat × Nat) := (List.range i).flatMap (fun k => keysAt cs k 3) ++ keysAt cs i j

theorem keys_yes {cs : List Int} {i j : Nat} (h : isKey cs i j = true) : keysUp cs i (j + 1) = keysUp cs i j ++ [(i, j)] := by
  simp [keysUp, keysAt, List.range_succ, h]
theorem keys_no {cs : List Int} {i j : Nat} (h : isKey cs i j = false) : keysUp cs i (j + 1) = keysUp cs i j := by
  simp [keysUp, keysAt, List.range_succ, h]
theorem keys_next {cs : List Int} {i : Nat} : keysUp cs (i + 1) 0 = keysUp cs i 3 := by
  simp [keysUp, keysAt, List.range_succ]
theorem keys_len (cs : List Int) (i j : Nat) : (keysUp cs i j).length ≤ 3 * i + j := by
  have h1 : ∀ i j, (keysAt cs i j).length ≤ j := by
    intro i j
    have := List.length_filter_le (isKey cs i) (List.range j)
    simpa [keysAt] using this
  have h2 : ((List.range i).flatMap (fun k => keysAt cs k 3)).length ≤ 3 * i := by
    induction i with
    | zero => simp
    | succ i ih =>
      rw [List.range_succ, List.flatMap_append, List.length_append]
      have := h1 i 3
      simp only [List.flatMap_cons, List.flatMap_nil, List.append_nil]
      omega
  have := h1 i j
  simp only [keysUp, List.length_append]
  omega
theorem page_snoc (cs : List Int) (ks : List (Nat × Nat)) (p : Nat × Nat) : pageS cs (ks ++ [p]) = pageS cs ks ++ pageAt cs p := by
  induction ks with
  | nil =>
    have e : Str.ofString "" = Str.empty := by decide +kernel
    simp only [List.nil_append, pageS, e]
    rw [Str.empty_append, Str.append_empty]
  | cons q r ih => simp only [List.cons_append, pageS, ih, Str.append_assoc]

inductive HeadIn (news : List (Addr × Obj)) : Value → List Int × Int × Int → Prop
  | mk {D f : Addr} {ws : List Value} {k : Nat} {ns : List Int} {a b : Int} {t1 t2 : Tok} : (D, tupOf #[.ref f, .int a t1, .int b t2]) ∈ news → (f, listOf ws.toArray k) ∈ news → IntsAre ws ns → HeadIn news (.ref D) (ns, a, b)
inductive HeadsIn (news : List (Addr × Obj)) : List Value → List (List Int × Int × Int) → Prop
  | nil : HeadsIn news [] []
  | cons {v : Value} {c : List Int × Int × Int} {vs : List Value} {cs : List (List Int × Int × Int)} : HeadIn news v c → HeadsIn news vs cs → HeadsIn news (v :: vs) (c :: cs)
theorem HeadIn.mono {news news' : List (Addr × Obj)} {v : Value} {c : List Int × Int × Int} (h : HeadIn news v c) (hs : ∀ p ∈ news, p ∈ news') : HeadIn news' v c := by
  cases h with
  | mk h1 h2 h3 => exact .mk (hs _ h1) (hs _ h2) h3
theorem HeadsIn.mono {news news' : List (Addr × Obj)} {vs : List Value} {cs : List (List Int × Int × Int)} (h : HeadsIn news vs cs) (hs : ∀ p ∈ news, p ∈ news') : HeadsIn news' vs cs := by
  induction h with
  | nil => exact .nil
  | cons h1 _ ih => exact .cons (h1.mono hs) ih
theorem HeadsIn.snoc {news : List (Addr × Obj)} {vs : List Value} {v : Value} {cs : List (List Int × Int × Int)} {c : List Int × Int × Int} (h : HeadsIn news vs cs) (k : HeadIn news v c) : HeadsIn news (vs ++ [v]) (cs ++ [c]) := by
  induction h with
  | nil => exact .cons k .nil
  | cons h1 _ ih => exact .cons h1 ih
theorem HeadsIn.length {news : List (Addr × Obj)} {vs : List Value} {cs : List (List Int × Int × Int)} (h : HeadsIn news vs cs) : vs.length = cs.length := by
  induction h with
  | nil => rfl
  | cons _ _ ih => simp [ih]
theorem HeadsIn.at {news : List (Addr × Obj)} {vs : List Value} {cs : List (List Int × Int × Int)} (h : HeadsIn news vs cs) : ∀ {i : Nat} {c : List Int × Int × Int}, cs[i]? = some c → ∃ v, vs[i]? = some v ∧ HeadIn news v c := by
  induction h with
  | nil => intro i v e; simp at e
  | cons h1 _ ih =>
    intro i v e
    cases i with
    | zero => simp at e; subst e; exact ⟨_, rfl, h1⟩
    | succ i => simp at e; simpa using ih e
theorem things_snoc {vs : List Value} {v : Value} {cs : List (Int × Bool)} {c : Int × Bool} (h : ThingsV vs cs) (k : ThingV v c) : ThingsV (vs ++ [v]) (cs ++ [c]) := h.append (.cons k .nil)

def Inv0 (cs : List Int) (ks : List (Nat × Nat)) (m : Str → Option Value) (nx : List (Addr × Obj)) : Prop :=
  ∃ (C TH HE TA : Addr) (cv thv hev tav : List Value) (n0 n1 n2 n3 : Nat) (tp : Tok) (tl : List (Addr × Obj)),
    nx = (TA, listOf tav.toArray n3) :: (HE, listOf hev.toArray n2) :: (TH, listOf thv.toArray n1) :: (C, listOf cv.toArray n0) :: tl ∧
    IntsAre cv cs ∧ ThingsV thv (ks.map (thingAt cs)) ∧ HeadsIn ((C, listOf cv.toArray n0) :: tl) hev (ks.map (headAt cs)) ∧ HeadsIn ((C, listOf cv.toArray n0) :: tl) tav (ks.map (tailAt cs)) ∧
    (∀ p ∈ tl, p.1 ≠ TH ∧ p.1 ≠ HE ∧ p.1 ≠ TA) ∧ C < TH ∧ TH < HE ∧ HE < TA ∧
    m (Str.ofString "cells") = some (.ref C) ∧ m (Str.ofString "things") = some (.ref TH) ∧ m (Str.ofString "heads") = some (.ref HE) ∧ m (Str.ofString "tails") = some (.ref TA) ∧ m (Str.ofString "page") = some (.str (pageS cs ks) tp)
def Inv (cs : List Int) (i j : Nat) (m : Str → Option Value) (nx : List (Addr × Obj)) : Prop :=
  Inv0 cs (keysUp cs i j) m nx ∧ (∃ t, m (Str.ofString "turn") = some (.int i t)) ∧ (∃ t, m (Str.ofString "rest") = some (.int (restAt cs i j) t))

theorem cel_bound {cs : List Int} (hr : ∀ c ∈ cs, 0 ≤ c ∧ c < 32768) : ∀ k, 0 ≤ cel cs k ∧ cel cs k < 32768 := fun k => by
  unfold cel
  by_cases hk : k < cs.length
  · rw [List.getD_eq_getElem?_getD, List.getElem?_eq_getElem hk]; exact hr _ (List.getElem_mem hk)
  · rw [List.getD_eq_getElem?_getD, List.getElem?_eq_none (by omega)]; decide
theorem ite_yes {c : Prop} [Decidable c] {p q : Prop} (h : c) (hp : p) : if c then p else q := by rw [if_pos h]; exact hp
theorem bne_no {x y : Str} (e : x = y) : ¬ ((x != y) = true) := by subst e; simp
theorem bneB_no {x y : Bool} (e : x = y) : ¬ ((x != y) = true) := by subst e; simp
theorem ite_no {c : Prop} [Decidable c] {p q : Prop} (h : ¬ c) (hq : q) : if c then p else q := by rw [if_neg h]; exact hq
theorem sh_len (c n : Int) (b : Bool) : (shS c n b).length ≤ 3 := by
  have h1 : (Str.ofString "^").length = 1 := by decide +kernel
  have h2 : (Str.ofString "!").length = 1 := by decide +kernel
  have h3 : (Str.ofString "^?").length = 2 := by decide +kernel
  have h4 : ∀ (x : Str) (k : Int), (Txt.item x k).length = 1 := fun _ _ => rfl
  have h5 : ∀ k : Int, (ch k).length = 1 := fun _ => rfl
  have hw : (wordS c n b).length ≤ 2 := by
    unfold wordS
    (repeat' split) <;> simp only [Str.length_append, h1, h3, h4, h5] <;> omega
  unfold shS
  split
  · omega
  · rw [Str.length_append, h2]; omega
theorem page_len (cs : List Int) (ks : List (Nat × Nat)) : (pageS cs ks).length ≤ 3 * ks.length := by
  induction ks with
  | nil => exact Nat.le_of_eq (by decide +kernel : (Str.ofString "").length = 0)
  | cons p r ih =>
    simp only [pageS, Str.length_append, List.length_cons]
    have := sh_len (colAt cs p.1 p.2) (fiveAt cs p.1 p.2) (decide (restAt cs p.1 (p.2 + 1) = 0))
    unfold pageAt
    omega
theorem page_room {x : Str} {c n : Int} {b : Bool} (h : x.length ≤ 45) : x.length + (shS c n b).length ≤ sizeLine := by
  have := sh_len c n b
  rw [sizeLine_eq]; omega
theorem allLt_mem {d : Addr} {l : List (Addr × Obj)} (h : AllLt d l) : ∀ p ∈ l, p.1 < d := by
  induction l with
  | nil => intro p hp; cases hp
  | cons q r ih =>
    intro p hp
    rcases List.mem_cons.mp hp with e | hp
    · rw [e]; exact h.1
    · exact ih h.2 p hp
theorem col_eq {cs : List Int} {i j : Nat} {q1 q : Int} (h1 : q1 = ((i : Int) + j + 1) % 5) (h : q = (cs.getD q1.toNat 0 + i) % 4) : colAt cs i j = q := by
  have e : q1.toNat = (i + j + 1) % 5 := by omega
  rw [e] at h
  rw [h]; rfl
theorem thing_a {q q2 q3 : Int} {i : Nat} {t : Tok} (h : 0 < q2) (hp : (i : Int) % 2 = 1) : ThingV (.str (ch (32 * q + q3 + 128)) t) ((if q2 = 0 then 0 else 128) + (32 * q + q3), i % 2 == 1) := by
  have e : (i % 2 == 1) = true := by rw [beq_iff_eq]; omega
  rw [if_neg (by omega), e, show 128 + (32 * q + q3) = 32 * q + q3 + 128 by omega]
  exact .str _ _
theorem thing_b {q q2 q3 : Int} {i : Nat} {t : Tok} (h : 0 < q2) (hp : (i : Int) % 2 = 0) : ThingV (.int (32 * q + q3 + 128) t) ((if q2 = 0 then 0 else 128) + (32 * q + q3), i % 2 == 1) := by
  have e : (i % 2 == 1) = false := by rw [beq_eq_false_iff_ne]; omega
  rw [if_neg (by omega), e, show 128 + (32 * q + q3) = 32 * q + q3 + 128 by omega]
  exact .int _ _
theorem thing_c {q q2 q3 : Int} {i : Nat} {t : Tok} (h : q2 = 0) (hp : (i : Int) % 2 = 1) : ThingV (.str ⟨#[(32 * q + q3).toNat]⟩ t) ((if q2 = 0 then 0 else 128) + (32 * q + q3), i % 2 == 1) := by
  have e : (i % 2 == 1) = true := by rw [beq_iff_eq]; omega
  rw [if_pos h, e, Int.zero_add]
  exact .str _ _
theorem thing_d {q q2 q3 : Int} {i : Nat} {t : Tok} (h : q2 = 0) (hp : (i : Int) % 2 = 0) : ThingV (.int (32 * q + q3) t) ((if q2 = 0 then 0 else 128) + (32 * q + q3), i % 2 == 1) := by
  have e : (i % 2 == 1) = false := by rw [beq_eq_false_iff_ne]; omega
  rw [if_pos h, e, Int.zero_add]
  exact .int _ _
theorem then_end {cs : List Int} {ks : List (Nat × Nat)} {i j : Nat} {q q2 q3 q4 R : Int} {C TH HE TA a b c d e f : Addr} {cv thv hev tav wa we : List Value} {n0 n1 n2 n3 : Nat} {t1 t2 t3 t4 tp tt tr : Tok} {oA oH oT oC oc od : Obj} {v : Value} {tl own : List (Addr × Obj)} {h₀ h' : Heap} {L : Addr} {m' : Str → Option Value} {s₀ : Shared} {tk : Nat}
    (F : Fr h₀ L h' m') (N : News h₀ L h' ((f, tupOf #[.ref e, .int 0 t1, .int 1 t2]) :: (e, listOf we.toArray 0) :: (d, od) :: (c, oc) :: (b, tupOf #[.ref a, .int q4 t3, .int (32 ^ (j : Int).toNat) t4]) :: (a, listOf wa.toArray 0) :: (TA, listOf (tav.toArray.push (.ref f)) (n3 + 1)) :: (HE, listOf (hev.toArray.push (.ref b)) (n2 + 1)) :: (TH, listOf (thv.toArray.push v) (n1 + 1)) :: (C, listOf cv.toArray n0) :: (tl ++ own)))
    (hm1 : m' (Str.ofString "cells") = some (.ref C)) (hm2 : m' (Str.ofString "things") = some (.ref TH)) (hm3 : m' (Str.ofString "heads") = some (.ref HE)) (hm4 : m' (Str.ofString "tails") = some (.ref TA)) (hm5 : m' (Str.ofString "page") = some (.str (pageS cs ks ++ shS q q3 (q2 == 0)) tp)) (hm6 : m' (Str.ofString "turn") = some (.int i tt)) (hm7 : m' (Str.ofString "rest") = some (.int q2 tr))
    (hks : keysUp cs i (j + 1) = ks ++ [(i, j)]) (hRn : restAt cs i (j + 1) = R / 32) (hRe : restAt cs i j = R)
    (hI : IntsAre cv cs) (hTh : ThingsV thv (ks.map (thingAt cs))) (hHe : HeadsIn ((C, listOf cv.toArray n0) :: tl) hev (ks.map (headAt cs))) (hTa : HeadsIn ((C, listOf cv.toArray n0) :: tl) tav (ks.map (tailAt cs)))
    (hne : ∀ p ∈ tl, p.1 ≠ TH ∧ p.1 ≠ HE ∧ p.1 ≠ TA) (hl1 : @LT.lt Nat _ C TH) (hl2 : @LT.lt Nat _ TH HE) (hl3 : @LT.lt Nat _ HE TA)
    (ha : @LT.lt Nat _ TA a) (hab : @LT.lt Nat _ a b) (hbc : @LT.lt Nat _ b c) (hcd : @LT.lt Nat _ c d) (hde : @LT.lt Nat _ d e) (hef : @LT.lt Nat _ e f) (hlt : AllLt a (tl ++ own)) (hoff : OwnOff own (((TA, oA) :: (HE, oH) :: (TH, oT) :: (C, oC) :: tl).map (·.1)))
    (hwa : IntsAre wa (cs.take (i : Int).toNat)) (hwe : IntsAre we ([R] ++ cs.drop ((i : Int) + 1).toNat)) (hq4 : q4 = cs.getD (i : Int).toNat 0 % 32 ^ (j : Int).toNat)
    (hcol : colAt cs i j = q) (hq3 : q3 = R % 32) (hq2 : q2 = R / 32) (hv : ThingV v ((if q2 = 0 then 0 else 128) + (32 * q + q3), i % 2 == 1)) :
    InvEndG h₀ L (Inv cs i (j + 1)) own s₀ { s₀ with heap := h', toks := tk } := by
  have hfive : fiveAt cs i j = q3 := by unfold fiveAt; rw [hRe, hq3]
  have hlow := allLt_mem hlt
  have hown : ∀ p ∈ own, @LT.lt Nat _ p.1 a := fun p hp => hlow p (List.mem_append.mpr (.inr hp))
  have htl : ∀ p ∈ tl, @LT.lt Nat _ p.1 a := fun p hp => hlow p (List.mem_append.mpr (.inl hp))
  have e1 : ((i : Int) + 1).toNat = i + 1 := by omega
  simp only [List.push_toArray] at N
  rw [e1] at hwe
  simp only [Int.toNat_natCast] at hwa hq4 N
  let tl' := (f, tupOf #[.ref e, .int 0 t1, .int 1 t2]) :: (e, listOf we.toArray 0) :: (d, od) :: (c, oc) :: (b, tupOf #[.ref a, .int q4 t3, .int (32 ^ j) t4]) :: (a, listOf wa.toArray 0) :: tl
  have hsub : ∀ p ∈ (C, listOf cv.toArray n0) :: tl, p ∈ (C, listOf cv.toArray n0) :: tl' := fun p hp => by
    rcases List.mem_cons.mp hp with h | h
    · rw [h]; exact List.mem_cons_self
    · simp only [tl', List.mem_cons]; simp [h]
  refine InvEndG.intro (nx := (TA, listOf (tav ++ [Value.ref f]).toArray (n3 + 1)) :: (HE, listOf (hev ++ [Value.ref b]).toArray (n2 + 1)) :: (TH, listOf (thv ++ [v]).toArray (n1 + 1)) :: (C, listOf cv.toArray n0) :: tl') F N
    ⟨⟨C, TH, HE, TA, cv, thv ++ [v], hev ++ [Value.ref b], tav ++ [Value.ref f], n0, n1 + 1, n2 + 1, n3 + 1, tp, tl', rfl, hI, ?_, ?_, ?_, ?_, hl1, hl2, hl3, hm1, hm2, hm3, hm4, ?_⟩, ⟨tt, hm6⟩, ⟨tr, by rw [hRn, ← hq2]; exact hm7⟩⟩ ?_ ?_ ?_
  · rw [hks, List.map_append]
    refine things_snoc hTh ?_
    have e : thingAt cs (i, j) = ((if q2 = 0 then 0 else 128) + (32 * q + q3), i % 2 == 1) := by
      simp only [thingAt, hRn, ← hq2, hcol, hfive]
    rw [e]; exact hv
  · rw [hks, List.map_append]
    refine (hHe.mono hsub).snoc ?_
    have et : headAt cs (i, j) = (cs.take i, q4, 32 ^ j) := by simp only [headAt, cel, hq4]
    rw [et]
    exact .mk (D := b) (f := a) (by simp only [tl']; k_mem) (by simp only [tl']; k_mem) hwa
  · rw [hks, List.map_append]
    refine (hTa.mono hsub).snoc ?_
    have et : tailAt cs (i, j) = ([R] ++ cs.drop (i + 1), 0, 1) := by simp only [tailAt, hRe, List.singleton_append]
    rw [et]
    exact .mk (D := f) (f := e) (by simp only [tl']; k_mem) (by simp only [tl']; k_mem) hwe
  · intro p hp
    simp only [tl', List.mem_cons] at hp
    rcases hp with h | h | h | h | h | h | h
    · subst h; exact ⟨Nat.ne_of_gt (by omega), Nat.ne_of_gt (by omega), Nat.ne_of_gt (by omega)⟩
    · subst h; exact ⟨Nat.ne_of_gt (by omega), Nat.ne_of_gt (by omega), Nat.ne_of_gt (by omega)⟩
    · subst h; exact ⟨Nat.ne_of_gt (by omega), Nat.ne_of_gt (by omega), Nat.ne_of_gt (by omega)⟩
    · subst h; exact ⟨Nat.ne_of_gt (by omega), Nat.ne_of_gt (by omega), Nat.ne_of_gt (by omega)⟩
    · subst h; exact ⟨Nat.ne_of_gt (by omega), Nat.ne_of_gt (by omega), Nat.ne_of_gt (by omega)⟩
    · subst h; exact ⟨Nat.ne_of_gt (by omega), Nat.ne_of_gt (by omega), Nat.ne_of_gt (by omega)⟩
    · exact hne p h
  · rw [hks, page_snoc, hm5]
    simp only [pageAt, hcol, hfive, hRn, ← hq2]
    rfl
  · intro p hp b' hb'
    simp only [tl', List.map_cons, List.mem_cons] at hb'
    have h1 := hown p hp
    rcases hb' with h | h | h | h | h | h | h | h | h | h | h
    · exact hoff p hp b' (by simp [h])
    · exact hoff p hp b' (by simp [h])
    · exact hoff p hp b' (by simp [h])
    · exact hoff p hp b' (by simp [h])
    · rw [h]; exact Nat.ne_of_lt (by omega)
    · rw [h]; exact Nat.ne_of_lt (by omega)
    · rw [h]; exact Nat.ne_of_lt (by omega)
    · rw [h]; exact Nat.ne_of_lt (by omega)
    · rw [h]; exact Nat.ne_of_lt (by omega)
    · rw [h]; exact Nat.ne_of_lt (by omega)
    · exact hoff p hp b' (by simp only [List.map_cons, List.mem_cons]; simp [h])
  · intro p hp
    simp only [tl', List.mem_cons, List.mem_append] at hp ⊢
    rcases hp with h | h | h | h | h | h | h | h | h | h | h <;> simp [h]
  · intro p hp
    simp only [List.mem_cons, List.mem_append]
    simp [hp]
theorem rest_next (cs : List Int) (i j : Nat) : restAt cs i (j + 1) = restAt cs i j / 32 := by
  unfold restAt
  rw [Int.pow_succ, Int.ediv_ediv_of_nonneg (Int.le_of_lt (Int.pow_pos (by decide)))]

section
variable {prog : Program} {A : Around} {E : Value → Shared → Prop} {s : Shared} {a b : Int} {t u : Tok} {Q : Value → Shared → Prop}
theorem mod_gen (hb : 0 < b) (h : ∀ q t tk, q = a % b → 0 ≤ q → Q (.int q t) { s with toks := tk }) : wpAny (model prog w) A (binaryOp .Mod (.int a t) (.int b u)) Q E s :=
  mod_int' (by omega) (h _ _ _ (Int.fmod_eq_emod_of_nonneg _ (by omega)) (by rw [Int.fmod_eq_emod_of_nonneg _ (by omega)]; exact Int.emod_nonneg _ (by omega)))
theorem mod_lit {c : Int} (hc : a % b = c) (hb : 0 < b) (h : ∀ t tk, Q (.int c t) { s with toks := tk }) : wpAny (model prog w) A (binaryOp .Mod (.int a t) (.int b u)) Q E s :=
  mod_int' (by omega) (by rw [Int.fmod_eq_emod_of_nonneg _ (by omega), hc]; exact h _ _)
theorem div_gen (h : ∀ q t tk, q = a / 32 → Q (.int q t) { s with toks := tk }) : wpAny (model prog w) A (binaryOp .FloorDiv (.int a t) (.int 32 u)) Q E s :=
  floordiv_int (by decide) (h _ _ _ (Int.fdiv_eq_ediv_of_nonneg _ (by decide))) (Or.inl (PyProof.noPylong_of_log2 (by decide +kernel)))
theorem alt2_int (n : Int) (h0 : 0 ≤ n) (h1 : n < 128) (t : Tok) : Claim w mean mg mb 2 63 [.int n t] (fun t => .int (n + 128) t) := by
  have h := alt_int (w := w) (mean := mean) (mg := mg) (mb := mb) n h0 (by omega) t
  rwa [show orw n = n + 128 from if_pos h1] at h
theorem alt2_str (n : Int) (h0 : 0 ≤ n) (h1 : n < 128) (t : Tok) : Claim w mean mg mb 2 63 [.str (ch n) t] (fun t => .str (ch (n + 128)) t) := by
  have h := alt_str (w := w) (mean := mean) (mg := mg) (mb := mb) n h0 (by omega) t
  rwa [show orw n = n + 128 from if_pos h1] at h
end
section
local macro_rules | `(tactic| walk_at "binaryOp Mod int int") => `(tactic| (k_here; first | (refine mod_lit (by with_reducible assumption) (by decide) ?_; intro _ _) | (refine mod_gen ?kb ?_; (case kb => first | decide | exact Int.pow_pos (by decide)); intro _ _ _ _ _)))
local macro_rules | `(tactic| walk_at "binaryOp FloorDiv int int") => `(tactic| (k_here; refine div_gen ?_; intro _ _ _ _))
local macro_rules | `(tactic| walk_at "call ref") => `(tactic| (k_dflt (first | refine' use (alt2_int _ (by omega) (by omega) _) ?k1 ?k2 ?k3 ?k4 ?k5 ?kK ?kd ?ku ?_ | refine' use (alt2_str _ (by omega) (by omega) _) ?k1 ?k2 ?k3 ?k4 ?k5 ?kK ?kd ?ku ?_); (case k1 => k_asm); (case k2 => k_asm); (case k3 => k_asm); (case k4 => k_asm); (case k5 => k_asm); (case kK => first | exact rfl | assumption); (case kd => ktr_room); (case ku => ktr_units); (intro t9 h9 tk9 F9 N9); (try dsimp only); (try k_fold)))
local macro_rules | `(tactic| walk_at "subscriptTail Name Slice ref ref") => `(tactic| (k_here; (with_reducible show wpAny _ _ (subscriptTail _ (PySem.Expr.Slice _ _ none _) (Value.ref _) (Value.ref _)) _ _ _); k_dflt (refine' kmk_slice_ints ?F ?N ?l ?p ?q ?i ?m ?c ?_ ?s ?t ?z; (case F => k_asm); (case N => k_asm); (case l => exact News.isList (by k_asm) (by k_mem)); (case p => kmk_part); (case q => kmk_part); (case i => with_reducible assumption); (case m => first | exact kmk_from (by with_reducible assumption) (by omega) | exact kmk_upto (by with_reducible assumption) (by omega)); (case c => kmk_len); (case s => with_unfolding_all rfl); (case t => kmk_pure); (case z => assumption)); intro D' ws' h' F' N' l1 hI' hC' hL'; (try k_lt l1); (try k_sweep)))
local macro_rules | `(tactic| walk_at "subscriptTail") => `(tactic| (k_here; (with_reducible show wpAny _ _ (subscriptTail _ _ (Value.ref _) (Value.int _ _)) _ _ _); k_dflt (refine' ksa_sub ?k1 ?k2 ?k3 ?k4 ?k5 ?k6 ?_ ?k7; (case k1 => k_asm); (case k2 => k_mem); (case k3 => with_reducible assumption); (case k4 => omega); (case k5 => omega); (case k6 => omega); (case k7 => with_unfolding_all rfl); k_whole); intro _))
local macro_rules | `(tactic| walk_at "subscriptTail Name BinOp ref int") => `(tactic| walk_at "subscriptTail")
local macro_rules | `(tactic| walk_at "subscriptTail Name Name ref int") => `(tactic| walk_at "subscriptTail")
local macro_rules | `(tactic| size_fits) => `(tactic| assumption)
local macro_rules | `(tactic| walk_at "inplaceOp Add str str") => `(tactic| (k_here; refine iadd_str ?_ (page_room (by assumption)); intro _ _))
local macro_rules | `(tactic| walk_at "eval IfExp") => `(tactic| (k_here; (rename (_ % 2 = 1 ∨ _ % 2 = 0) => hpar'); rcases hpar' with hpar' | hpar'))
local macro_rules | `(tactic| walk_at "exec If") => `(tactic| (k_here; (rename (_ / 32 = 0 ∨ 0 < _ / 32) => hrest'); rcases hrest' with hrest' | hrest'))
local macro_rules | `(tactic| walk_at "ite") => `(tactic| (k_here; first
  | (refine ite_yes ?hc ?_; (case hc => first | rfl | ((simp only [decide_eq_true_eq, decide_eq_false_iff_not, bne_iff_ne, ne_eq, beq_iff_eq, gt_iff_lt, ge_iff_le]); omega)))
  | (refine ite_no ?hc ?_; (case hc => first | exact Bool.false_ne_true | exact bne_no rfl | exact bneB_no (by rw [Bool.eq_iff_iff]; simp only [decide_eq_true_eq, beq_iff_eq]; omega) | ((simp only [decide_eq_true_eq, decide_eq_false_iff_not, bne_iff_ne, ne_eq, beq_iff_eq, gt_iff_lt, ge_iff_le]); omega)))))
set_option maxHeartbeats 2000000 in
theorem inner_then {cs : List Int} {i j : Nat} (hi : i < 5) (hj : j < 3) (hcs : cs.length = 5) (hr : ∀ c ∈ cs, 0 ≤ c ∧ c < 32768) (hkey : isKey cs i j = true)
    {fa : Addr} {cd : Value} {h₀ : Heap} {L : Addr} {m : Str → Option Value} {nx own : List (Addr × Obj)} {s : Shared} {t : Tok} {Q : Flow → Shared → Prop} {E : Value → Shared → Prop}
    (B : Below callerA h₀ [] h₀) (X : (hd.heap_39 w.params).In h₀) (T : Top hd.view_39 (looseW hd.view_39 []) mean mg mb h₀)
    (F : Fr h₀ L s.heap (fun y => if y = Str.ofString "step" then some (.int j t) else m y)) (N : News h₀ L s.heap (nx ++ own)) (hoff : OwnOff own (nx.map (·.1))) (hJ : Inv cs i j m nx)
    (hq : ∀ s', InvEndG h₀ L (Inv cs i (j + 1)) own s s' → Q .next s') :
    wpAny (model (PySem.Challenge.rw_sh0006_01).row.prog w) (callerA.deeper (envL L fa cd)) (execs innerThen (envL L fa cd)) Q E s := by
  w_top off
  dsimp only [innerThen, innerBody, outerBody, lawParts, lawScope, envL, PySem.Challenge.pw_sh0006_01]
  revert X; k_fill; intro X
  obtain ⟨⟨C, TH, HE, TA, cv, thv, hev, tav, n0, n1, n2, n3, tp, tl, rfl, hI, hTh, hHe, hTa, hne, hl1, hl2, hl3, hm1, hm2, hm3, hm4, hm5⟩, ⟨tt, hm6⟩, ⟨tr, hm7⟩⟩ := hJ
  have hC := cel_bound hr
  have hR0 : 0 ≤ restAt cs i j := Int.ediv_nonneg (hC i).1 (Int.le_of_lt (Int.pow_pos (by decide)))
  have hR1 : restAt cs i j < 32768 := Int.lt_of_le_of_lt (Int.ediv_le_self _ (hC i).1) (hC i).2
  clear hC
  rw [know hm1, know hm2, know hm3, know hm4, know hm5, know hm6, know hm7] at F
  clear hm1 hm2 hm3 hm4 hm5 hm6 hm7
  have hcl : ((cs.length : Nat) : Int) = 5 := by rw [hcs]; rfl
  have hkl := keys_len cs i j
  have hpl : (pageS cs (keysUp cs i j)).length ≤ 45 := by have := page_len cs (keysUp cs i j); omega
  have hsC : cv.toArray.size ≤ sizeLine := by rw [List.size_toArray, hI.length, hcs, sizeLine_eq]; omega
  have hsTH : thv.toArray.size ≤ sizeLine := by rw [List.size_toArray, hTh.length, List.length_map, sizeLine_eq]; omega
  have hsHE : hev.toArray.size ≤ sizeLine := by rw [List.size_toArray, hHe.length, List.length_map, sizeLine_eq]; omega
  have hsTA : tav.toArray.size ≤ sizeLine := by rw [List.size_toArray, hTa.length, List.length_map, sizeLine_eq]; omega
  have hap : ∀ p ∈ tl ++ own, p.1 ≠ TH := fun p hp => (List.mem_append.mp hp).elim (fun h => (hne p h).1) fun h => hoff p h TH (by simp)
  have hap2 : ∀ p ∈ tl ++ own, p.1 ≠ HE := fun p hp => (List.mem_append.mp hp).elim (fun h => (hne p h).2.1) fun h => hoff p h HE (by simp)
  have hap3 : ∀ p ∈ tl ++ own, p.1 ≠ TA := fun p hp => (List.mem_append.mp hp).elim (fun h => (hne p h).2.2) fun h => hoff p h TA (by simp)
  replace hl1 := ltN hl1
  replace hl2 := ltN hl2
  replace hl3 := ltN hl3
  simp only [List.cons_append] at N
  dsimp only [envOf] at F N ⊢
  have hks := keys_yes hkey
  have hRn : restAt cs i (j + 1) = restAt cs i j / 32 := rest_next cs i j
  generalize keysUp cs i j = ks at *
  generalize hRe : restAt cs i j = R at *
  have hpar : (i : Int) % 2 = 1 ∨ (i : Int) % 2 = 0 := by omega
  have hrest : R / 32 = 0 ∨ 0 < R / 32 := by omega
  k_steps
  all_goals try (rename (_ + _ ≠ _ + _) => hb; exact absurd rfl hb)
  all_goals
    rename Fr _ _ _ _ => Fe
    rename News _ _ _ _ => Ne
    rename (TA < _ ∧ HE < _ ∧ TH < _ ∧ C < _ ∧ AllLt _ _) => hA
    refine hq _ (then_end Fe Ne rfl rfl rfl rfl rfl rfl rfl hks hRn hRe hI hTh hHe hTa hne hl1 hl2 hl3 (by omega) (by omega) (by omega) (by omega) (by omega) (by omega) hA.2.2.2.2 hoff (by assumption) (by assumption) (by assumption) (col_eq (by assumption) (by assumption)) (by assumption) (by assumption) ?_)
    first
    | exact thing_a (by omega) (by assumption)
    | exact thing_b (by omega) (by assumption)
    | exact thing_c (by omega) (by assumption)
    | exact thing_d (by omega) (by assumption)
end

section
variable {prog : Program} {A : Around} {E : Value → Shared → Prop} {s : Shared} {env : Env} {h₀ : Heap} {x : Str} {body : List Stmt} {Q : Flow → Shared → Prop}
theorem m_range {r : Addr} {n : Nat} {t₀ u₀ v₀ : Tok} {m₀ : Str → Option Value} {news : List (Addr × Obj)} (J : Nat → (Str → Option Value) → List (Addr × Obj) → Prop)
    (hh : A.handled = none) (hr : IsRange s.heap r 0 (n : Int) 1 t₀ u₀ v₀) (hsmall : Builtin.Range.small 0 (n : Int) 1 = true) (hsz : Builtin.Range.rangeSize 0 (n : Int) 1 = (n : Int)) (F : Fr h₀ env.locals s.heap m₀) (N : News h₀ env.locals s.heap news) (hj : J 0 m₀ news)
    (turn : ∀ i t m₁ nx h tk own, i < n → OwnOff own (nx.map (·.1)) → J i m₁ nx → Fr h₀ env.locals h (fun y => if y = x then some (.int (i : Int) t) else m₁ y) → News h₀ env.locals h (nx ++ own) →
      wpAny (model prog w) A (execs body env) (InvPostG h₀ env.locals (J (i + 1)) own { s with heap := h, toks := tk } Q) E { s with heap := h, toks := tk })
    (done : ∀ m₁ nx h tk, J n m₁ nx → Fr h₀ env.locals h m₁ → News h₀ env.locals h nx → Q .next { s with heap := h, toks := tk }) :
    wpAny (model prog w) A (pyIter (.ref r)) (fun it s₂ => LoopAtV prog w A h₀ env x body Q E it s₂) E s := by
  refine wpAny_pyIter_range hr hsmall ?_
  have W : Walks prog w A s.heap.objs.size [s.heap.objs.size] [s.heap.objs.size] n (fun i v => i < n ∧ ∃ t, v = .int (0 + i * 1) t)
      (fun i h => IsRangeIter h s.heap.objs.size (0 + (i : Nat) * 1) ((n : Int) - (i : Nat)) 1) := (Walks.range hh _ 0 1 n).bound
  refine kdr_loop J W (fun _ h => h) (fun _ h => h) ?_ ?_ ?_ ?_ (by show IsRangeIter _ _ _ _ _; rw [hsz]; simpa using Heap.get?_push_size _ rfl) (F.push _) (fun p hp => ⟨Heap.get?_push_of_some _ (N p hp).1, (N p hp).2⟩) hj ?_ ?_
  · intro i h hi b hb
    rw [List.mem_singleton.mp hb]
    exact ⟨_, hi⟩
  · intro hm
    exact absurd F.ns.lt ((List.mem_singleton.mp hm) ▸ Nat.lt_irrefl _)
  · intro b hb
    rw [List.mem_singleton.mp hb]
    exact next_is_new F
  · intro p hp hI
    exact absurd (Heap.lt_size (N p hp).1) ((List.mem_singleton.mp hI) ▸ Nat.lt_irrefl _)
  · rintro i v m₁ nx h tk own hi ⟨_, t, rfl⟩ hoff hJ F₁ N₁
    have e1 : (0 : Int) + (i : Int) * 1 = (i : Int) := by omega
    rw [e1] at F₁
    exact turn i t m₁ nx h tk own hi hoff hJ F₁ N₁
  · rintro m₁ nx h tk hJ F₁ N₁
    exact done m₁ nx h tk hJ F₁ N₁
end
theorem inv_frame {P : (Str → Option Value) → List (Addr × Obj) → Prop} {h₀ : Heap} {L : Addr} {own own2 : List (Addr × Obj)} {s₁ s₂ : Shared} (hoo : OwnOff own2 (own.map (·.1))) (h : InvEndG h₀ L P (own ++ own2) s₁ s₂) :
    InvEndG h₀ L (fun m x => ∃ nx', x = nx' ++ own ∧ OwnOff own (nx'.map (·.1)) ∧ P m nx') own2 s₁ s₂ := by
  obtain ⟨h', tk, m', news', nx, e, F, N, hn, ho, ha, hP⟩ := h
  refine ⟨h', tk, m', news', nx ++ own, e, F, N, ?_, fun p hp => ho p (List.mem_append.mpr (.inr hp)), ?_, nx, rfl, fun p hp b hb => ha p (List.mem_append.mpr (.inl hp)) b hb, hP⟩
  · intro p hp
    rcases List.mem_append.mp hp with hp | hp
    · exact hn p hp
    · exact ho p (List.mem_append.mpr (.inl hp))
  · intro p hp b hb
    rw [List.map_append] at hb
    rcases List.mem_append.mp hb with hb | hb
    · exact ha p (List.mem_append.mpr (.inr hp)) b hb
    · exact hoo p hp b hb
theorem lift_frame {M : Model} {A : Around} {E : Value → Shared → Prop} {T : Sem Flow} {Q : Flow → Shared → Prop} {P : (Str → Option Value) → List (Addr × Obj) → Prop} {h₀ : Heap} {L : Addr} {own own2 : List (Addr × Obj)} {s₁ s : Shared} (h : wpAny M A T (InvPostG h₀ L P (own ++ own2) s₁ Q) E s) (hoo : OwnOff own2 (own.map (·.1))) :
    wpAny M A T (InvPostG h₀ L (fun m x => ∃ nx', x = nx' ++ own ∧ OwnOff own (nx'.map (·.1)) ∧ P m nx') own2 s₁ Q) E s :=
  wpAny_mono h (fun f s₂ p => by
    cases f with
    | ret v => exact p
    | brk => exact p
    | next => exact inv_frame hoo p
    | cont => exact inv_frame hoo p) (fun _ _ e => e)
def Stop (p : Prop) : Prop := p
theorem stop_intro {p : Prop} (h : Stop p) : p := h

section
local macro_rules | `(tactic| walk_at "execs cons") => `(tactic| (k_here; (with_reducible show wpAny _ _ (execs (Stmt.Expr _ _ :: _) _) _ _ _); refine stop_intro ?_))
set_option maxHeartbeats 2000000 in
theorem inner_turn {cs : List Int} {i j : Nat} (hi : i < 5) (hj : j < 3) (hcs : cs.length = 5) (hr : ∀ c ∈ cs, 0 ≤ c ∧ c < 32768)
    {fa : Addr} {cd : Value} {h₀ : Heap} {L : Addr} {m : Str → Option Value} {nx own : List (Addr × Obj)} {s : Shared} {t : Tok} {Q : Flow → Shared → Prop} {E : Value → Shared → Prop}
    (B : Below callerA h₀ [] h₀) (X : (hd.heap_39 w.params).In h₀) (T : Top hd.view_39 (looseW hd.view_39 []) mean mg mb h₀)
    (F : Fr h₀ L s.heap (fun y => if y = Str.ofString "step" then some (.int j t) else m y)) (N : News h₀ L s.heap (nx ++ own)) (hoff : OwnOff own (nx.map (·.1))) (hJ : Inv cs i j m nx) :
    wpAny (model (PySem.Challenge.rw_sh0006_01).row.prog w) (callerA.deeper (envL L fa cd)) (execs innerBody (envL L fa cd)) (InvPostG h₀ L (Inv cs i (j + 1)) own s Q) E s := by
  w_top off
  have hI := hJ
  obtain ⟨h0, ⟨tt, hm6⟩, ⟨tr, hm7⟩⟩ := hJ
  have hC := cel_bound hr
  have hR0 : 0 ≤ restAt cs i j := Int.ediv_nonneg (hC i).1 (Int.le_of_lt (Int.pow_pos (by decide)))
  clear hC
  have F₀ : Stop (Fr h₀ L s.heap (fun y => if y = Str.ofString "step" then some (.int j t) else m y)) := F
  rw [know hm7] at F
  have X₀ := X
  cases hkey : isKey cs i j
  case false =>
    have hk : ¬ j = 0 ∧ ¬ 0 < restAt cs i j := by simpa [isKey] using hkey
    have hRz : restAt cs i j = 0 := by omega
    have hinv : Inv cs i (j + 1) (fun y => if y = Str.ofString "step" then some (.int j t) else m y) nx := by
      refine ⟨?_, ⟨tt, hm6⟩, ⟨tr, ?_⟩⟩
      · rw [keys_no hkey]; exact h0
      · rw [rest_next, hRz]; rw [hRz] at hm7; exact hm7
    have hk1 : (j : Int) ≠ 0 := by omega
    have hk2 := hk.2
    clear hk hRz h0 hI
    generalize restAt cs i j = R at *
    dsimp only [innerBody, outerBody, lawParts, lawScope, envL, PySem.Challenge.pw_sh0006_01]
    revert X; k_fill; intro X
    dsimp only [envOf] at F ⊢
    k_steps
    · rename ((j : Int) = 0) => hb
      exact absurd hb hk1
    · exact inv_end (nx := nx) F₀ N hoff hinv
  case true =>
    dsimp only [innerBody, outerBody, lawParts, lawScope, envL, PySem.Challenge.pw_sh0006_01]
    revert X; k_fill; intro X
    dsimp only [envOf] at F ⊢
    have hk : j = 0 ∨ 0 < restAt cs i j := by simpa [isKey] using hkey
    k_steps
    · refine inner_then hi hj hcs hr hkey B X₀ T F₀ N hoff hI ?_
      intro s' he
      (try dsimp only)
      k_steps
      exact he
    · refine inner_then hi hj hcs hr hkey B X₀ T F₀ N hoff hI ?_
      intro s' he
      (try dsimp only)
      k_steps
      exact he
end
section
local macro_rules | `(tactic| walk_at "subscriptTail Name Name ref int") => `(tactic| (k_here; (with_reducible show wpAny _ _ (subscriptTail _ _ (Value.ref _) (Value.int _ _)) _ _ _); k_dflt (refine' ksa_sub ?k1 ?k2 ?k3 ?k4 ?k5 ?k6 ?_ ?k7; (case k1 => k_asm); (case k2 => k_mem); (case k3 => with_reducible assumption); (case k4 => omega); (case k5 => omega); (case k6 => omega); (case k7 => with_unfolding_all rfl); k_whole); intro _))
local macro_rules | `(tactic| walk_at "exec For Name Call cons nil") => `(tactic| (k_here; (rename Fr _ _ _ _ => lF'); (with_unfolding_all refine' For_invVF (hE := ?k3) lF' ?k1 ?k2 ?_; (case k1 => exact rfl); (case k2 => exact rfl); (case k3 => assumption); k_whole)))
local macro_rules | `(tactic| walk_at "pyIter ref") => `(tactic| (k_here; refine stop_intro ?_))
set_option maxHeartbeats 2000000 in
theorem outer_turn {cs : List Int} {i : Nat} (hi : i < 5) (hcs : cs.length = 5) (hr : ∀ c ∈ cs, 0 ≤ c ∧ c < 32768)
    {fa : Addr} {cd : Value} {h₀ : Heap} {L : Addr} {m : Str → Option Value} {nx own : List (Addr × Obj)} {s : Shared} {t : Tok} {Q : Flow → Shared → Prop} {E : Value → Shared → Prop}
    (hE : PassesOwn (model (PySem.Challenge.rw_sh0006_01).row.prog w) (callerA.deeper (envL L fa cd)) (envL L fa cd) E) (B : Below callerA h₀ [] h₀) (X : (hd.heap_39 w.params).In h₀) (T : Top hd.view_39 (looseW hd.view_39 []) mean mg mb h₀)
    (F : Fr h₀ L s.heap (fun y => if y = Str.ofString "turn" then some (.int i t) else m y)) (N : News h₀ L s.heap (nx ++ own)) (hoff : OwnOff own (nx.map (·.1))) (hJ : Inv0 cs (keysUp cs i 0) m nx) :
    wpAny (model (PySem.Challenge.rw_sh0006_01).row.prog w) (callerA.deeper (envL L fa cd)) (execs outerBody (envL L fa cd)) (InvPostG h₀ L (Inv0 cs (keysUp cs (i + 1) 0)) own s Q) E s := by
  w_top off
  have hJ0 := hJ
  obtain ⟨C, TH, HE, TA, cv, thv, hev, tav, n0, n1, n2, n3, tp, tl, rfl, hI, hTh, hHe, hTa, hne, hl1, hl2, hl3, hm1, hm2, hm3, hm4, hm5⟩ := hJ
  have X₀ := X
  rw [know hm1] at F
  have hcl : ((cs.length : Nat) : Int) = 5 := by rw [hcs]; rfl
  dsimp only [innerBody, outerBody, lawParts, lawScope, envL, PySem.Challenge.pw_sh0006_01]
  revert X; k_fill; intro X
  simp only [List.cons_append] at N
  dsimp only [envOf] at F N ⊢
  k_steps
  rename IsRange _ _ _ _ _ _ _ _ => hR
  rename Fr _ _ _ _ => Fe
  rename News _ _ _ _ => Ne
  have hrest : cs.getD (i : Int).toNat 0 = restAt cs i 0 := by simp [restAt, cel]
  refine m_range (n := 3) (fun j m x => ∃ nx', x = nx' ++ own ∧ OwnOff own (nx'.map (·.1)) ∧ Inv cs i j m nx') rfl hR rfl rfl Fe Ne
    ⟨_, rfl, hoff, ⟨C, TH, HE, TA, cv, thv, hev, tav, n0, n1, n2, n3, tp, tl, rfl, hI, hTh, hHe, hTa, hne, hl1, hl2, hl3, rfl, hm2, hm3, hm4, hm5⟩, ⟨_, rfl⟩, ⟨_, congrArg (fun z => some (Value.int z _)) hrest⟩⟩ ?turn ?done
  case turn =>
    rintro j t' m₁ x h tk own2 hj hoff2 ⟨nx', rfl, ho, hinv⟩ F₁ N₁
    rw [List.append_assoc] at N₁
    have hoff3 : OwnOff (own ++ own2) (nx'.map (·.1)) := by
      intro p hp b hb
      rcases List.mem_append.mp hp with hp | hp
      · exact ho p hp b hb
      · exact hoff2 p hp b (by rw [List.map_append]; exact List.mem_append.mpr (.inl hb))
    have hoo : OwnOff own2 (own.map (·.1)) := fun p hp b hb => hoff2 p hp b (by rw [List.map_append]; exact List.mem_append.mpr (.inr hb))
    exact lift_frame (inner_turn hi hj hcs hr (s := { s with heap := h, toks := tk }) B X₀ T F₁ N₁ hoff3 hinv) hoo
  case done =>
    rintro m₁ x h tk ⟨nx', rfl, ho, hinv⟩ F₁ N₁
    (try dsimp only)
    k_steps
    exact inv_end (nx := nx') F₁ N₁ ho (by rw [keys_next]; exact hinv.1)
end

theorem pick_upto (vs : List Value) (p : Nat) : (slicePick vs.toArray none (some (p : Int)) none).toList = vs.take p := by
  rw [kms_pick_eq]
  show kms_pick vs none (some (p : Int)) = _
  unfold kms_pick
  simp only [kms_lo, kms_hi, List.drop_zero, Nat.sub_zero, if_neg (show ¬ ((p : Int) < 0) by omega), Int.toNat_natCast]
  exact kmk_take_min vs p
theorem pick_from (vs : List Value) (p : Nat) : (slicePick vs.toArray (some (p : Int)) none none).toList = vs.drop p := by
  rw [kms_pick_eq]
  show kms_pick vs (some (p : Int)) none = _
  unfold kms_pick
  simp only [kms_lo, kms_hi, if_neg (show ¬ ((p : Int) < 0) by omega), Int.toNat_natCast, kmk_drop_min]
  rw [List.take_of_length_le (by rw [List.length_drop]; omega)]
theorem ThingsV.take {vs : List Value} {cs : List (Int × Bool)} (h : ThingsV vs cs) : ∀ p, ThingsV (vs.take p) (cs.take p) := by
  induction h with
  | nil => intro p; simp; exact .nil
  | cons h1 _ ih => intro p; cases p with
    | zero => exact .nil
    | succ p => exact .cons h1 (ih p)
theorem ThingsV.drop {vs : List Value} {cs : List (Int × Bool)} (h : ThingsV vs cs) : ∀ p, ThingsV (vs.drop p) (cs.drop p) := by
  induction h with
  | nil => intro p; simp; exact .nil
  | cons h1 h2 ih => intro p; cases p with
    | zero => exact .cons h1 h2
    | succ p => exact ih p

section
variable {prog : Program} {w : World} {A : Around} {E : Value → Shared → Prop} {s : Shared} {h₀ : Heap} {L D D' f f' : Addr} {m : Str → Option Value} {news : List (Addr × Obj)} {vs ws ws' : List Value} {n k k' : Nat} {t1 t2 t3 t4 u : Tok} {ns : List Int} {a b i : Int} {v : Value} {Q : Value → Shared → Prop}
theorem item_gen {value slice : PySem.Expr} (N : News h₀ L s.heap news) (hm : (D, listOf vs.toArray n) ∈ news) (h0 : 0 ≤ i) (h1 : i < 2 ^ 63) (hx : vs[i.toNat]? = some v) (h : Q v s)
    (hs : subscripted slice false (.ref D) (.int i u) = operate [.ref D, .int i u] (getItem (.ref D) (.int i u)) := by with_unfolding_all rfl) :
    wpAny (model prog w) A (subscriptTail value slice (.ref D) (.int i u)) Q E s :=
  tail_any (News.isList N hm).typeIs slot_list_getitem.lookup (wpAny_getItem_list (News.isList N hm) h0 h1 (by simpa using hx) h) hs
theorem head_reads (N : News h₀ L s.heap news) (h1 : (D, tupOf #[.ref f, .int a t1, .int b t2]) ∈ news) (h2 : (f, listOf ws.toArray k) ∈ news) (hI : IntsAre ws ns) : ∃ as, Reads s.heap (.ref D) (.tuple [.list (ns.map .int), .int a, .int b]) as :=
  ⟨_, reads_tuple_at (N.get h1) rfl rfl (.cons (reads_newData (News.isList N h2) (ke_carried hI)) (.cons (.int _ _) (.cons (.int _ _) .nil)))⟩
theorem head_shaped (ns : List Int) (a b : Int) : SeqAt.shaped (.tuple [.list (ns.map .int), .int a, .int b]) = true := by
  simp [SeqAt.shaped, PyData.canLay0, PyData.canLayAll0, PyData.depth, PyData.depthAll, ke_canLayAll0, ke_depthAll]
theorem head_eqv (ns : List Int) (a b : Int) : PyData.eqv (.tuple [.list (ns.map .int), .int a, .int b]) (.tuple [.list (ns.map .int), .int a, .int b]) = true := by
  simp [PyData.eqv, PyData.eqvAll, ked_eqvAll]
theorem ne_heads {r : List Int × Int × Int} (N : News h₀ L s.heap news) (h1 : (D, tupOf #[.ref f, .int r.2.1 t1, .int r.2.2 t2]) ∈ news) (h2 : (f, listOf ws.toArray k) ∈ news) (hI : IntsAre ws r.1) (hr : r = (ns, a, b))
    (h1' : (D', tupOf #[.ref f', .int a t3, .int b t4]) ∈ news) (h2' : (f', listOf ws'.toArray k') ∈ news) (hI' : IntsAre ws' ns) (hu : A.units + 64 < cLine) (h : Q (.bool false) s) :
    wpAny (model prog w) A (compareOp .NotEq (.ref D) (.ref D')) Q E s := by
  subst hr
  obtain ⟨_, r1⟩ := head_reads N h1 h2 hI
  obtain ⟨_, r2⟩ := head_reads N h1' h2' hI'
  refine ne_dataH r1 r2 (head_shaped _ _ _) (head_shaped _ _ _) hu ?_
  rw [head_eqv]
  exact h
end

section
local macro_rules | `(tactic| k_mem) => `(tactic| first | assumption | ((refine List.mem_append.mpr (.inl ?_)); k_mem))
local macro_rules | `(tactic| walk_at "subscriptTail Name Slice ref ref") => `(tactic| (k_here; (with_reducible show wpAny _ _ (subscriptTail _ (PySem.Expr.Slice _ _ none _) (Value.ref _) (Value.ref _)) _ _ _); k_dflt (refine' kmk_slice_lit ?F ?N ?l ?p ?q ?e ?_ ?s ?t ?z; (case F => k_asm); (case N => k_asm); (case l => exact News.isList (by k_asm) (by k_mem)); (case p => kmk_part); (case q => kmk_part); (case e => first | exact pick_upto _ _ | exact pick_from _ _); (case s => with_unfolding_all rfl); (case t => kmk_pure); (case z => assumption)); intro D' h' F' N' l1; (try k_sweep)))
local macro_rules | `(tactic| walk_at "subscriptTail Name Name ref int") => `(tactic| (k_here; (with_reducible show wpAny _ _ (subscriptTail _ _ (Value.ref _) (Value.int _ _)) _ _ _); k_dflt (refine' item_gen ?k1 ?k2 ?k4 ?k5 ?k3 ?_ ?k7; (case k1 => k_asm); (case k2 => k_mem); (case k3 => assumption); (case k4 => omega); (case k5 => omega); (case k7 => with_unfolding_all rfl); k_whole)))
local macro_rules | `(tactic| walk_at "call ref") => `(tactic| (k_dflt (refine' forwards ?v ?c ?n _ _ _ _ _ _ _ _ _ _ _ _ _ _ _ _ _ _ ?hl ?B ?F ?X ?N ?T ?hk ?hdp ?hun ?_; (case N => k_asm); (case hl => k_mem); (case v => assumption); (case c => assumption); (case n => assumption); (case B => k_asm); (case F => k_asm); (case X => k_asm); (case T => k_asm); (case hk => first | exact rfl | assumption); (case hdp => ktr_room); (case hun => ktr_units)); (intro D9 lf9 ws9 k9 t91 t92 h9 tk9 hl91 hl92 hI9 F9 N9); (try k_sweep); (try dsimp only); (try k_fold)))
local macro_rules | `(tactic| walk_at "compareOp NotEq ref ref") => `(tactic| (k_here; k_dflt (refine' ne_heads ?N ?a1 ?a2 ?a3 ?a4 ?b1 ?b2 ?b3 ?hu ?_; (case N => k_asm); (case a1 => k_mem); (case b1 => k_mem); (case a2 => k_mem); (case b2 => k_mem); (case a3 => assumption); (case a4 => assumption); (case b3 => assumption); (case hu => ke_room))))
set_option maxHeartbeats 2000000 in
theorem check_turn {tcs : List (Int × Bool)} {hds tls : List (List Int × Int × Int)} {p : Nat} (hp : p ≤ 15) (hlen : tcs.length ≤ 15) (hc : ∀ c ∈ tcs, 0 ≤ c.1 ∧ c.1 < 256)
    (hh : hds[p]? = some (fw (tcs.take p))) (ht : tls[p]? = some (fw (tcs.drop p))) {TH HE TA : Addr} {thv hev tav : List Value} {n1 n2 n3 : Nat}
    {fa : Addr} {cd : Value} {h₀ : Heap} {L : Addr} {m : Str → Option Value} {news own : List (Addr × Obj)} {s : Shared} {t : Tok} {Q : Flow → Shared → Prop} {E : Value → Shared → Prop}
    (hTH : (TH, listOf thv.toArray n1) ∈ news) (hHE : (HE, listOf hev.toArray n2) ∈ news) (hTA : (TA, listOf tav.toArray n3) ∈ news) (hTh : ThingsV thv tcs) (hHe : HeadsIn news hev hds) (hTa : HeadsIn news tav tls)
    (B : Below callerA h₀ [] h₀) (X : (hd.heap_39 w.params).In h₀) (T : Top hd.view_39 (looseW hd.view_39 []) mean mg mb h₀)
    (F : Fr h₀ L s.heap (fun y => if y = Str.ofString "place" then some (.int p t) else m y)) (N : News h₀ L s.heap (news ++ own)) (hoff : OwnOff own (news.map (·.1)))
    (hm1 : m (Str.ofString "things") = some (.ref TH)) (hm2 : m (Str.ofString "heads") = some (.ref HE)) (hm3 : m (Str.ofString "tails") = some (.ref TA)) (J : (Str → Option Value) → Prop)
    (hJ : J (fun y => if y = Str.ofString "place" then some (.int p t) else m y)) :
    wpAny (model (PySem.Challenge.rw_sh0006_01).row.prog w) (callerA.deeper (envL L fa cd)) (execs checkBody (envL L fa cd)) (InvPostG h₀ L (fun m' nx' => nx' = news ∧ J m') own s Q) E s := by
  w_top off
  have e0 : m = fun y => if y = Str.ofString "things" then some (.ref TH) else if y = Str.ofString "heads" then some (.ref HE) else if y = Str.ofString "tails" then some (.ref TA) else m y := know3 hm1 hm2 hm3
  rw [e0] at F hJ
  have hV1 := hTh.take p
  have hV2 := hTh.drop p
  have hc1 : ∀ c ∈ tcs.take p, 0 ≤ c.1 ∧ c.1 < 256 := fun c h => hc c (List.mem_of_mem_take h)
  have hc2 : ∀ c ∈ tcs.drop p, 0 ≤ c.1 ∧ c.1 < 256 := fun c h => hc c (List.mem_of_mem_drop h)
  have hn1 : (tcs.take p).length ≤ 15 := by rw [List.length_take]; omega
  have hn2 : (tcs.drop p).length ≤ 15 := by rw [List.length_drop]; omega
  have hsz : thv.toArray.size ≤ sizeLine := by rw [List.size_toArray, hTh.length, sizeLine_eq]; omega
  obtain ⟨v1, hx1, hd1⟩ := hHe.at hh
  obtain ⟨v2, hx2, hd2⟩ := hTa.at ht
  generalize hr1 : fw (tcs.take p) = r1 at hh hd1
  generalize hr2 : fw (tcs.drop p) = r2 at ht hd2
  cases hd1 with
  | @mk D1 f1 ws1 k1 ns1 a1 b1 s1 s2 g1 g2 g3 =>
  cases hd2 with
  | @mk D2 f2 ws2 k2 ns2 a2 b2 s3 s4 q1 q2 q3 =>
  have hx1' : hev[((p : Nat) : Int).toNat]? = some (.ref D1) := by rw [Int.toNat_natCast]; exact hx1
  have hx2' : tav[((p : Nat) : Int).toNat]? = some (.ref D2) := by rw [Int.toNat_natCast]; exact hx2
  clear hx1 hx2 hh ht e0 hHe hTa hTh hm1 hm2 hm3
  dsimp only [checkBody, lawParts, lawScope, envL, PySem.Challenge.pw_sh0006_01]
  revert X; k_fill; intro X
  dsimp only [envOf] at F ⊢
  k_steps
  rename Fr _ _ _ _ => Fe
  rename News _ _ _ _ => Ne
  refine InvEndG.intro (nx := news) Fe Ne ⟨rfl, hJ⟩ hoff ?_ ?_
  · intro q hq
    simp [hq]
  · intro q hq
    simp [hq]
end

def nxt (cs : List Int) (p : Nat × Nat) : Nat × Nat := if restAt cs p.1 (p.2 + 1) = 0 then (p.1 + 1, 0) else (p.1, p.2 + 1)
inductive Chain (cs : List Int) : Nat × Nat → List (Nat × Nat) → Nat × Nat → Prop
  | nil (p : Nat × Nat) : Chain cs p [] p
  | cons {p q : Nat × Nat} {r : List (Nat × Nat)} : p.1 < 5 → Chain cs (nxt cs p) r q → Chain cs p (p :: r) q
theorem Chain.append {cs : List Int} {p q z : Nat × Nat} {r u : List (Nat × Nat)} (h : Chain cs p r q) (k : Chain cs q u z) : Chain cs p (r ++ u) z := by
  induction h with
  | nil p => exact k
  | cons h1 _ ih => exact .cons h1 (ih k)
section
variable {cs : List Int} (hr : ∀ c ∈ cs, 0 ≤ c ∧ c < 32768)
include hr
theorem rest_bound (i j : Nat) : 0 ≤ restAt cs i j := Int.ediv_nonneg (cel_bound hr i).1 (Int.le_of_lt (Int.pow_pos (by decide)))
theorem rest_three (i : Nat) : restAt cs i 3 = 0 := Int.ediv_eq_zero_of_lt (cel_bound hr i).1 (cel_bound hr i).2
theorem chain_one {i : Nat} (hi : i < 5) : Chain cs (i, 0) (keysAt cs i 3) (i + 1, 0) := by
  have h3 := rest_three hr i
  have n1 := rest_bound hr i 1
  have n2 := rest_bound hr i 2
  have e2 : restAt cs i 2 = restAt cs i 1 / 32 := rest_next cs i 1
  by_cases h1 : restAt cs i 1 = 0
  · have h2 : restAt cs i 2 = 0 := by rw [e2, h1]; rfl
    have e : keysAt cs i 3 = [(i, 0)] := by simp [keysAt, List.range_succ, isKey, h1, h2]
    rw [e]
    refine .cons hi ?_
    have en : nxt cs (i, 0) = (i + 1, 0) := by simp [nxt, h1]
    rw [en]; exact .nil _
  · have p1 : 0 < restAt cs i 1 := by omega
    by_cases h2 : restAt cs i 2 = 0
    · have e : keysAt cs i 3 = [(i, 0), (i, 1)] := by simp [keysAt, List.range_succ, isKey, p1, h2]
      rw [e]
      refine .cons hi ?_
      have en : nxt cs (i, 0) = (i, 1) := by simp [nxt, h1]
      rw [en]
      refine .cons hi ?_
      have en : nxt cs (i, 1) = (i + 1, 0) := by simp [nxt, h2]
      rw [en]; exact .nil _
    · have p2 : 0 < restAt cs i 2 := by omega
      have e : keysAt cs i 3 = [(i, 0), (i, 1), (i, 2)] := by simp [keysAt, List.range_succ, isKey, p1, p2]
      rw [e]
      refine .cons hi ?_
      have en : nxt cs (i, 0) = (i, 1) := by simp [nxt, h1]
      rw [en]
      refine .cons hi ?_
      have en : nxt cs (i, 1) = (i, 2) := by simp [nxt, h2]
      rw [en]
      refine .cons hi ?_
      have en : nxt cs (i, 2) = (i + 1, 0) := by simp [nxt, h3]
      rw [en]; exact .nil _
theorem chain_up : ∀ i, i ≤ 5 → Chain cs (0, 0) (keysUp cs i 0) (i, 0) := by
  intro i
  induction i with
  | zero => intro _; exact .nil _
  | succ i ih =>
    intro h
    have e : keysUp cs (i + 1) 0 = keysUp cs i 0 ++ keysAt cs i 3 := by simp [keysUp, keysAt, List.range_succ]
    rw [e]
    exact (ih (by omega)).append (chain_one hr (by omega))
theorem col_bound (i j : Nat) : 0 ≤ colAt cs i j ∧ colAt cs i j < 4 := ⟨Int.emod_nonneg _ (by decide), Int.emod_lt_of_pos _ (by decide)⟩
theorem five_bound (i j : Nat) : 0 ≤ fiveAt cs i j ∧ fiveAt cs i j < 32 := ⟨Int.emod_nonneg _ (by decide), Int.emod_lt_of_pos _ (by decide)⟩
theorem thing_bound (p : Nat × Nat) : 0 ≤ (thingAt cs p).1 ∧ (thingAt cs p).1 < 256 := by
  have h1 := col_bound hr p.1 p.2
  have h2 := five_bound hr p.1 p.2
  unfold thingAt
  dsimp only
  split <;> omega
theorem thing_mod (p : Nat × Nat) : (thingAt cs p).1 % 32 = fiveAt cs p.1 p.2 := by
  have h1 := col_bound hr p.1 p.2
  have h2 := five_bound hr p.1 p.2
  unfold thingAt
  dsimp only
  split <;> omega
theorem thing_meta (p : Nat × Nat) : 127 < (thingAt cs p).1 ↔ ¬ restAt cs p.1 (p.2 + 1) = 0 := by
  have h1 := col_bound hr p.1 p.2
  have h2 := five_bound hr p.1 p.2
  unfold thingAt
  dsimp only
  split <;> omega
theorem cel_split (i j : Nat) : cel cs i % 32 ^ (j + 1) = cel cs i % 32 ^ j + 32 ^ j * fiveAt cs i j := by
  unfold fiveAt restAt
  have h1 := Int.emod_add_mul_ediv (cel cs i) (32 ^ (j + 1))
  have h2 := Int.emod_add_mul_ediv (cel cs i) (32 ^ j)
  have h3 := Int.emod_add_mul_ediv (cel cs i / 32 ^ j) 32
  have h4 : cel cs i / 32 ^ (j + 1) = cel cs i / 32 ^ j / 32 := rest_next cs i j
  rw [h4, Int.pow_succ] at h1
  rw [Int.pow_succ]
  generalize cel cs i / 32 ^ j = R at *
  generalize (32 : Int) ^ j = P at *
  have h5 : P * (32 * (R / 32)) + P * (R % 32) = P * R := by rw [← Int.mul_add]; congr 1; omega
  have h6 : P * 32 * (R / 32) = P * (32 * (R / 32)) := Int.mul_assoc ..
  omega
theorem head_step {p : Nat × Nat} (hp : p.1 < cs.length) : fwStep (headAt cs p) (thingAt cs p) = headAt cs (nxt cs p) := by
  have hm := thing_meta hr p
  have h5 := thing_mod hr p
  have hc := cel_split hr p.1 p.2
  have hb := cel_bound hr p.1
  unfold fwStep
  rw [h5]
  by_cases h : restAt cs p.1 (p.2 + 1) = 0
  · rw [if_neg (by rw [hm]; exact fun q => q h)]
    simp only [nxt, h, if_true, headAt]
    have hlt : cel cs p.1 % 32 ^ (p.2 + 1) = cel cs p.1 := by
      have h1 := Int.emod_add_mul_ediv (cel cs p.1) (32 ^ (p.2 + 1))
      have h2 : cel cs p.1 / 32 ^ (p.2 + 1) = 0 := h
      rw [h2, Int.mul_zero, Int.add_zero] at h1
      exact h1
    rw [← hc, hlt]
    have et : cs.take (p.1 + 1) = cs.take p.1 ++ [cel cs p.1] := by
      rw [List.take_add_one, List.getElem?_eq_getElem hp]
      simp [cel, List.getD_eq_getElem?_getD, List.getElem?_eq_getElem hp]
    rw [et]
    simp
  · rw [if_pos (by rw [hm]; exact h)]
    simp only [nxt, if_neg h, headAt]
    rw [← hc, Int.pow_succ]
theorem heads_all (hcs : cs.length = 5) {a b : Nat × Nat} {ks : List (Nat × Nat)} (h : Chain cs a ks b) : ∀ p, p ≤ ks.length → (ks.map (headAt cs) ++ [headAt cs b])[p]? = some (((ks.map (thingAt cs)).take p).foldl fwStep (headAt cs a)) := by
  induction h with
  | nil q => intro p hp; have : p = 0 := by simpa using hp
             subst this; rfl
  | cons h1 _ ih =>
    intro p hp
    cases p with
    | zero => rfl
    | succ p =>
      have := ih p (by simpa using hp)
      simp only [List.map_cons, List.cons_append, List.getElem?_cons_succ, List.take_succ_cons, List.foldl_cons]
      rw [head_step hr (by rw [hcs]; exact h1)]
      exact this
theorem drop_cel {i : Nat} (hi : i < cs.length) : cs.drop i = restAt cs i 0 :: cs.drop (i + 1) := by
  rw [List.drop_eq_getElem_cons hi]
  congr 1
  simp [restAt, cel, List.getD_eq_getElem?_getD, List.getElem?_eq_getElem hi]
theorem five_rest (i j : Nat) : restAt cs i j = fiveAt cs i j + 32 * restAt cs i (j + 1) := by
  rw [rest_next]; unfold fiveAt; omega
theorem tail_fold (hcs : cs.length = 5) {a b : Nat × Nat} {ks : List (Nat × Nat)} (h : Chain cs a ks b) : b = (5, 0) → ks ≠ [] → ∀ (f : List Int) (num sz : Int), (ks.map (thingAt cs)).foldl fwStep (f, num, sz) = (f ++ (num + sz * restAt cs a.1 a.2) :: cs.drop (a.1 + 1), 0, 1) := by
  induction h with
  | nil q => intro _ h; exact absurd rfl h
  | @cons p q r h1 hch ih =>
    intro hb _ f num sz
    have hm := thing_meta hr p
    have h5 := thing_mod hr p
    have hR := five_rest hr p.1 p.2
    rw [List.map_cons, List.foldl_cons]
    have est : fwStep (f, num, sz) (thingAt cs p) = if 127 < (thingAt cs p).1 then (f, num + sz * fiveAt cs p.1 p.2, sz * 32) else (f ++ [num + sz * fiveAt cs p.1 p.2], 0, 1) := by
      unfold fwStep; rw [h5]
    rw [est]
    by_cases h : restAt cs p.1 (p.2 + 1) = 0
    · rw [if_neg (by rw [hm]; exact fun q => q h)]
      have en : nxt cs p = (p.1 + 1, 0) := by simp [nxt, h]
      rw [h, Int.mul_zero, Int.add_zero] at hR
      rw [en] at hch ih
      by_cases hne : r = []
      · subst hne
        cases hch
        have h4 : p.1 + 1 = 5 := congrArg Prod.fst hb
        rw [h4, hR]
        simp [List.drop_of_length_le (Nat.le_of_eq hcs)]
      · rw [ih hb hne]
        have h4 : p.1 + 1 < cs.length := by
          cases hch with
          | nil => exact absurd rfl hne
          | cons h2 _ => rw [hcs]; exact h2
        rw [drop_cel hr h4, hR]
        simp
    · rw [if_pos (by rw [hm]; exact h)]
      have en : nxt cs p = (p.1, p.2 + 1) := by simp [nxt, h]
      rw [en] at hch ih
      have hne : r ≠ [] := by
        intro e
        subst e
        cases hch
        have := congrArg Prod.snd hb
        simp at this
      rw [ih hb hne]
      simp only
      congr 3
      rw [hR, Int.mul_add, Int.mul_assoc]
      omega
theorem tails_all (hcs : cs.length = 5) {a b : Nat × Nat} {ks : List (Nat × Nat)} (h : Chain cs a ks b) (hb : b = (5, 0)) : ∀ p, p ≤ ks.length → (ks.map (tailAt cs) ++ [([], 0, 1)])[p]? = some (fw ((ks.map (thingAt cs)).drop p)) := by
  induction h with
  | nil q => intro p hp; have : p = 0 := by simpa using hp
             subst this; rfl
  | @cons p q r h1 hch ih =>
    intro n hn
    cases n with
    | zero =>
      have := tail_fold hr hcs (.cons h1 hch) hb (by simp) [] 0 1
      rw [List.drop_zero]
      unfold fw
      rw [this]
      simp [tailAt]
    | succ n =>
      have := ih hb n (by simpa using hn)
      simpa using this
theorem back_all (hcs : cs.length = 5) {a b : Nat × Nat} {ks : List (Nat × Nat)} (h : Chain cs a ks b) : b = (5, 0) → ks ≠ [] → bw (ks.map (thingAt cs)).reverse = (cs.drop (a.1 + 1)).reverse ++ [restAt cs a.1 a.2] := by
  induction h with
  | nil q => intro _ h; exact absurd rfl h
  | @cons p q r h1 hch ih =>
    intro hb _
    have hm := thing_meta hr p
    have h5 := thing_mod hr p
    have hR := five_rest hr p.1 p.2
    rw [List.map_cons, List.reverse_cons, bw_snoc]
    by_cases h : restAt cs p.1 (p.2 + 1) = 0
    · have en : nxt cs p = (p.1 + 1, 0) := by simp [nxt, h]
      rw [h, Int.mul_zero, Int.add_zero] at hR
      have hlo : bwStep (bw (r.map (thingAt cs)).reverse) (thingAt cs p) = bw (r.map (thingAt cs)).reverse ++ [fiveAt cs p.1 p.2] := by
        rw [← h5]; exact bwStep_lo (n := (thingAt cs p).1) (q := (thingAt cs p).2) (fun z => hm.mp z h)
      rw [hlo, hR]
      rw [en] at hch ih
      by_cases hne : r = []
      · subst hne
        cases hch
        have h4 : p.1 + 1 = 5 := congrArg Prod.fst hb
        rw [h4, List.drop_of_length_le (Nat.le_of_eq hcs)]
        rfl
      · rw [ih hb hne]
        have h4 : p.1 + 1 < cs.length := by
          cases hch with
          | nil => exact absurd rfl hne
          | cons h2 _ => rw [hcs]; exact h2
        rw [drop_cel hr h4, List.reverse_cons]
    · have en : nxt cs p = (p.1, p.2 + 1) := by simp [nxt, h]
      rw [en] at hch ih
      have hne : r ≠ [] := by
        intro e
        subst e
        cases hch
        have := congrArg Prod.snd hb
        simp at this
      rw [ih hb hne]
      have hhi : bwStep ((cs.drop (p.1 + 1)).reverse ++ [restAt cs p.1 (p.2 + 1)]) (thingAt cs p) = (cs.drop (p.1 + 1)).reverse ++ [restAt cs p.1 (p.2 + 1) * 32 + fiveAt cs p.1 p.2] := by
        rw [← h5]; exact bwStep_hi (n := (thingAt cs p).1) (q := (thingAt cs p).2) (hm.mpr h)
      rw [hhi, hR]
      congr 2
      omega
end
theorem un_all : ∀ (c : Fin 4) (n : Fin 32) (b : Bool), unS ((if b then 0 else 128) + (32 * (c.val : Int) + (n.val : Int))) = shS (c.val : Int) (n.val : Int) b := by decide +kernel
theorem un_page {cs : List Int} (hr : ∀ c ∈ cs, 0 ≤ c ∧ c < 32768) (p : Nat × Nat) : unS (thingAt cs p).1 = pageAt cs p := by
  obtain ⟨c0, c1⟩ := col_bound hr p.1 p.2
  obtain ⟨f0, f1⟩ := five_bound hr p.1 p.2
  have h := un_all ⟨(colAt cs p.1 p.2).toNat, by omega⟩ ⟨(fiveAt cs p.1 p.2).toNat, by omega⟩ (decide (restAt cs p.1 (p.2 + 1) = 0))
  simp only [Int.toNat_of_nonneg c0, Int.toNat_of_nonneg f0, decide_eq_true_eq] at h
  exact h

def restBody : List Stmt := match lawParts.1 with
  | [_, _, _, _, _, _, _, _, a, b, c, d] => [a, b, c, d]
  | _ => []
theorem rest_has : restBody.length = 4 := by decide +kernel
def Fin0 (cs : List Int) (ks : List (Nat × Nat)) (m : Str → Option Value) (x : List (Addr × Obj)) : Prop :=
  ∃ (C TH HE TA : Addr) (cv thv hv tv : List Value) (n0 n1 n2 n3 : Nat) (tp : Tok),
    (C, listOf cv.toArray n0) ∈ x ∧ (TH, listOf thv.toArray n1) ∈ x ∧ (HE, listOf hv.toArray n2) ∈ x ∧ (TA, listOf tv.toArray n3) ∈ x ∧ IntsAre cv cs ∧ ThingsV thv (ks.map (thingAt cs)) ∧
    HeadsIn x hv (ks.map (headAt cs) ++ [headAt cs (5, 0)]) ∧ HeadsIn x tv (ks.map (tailAt cs) ++ [([], 0, 1)]) ∧
    m (Str.ofString "cells") = some (.ref C) ∧ m (Str.ofString "things") = some (.ref TH) ∧ m (Str.ofString "heads") = some (.ref HE) ∧ m (Str.ofString "tails") = some (.ref TA) ∧ m (Str.ofString "page") = some (.str (pageS cs ks) tp)
theorem fin_start {cs : List Int} {ks : List (Nat × Nat)} {C TH HE TA T1 T2 e : Addr} {cv thv hev tav : List Value} {n0 n1 n2 n3 : Nat} {t1 t2 t3 t4 tp : Tok} {tl : List (Addr × Obj)} {m : Str → Option Value} (hcs : cs.length = 5) (hI : IntsAre cv cs) (hTh : ThingsV thv (ks.map (thingAt cs)))
    (hHe : HeadsIn ((C, listOf cv.toArray n0) :: tl) hev (ks.map (headAt cs))) (hTa : HeadsIn ((C, listOf cv.toArray n0) :: tl) tav (ks.map (tailAt cs)))
    (hm1 : m (Str.ofString "cells") = some (.ref C)) (hm2 : m (Str.ofString "things") = some (.ref TH)) (hm3 : m (Str.ofString "heads") = some (.ref HE)) (hm4 : m (Str.ofString "tails") = some (.ref TA)) (hm5 : m (Str.ofString "page") = some (.str (pageS cs ks) tp)) :
    Fin0 cs ks m ((T2, tupOf #[.ref e, .int 0 t1, .int 1 t2]) :: (e, listOf #[] 0) :: (T1, tupOf #[.ref C, .int 0 t3, .int 1 t4]) :: (TA, listOf (tav.toArray.push (.ref T2)) (n3 + 1)) :: (HE, listOf (hev.toArray.push (.ref T1)) (n2 + 1)) :: (TH, listOf thv.toArray n1) :: (C, listOf cv.toArray n0) :: tl) := by
  have eH : headAt cs (5, 0) = (cs, 0, 1) := by
    simp only [headAt, List.take_of_length_le (Nat.le_of_eq hcs), Int.pow_zero, Int.emod_one]
  simp only [List.push_toArray]
  refine ⟨C, TH, HE, TA, cv, thv, hev ++ [Value.ref T1], tav ++ [Value.ref T2], n0, n1, n2 + 1, n3 + 1, tp, by k_mem, by k_mem, by k_mem, by k_mem, hI, hTh, (hHe.mono ?_).snoc ?_, (hTa.mono ?_).snoc ?_, hm1, hm2, hm3, hm4, hm5⟩
  · intro q hq; simp only [List.mem_cons] at hq ⊢; rcases hq with hq | hq <;> simp [hq]
  · rw [eH]; exact .mk (D := T1) (f := C) (by k_mem) (by k_mem) hI
  · intro q hq; simp only [List.mem_cons] at hq ⊢; rcases hq with hq | hq <;> simp [hq]
  · exact .mk (D := T2) (f := e) (ws := []) (by k_mem) (by k_mem) .nil
theorem inv_mono {M : Model} {A : Around} {E : Value → Shared → Prop} {T : Sem Flow} {Q : Flow → Shared → Prop} {P P' : (Str → Option Value) → List (Addr × Obj) → Prop} {h₀ : Heap} {L : Addr} {own : List (Addr × Obj)} {s₁ s : Shared} (h : wpAny M A T (InvPostG h₀ L P own s₁ Q) E s) (hp : ∀ m x, P m x → P' m x) :
    wpAny M A T (InvPostG h₀ L P' own s₁ Q) E s :=
  wpAny_mono h (fun f s₂ p => by
    have k : InvEndG h₀ L P own s₁ s₂ → InvEndG h₀ L P' own s₁ s₂ := fun ⟨h', tk, m', news', nx, e, F, N, hn, ho, ha, hP⟩ => ⟨h', tk, m', news', nx, e, F, N, hn, ho, ha, hp _ _ hP⟩
    cases f with
    | ret v => exact p
    | brk => exact p
    | next => exact k p
    | cont => exact k p) (fun _ _ e => e)
theorem small_all : ∀ n : Fin 17, Builtin.Range.small 0 (n.val : Int) 1 = true ∧ Builtin.Range.rangeSize 0 (n.val : Int) 1 = (n.val : Int) := by decide +kernel

def TxEl (news : List (Addr × Obj)) (r : Str) (y : Value) (news' : List (Addr × Obj)) : Prop := news' = news ∧ ∃ t : Tok, y = .str r t
theorem strs_snoc {y : Str} {t : Tok} {vs : List Value} {ys : List Str} (h : StrsAre vs ys) : StrsAre (vs ++ [.str y t]) (ys ++ [y]) := by
  induction h with
  | nil => exact .cons y t .nil
  | cons z u _ ih => exact .cons z u ih
section
variable {prog : Program} {w : World} {A : Around} {h₀ : Heap} {L : Addr} {m : Str → Option Value} {env : Env} {elt : Expr} {x : Str} {scope : Scope} {cl : List (Str × Addr)} {s : Shared} {S : List (Addr × Obj) → Prop} {Fin : List Value → List (Addr × Obj) → Prop} {news : List (Addr × Obj)}
theorem mc_things {vs : List Value} {α : Type} {ks : List α} {T : α → Int × Bool} (g : α → Str) (hV : ThingsV vs (ks.map T))
    (turn : ∀ p v I oI C oC D m₂ ys h tk (E' : Value → Shared → Prop), p ∈ ks → ThingV v (T p) → LCg.NsObj oC m₂ → m₂ x = some v → Fr h₀ L h m → News h₀ L h ((I, oI) :: (C, oC) :: (D, LCg.lst ys) :: news) → LCg.Off3 I C D news → ((@Ne Nat I C) ∧ (@Ne Nat I D) ∧ (@Ne Nat C D)) →
      wpAny (model prog w) A (eval elt (compEnvC scope cl C env)) (LCg.CompEnd h₀ L m { s with heap := h, toks := tk } I oI C oC D (LCg.lst ys) S (fun y news' => TxEl news (g p) y news')) E' { s with heap := h, toks := tk })
    (fin : ∀ ys, StrsAre ys (ks.map g) → Fin ys news) : LCg.CompRest prog w A h₀ L m env elt x scope cl s S (fun i v => vs.toArray[i]? = some v) Fin vs.toArray.size 0 [] news := by
  have hsz : vs.toArray.size = ks.length := by rw [List.size_toArray, hV.length, List.length_map]
  suffices key : ∀ (j i : Nat) (ys : List Value), i + j = ks.length → StrsAre ys ((ks.take i).map g) → LCg.CompRest prog w A h₀ L m env elt x scope cl s S (fun i v => vs.toArray[i]? = some v) Fin j i ys news by
    rw [hsz]; exact key _ 0 [] (by omega) .nil
  intro j
  induction j with
  | zero =>
    intro i ys hi hy
    have e : i = ks.length := by omega
    rw [e, List.take_length] at hy
    exact LCg.CompRest.zero (fin ys hy)
  | succ j ih =>
    intro i ys hi hy
    refine LCg.CompRest.succ fun v I oI C oC D m₂ h tk E' hv hC hx F N off ne => ?_
    obtain ⟨c, hc, hT⟩ := hV.at (i := i) (by simpa using hv)
    rw [List.getElem?_map] at hc
    obtain ⟨p, hp, rfl⟩ := Option.map_eq_some_iff.mp hc
    refine wpAny_mono (turn p v I oI C oC D m₂ ys h tk E' (List.mem_of_getElem? hp) hT hC hx F N off ne) (fun y s₂ hq => ?_) fun _ _ e => e
    obtain ⟨h', tk', nw, e, F', N', off', hS, rfl, t, rfl⟩ := hq
    refine ⟨h', tk', nw, e, F', N', off', hS, ih (i + 1) _ (by omega) ?_⟩
    rw [take_snoc hp, List.map_append]
    exact strs_snoc hy
end
theorem join_page (cs : List Int) : ∀ ks : List (Nat × Nat), Txt.join (Str.ofString "") (ks.map (pageAt cs)) = pageS cs ks := by
  have e : Str.ofString "" = Str.empty := by decide +kernel
  have h : ∀ ks : List (Nat × Nat), Str.join (Str.ofString "") (ks.map (pageAt cs)) = pageS cs ks := by
    intro ks
    induction ks with
    | nil => rw [pageS, e]; rfl
    | cons p r ih =>
      cases r with
      | nil =>
        show pageAt cs p = pageAt cs p ++ Str.ofString ""
        rw [e, Str.append_empty]
      | cons q r =>
        show pageAt cs p ++ Str.ofString "" ++ Str.join (Str.ofString "") ((q :: r).map (pageAt cs)) = pageAt cs p ++ pageS cs (q :: r)
        rw [ih, e, Str.append_empty]
  intro ks
  exact (StrLaws.glued_eq_join _ _).trans (h ks)
theorem eq_str_yes {prog : Program} {A : Around} {E : Value → Shared → Prop} {s : Shared} {x y : Str} {t u : Tok} {Q : Value → Shared → Prop} (e : x = y) (h : Q (.bool true) s) : wpAny (model prog w) A (compareOp .Eq (.str x t) (.str y u)) Q E s := by
  refine eq_str ?_
  rw [e]
  simpa using h
theorem eq_ints_yes {A : Around} {E : Value → Shared → Prop} {s : Shared} {h₀ : Heap} {L a b : Addr} {news : List (Addr × Obj)} {xs ys : List Value} {k k' : Nat} {ns ms : List Int} {Q : Value → Shared → Prop} (N : News h₀ L s.heap news) (ha : (a, listOf xs.toArray k) ∈ news) (hb : (b, listOf ys.toArray k') ∈ news) (hi : IntsAre xs ns) (hj : IntsAre ys ms) (e : ns = ms) (hu : A.units + 64 < cLine) (h : Q (.bool true) s) :
    wpAny (model (PySem.Challenge.rw_sh0006_01).row.prog w) A (compareOp .Eq (.ref a) (.ref b)) Q E s :=
  ke_eq_ints (News.isList N ha) (News.isList N hb) hi hj hu (by rw [decide_eq_true e]; exact h)
section
local macro_rules | `(tactic| k_mem) => `(tactic| assumption)
local macro_rules | `(tactic| walk_at "call ref") => `(tactic| (k_dflt (refine' backwards ?v ?c ?n _ _ _ _ _ _ _ _ _ _ _ _ _ _ _ _ _ _ ?hl ?B ?F ?X ?N ?T ?hk ?hdp ?hun ?_; (case N => k_asm); (case hl => k_mem); (case v => assumption); (case c => assumption); (case n => assumption); (case B => k_asm); (case F => k_asm); (case X => k_asm); (case T => k_asm); (case hk => first | exact rfl | assumption); (case hdp => ktr_room); (case hun => ktr_units)); (intro lf9 ws9 k9 h9 tk9 hI9 F9 N9); (try k_sweep); (try dsimp only); (try k_fold)))
local macro_rules | `(tactic| walk_at "subscriptTail Name Slice ref ref") => `(tactic| (k_here; (with_reducible show wpAny _ _ (subscriptTail _ (PySem.Expr.Slice none none (some _) _) (Value.ref _) (Value.ref _)) _ _ _); k_dflt (refine' krv_ints ?F ?N ?l ?k ?i ?_ ?s ?t ?z; (case F => k_asm); (case N => k_asm); (case l => exact News.isList (by k_asm) (by k_mem)); (case k => exact IsPart.int _ _); (case i => assumption); (case s => with_unfolding_all rfl); (case t => kmk_pure); (case z => assumption)); intro D' ws' h' F' N' l1 hI' hC'; (try k_sweep)))
local macro_rules | `(tactic| walk_at "compareOp Eq ref ref") => `(tactic| (k_here; k_dflt (refine' eq_ints_yes ?N ?a1 ?a2 ?a3 ?b1 ?b2 ?hu ?_; (case N => k_asm); (case a1 => k_mem); (case a2 => k_mem); (case a3 => assumption); (case b1 => assumption); (case b2 => assumption); (case hu => ke_room))))
local macro_rules | `(tactic| walk_at "call builtin:str.join") => `(tactic| (k_here; (with_reducible show wpAny _ _ (call (Value.builtin "str.join") [Value.str _ _, Value.ref _]) _ _ _); (with_reducible rename CarriedAll _ (List.map _ _) => ktC); refine KT.join_B 3 (News.isList (by k_asm) (by first | exact List.mem_cons_self | k_mem)) ktC (fun _ _ => sh_len _ _ _) (by omega) (by decide) ?_; intro _ _))
local macro_rules | `(tactic| walk_at "compareOp Eq str str") => `(tactic| (k_here; refine eq_str_yes (join_page _ _) ?_))
local macro_rules | `(tactic| size_fits) => `(tactic| assumption)
local macro_rules | `(tactic| walk_at "call builtin:len") => `(tactic| (k_here; (with_reducible show wpAny _ _ (call (Value.builtin "len") [Value.ref _]) _ _ _); k_dflt (refine' kun_lenL ?k1 ?k2 ?k3 ?_; (case k1 => exact News.isList (by k_asm) (by k_mem)); (case k2 => assumption); (case k3 => omega); k_whole)))
local macro_rules | `(tactic| walk_at "exec For Name Call cons nil") => `(tactic| (k_here; (rename Fr _ _ _ _ => lF'); (with_unfolding_all refine' For_invVF (hE := ?k3) lF' ?k1 ?k2 ?_; (case k1 => exact rfl); (case k2 => exact rfl); (case k3 => assumption); k_whole)))
local macro_rules | `(tactic| walk_at "pyIter ref") => `(tactic| (k_here; refine stop_intro ?_))
set_option maxHeartbeats 2000000 in
theorem rest_thm {cs : List Int} (hcs : cs.length = 5) (hr : ∀ c ∈ cs, 0 ≤ c ∧ c < 32768)
    {fa : Addr} {cd : Value} {h₀ : Heap} {L : Addr} {m : Str → Option Value} {nx : List (Addr × Obj)} {s : Shared} {Q : Flow → Shared → Prop} {E : Value → Shared → Prop}
    (hE : PassesOwn (model (PySem.Challenge.rw_sh0006_01).row.prog w) (callerA.deeper (envL L fa cd)) (envL L fa cd) E) (B : Below callerA h₀ [] h₀) (X : (hd.heap_39 w.params).In h₀) (T : Top hd.view_39 (looseW hd.view_39 []) mean mg mb h₀)
    (F : Fr h₀ L s.heap m) (N : News h₀ L s.heap nx) (hJ : Inv0 cs (keysUp cs 5 0) m nx)
    (hq : ∀ h' tk m' news', Fr h₀ L h' m' → News h₀ L h' news' → Q (.ret (.bool true)) { s with heap := h', toks := tk }) :
    wpAny (model (PySem.Challenge.rw_sh0006_01).row.prog w) (callerA.deeper (envL L fa cd)) (execs restBody (envL L fa cd)) Q E s := by
  w_top off
  obtain ⟨C, TH, HE, TA, cv, thv, hev, tav, n0, n1, n2, n3, tp, tl, rfl, hI, hTh, hHe, hTa, hne, hl1, hl2, hl3, hm1, hm2, hm3, hm4, hm5⟩ := hJ
  have X₀ := X
  have hch := chain_up hr 5 (Nat.le_refl _)
  have hkl := keys_len cs 5 0
  rw [know hm1, know hm2, know hm3, know hm4, know hm5] at F
  generalize keysUp cs 5 0 = ks at *
  have hsTH : thv.toArray.size ≤ sizeLine := by rw [List.size_toArray, hTh.length, List.length_map, sizeLine_eq]; omega
  have hsHE : hev.toArray.size ≤ sizeLine := by rw [List.size_toArray, hHe.length, List.length_map, sizeLine_eq]; omega
  have hsTA : tav.toArray.size ≤ sizeLine := by rw [List.size_toArray, hTa.length, List.length_map, sizeLine_eq]; omega
  have hthl : ((thv.toArray.size : Nat) : Int) = (ks.length : Int) := by rw [List.size_toArray, hTh.length, List.length_map]
  have hap : ∀ p ∈ tl, p.1 ≠ TH := fun p hp => (hne p hp).1
  have hap2 : ∀ p ∈ tl, p.1 ≠ HE := fun p hp => (hne p hp).2.1
  have hap3 : ∀ p ∈ tl, p.1 ≠ TA := fun p hp => (hne p hp).2.2
  replace hl1 := ltN hl1
  replace hl2 := ltN hl2
  replace hl3 := ltN hl3
  dsimp only [restBody, lawParts, lawScope, envL, PySem.Challenge.pw_sh0006_01]
  revert X; k_fill; intro X
  dsimp only [envOf] at F ⊢
  k_steps
  rename IsRange _ _ _ _ _ _ _ _ => hR
  rename Fr _ _ _ _ => Fe
  rename News _ _ _ _ => Ne
  have eR : ((ks.length : Int) + 1) = ((ks.length + 1 : Nat) : Int) := rfl
  rw [eR] at hR
  have hkl' : ks.length + 1 < 17 := by omega
  obtain ⟨hsm, hrs⟩ := small_all ⟨ks.length + 1, hkl'⟩
  refine m_range (n := ks.length + 1) (fun _ m x => Fin0 cs ks m x) rfl hR hsm hrs Fe Ne (fin_start hcs hI hTh hHe hTa rfl rfl rfl rfl rfl) ?turn ?done
  case turn =>
    clear Fe Ne
    rintro p t m₁ x h tk own hp hoff ⟨C, TH, HE, TA, cv, thv, hv, tv, n0, n1, n2, n3, tp, g1, g2, g3, g4, hI, hTh, hHe, hTa, hm1, hm2, hm3, hm4, hm5⟩ F₁ N₁
    have hp' : p ≤ ks.length := by omega
    have hh := heads_all hr hcs hch p hp'
    have ht := tails_all hr hcs hch rfl p hp'
    rw [show headAt cs (0, 0) = ([], 0, 1) by simp [headAt]] at hh
    refine inv_mono (P' := fun m x => Fin0 cs ks m x) (check_turn (s := { s with heap := h, toks := tk }) (by omega) (by rw [List.length_map]; omega) (fun c hc => by obtain ⟨q, _, rfl⟩ := List.mem_map.mp hc; exact thing_bound hr q) hh ht g2 g3 g4 hTh hHe hTa B X₀ T F₁ N₁ hoff hm2 hm3 hm4 (fun m' => Fin0 cs ks m' x)
      ⟨C, TH, HE, TA, cv, thv, hv, tv, n0, n1, n2, n3, tp, g1, g2, g3, g4, hI, hTh, hHe, hTa, hm1, hm2, hm3, hm4, hm5⟩) ?_
    rintro m x ⟨rfl, h⟩
    exact h
  case done =>
    clear Fe Ne
    rintro m₁ x h tk ⟨C, TH, HE, TA, cv, thv, hv, tv, n0, n1, n2, n3, tp, g1, g2, g3, g4, hI, hTh, hHe, hTa, hm1, hm2, hm3, hm4, hm5⟩ F₁ N₁
    rw [know3 hm1 hm2 hm5] at F₁
    clear hm1 hm2 hm3 hm4 hm5 hHe hTa g3 g4 hkl' hsm hrs hR eR hthl hap hap2 hap3 hsTH hsHE hsTA hne hl1 hl2 hl3
    have hback : bw (ks.map (thingAt cs)).reverse = cs.reverse := by
      have hne : ks ≠ [] := by
        intro e
        rw [e] at hch
        cases hch
      have h1 := back_all hr hcs hch rfl hne
      have h2 : cs.drop 0 = restAt cs 0 0 :: cs.drop 1 := drop_cel hr (by omega)
      rw [List.drop_zero] at h2
      have h3 : cs.reverse = (restAt cs 0 0 :: cs.drop 1).reverse := congrArg List.reverse h2
      rw [h1, h3, List.reverse_cons]
    have hcb : ∀ c ∈ ks.map (thingAt cs), 0 ≤ c.1 ∧ c.1 < 256 := fun c hc => by obtain ⟨q, _, rfl⟩ := List.mem_map.mp hc; exact thing_bound hr q
    have hlt : (ks.map (thingAt cs)).length ≤ 15 := by rw [List.length_map]; omega
    have hszt : thv.toArray.size ≤ sizeLine := by rw [List.size_toArray, hTh.length, List.length_map, sizeLine_eq]; omega
    have hszc : cv.toArray.size ≤ sizeLine := by rw [List.size_toArray, hI.length, hcs, sizeLine_eq]; omega
    (try dsimp only)
    k_steps
    rename News _ _ _ _ => Ne
    rename Fr _ _ _ _ => Fe
    have Nx : News h₀ _ _ x := fun p hp => Ne p (List.mem_cons_of_mem _ (List.mem_cons_of_mem _ hp))
    clear Ne
    refine LCg.CompSrc.ledger rfl Fe Nx g2 hszt ?_
    intro g'
    refine mc_things (pageAt cs) hTh ?ct ?cf
    case ct =>
      intro p v I oI C' oC D m₂ ys h tk E' hp hT hC hx F N off ne
      have hun := un_page hr p
      obtain ⟨hn0, hn1⟩ := thing_bound hr p
      clear Fe Nx
      generalize pageAt cs p = pg at *
      generalize thingAt cs p = c at *
      cases hT
      all_goals
        rename_i n t
        dsimp only at hn0 hn1 hun
        k_steps
      all_goals
        rename News _ _ _ _ => Ne
        rename Fr _ _ _ _ => Fe
        exact LCg.CompEnd.intro Fe Ne x (fun p hp => hp) off (.inr ⟨_, g2, rfl, _, rfl⟩) ⟨rfl, _, by rw [hun]⟩
    case cf =>
      intro ys hys
      have hca : CarriedAll ys (ks.map fun a => PyData.str (pageAt cs a)) := by
        have h := hys.carried
        rwa [List.map_map] at h
      clear Fe Nx hys
      k_steps
      exact hq _ _ _ _ (by k_asm) (by k_asm)
end

theorem enum_end {h₀ h' : Heap} {L l : Addr} {o o' : Obj} {J : (Str → Option Value) → List (Addr × Obj) → Prop} {m' : Str → Option Value} {own : List (Addr × Obj)} {s₁ : Shared} {tk : Nat} {Qr : Value → Shared → Prop} {Qb : Shared → Prop} (F : Fr h₀ L h' m') (N : News h₀ L h' ((l, o) :: own)) (hj : J m' [(l, o)]) :
    LoopStep3 h₀ L own [(l, o')] J s₁ Qr Qb .next { s₁ with heap := h', toks := tk } :=
  LoopStep2.intro (news₂ := [(l, o)]) F (N.perm fun p hp => by rcases List.mem_append.mp hp with h | h; exact List.mem_cons_of_mem _ h; rw [List.mem_singleton.mp h]; exact List.mem_cons_self) rfl hj
theorem inv_start {cs : List Int} {C TH HE TA l : Addr} {o : Obj} {cv : List Value} {tp : Tok} {m : Str → Option Value} (hI : IntsAre cv cs) (h1 : @LT.lt Nat _ C TH) (h2 : @LT.lt Nat _ TH HE) (h3 : @LT.lt Nat _ HE TA) (h4 : @LT.lt Nat _ l TH)
    (hm1 : m (Str.ofString "cells") = some (.ref C)) (hm2 : m (Str.ofString "things") = some (.ref TH)) (hm3 : m (Str.ofString "heads") = some (.ref HE)) (hm4 : m (Str.ofString "tails") = some (.ref TA)) (hm5 : m (Str.ofString "page") = some (.str (Str.ofString "") tp)) :
    Inv0 cs (keysUp cs 0 0) m [(TA, listOf #[] 0), (HE, listOf #[] 0), (TH, listOf #[] 0), (C, LCg.lst cv), (l, o)] := by
  have hk : keysUp cs 0 0 = [] := rfl
  rw [hk]
  refine ⟨C, TH, HE, TA, cv, [], [], [], cv.length, 0, 0, 0, tp, [(l, o)], rfl, hI, .nil, .nil, .nil, ?_, h1, h2, h3, hm1, hm2, hm3, hm4, hm5⟩
  intro p hp
  rw [List.mem_singleton.mp hp]
  exact ⟨Nat.ne_of_lt h4, Nat.ne_of_lt (Nat.lt_trans h4 h2), Nat.ne_of_lt (Nat.lt_trans h4 (Nat.lt_trans h2 h3))⟩
theorem five_of {ns : List Int} (h : ns.length = 5) : ∃ a b c d e : Int, ns = [a, b, c, d, e] := by
  match ns, h with
  | [a, b, c, d, e], _ => exact ⟨a, b, c, d, e, rfl⟩
section
local macro_rules | `(tactic| walk_at "exec For Name Call cons nil") => `(tactic| (k_here; (rename Fr _ _ _ _ => lF'); (with_unfolding_all refine' For_invVF lF' ?k1 ?k2 ?_; (case k1 => exact rfl); (case k2 => exact rfl); k_whole)))
local macro_rules | `(tactic| walk_at "pyIter ref") => `(tactic| (k_here; refine stop_intro ?_))
local macro_rules | `(tactic| walk_at "execs cons") => `(tactic| (k_here; (with_reducible show wpAny _ _ (execs (Stmt.Expr _ _ :: _) _) _ _ _); refine stop_intro ?_))
set_option maxHeartbeats 400000 in
theorem law_holds : PySem.Challenge.rw_sh0006_01.Holds := hd (by
  w_top off
  k_go0
  (all_goals try k_fold)
  k_steps
  rename PairSrcL _ _ _ _ _ _ _ _ _ _ _ _ => S
  rename News _ _ _ _ => Nx
  rename Fr _ _ _ _ => Fx
  refine S _ rfl _ _ _ _ (fun i m₁ nx => ∃ (l : Addr) (vs : List Value) (k : Nat) (ns : List Int), nx = [(l, listOf vs.toArray k)] ∧ IntsAre vs ns ∧ ns.length = 5 ∧ m₁ (Str.ofString "cells") = some (.ref l)) ⟨_, _, _, _, rfl, .cons _ _ (.cons _ _ (.cons _ _ (.cons _ _ (.cons _ _ .nil)))), rfl, rfl⟩ ?turn ?done
  case turn =>
    rintro i a t v m₁ nx s₁ own ⟨hh, tk, rfl⟩ hia hk ⟨l, vs, k, ns, rfl, hI, hns, hm1⟩ hadr hown F₁ N₁
    obtain ⟨ta, rfl⟩ := ItemKind.int_is hk
    clear S Fx Nx
    have N₂ : News _ _ hh ((l, listOf vs.toArray k) :: own) := N₁.perm fun p hp => by rcases List.mem_cons.mp hp with rfl | h; exact List.mem_append.mpr (.inr List.mem_cons_self); exact List.mem_append.mpr (.inl h)
    clear N₁
    have hl' := List.head_eq_of_cons_eq hadr
    have hap : ∀ p ∈ own, p.1 ≠ l := fun p hp e => hown p hp _ List.mem_cons_self (e.trans hl')
    clear hadr hown hl'
    rw [know hm1] at F₁
    dsimp only [envOf] at F₁ N₂ ⊢
    k_steps
    rename Fr _ _ _ _ => Fe
    rename News _ _ _ _ => Ne
    rename IntsAre (List.set _ _ _) _ => hIe
    exact enum_end Fe Ne ⟨l, _, _, _, rfl, hIe, (List.length_set ..).trans hns, rfl⟩
  case done =>
    rintro h tk m₁ nx F₁ N₁ hadr ⟨l, vs, k, ns, rfl, hI, hns, hm1⟩
    clear S Fx Nx hadr
    rw [know hm1] at F₁
    dsimp only [envOf] at F₁ N₁ ⊢
    obtain ⟨c0, c1, c2, c3, c4, rfl⟩ := five_of hns
    clear hns
    rcases hI with _ | ⟨_, t0, _ | ⟨_, t1, _ | ⟨_, t2, _ | ⟨_, t3, _ | ⟨_, t4, _ | _⟩⟩⟩⟩⟩
    k_steps
    rename IsRange _ _ _ _ _ _ _ _ => hR
    rename Fr _ _ _ _ => Fe
    rename News _ _ _ _ => Ne
    rename Top _ _ _ _ _ _ => Tp
    rename Frag.In _ _ => Xp
    have hcs : [c0.fmod 32768, c1.fmod 32768, c2.fmod 32768, c3.fmod 32768, c4.fmod 32768].length = 5 := rfl
    have hr : ∀ c ∈ [c0.fmod 32768, c1.fmod 32768, c2.fmod 32768, c3.fmod 32768, c4.fmod 32768], 0 ≤ c ∧ c < 32768 := by
      have hf : ∀ c : Int, 0 ≤ c.fmod 32768 ∧ c.fmod 32768 < 32768 := fun c => by
        rw [Int.fmod_eq_emod_of_nonneg _ (by decide)]
        exact ⟨Int.emod_nonneg _ (by decide), Int.emod_lt_of_pos _ (by decide)⟩
      intro c hc
      simp only [List.mem_cons, List.not_mem_nil, or_false] at hc
      rcases hc with rfl | rfl | rfl | rfl | rfl <;> exact hf _
    refine m_range (n := 5) (fun i m x => Inv0 [c0.fmod 32768, c1.fmod 32768, c2.fmod 32768, c3.fmod 32768, c4.fmod 32768] (keysUp [c0.fmod 32768, c1.fmod 32768, c2.fmod 32768, c3.fmod 32768, c4.fmod 32768] i 0) m x) rfl hR rfl rfl Fe Ne
      (inv_start (.cons _ _ (.cons _ _ (.cons _ _ (.cons _ _ (.cons _ _ .nil))))) (by omega) (by omega) (by omega) (by omega) rfl rfl rfl rfl rfl) ?turn2 ?done2
    case turn2 =>
      clear Fe Ne
      rintro i t m₁ x h tk own hi hoff hJ F₁ N₁
      refine outer_turn hi hcs hr ?hE (below_caller _) Xp Tp F₁ N₁ hoff hJ
      passes_own
    case done2 =>
      clear Fe Ne
      rintro m₁ x h tk hJ F₁ N₁
      (try dsimp only)
      k_steps
      refine rest_thm hcs hr ?hE2 (below_caller _) Xp Tp F₁ N₁ hJ ?hq
      case hE2 => passes_own
      case hq =>
        intro h' tk' m' news' F' N'
        (try dsimp only)
        k_steps)
end

end Mine

theorem PySem.Challenge.cw_sh0006_01_holds : PySem.Challenge.rw_sh0006_01.Holds := by
  exact Mine.law_holds
