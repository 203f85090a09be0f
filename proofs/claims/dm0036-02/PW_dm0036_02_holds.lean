import PyProof.Rows.All
import Wide.All
import OpenK.AllK
import Wide.FinOn
import PySem.Challenge.RW_dm0036_02
open PySem PySem.W PyProof.Rows
set_option Elab.async false
set_option maxRecDepth 100000
namespace Mine
def word (n : Int) : PySem.Str := if n % 128 < 32 then PySem.Str.mk #[94, (n % 128 + 64).toNat] else if n % 128 < 127 then PySem.Str.mk #[(n % 128).toNat] else PySem.Str.mk #[94, 159]
def shown (n : Int) : PySem.Str := if n = 127 then PySem.Str.mk #[94, 63] else if 128 ≤ n % 256 then PySem.Str.ofString "!" ++ word n else word n

theorem band7 (k : Int) : Builtin.bitAnd k 127 = k % 128 := bitAnd_m7 k
theorem band_bit (k : Int) : Builtin.bitAnd k 128 = (k / 128 % 2) * 128 := kbt_bit k 7
theorem band_ne (k : Int) (h : Builtin.bitAnd k 128 ≠ 0) : 128 ≤ k % 256 := by rw [band_bit] at h; omega
theorem band_eq (k : Int) (h : Builtin.bitAnd k 128 = 0) : ¬ 128 ≤ k % 256 := by rw [band_bit] at h; omega
theorem or32_fin : ∀ x : Fin 128, Builtin.bitOr ((x : Nat) : Int) 32 + 32 = if x.val < 32 then ((x : Nat) : Int) + 64 else if x.val < 64 then (x : Nat) + 32 else if x.val < 96 then (x : Nat) + 64 else (x : Nat) + 32 := by decide +kernel
theorem or32 (k : Int) : Builtin.bitOr (k % 128) 32 + 32 = if k % 128 < 32 then k % 128 + 64 else if k % 128 < 64 then k % 128 + 32 else if k % 128 < 96 then k % 128 + 64 else k % 128 + 32 := by
  have h := or32_fin ⟨(k % 128).toNat, by omega⟩
  have e : ((k % 128).toNat : Int) = k % 128 := by omega
  simp only [e] at h
  rw [h]
  split <;> split <;> (try split) <;> (try split) <;> (try split) <;> omega
theorem or32_lo (k : Int) : 0 ≤ Builtin.bitOr (Builtin.bitAnd k 127) 32 + 32 := by rw [band7, or32]; split <;> (try split) <;> (try split) <;> omega
theorem or32_hi (k : Int) : Builtin.bitOr (Builtin.bitAnd k 127) 32 + 32 ≤ 1114111 := by rw [band7, or32]; split <;> (try split) <;> (try split) <;> omega

theorem mk_append (a b : Array Nat) : PySem.Str.mk a ++ PySem.Str.mk b = PySem.Str.mk (a ++ b) := rfl
theorem lit_caret : PySem.Str.ofString "^" = PySem.Str.mk #[94] := by decide +kernel
theorem lit_bang : PySem.Str.ofString "!" = PySem.Str.mk #[33] := by decide +kernel
theorem lit_del : PySem.Str.ofString "^?" = PySem.Str.mk #[94, 63] := by decide +kernel
theorem lit_rest : PySem.Str.ofString "^\u009f" = PySem.Str.mk #[94, 159] := by decide +kernel

-- the ways of unctrl
theorem w_plain {k : Int} (h1 : 32 ≤ Builtin.bitAnd k 127) (h2 : Builtin.bitAnd k 127 ≤ 126) : word k = PySem.Str.mk #[(Builtin.bitAnd k 127).toNat] := by
  rw [band7] at *; unfold word; rw [if_neg (by omega), if_pos (by omega)]
theorem w_ctl {k : Int} (h1 : ¬ 32 ≤ Builtin.bitAnd k 127) : word k = PySem.Str.ofString "^" ++ PySem.Str.mk #[(Builtin.bitOr (Builtin.bitAnd k 127) 32 + 32).toNat] := by
  rw [band7] at *; unfold word; rw [if_pos (by omega), lit_caret, or32, if_pos (by omega)]; rfl
theorem w_rest {k : Int} (h2 : ¬ Builtin.bitAnd k 127 ≤ 126) : word k = PySem.Str.ofString "^" ++ PySem.Str.mk #[(Builtin.bitOr (Builtin.bitAnd k 127) 32 + 32).toNat] := by
  rw [band7] at *; unfold word; rw [if_neg (by omega), if_neg (by omega), lit_caret, or32, if_neg (by omega), if_neg (by omega), if_neg (by omega)]
  have : k % 128 = 127 := by omega
  rw [this]; rfl
theorem s_del1 {k : Int} {x : PySem.Str} (h : k = 127) (hb : Builtin.bitAnd k 128 ≠ 0) : shown k = x := by subst h; exact absurd (by decide +kernel) hb
theorem s_del {k : Int} (h : k = 127) : shown k = PySem.Str.ofString "^?" := by unfold shown; rw [if_pos h, lit_del]
theorem s_bang {k : Int} {x : PySem.Str} (h : k ≠ 127) (hb : Builtin.bitAnd k 128 ≠ 0) (hx : word k = x) : shown k = PySem.Str.ofString "!" ++ x := by
  unfold shown; rw [if_neg h, if_pos (band_ne k hb), hx]
theorem s_bare {k : Int} {x : PySem.Str} (h : k ≠ 127) (hb : Builtin.bitAnd k 128 = 0) (hx : word k = x) : shown k = x := by
  unfold shown; rw [if_neg h, if_neg (band_eq k hb), hx]
-- the ways of the law's own reading
theorem fm (k : Int) : k.fmod 128 = k % 128 := Int.fmod_eq_emod_of_nonneg k (by decide)
theorem fm2 (k : Int) : k.fmod 256 = k % 256 := Int.fmod_eq_emod_of_nonneg k (by decide)
theorem s_bangL {k : Int} {x : PySem.Str} (h : k ≠ 127) (hb : 128 ≤ k.fmod 256) (hx : word k = x) : shown k = PySem.Str.ofString "!" ++ x := by
  rw [fm2] at hb; unfold shown; rw [if_neg h, if_pos hb, hx]
theorem s_bareL {k : Int} {x : PySem.Str} (h : k ≠ 127) (hb : ¬ 128 ≤ k.fmod 256) (hx : word k = x) : shown k = x := by
  rw [fm2] at hb; unfold shown; rw [if_neg h, if_neg hb, hx]
theorem caps_fin : ∀ x : Fin 32, Txt.item (PySem.Str.ofString "@ABCDEFGHIJKLMNOPQRSTUVWXYZ[\\]^_") ((x : Nat) : Int) = PySem.Str.mk #[x.val + 64] := by decide +kernel
theorem plain_fin : ∀ x : Fin 95, Txt.item (PySem.Str.ofString " !\"#$%&'()*+,-./0123456789:;<=>?@ABCDEFGHIJKLMNOPQRSTUVWXYZ[\\]^_`abcdefghijklmnopqrstuvwxyz{|}~") ((x : Nat) : Int) = PySem.Str.mk #[x.val + 32] := by decide +kernel
theorem w_caps {k : Int} (h : k.fmod 128 < 32) : word k = PySem.Str.ofString "^" ++ Txt.item (PySem.Str.ofString "@ABCDEFGHIJKLMNOPQRSTUVWXYZ[\\]^_") (k.fmod 128) := by
  rw [fm] at *
  have q := caps_fin ⟨(k % 128).toNat, by omega⟩
  have e : ((k % 128).toNat : Int) = k % 128 := by omega
  simp only [e] at q
  rw [q, lit_caret, mk_append]; unfold word; rw [if_pos h]
  have : (k % 128 + 64).toNat = (k % 128).toNat + 64 := by omega
  rw [this]; rfl
theorem w_plainL {k : Int} (h : ¬ k.fmod 128 < 32) (h2 : k.fmod 128 < 127) : word k = Txt.item (PySem.Str.ofString " !\"#$%&'()*+,-./0123456789:;<=>?@ABCDEFGHIJKLMNOPQRSTUVWXYZ[\\]^_`abcdefghijklmnopqrstuvwxyz{|}~") (k.fmod 128 - 32) := by
  rw [fm] at *
  have q := plain_fin ⟨(k % 128 - 32).toNat, by omega⟩
  have e : ((k % 128 - 32).toNat : Int) = k % 128 - 32 := by omega
  simp only [e] at q
  rw [q]; unfold word; rw [if_neg h, if_pos h2]
  have : (k % 128 - 32).toNat + 32 = (k % 128).toNat := by omega
  rw [this]
theorem w_restL {k : Int} (h2 : ¬ k.fmod 128 < 127) : word k = PySem.Str.ofString "^\u009f" := by
  rw [fm] at *; unfold word; rw [if_neg (by omega), if_neg (by omega), lit_rest]

theorem word_ok (k : Int) : PyData.strOk (word k) = true := by
  unfold word
  split
  · simp [PyData.strOk]; omega
  · split
    · simp [PyData.strOk]; omega
    · decide +kernel
theorem ok_append (x y : PySem.Str) : PyData.strOk (x ++ y) = (PyData.strOk x && PyData.strOk y) := by
  have : x ++ y = PySem.Str.mk (x.cps ++ y.cps) := rfl
  simp only [this, PyData.strOk, Array.all_append]
theorem shown_ok (k : Int) : PyData.strOk (shown k) = true := by
  unfold shown
  split
  · decide +kernel
  · split
    · rw [ok_append, word_ok, lit_bang]; decide +kernel
    · exact word_ok k
-- two lists of the same texts are equal
theorem eqv_strs {α : Type} (g : α → PySem.Str) : ∀ ks : List α, PyData.eqvAll (ks.map fun k => PyData.str (g k)) (ks.map fun k => PyData.str (g k)) = true
  | [] => by simp [PyData.eqvAll]
  | k :: r => by simp only [List.map_cons, PyData.eqvAll, PyData.eqv, eqv_strs g r, beq_self_eq_true, Bool.and_self]
theorem lay_strs {α : Type} (g : α → PySem.Str) (hg : ∀ k, PyData.strOk (g k) = true) : ∀ ks : List α, PyData.canLayAll0 (ks.map fun k => PyData.str (g k)) = true
  | [] => by simp [PyData.canLayAll0]
  | k :: r => by simp [PyData.canLayAll0, PyData.canLay0, hg k, lay_strs g hg r]
theorem dep_strs {α : Type} (g : α → PySem.Str) : ∀ ks : List α, PyData.depthAll (ks.map fun k => PyData.str (g k)) = 0
  | [] => by simp [PyData.depthAll]
  | k :: r => by simp [PyData.depthAll, PyData.depth, dep_strs g r]
theorem eq_texts {prog : Program} {w : World} {A : Around} {E : Value → Shared → Prop} {s : Shared} {a b : Addr} {xs ys : List Value} {ks : List Int} {Q : Value → Shared → Prop}
    (ha : s.heap.IsList a xs.toArray) (hb : s.heap.IsList b ys.toArray) (hx : CarriedAll xs (ks.map fun k => PyData.str (shown k))) (hy : CarriedAll ys (ks.map fun k => PyData.str (shown k))) (hu : A.units + 64 < cLine) (h : Q (.bool true) s) :
    wpAny (model prog w) A (compareOp .Eq (.ref a) (.ref b)) Q E s := by
  have sh : SeqAt.shaped (.list (ks.map fun k => PyData.str (shown k))) = true := by
    simp [SeqAt.shaped, PyData.canLay0, PyData.depth, lay_strs shown shown_ok, dep_strs]
  refine eq_dataH (reads_newData ha hx) (reads_newData hb hy) sh sh hu ?_
  simp only [PyData.eqv, eqv_strs]
  exact h
end Mine

open Mine
local macro_rules | `(tactic| walk_at "CompSrc") => `(tactic| (k_here; k_dflt (refine LCg.CompSrc.ledger (by rfl) (by k_asm) (by k_asm) (by k_mem) (by kcf_size) ?_; intro g'; (refine' kct_list Mine.shown (by first | assumption | l_ints) (fun k' t' I' oI' C' oC' D' m' ys' h' tk' E' hk' hC' hx' F' N' off' ne' hMark' => ?_) ?_); (all_goals (try (simp only [LCg.Off3, and_true] at off'))); kcf_last)))
local macro_rules | `(tactic| walk_at "call builtin:chr") => `(tactic| (k_here; (with_reducible show wpAny _ _ (call (Value.builtin "chr") [Value.int (Builtin.bitOr (Builtin.bitAnd _ 127) 32 + 32) _]) _ _ _); refine chr_of_range (Mine.or32_lo _) (Mine.or32_hi _) ?_))
local macro_rules | `(tactic| walk_at "KCtEl") => `(tactic| ((refine kct_el ?kce (by with_unfolding_all rfl) (by with_unfolding_all rfl)); (case kce => (first
  | exact s_del1 (by assumption) (by assumption)
  | exact s_del (by assumption)
  | exact s_bang (by assumption) (by assumption) (w_plain (by assumption) (by assumption))
  | exact s_bare (by assumption) (by assumption) (w_plain (by assumption) (by assumption))
  | exact s_bang (by assumption) (by assumption) (w_ctl (by assumption))
  | exact s_bare (by assumption) (by assumption) (w_ctl (by assumption))
  | exact s_bang (by assumption) (by assumption) (w_rest (by assumption))
  | exact s_bare (by assumption) (by assumption) (w_rest (by assumption))
  | exact s_bangL (by assumption) (by assumption) (w_caps (by assumption))
  | exact s_bareL (by assumption) (by assumption) (w_caps (by assumption))
  | exact s_bangL (by assumption) (by assumption) (w_plainL (by assumption) (by assumption))
  | exact s_bareL (by assumption) (by assumption) (w_plainL (by assumption) (by assumption))
  | exact s_bangL (by assumption) (by assumption) (w_restL (by assumption))
  | exact s_bareL (by assumption) (by assumption) (w_restL (by assumption))))))
local macro_rules | `(tactic| walk_at "compareOp Eq ref ref") => `(tactic| (k_here; (with_reducible show wpAny _ _ (compareOp CmpOp.Eq (Value.ref _) (Value.ref _)) _ _ _); k_dflt (refine eq_texts (by is_list) (by is_list) (by assumption) (by assumption) (by ke_room) ?_)))
set_option maxHeartbeats 8000000 in
theorem PySem.Challenge.cw_dm0036_02_holds : PySem.Challenge.rw_dm0036_02.Holds := by
  open_k
