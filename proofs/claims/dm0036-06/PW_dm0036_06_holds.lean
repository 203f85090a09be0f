import PyProof.Rows.All
import Wide.All
import OpenK.AllK
import Wide.FinOn
import PySem.Challenge.RW_dm0036_06
open PySem PySem.W PyProof.Rows
set_option Elab.async false
set_option maxRecDepth 100000
namespace Mine
def word (n : Int) : PySem.Str := if n % 128 < 32 then PySem.Str.mk #[94, (n % 128 + 64).toNat] else if n % 128 < 127 then PySem.Str.mk #[(n % 128).toNat] else PySem.Str.mk #[94, 159]
def shown (n : Int) : PySem.Str := if n = 127 then PySem.Str.mk #[94, 63] else if 128 ≤ n % 256 then PySem.Str.ofString "!" ++ word n else word n

theorem band7 (k : Int) : Builtin.bitAnd k 127 = k % 128 := bitAnd_m7 k
theorem band_bit (k : Int) : Builtin.bitAnd k 128 = (k / 128 % 2) * 128 := kbt_bit k 7
theorem band_ne (k : Int) (h : Builtin.bitAnd k 128 ≠ 0) : 128 ≤ k % 256 := by rw [band_bit] at h; omega
theorem band_eq (k : Int) (h : Builtin.bitAnd k 128 = 0) : ¬ 128 ≤ k % 256 := by rw [band_bit] at h; omega
theorem or32_fin : ∀ x : Fin 128, Builtin.bitOr ((x : Nat) : Int) 32 + 32 = if x.val < 32 then ((x : Nat) : Int) + 64 else if x.val < 64 then (x : Nat) + 32 else if x.val < 96 then (x : Nat) + 64 else (x : Nat) + 32 := by decide +kernel
theorem or32 (k : Int) : Builtin.bitOr (k % 128) 32 + 32 = if k % 128 < 32 then k % 128 + 64 else if k % 128 < 64 then k % 128 + 32 else if k % 128 < 96 then k % 128 + 64 else k % 128 + 32 := by
  have h := or32_fin ⟨(k % 128).toNat, by omega⟩
  have e : ((k % 128).toNat : Int) = k % 128 := by omega
  simp only [e] at h
  rw [h]
  split <;> split <;> (try split) <;> (try split) <;> (try split) <;> omega
theorem or32_lo (k : Int) : 0 ≤ Builtin.bitOr (Builtin.bitAnd k 127) 32 + 32 := by rw [band7, or32]; split <;> (try split) <;> (try split) <;> omega
theorem or32_hi (k : Int) : Builtin.bitOr (Builtin.bitAnd k 127) 32 + 32 ≤ 1114111 := by rw [band7, or32]; split <;> (try split) <;> (try split) <;> omega

theorem mk_append (a b : Array Nat) : PySem.Str.mk a ++ PySem.Str.mk b = PySem.Str.mk (a ++ b) := rfl
theorem lit_caret : PySem.Str.ofString "^" = PySem.Str.mk #[94] := by decide +kernel
theorem lit_bang : PySem.Str.ofString "!" = PySem.Str.mk #[33] := by decide +kernel
theorem lit_del : PySem.Str.ofString "^?" = PySem.Str.mk #[94, 63] := by decide +kernel
theorem lit_rest : PySem.Str.ofString "^\u009f" = PySem.Str.mk #[94, 159] := by decide +kernel

-- the ways of unctrl
theorem w_plain {k : Int} (h1 : 32 ≤ Builtin.bitAnd k 127) (h2 : Builtin.bitAnd k 127 ≤ 126) : word k = PySem.Str.mk #[(Builtin.bitAnd k 127).toNat] := by
  rw [band7] at *; unfold word; rw [if_neg (by omega), if_pos (by omega)]
theorem w_ctl {k : Int} (h1 : ¬ 32 ≤ Builtin.bitAnd k 127) : word k = PySem.Str.ofString "^" ++ PySem.Str.mk #[(Builtin.bitOr (Builtin.bitAnd k 127) 32 + 32).toNat] := by
  rw [band7] at *; unfold word; rw [if_pos (by omega), lit_caret, or32, if_pos (by omega)]; rfl
theorem w_rest {k : Int} (h2 : ¬ Builtin.bitAnd k 127 ≤ 126) : word k = PySem.Str.ofString "^" ++ PySem.Str.mk #[(Builtin.bitOr (Builtin.bitAnd k 127) 32 + 32).toNat] := by
  rw [band7] at *; unfold word; rw [if_neg (by omega), if_neg (by omega), lit_caret, or32, if_neg (by omega), if_neg (by omega), if_neg (by omega)]
  have : k % 128 = 127 := by omega
  rw [this]; rfl
theorem s_del1 {k : Int} {x : PySem.Str} (h : k = 127) (hb : Builtin.bitAnd k 128 ≠ 0) : shown k = x := by subst h; exact absurd (by decide +kernel) hb
theorem s_del {k : Int} (h : k = 127) : shown k = PySem.Str.ofString "^?" := by unfold shown; rw [if_pos h, lit_del]
theorem s_bang {k : Int} {x : PySem.Str} (h : k ≠ 127) (hb : Builtin.bitAnd k 128 ≠ 0) (hx : word k = x) : shown k = PySem.Str.ofString "!" ++ x := by
  unfold shown; rw [if_neg h, if_pos (band_ne k hb), hx]
theorem s_bare {k : Int} {x : PySem.Str} (h : k ≠ 127) (hb : Builtin.bitAnd k 128 = 0) (hx : word k = x) : shown k = x := by
  unfold shown; rw [if_neg h, if_neg (band_eq k hb), hx]
-- the ways of the law's own reading
theorem fm (k : Int) : k.fmod 128 = k % 128 := Int.fmod_eq_emod_of_nonneg k (by decide)
theorem fm2 (k : Int) : k.fmod 256 = k % 256 := Int.fmod_eq_emod_of_nonneg k (by decide)
theorem s_bangL {k : Int} {x : PySem.Str} (h : k ≠ 127) (hb : 128 ≤ k.fmod 256) (hx : word k = x) : shown k = PySem.Str.ofString "!" ++ x := by
  rw [fm2] at hb; unfold shown; rw [if_neg h, if_pos hb, hx]
theorem s_bareL {k : Int} {x : PySem.Str} (h : k ≠ 127) (hb : ¬ 128 ≤ k.fmod 256) (hx : word k = x) : shown k = x := by
  rw [fm2] at hb; unfold shown; rw [if_neg h, if_neg hb, hx]
theorem caps_fin : ∀ x : Fin 32, Txt.item (PySem.Str.ofString "@ABCDEFGHIJKLMNOPQRSTUVWXYZ[\\]^_") ((x : Nat) : Int) = PySem.Str.mk #[x.val + 64] := by decide +kernel
theorem plain_fin : ∀ x : Fin 95, Txt.item (PySem.Str.ofString " !\"#$%&'()*+,-./0123456789:;<=>?@ABCDEFGHIJKLMNOPQRSTUVWXYZ[\\]^_`abcdefghijklmnopqrstuvwxyz{|}~") ((x : Nat) : Int) = PySem.Str.mk #[x.val + 32] := by decide +kernel
theorem w_caps {k : Int} (h : k.fmod 128 < 32) : word k = PySem.Str.ofString "^" ++ Txt.item (PySem.Str.ofString "@ABCDEFGHIJKLMNOPQRSTUVWXYZ[\\]^_") (k.fmod 128) := by
  rw [fm] at *
  have q := caps_fin ⟨(k % 128).toNat, by omega⟩
  have e : ((k % 128).toNat : Int) = k % 128 := by omega
  simp only [e] at q
  rw [q, lit_caret, mk_append]; unfold word; rw [if_pos h]
  have : (k % 128 + 64).toNat = (k % 128).toNat + 64 := by omega
  rw [this]; rfl
theorem w_plainL {k : Int} (h : ¬ k.fmod 128 < 32) (h2 : k.fmod 128 < 127) : word k = Txt.item (PySem.Str.ofString " !\"#$%&'()*+,-./0123456789:;<=>?@ABCDEFGHIJKLMNOPQRSTUVWXYZ[\\]^_`abcdefghijklmnopqrstuvwxyz{|}~") (k.fmod 128 - 32) := by
  rw [fm] at *
  have q := plain_fin ⟨(k % 128 - 32).toNat, by omega⟩
  have e : ((k % 128 - 32).toNat : Int) = k % 128 - 32 := by omega
  simp only [e] at q
  rw [q]; unfold word; rw [if_neg h, if_pos h2]
  have : (k % 128 - 32).toNat + 32 = (k % 128).toNat := by omega
  rw [this]
theorem w_restL {k : Int} (h2 : ¬ k.fmod 128 < 127) : word k = PySem.Str.ofString "^\u009f" := by
  rw [fm] at *; unfold word; rw [if_neg (by omega), if_neg (by omega), lit_rest]

theorem word_ok (k : Int) : PyData.strOk (word k) = true := by
  unfold word
  split
  · simp [PyData.strOk]; omega
  · split
    · simp [PyData.strOk]; omega
    · decide +kernel
theorem ok_append (x y : PySem.Str) : PyData.strOk (x ++ y) = (PyData.strOk x && PyData.strOk y) := by
  have : x ++ y = PySem.Str.mk (x.cps ++ y.cps) := rfl
  simp only [this, PyData.strOk, Array.all_append]
theorem shown_ok (k : Int) : PyData.strOk (shown k) = true := by
  unfold shown
  split
  · decide +kernel
  · split
    · rw [ok_append, word_ok, lit_bang]; decide +kernel
    · exact word_ok k
-- two lists of the same texts are equal
theorem eqv_strs {α : Type} (g : α → PySem.Str) : ∀ ks : List α, PyData.eqvAll (ks.map fun k => PyData.str (g k)) (ks.map fun k => PyData.str (g k)) = true
  | [] => by simp [PyData.eqvAll]
  | k :: r => by simp only [List.map_cons, PyData.eqvAll, PyData.eqv, eqv_strs g r, beq_self_eq_true, Bool.and_self]
theorem lay_strs {α : Type} (g : α → PySem.Str) (hg : ∀ k, PyData.strOk (g k) = true) : ∀ ks : List α, PyData.canLayAll0 (ks.map fun k => PyData.str (g k)) = true
  | [] => by simp [PyData.canLayAll0]
  | k :: r => by simp [PyData.canLayAll0, PyData.canLay0, hg k, lay_strs g hg r]
theorem dep_strs {α : Type} (g : α → PySem.Str) : ∀ ks : List α, PyData.depthAll (ks.map fun k => PyData.str (g k)) = 0
  | [] => by simp [PyData.depthAll]
  | k :: r => by simp [PyData.depthAll, PyData.depth, dep_strs g r]
theorem eq_texts {prog : Program} {w : World} {A : Around} {E : Value → Shared → Prop} {s : Shared} {a b : Addr} {xs ys : List Value} {ks : List Int} {Q : Value → Shared → Prop}
    (ha : s.heap.IsList a xs.toArray) (hb : s.heap.IsList b ys.toArray) (hx : CarriedAll xs (ks.map fun k => PyData.str (shown k))) (hy : CarriedAll ys (ks.map fun k => PyData.str (shown k))) (hu : A.units + 64 < cLine) (h : Q (.bool true) s) :
    wpAny (model prog w) A (compareOp .Eq (.ref a) (.ref b)) Q E s := by
  have sh : SeqAt.shaped (.list (ks.map fun k => PyData.str (shown k))) = true := by
    simp [SeqAt.shaped, PyData.canLay0, PyData.depth, lay_strs shown shown_ok, dep_strs]
  refine eq_dataH (reads_newData ha hx) (reads_newData hb hy) sh sh hu ?_
  simp only [PyData.eqv, eqv_strs]
  exact h
end Mine

namespace Mine
def shownS (x : PySem.Str) : PySem.Str := shown ((x.cps.getD 0 0 : Nat) : Int)
inductive Readable : PySem.Str → Prop
  | del (c : Nat) (h1 : c = 63) : Readable (PySem.Str.mk #[94, c])
  | rest (c : Nat) (h1 : c = 159) : Readable (PySem.Str.mk #[94, c])
  | brest (c : Nat) (h1 : c = 159) : Readable (PySem.Str.mk #[33, 94, c])
  | plain (c : Nat) (h1 : 32 ≤ c) (h2 : c ≤ 126) : Readable (PySem.Str.mk #[c])
  | bplain (c : Nat) (h1 : 32 ≤ c) (h2 : c ≤ 126) : Readable (PySem.Str.mk #[33, c])
  | ctl (c : Nat) (h1 : 64 ≤ c) (h2 : c ≤ 95) : Readable (PySem.Str.mk #[94, c])
  | bctl (c : Nat) (h1 : 64 ≤ c) (h2 : c ≤ 95) : Readable (PySem.Str.mk #[33, 94, c])
def readL : List Nat → Nat
  | [c] => c
  | [a, c] => if a = 33 then c + 128 else if c = 63 then 127 else if c = 159 then 127 else c - 64
  | [_, _, c] => if c = 159 then 255 else c + 64
  | _ => 0
def readS (x : PySem.Str) : PySem.Str := PySem.Str.mk #[readL x.cps.toList]
theorem word_readable (k : Int) : Readable (word k) := by
  unfold word
  split
  · exact .ctl _ (by omega) (by omega)
  · split
    · exact .plain _ (by omega) (by omega)
    · exact .rest 159 rfl
theorem bang_readable {k : Int} : Readable (PySem.Str.ofString "!" ++ word k) := by
  rw [lit_bang]
  unfold word
  split
  · exact .bctl (k % 128 + 64).toNat (by omega) (by omega)
  · split
    · exact .bplain (k % 128).toNat (by omega) (by omega)
    · exact .brest 159 rfl
theorem shown_readable (k : Int) : Readable (shown k) := by
  unfold shown
  split
  · exact .del 63 rfl
  · split
    · exact bang_readable
    · exact word_readable k
theorem shownS_readable (x : PySem.Str) : Readable (shownS x) := shown_readable _
def backOf (n : Int) : List (PySem.Str × Bool) := [(PySem.Str.mk #[(n % 256).toNat], decide (n = 127)), (PySem.Str.mk #[(n % 256).toNat], decide (n % 55296 = 127))]
def tupD (p : PySem.Str × Bool) : Dat := Dat.tuple [Dat.str p.1, Dat.bool p.2]
def tupP (p : PySem.Str × Bool) : PyData := PyData.tuple [PyData.str p.1, PyData.bool p.2]
def rows (ns : List Int) : List Dat := (ns.flatMap backOf).map tupD
theorem rows_nil : rows [] = [] := rfl
theorem rows_snoc (ns : List Int) (n : Int) : rows (ns ++ [n]) = rows ns ++ (backOf n).map tupD := by
  simp [rows]
theorem rows_len (ns : List Int) : (rows ns).length = 2 * ns.length := by
  induction ns with
  | nil => rfl
  | cons n r ih => simp only [rows, List.flatMap_cons, List.map_append, List.length_append, List.length_cons] at *; simp only [ih, backOf, List.map_cons, List.map_nil, List.length_cons, List.length_nil]; omega
section
variable {h₀ h : Heap} {L : Addr} {news : List (Addr × Obj)}
theorem reads_row (N : News h₀ L h news) {v : Value} {p : PySem.Str × Bool} (D : DatIn news v (tupD p)) : ∃ as, Reads h v (tupP p) as := by
  unfold tupD at D
  cases D with
  | tuple hm r =>
    cases r with
    | cons d1 r =>
      cases r with
      | cons d2 r =>
        cases r
        cases d1; cases d2
        exact ⟨_, reads_tuple_at (N.get hm) rfl rfl (ReadsAll.cons (Reads.str _ _) (ReadsAll.cons (Reads.bool _) ReadsAll.nil))⟩
theorem reads_rows (N : News h₀ L h news) : ∀ {vs : List Value} {ps : List (PySem.Str × Bool)}, DatAll news vs (ps.map tupD) → ∃ as, ReadsAll h vs (ps.map tupP) as
  | _, [], D => by cases D; exact ⟨_, ReadsAll.nil⟩
  | _, p :: ps, D => by
    rw [List.map_cons] at D
    cases D with
    | cons d r =>
      obtain ⟨as, q⟩ := reads_row N d
      obtain ⟨bs, t⟩ := reads_rows N r
      exact ⟨_, ReadsAll.cons q t⟩
end
theorem eqv_rows : ∀ ps : List (PySem.Str × Bool), PyData.eqvAll (ps.map tupP) (ps.map tupP) = true
  | [] => by simp [PyData.eqvAll]
  | p :: r => by simp [PyData.eqvAll, tupP, PyData.eqv, eqv_rows r]
theorem lay_rows : ∀ ps : List (PySem.Str × Bool), (∀ p ∈ ps, PyData.strOk p.1 = true) → PyData.canLayAll0 (ps.map tupP) = true
  | [], _ => by simp [PyData.canLayAll0]
  | p :: r, h => by simp [PyData.canLayAll0, tupP, PyData.canLay0, h p (.head _), lay_rows r fun q hq => h q (.tail _ hq)]
theorem dep_rows : ∀ ps : List (PySem.Str × Bool), PyData.depthAll (ps.map tupP) ≤ 1
  | [] => by simp [PyData.depthAll]
  | p :: r => by
    have := dep_rows r
    simp only [List.map_cons, PyData.depthAll, tupP, PyData.depth]
    omega
theorem rows_ok (ns : List Int) : ∀ p ∈ ns.flatMap backOf, PyData.strOk p.1 = true := by
  intro p hp
  obtain ⟨n, _, hn⟩ := List.mem_flatMap.mp hp
  simp only [backOf, List.mem_cons, List.not_mem_nil, or_false] at hn
  rcases hn with rfl | rfl <;> (simp [PyData.strOk]; omega)
theorem eq_rows {prog : Program} {w : World} {A : Around} {E : Value → Shared → Prop} {s : Shared} {h₀ : Heap} {L a b : Addr} {news n₁ n₂ : List (Addr × Obj)} {oa ob : Obj} {xs ys : List Value} {ka kb : Nat} {ds es : List Dat} {ns : List Int} {Q : Value → Shared → Prop}
    (N : News h₀ L s.heap news) (ma : (a, oa) ∈ news) (ca : oa.cls = .type "list") (da : oa.data = .seq xs.toArray ka) (Da : DatAll n₁ xs ds) (sa : ∀ p ∈ n₁, p ∈ news)
    (mb : (b, ob) ∈ news) (cb : ob.cls = .type "list") (db : ob.data = .seq ys.toArray kb) (Db : DatAll n₂ ys es) (sb : ∀ p ∈ n₂, p ∈ news)
    (e1 : ds = rows ns) (e2 : es = rows ns) (hu : A.units + 64 < cLine) (h : Q (.bool true) s) : wpAny (model prog w) A (compareOp .Eq (.ref a) (.ref b)) Q E s := by
  subst e1; subst e2
  obtain ⟨as, ra⟩ := reads_rows N (Da.mono sa)
  obtain ⟨bs, rb⟩ := reads_rows N (Db.mono sb)
  have sh : SeqAt.shaped (.list ((ns.flatMap backOf).map tupP)) = true := by
    have := dep_rows (ns.flatMap backOf)
    unfold SeqAt.shaped
    simp only [PyData.canLay0, PyData.depth, lay_rows _ (rows_ok ns), Bool.true_and]
    exact decide_eq_true (by omega)
  refine eq_dataH (reads_list_at (N.get ma) ca da (by simpa using ra)) (reads_list_at (N.get mb) cb db (by simpa using rb)) sh sh hu ?_
  simp only [PyData.eqv, eqv_rows]
  exact h
theorem end_turn {h₀ : Heap} {L I : Addr} {o : Obj} {q : Addr × Obj} {r : List (Addr × Obj)} {rest : (PySem.Str → Option Value) → List (Addr × Obj) → Prop} {s₁ : Shared} {h' : Heap} {tk : Nat} {m' : PySem.Str → Option Value}
    (F : Fr h₀ L h' m') (N : News h₀ L h' (q :: (I, o) :: r)) (hq : q.1 ≠ I) (hr : ∀ p ∈ r, p.1 ≠ I) (go : rest m' (q :: r)) : UnrEndW h₀ L s₁ [(I, o)] rest { s₁ with heap := h', toks := tk } := by
  refine ⟨h', tk, m', q :: r, rfl, F, fun p hp => N p ?_, fun p hp x hx => ?_, go⟩
  · simp only [List.cons_append, List.nil_append, List.mem_cons] at hp ⊢
    rcases hp with h | h | h
    · exact .inr (.inl h)
    · exact .inl h
    · exact .inr (.inr h)
  · rw [List.mem_singleton.mp hx]
    rcases List.mem_cons.mp hp with h | h
    · rw [h]; exact hq
    · exact hr p h
theorem allLt_ne {d : Nat} : ∀ {l : List (Addr × Obj)}, AllLt d l → ∀ p ∈ l, p.1 ≠ d
  | [], _, _, hp => nomatch hp
  | _ :: _, h, p, hp => by
    rcases List.mem_cons.mp hp with e | hp
    · subst e; exact Nat.ne_of_lt h.1
    · exact allLt_ne h.2 p hp

section
variable {prog : Program} {w : World} {A : Around} {E : Value → Shared → Prop} {s : Shared} {t u : Tok} {Q : Value → Shared → Prop} {value slice : PySem.Expr} {a b c : Nat}
theorem q_tt {x y : PySem.Str} (e : (x.cps.toList == y.cps.toList) = true) (h : Q (.bool true) s) : wpAny (model prog w) A (compareOp .Eq (.str x t) (.str y u)) Q E s := P.eq_str (by rw [e]; exact h)
theorem q_ff {x y : PySem.Str} (e : (x.cps.toList == y.cps.toList) = false) (h : Q (.bool false) s) : wpAny (model prog w) A (compareOp .Eq (.str x t) (.str y u)) Q E s := P.eq_str (by rw [e]; exact h)
theorem q_del (h1 : c = 63) (h : Q (.bool true) s) : wpAny (model prog w) A (compareOp .Eq (.str (PySem.Str.mk #[94, c]) t) (.str (PySem.Str.ofString "^?") u)) Q E s := q_tt (by subst h1; rw [lit_del]; rfl) h
theorem q_ctl (h1 : 64 ≤ c) (h : Q (.bool false) s) : wpAny (model prog w) A (compareOp .Eq (.str (PySem.Str.mk #[94, c]) t) (.str (PySem.Str.ofString "^?") u)) Q E s := q_ff (by rw [lit_del]; simp; omega) h
theorem q_rest (h1 : c = 159) (h : Q (.bool false) s) : wpAny (model prog w) A (compareOp .Eq (.str (PySem.Str.mk #[94, c]) t) (.str (PySem.Str.ofString "^?") u)) Q E s := q_ff (by subst h1; rw [lit_del]; rfl) h
theorem q_bplain (h : Q (.bool false) s) : wpAny (model prog w) A (compareOp .Eq (.str (PySem.Str.mk #[33, c]) t) (.str (PySem.Str.ofString "^?") u)) Q E s := q_ff (by rw [lit_del]; simp) h
theorem q_three (h : Q (.bool false) s) : wpAny (model prog w) A (compareOp .Eq (.str (PySem.Str.mk #[a, b, c]) t) (.str (PySem.Str.ofString "^?") u)) Q E s := q_ff (by rw [lit_del]; simp) h
theorem q_one (h : Q (.bool false) s) : wpAny (model prog w) A (compareOp .Eq (.str (PySem.Str.mk #[c]) t) (.str (PySem.Str.ofString "^?") u)) Q E s := q_ff (by rw [lit_del]; simp) h
theorem q_bang (h : Q (.bool true) s) : wpAny (model prog w) A (compareOp .Eq (.str (PySem.Str.mk #[33]) t) (.str (PySem.Str.ofString "!") u)) Q E s := q_tt (by rw [lit_bang]; rfl) h
theorem q_nobang (h : Q (.bool false) s) : wpAny (model prog w) A (compareOp .Eq (.str (PySem.Str.mk #[94]) t) (.str (PySem.Str.ofString "!") u)) Q E s := q_ff (by rw [lit_bang]; rfl) h
theorem q_caret (h : Q (.bool true) s) : wpAny (model prog w) A (compareOp .Eq (.str (PySem.Str.mk #[94]) t) (.str (PySem.Str.ofString "^") u)) Q E s := q_tt (by rw [lit_caret]; rfl) h
theorem q_is159 (h1 : c = 159) (h : Q (.bool true) s) : wpAny (model prog w) A (compareOp .Eq (.str (PySem.Str.mk #[94, c]) t) (.str (PySem.Str.ofString "^\u009f") u)) Q E s := q_tt (by subst h1; rw [lit_rest]; rfl) h
theorem q_no159 (h : Q (.bool false) s) : wpAny (model prog w) A (compareOp .Eq (.str (PySem.Str.mk #[c]) t) (.str (PySem.Str.ofString "^\u009f") u)) Q E s := q_ff (by rw [lit_rest]; simp) h
theorem len_1 (h : Q (.int 1 (s.toks + 1)) { s with toks := s.toks + 1 + 1 }) : wpAny (model prog w) A (call (.builtin "len") [.str (PySem.Str.mk #[a]) t]) Q E s := P.len_str (x := PySem.Str.mk #[a]) (by show ¬ (((1 : Nat) : Int) ≥ 2 ^ 63); decide) h
theorem len_2 (h : Q (.int 2 (s.toks + 1)) { s with toks := s.toks + 1 + 1 }) : wpAny (model prog w) A (call (.builtin "len") [.str (PySem.Str.mk #[a, b]) t]) Q E s := P.len_str (x := PySem.Str.mk #[a, b]) (by show ¬ (((2 : Nat) : Int) ≥ 2 ^ 63); decide) h
theorem len_3 (h : Q (.int 3 (s.toks + 1)) { s with toks := s.toks + 1 + 1 }) : wpAny (model prog w) A (call (.builtin "len") [.str (PySem.Str.mk #[a, b, c]) t]) Q E s := P.len_str (x := PySem.Str.mk #[a, b, c]) (by show ¬ (((3 : Nat) : Int) ≥ 2 ^ 63); decide) h
theorem it_20 (h : Q (.str (PySem.Str.mk #[a]) s.toks) { s with toks := s.toks + 1 })
    (hs : subscripted slice false (.str (PySem.Str.mk #[a, b]) t) (.int 0 u) = operate [.str (PySem.Str.mk #[a, b]) t, .int 0 u] (getItem (.str (PySem.Str.mk #[a, b]) t) (.int 0 u)))
    (ht : ∀ r, letTemporaryGo value (.str (PySem.Str.mk #[a, b]) t) r = pure ()) :
    wpAny (model prog w) A (subscriptTail value slice (.str (PySem.Str.mk #[a, b]) t) (.int 0 u)) Q E s :=
  item_str (x := PySem.Str.mk #[a, b]) (by decide) (by show -((2 : Nat) : Int) ≤ _; decide) (by show _ < ((2 : Nat) : Int); decide) (fun _ => h) hs ht
theorem it_21 (h : Q (.str (PySem.Str.mk #[b]) s.toks) { s with toks := s.toks + 1 })
    (hs : subscripted slice false (.str (PySem.Str.mk #[a, b]) t) (.int 1 u) = operate [.str (PySem.Str.mk #[a, b]) t, .int 1 u] (getItem (.str (PySem.Str.mk #[a, b]) t) (.int 1 u)))
    (ht : ∀ r, letTemporaryGo value (.str (PySem.Str.mk #[a, b]) t) r = pure ()) :
    wpAny (model prog w) A (subscriptTail value slice (.str (PySem.Str.mk #[a, b]) t) (.int 1 u)) Q E s :=
  item_str (x := PySem.Str.mk #[a, b]) (by decide) (by show -((2 : Nat) : Int) ≤ _; decide) (by show _ < ((2 : Nat) : Int); decide) (fun _ => h) hs ht
theorem it_30 (h : Q (.str (PySem.Str.mk #[a]) s.toks) { s with toks := s.toks + 1 })
    (hs : subscripted slice false (.str (PySem.Str.mk #[a, b, c]) t) (.int 0 u) = operate [.str (PySem.Str.mk #[a, b, c]) t, .int 0 u] (getItem (.str (PySem.Str.mk #[a, b, c]) t) (.int 0 u)))
    (ht : ∀ r, letTemporaryGo value (.str (PySem.Str.mk #[a, b, c]) t) r = pure ()) :
    wpAny (model prog w) A (subscriptTail value slice (.str (PySem.Str.mk #[a, b, c]) t) (.int 0 u)) Q E s :=
  item_str (x := PySem.Str.mk #[a, b, c]) (by decide) (by show -((3 : Nat) : Int) ≤ _; decide) (by show _ < ((3 : Nat) : Int); decide) (fun _ => h) hs ht
theorem sl_2 (a b : Nat) : Txt.slice (PySem.Str.mk #[a, b]) (some 1) none = PySem.Str.mk #[b] := by
  have e : Builtin.Str.strSliceIndices (some 1) none 1 2 = [1] := by decide +kernel
  have l : (PySem.Str.mk #[a, b]).length = 2 := rfl
  unfold Txt.slice; rw [l, e]; rfl
theorem sl_3 (a b c : Nat) : Txt.slice (PySem.Str.mk #[a, b, c]) (some 1) none = PySem.Str.mk #[b, c] := by
  have e : Builtin.Str.strSliceIndices (some 1) none 1 3 = [1, 2] := by decide +kernel
  have l : (PySem.Str.mk #[a, b, c]).length = 3 := rfl
  unfold Txt.slice; rw [l, e]; rfl
theorem in_caps_fin : ∀ x : Fin 32, (!(Builtin.Str.occurrences (PySem.Str.ofString "@ABCDEFGHIJKLMNOPQRSTUVWXYZ[\\]^_") (PySem.Str.mk #[x.val + 64]) 0 (PySem.Str.ofString "@ABCDEFGHIJKLMNOPQRSTUVWXYZ[\\]^_").length 1).isEmpty) = true := by decide +kernel
theorem in_plain_fin : ∀ x : Fin 95, (!(Builtin.Str.occurrences (PySem.Str.ofString " !\"#$%&'()*+,-./0123456789:;<=>?@ABCDEFGHIJKLMNOPQRSTUVWXYZ[\\]^_`abcdefghijklmnopqrstuvwxyz{|}~") (PySem.Str.mk #[x.val + 32]) 0 (PySem.Str.ofString " !\"#$%&'()*+,-./0123456789:;<=>?@ABCDEFGHIJKLMNOPQRSTUVWXYZ[\\]^_`abcdefghijklmnopqrstuvwxyz{|}~").length 1).isEmpty) = true := by decide +kernel
theorem in_caps (h1 : 64 ≤ c) (h2 : c ≤ 95) (h : Q (.bool true) s) : wpAny (model prog w) A (compareOp .In (.str (PySem.Str.mk #[c]) u) (.str (PySem.Str.ofString "@ABCDEFGHIJKLMNOPQRSTUVWXYZ[\\]^_") t)) Q E s := by
  have q := in_caps_fin ⟨c - 64, by omega⟩
  have e : c - 64 + 64 = c := by omega
  simp only [e] at q
  exact P.in_str (by rw [q]; exact h)
theorem in_caps159 (h1 : c = 159) (h : Q (.bool false) s) : wpAny (model prog w) A (compareOp .In (.str (PySem.Str.mk #[c]) u) (.str (PySem.Str.ofString "@ABCDEFGHIJKLMNOPQRSTUVWXYZ[\\]^_") t)) Q E s := by
  have q : (!(Builtin.Str.occurrences (PySem.Str.ofString "@ABCDEFGHIJKLMNOPQRSTUVWXYZ[\\]^_") (PySem.Str.mk #[159]) 0 (PySem.Str.ofString "@ABCDEFGHIJKLMNOPQRSTUVWXYZ[\\]^_").length 1).isEmpty) = false := by decide +kernel
  subst h1
  exact P.in_str (by rw [q]; exact h)
theorem in_plain (h1 : 32 ≤ c) (h2 : c ≤ 126) (h : Q (.bool true) s) : wpAny (model prog w) A (compareOp .In (.str (PySem.Str.mk #[c]) u) (.str (PySem.Str.ofString " !\"#$%&'()*+,-./0123456789:;<=>?@ABCDEFGHIJKLMNOPQRSTUVWXYZ[\\]^_`abcdefghijklmnopqrstuvwxyz{|}~") t)) Q E s := by
  have q := in_plain_fin ⟨c - 32, by omega⟩
  have e : c - 32 + 32 = c := by omega
  simp only [e] at q
  exact P.in_str (by rw [q]; exact h)
theorem lit_7f : PySem.Str.ofString "\u007f" = PySem.Str.mk #[127] := by decide +kernel
theorem ord_7f (h : Q (.int (127 : Nat) s.toks) { s with toks := s.toks + 1 }) : wpAny (model prog w) A (call (.builtin "ord") [.str (PySem.Str.ofString "\u007f") t]) Q E s := by
  rw [lit_7f]; exact P.ord_of_char h
end
theorem or128_fin : ∀ x : Fin 128, Builtin.bitOr ((x.val : Nat) : Int) 128 = ((x.val + 128 : Nat) : Int) := by decide +kernel
theorem or128 {c : Nat} (h : c ≤ 127) : Builtin.bitOr ((c : Nat) : Int) 128 = ((c + 128 : Nat) : Int) := or128_fin ⟨c, by omega⟩
theorem and31 (c : Nat) : Builtin.bitAnd ((c : Nat) : Int) 31 = ((c % 32 : Nat) : Int) := by rw [bitAnd_m5]; omega
theorem and31_le (c : Nat) : (Builtin.bitAnd ((c : Nat) : Int) 31).toNat ≤ 127 := by rw [and31]; omega
theorem or128_lo {c : Nat} (h : c ≤ 127) : 0 ≤ Builtin.bitOr ((c : Nat) : Int) 128 := by rw [or128 h]; omega
theorem or128_hi {c : Nat} (h : c ≤ 127) : Builtin.bitOr ((c : Nat) : Int) 128 ≤ 1114111 := by rw [or128 h]; omega
theorem and31_lo (c : Nat) : 0 ≤ Builtin.bitAnd ((c : Nat) : Int) 31 := by rw [and31]; omega
theorem and31_hi (c : Nat) : Builtin.bitAnd ((c : Nat) : Int) 31 ≤ 1114111 := by rw [and31]; omega
theorem r_del {c : Nat} (h : c = 63) : PySem.Str.ofString "\u007f" = readS (PySem.Str.mk #[94, c]) := by subst h; decide +kernel
theorem r_rest {c : Nat} (h : c = 159) : PySem.Str.ofString "\u007f" = readS (PySem.Str.mk #[94, c]) := by subst h; decide +kernel
theorem r_brest {c : Nat} (h : c = 159) : PySem.Str.mk #[(Builtin.bitOr ((127 : Nat) : Int) 128).toNat] = readS (PySem.Str.mk #[33, 94, c]) := by subst h; decide +kernel
theorem r_plain {c : Nat} : PySem.Str.mk #[c] = readS (PySem.Str.mk #[c]) := rfl
theorem r_bplain {c : Nat} (h : c ≤ 126) : PySem.Str.mk #[(Builtin.bitOr ((c : Nat) : Int) 128).toNat] = readS (PySem.Str.mk #[33, c]) := by
  rw [or128 (by omega), Int.toNat_natCast]; rfl
theorem r_ctl {c : Nat} (h1 : 64 ≤ c) (h2 : c ≤ 95) : PySem.Str.mk #[(Builtin.bitAnd ((c : Nat) : Int) 31).toNat] = readS (PySem.Str.mk #[94, c]) := by
  rw [and31]; simp only [readS, readL, Int.toNat_natCast]
  rw [if_neg (by decide), if_neg (by omega), if_neg (by omega)]
  have : c % 32 = c - 64 := by omega
  rw [this]
theorem r_bctl {c : Nat} (h1 : 64 ≤ c) (h2 : c ≤ 95) : PySem.Str.mk #[(Builtin.bitOr (((Builtin.bitAnd ((c : Nat) : Int) 31).toNat : Nat) : Int) 128).toNat] = readS (PySem.Str.mk #[33, 94, c]) := by
  rw [or128 (and31_le c), and31]; simp only [readS, readL, Int.toNat_natCast]
  rw [if_neg (by omega)]
  have : c % 32 + 128 = c + 64 := by omega
  rw [this]
theorem st_nil : ([] : List Dat) = rows [] ∧ ([] : List Dat) = rows [] ∧ ([] : List Dat).length = 2 * ([] : List Int).length ∧ ([] : List Dat).length = 2 * ([] : List Int).length := ⟨rfl, rfl, rfl, rfl⟩
theorem allLt_ne4 {P1 P2 P3 P4 : Prop} {d : Nat} {l : List (Addr × Obj)} (h : P1 ∧ P2 ∧ P3 ∧ P4 ∧ AllLt d l) : ∀ p ∈ l, p.1 ≠ d := allLt_ne h.2.2.2.2
theorem rs_one (c : Nat) : readS (PySem.Str.mk #[c]) = PySem.Str.mk #[c] := rfl
theorem rs_bone (c : Nat) : readS (PySem.Str.mk #[33] ++ PySem.Str.mk #[c]) = PySem.Str.mk #[c + 128] := rfl
theorem rs_two (c : Nat) (h1 : c ≠ 63) (h2 : c ≠ 159) : readS (PySem.Str.mk #[94, c]) = PySem.Str.mk #[c - 64] := by
  simp only [readS, readL]; rw [if_neg (by decide), if_neg h1, if_neg h2]
theorem rs_btwo (c : Nat) (h2 : c ≠ 159) : readS (PySem.Str.mk #[33] ++ PySem.Str.mk #[94, c]) = PySem.Str.mk #[c + 64] := by
  have e : PySem.Str.mk #[33] ++ PySem.Str.mk #[94, c] = PySem.Str.mk #[33, 94, c] := rfl
  rw [e]; simp only [readS, readL]; rw [if_neg h2]
theorem rs_rest : readS (PySem.Str.mk #[94, 159]) = PySem.Str.mk #[127] := by decide +kernel
theorem rs_brest : readS (PySem.Str.mk #[33] ++ PySem.Str.mk #[94, 159]) = PySem.Str.mk #[255] := by decide +kernel
theorem rs_del : readS (PySem.Str.mk #[94, 63]) = PySem.Str.mk #[127] := by decide +kernel
theorem mk1 {a b : Nat} (h : a = b) : PySem.Str.mk #[a] = PySem.Str.mk #[b] := by rw [h]
theorem readS_shown (k : Int) : readS (shown k) = PySem.Str.mk #[(k % 256).toNat] := by
  unfold shown word
  split
  · rename_i h; rw [rs_del]; exact mk1 (by omega)
  · split
    · rw [lit_bang]
      split
      · rw [rs_btwo _ (by omega)]; exact mk1 (by omega)
      · split
        · rw [rs_bone]; exact mk1 (by omega)
        · rw [rs_brest]; exact mk1 (by omega)
    · split
      · rw [rs_two _ (by omega) (by omega)]; exact mk1 (by omega)
      · split
        · rw [rs_one]; exact mk1 (by omega)
        · rw [rs_rest]; exact mk1 (by omega)
theorem shown_ne {k : Int} (h : k ≠ 127) : shown k ≠ PySem.Str.mk #[94, 63] := by
  unfold shown word
  rw [if_neg h, lit_bang]
  intro e
  have q := congrArg (fun x => x.cps.toList) e
  revert q
  split
  · split
    · show [33, 94, _] = [94, 63] → False; simp
    · split
      · show [33, _] = [94, 63] → False; simp
      · show [33, 94, 159] = [94, 63] → False; simp
  · split
    · show [94, (k % 128 + 64).toNat] = [94, 63] → False
      intro q; simp at q; omega
    · split
      · show [_] = [94, 63] → False; simp
      · show [94, 159] = [94, 63] → False; simp
theorem shown_del (k : Int) : (shown k == PySem.Str.ofString "^?") = decide (k = 127) := by
  rw [lit_del]
  by_cases h : k = 127
  · subst h; unfold shown; rw [if_pos rfl]; simp
  · rw [decide_eq_false h]; exact Bool.eq_false_iff.mpr fun q => shown_ne h (by simpa using q)
theorem shownS_code (k : Int) : shownS (PySem.Str.mk #[(k.fmod 55296).toNat]) = shown (k % 55296) := by
  have e : k.fmod 55296 = k % 55296 := Int.fmod_eq_emod_of_nonneg k (by decide)
  unfold shownS
  show shown ((((k.fmod 55296).toNat : Nat)) : Int) = _
  rw [e]
  congr 1
  omega
theorem st_turn (pre : List Int) (k : Int) :
    rows pre ++ [Dat.tuple [Dat.str (readS (shown k)), Dat.bool (shown k == PySem.Str.ofString "^?")], Dat.tuple [Dat.str (readS (shownS (PySem.Str.mk #[(k.fmod 55296).toNat]))), Dat.bool (shownS (PySem.Str.mk #[(k.fmod 55296).toNat]) == PySem.Str.ofString "^?")]] = rows (pre ++ [k]) ∧
    rows pre ++ [Dat.tuple [Dat.str (PySem.Str.mk #[(k.fmod 256).toNat]), Dat.bool (k == 127)], Dat.tuple [Dat.str (PySem.Str.mk #[((k.fmod 55296).fmod 256).toNat]), Dat.bool (k.fmod 55296 == 127)]] = rows (pre ++ [k]) ∧
    (rows pre ++ [Dat.tuple [Dat.str (readS (shown k)), Dat.bool (shown k == PySem.Str.ofString "^?")], Dat.tuple [Dat.str (readS (shownS (PySem.Str.mk #[(k.fmod 55296).toNat]))), Dat.bool (shownS (PySem.Str.mk #[(k.fmod 55296).toNat]) == PySem.Str.ofString "^?")]]).length = 2 * (pre ++ [k]).length ∧
    (rows pre ++ [Dat.tuple [Dat.str (PySem.Str.mk #[(k.fmod 256).toNat]), Dat.bool (k == 127)], Dat.tuple [Dat.str (PySem.Str.mk #[((k.fmod 55296).fmod 256).toNat]), Dat.bool (k.fmod 55296 == 127)]]).length = 2 * (pre ++ [k]).length := by
  have e : k.fmod 55296 = k % 55296 := Int.fmod_eq_emod_of_nonneg k (by decide)
  have e2 : k.fmod 256 = k % 256 := Int.fmod_eq_emod_of_nonneg k (by decide)
  have e3 : (k % 55296).fmod 256 = k % 256 := by rw [Int.fmod_eq_emod_of_nonneg _ (by decide)]; omega
  have e4 : k % 55296 % 256 = k % 256 := by omega
  have b1 : (k == 127) = decide (k = 127) := by by_cases h : k = 127 <;> simp [h]
  have b2 : (k % 55296 == 127) = decide (k % 55296 = 127) := by by_cases h : k % 55296 = 127 <;> simp [h]
  have A : rows pre ++ [Dat.tuple [Dat.str (readS (shown k)), Dat.bool (shown k == PySem.Str.ofString "^?")], Dat.tuple [Dat.str (readS (shownS (PySem.Str.mk #[(k.fmod 55296).toNat]))), Dat.bool (shownS (PySem.Str.mk #[(k.fmod 55296).toNat]) == PySem.Str.ofString "^?")]] = rows (pre ++ [k]) := by
    rw [rows_snoc, readS_shown, shownS_code, readS_shown, shown_del, shown_del, e4]; rfl
  have B : rows pre ++ [Dat.tuple [Dat.str (PySem.Str.mk #[(k.fmod 256).toNat]), Dat.bool (k == 127)], Dat.tuple [Dat.str (PySem.Str.mk #[((k.fmod 55296).fmod 256).toNat]), Dat.bool (k.fmod 55296 == 127)]] = rows (pre ++ [k]) := by
    rw [rows_snoc, e, e2, e3, b1, b2]; rfl
  refine ⟨A, B, ?_, ?_⟩
  · rw [A, rows_len]
  · rw [B, rows_len]
end Mine

open Mine
local macro_rules | `(tactic| k_room) => `(tactic| ktr_room)
local macro_rules | `(tactic| trivial) => `(tactic| exact Mine.shown_readable _)
local macro_rules | `(tactic| trivial) => `(tactic| exact Mine.shownS_readable _)
local macro_rules | `(tactic| walk_at "execs cons") => `(tactic| (k_here; (with_reducible rename (Mine.Readable _ ∧ _) => hR); (obtain ⟨hR, hZ⟩ := hR); cases hR))
local macro_rules | `(tactic| walk_at "compareOp Eq ref ref") => `(tactic| (k_here; (with_reducible show wpAny _ _ (compareOp CmpOp.Eq (Value.ref _) (Value.ref _)) _ _ _); k_dflt (refine' eq_rows ?N ?a ?b ?c ?d ?e ?f ?g ?i ?j ?k ?l ?m ?n ?_; (case N => k_asm); (case a => k_mem); (case b => rfl); (case c => rfl); (case d => with_reducible assumption); (case e => kqd_sub); (case f => k_mem); (case g => rfl); (case i => rfl); (case j => with_reducible assumption); (case k => kqd_sub); (case l => first | rfl | assumption); (case m => first | rfl | assumption); (case n => ke_room); k_whole)))
local macro_rules | `(tactic| walk_at "pyIter ref") => `(tactic| (k_here; (with_reducible show wpAny _ _ (pyIter (Value.ref _)) (fun it s₂ => TurnsAt _ _ _ _ _ _ _ _ _ it s₂) _ _); (rename Fr _ _ _ _ => lF'); (rename News _ _ _ _ => lN'); (with_unfolding_all refine iter_tupTurns (by rfl) lF' lN' (by k_mem) (by rfl) (by rfl) ?_); clear lF' lN'; intro i' l1; (try k_lt l1)))
local macro_rules | `(tactic| walk_at "UnrEndW") => `(tactic| ((rename Fr _ _ _ _ => lF'); (rename News _ _ _ _ => lN'); ((with_unfolding_all refine end_turn lF' lN' ?q1 ?q2 ?_)); (case q1 => (k_ne)); (case q2 => (((repeat (refine List.forall_mem_cons.mpr ⟨by k_ne, ?_⟩)); exact allLt_ne4 (by assumption)))); ((refine ⟨by k_subL, ?_⟩)); clear lF' lN'))
local macro_rules | `(tactic| walk_at "compareOp Eq str str") => `(tactic| (k_here; with_reducible first | refine q_del (by assumption) ?_ | refine q_rest (by assumption) ?_ | refine q_ctl (by assumption) ?_ | refine q_bplain ?_ | refine q_three ?_ | refine q_one ?_ | refine q_bang ?_ | refine q_nobang ?_ | refine q_caret ?_ | refine q_is159 (by assumption) ?_ | refine q_no159 ?_))
local macro_rules | `(tactic| walk_at "call builtin:len") => `(tactic| (k_here; with_reducible first | refine len_1 ?_ | refine len_2 ?_ | refine len_3 ?_))
local macro_rules | `(tactic| walk_at "subscriptTail Name Constant str int") => `(tactic| (k_here; with_reducible first | refine it_20 ?_ (by with_unfolding_all rfl) (by intro _; with_unfolding_all rfl) | refine it_21 ?_ (by with_unfolding_all rfl) (by intro _; with_unfolding_all rfl) | refine it_30 ?_ (by with_unfolding_all rfl) (by intro _; with_unfolding_all rfl)))
local macro_rules | `(tactic| walk_at "subscriptTail Name Slice str ref") => `(tactic| (k_here; (with_reducible show wpAny _ _ (subscriptTail _ (Expr.Slice (some _) none none _) _ _) _ _ _); (with_reducible rename Fr _ _ _ _ => F'); (with_reducible rename News _ _ _ _ => N'); (refine slice_strN_sn (hsz := ?hsz) (s := ⟨_, _, _, _, _⟩) F' N' ?_); (case hsz => exact Nat.le_of_ble_eq_true rfl); intro _ _ _ _ _; first | rw [sl_2] | rw [sl_3]))
local macro_rules | `(tactic| walk_at "compareOp In str str") => `(tactic| (k_here; with_reducible first | refine in_caps159 (by assumption) ?_ | refine in_caps (by assumption) (by assumption) ?_ | refine in_plain (by assumption) (by assumption) ?_))
local macro_rules | `(tactic| walk_at "call builtin:ord") => `(tactic| (k_here; with_reducible refine ord_7f ?_))
local macro_rules | `(tactic| walk_at "call builtin:chr") => `(tactic| (k_here; (with_reducible show wpAny _ _ (call (Value.builtin "chr") [Value.int (Builtin.bitOr _ 128) _]) _ _ _); first
  | refine chr_of_range (Mine.or128_lo (Mine.and31_le _)) (Mine.or128_hi (Mine.and31_le _)) ?_
  | refine chr_of_range (Mine.or128_lo (by first | assumption | omega)) (Mine.or128_hi (by first | assumption | omega)) ?_))
local macro_rules | `(tactic| walk_at "call builtin:chr") => `(tactic| (k_here; (with_reducible show wpAny _ _ (call (Value.builtin "chr") [Value.int (Builtin.bitAnd _ 31) _]) _ _ _); refine chr_of_range (Mine.and31_lo _) (Mine.and31_hi _) ?_))
local macro_rules | `(tactic| walk_at "call builtin:chr") => `(tactic| (k_here; (with_reducible show wpAny _ _ (call (Value.builtin "chr") [Value.int (Builtin.bitOr (Builtin.bitAnd _ 127) 32 + 32) _]) _ _ _); refine chr_of_range (Mine.or32_lo _) (Mine.or32_hi _) ?_))
set_option maxHeartbeats 8000000 in
theorem PySem.Challenge.cw_dm0036_06_holds : PySem.Challenge.rw_dm0036_06.Holds := by
  k_with "pyIter ref" => (k_of "n" => k_dat (fun pre back due => back = rows pre ∧ due = rows pre ∧ back.length = 2 * pre.length ∧ due.length = 2 * pre.length) "back*" "due*")
  k_with "state" => (first | exact st_nil | exact st_turn _ _)
  k_with "tree" => (first
  | exact (s_del1 (by assumption) (by assumption)).symm
  | exact (s_del (by assumption)).symm
  | exact (s_bang (by assumption) (by assumption) (w_plain (by assumption) (by assumption))).symm
  | exact (s_bare (by assumption) (by assumption) (w_plain (by assumption) (by assumption))).symm
  | exact (s_bang (by assumption) (by assumption) (w_ctl (by assumption))).symm
  | exact (s_bare (by assumption) (by assumption) (w_ctl (by assumption))).symm
  | exact (s_bang (by assumption) (by assumption) (w_rest (by assumption))).symm
  | exact (s_bare (by assumption) (by assumption) (w_rest (by assumption))).symm
  | exact r_del (by assumption) | exact r_rest (by assumption) | exact r_brest (by assumption) | exact r_plain | exact r_bplain (by assumption) | exact r_ctl (by assumption) (by assumption) | exact r_bctl (by assumption) (by assumption))
  k_with "call ref" => k_call_rec "_law_read" Mine.readS Mine.Readable (fun _ => 5)
  k_with "call ref" => ((rename CbC 49 _ _ => hcb); clear hcb; k_call_rec "unctrl" Mine.shownS (fun x => x.length = 1) (fun _ => 5))
  k_with "call ref" => k_call_rec "unctrl" Mine.shown (fun _ => True) (fun _ => 5)
  open_k
