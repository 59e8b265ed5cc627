import PyProof.Rows.All
import Wide.All
import OpenK.AllK
import Wide.FinOn
import KE.KIntText
import Lean
import PySem.Challenge.RW_to0016_01
open PySem PySem.W PyProof.Rows PySem.Calls
set_option Elab.async false
set_option maxRecDepth 100000
set_option linter.unusedVariables false
set_option maxHeartbeats 8000000
set_option compiler.extract_closed false
namespace Mine
set_option synthInstance.maxSize 1 in
open_top hd for PySem.Challenge.rw_to0016_01.row
end Mine
theorem Mine.wsaid : OpenRow.wellSaid (PySem.Challenge.rw_to0016_01.row) = true := by decide +kernel
theorem Mine.said : PySem.Challenge.rw_to0016_01.wellSaid = true := by
  unfold OpenLaw.wellSaid
  rw [Mine.wsaid]
  kernel_rfl
theorem Mine.tw : PySem.Challenge.rw_to0016_01.row.prog.tablesWhole = true := by decide +kernel
namespace Mine
section
variable {prog : Program} {w : World} {A : Around} {E : Value → Shared → Prop} {s : Shared} {h₀ : Heap} {L : Addr} {m : Str → Option Value} {news : List (Addr × Obj)}
theorem max3_ {a b c : Int} {t u x : Tok} {Q : Value → Shared → Prop} (F : Fr h₀ L s.heap m) (N : News h₀ L s.heap news) (hh : A.handled = none)
    (h : ∀ tk h' tk', Fr h₀ L h' m → News h₀ L h' news → Q (.int (max (max a b) c) tk) { s with heap := h', toks := tk' }) :
    wpAny (model prog w) A (call (.builtin "max") [.int a t, .int b u, .int c x]) Q E s := by
  refine max_three_ints hh fun h' tk hk => ?_
  have key := fun tok => h tok h' tk (F.kept hk) (N.grown hk)
  split
  · split
    · rw [show max (max a b) c = c by omega] at key; exact key _
    · rw [show max (max a b) c = b by omega] at key; exact key _
  · split
    · rw [show max (max a b) c = c by omega] at key; exact key _
    · rw [show max (max a b) c = a by omega] at key; exact key _
theorem min3_ {a b c : Int} {t u x : Tok} {Q : Value → Shared → Prop} (F : Fr h₀ L s.heap m) (N : News h₀ L s.heap news) (hh : A.handled = none)
    (h : ∀ tk h' tk', Fr h₀ L h' m → News h₀ L h' news → Q (.int (min (min a b) c) tk) { s with heap := h', toks := tk' }) :
    wpAny (model prog w) A (call (.builtin "min") [.int a t, .int b u, .int c x]) Q E s := by
  refine min_three_ints hh fun h' tk hk => ?_
  have key := fun tok => h tok h' tk (F.kept hk) (N.grown hk)
  split
  · split
    · rw [show min (min a b) c = c by omega] at key; exact key _
    · rw [show min (min a b) c = b by omega] at key; exact key _
  · split
    · rw [show min (min a b) c = c by omega] at key; exact key _
    · rw [show min (min a b) c = a by omega] at key; exact key _
end
end Mine
local macro_rules | `(tactic| walk_at "call builtin:max") => `(tactic| (k_here; (with_reducible show wpAny _ _ (call (Value.builtin "max") [Value.int _ _, Value.int _ _, Value.int _ _]) _ _ _); (refine' Mine.max3_ ?k1 ?k2 ?k3 ?_; (case k1 => k_asm); (case k2 => k_asm); (case k3 => with_unfolding_all rfl)); intro _ h' _ F' N'; (try k_sweep)))
local macro_rules | `(tactic| walk_at "call builtin:min") => `(tactic| (k_here; (with_reducible show wpAny _ _ (call (Value.builtin "min") [Value.int _ _, Value.int _ _, Value.int _ _]) _ _ _); (refine' Mine.min3_ ?k1 ?k2 ?k3 ?_; (case k1 => k_asm); (case k2 => k_asm); (case k3 => with_unfolding_all rfl)); intro _ h' _ F' N'; (try k_sweep)))
namespace Mine
/-- int / int -/
noncomputable def idiv (x y : Int) : UInt64 := Float64.ofFrac (decide (x < 0) != decide (y < 0)) x.natAbs y.natAbs
noncomputable def hueF (r g b : Int) : UInt64 :=
  if min (min r g) b = max (max r g) b then 0
  else if r = max (max r g) b then (Float64.divmod (Float64.div (Float64.sub (idiv (max (max r g) b - b) (max (max r g) b - min (min r g) b)) (idiv (max (max r g) b - g) (max (max r g) b - min (min r g) b))) 4618441417868443648) 4607182418800017408).2
  else if g = max (max r g) b then (Float64.divmod (Float64.div (Float64.sub (Float64.add 4611686018427387904 (idiv (max (max r g) b - r) (max (max r g) b - min (min r g) b))) (idiv (max (max r g) b - b) (max (max r g) b - min (min r g) b))) 4618441417868443648) 4607182418800017408).2
  else (Float64.divmod (Float64.div (Float64.sub (Float64.add 4616189618054758400 (idiv (max (max r g) b - g) (max (max r g) b - min (min r g) b))) (idiv (max (max r g) b - r) (max (max r g) b - min (min r g) b))) 4618441417868443648) 4607182418800017408).2
noncomputable def satF (r g b : Int) : UInt64 :=
  if min (min r g) b = max (max r g) b then 0 else idiv (max (max r g) b - min (min r g) b) (max (max r g) b)
noncomputable def maxI (r g b : Int) : Int := max (max r g) b
section
variable {h₀ : Heap} {L : Addr} {m : Str → Option Value} {news : List (Addr × Obj)} {s : Shared} {Q : Value → Shared → Prop}
theorem rgb_end {r g b z : Int} {x y : UInt64} {D : Addr} {ta tb tc : Tok} {h' : Heap} {tk' : Nat}
    (hret : ∀ (D : Addr) (ta tb tc : Tok) (h' : Heap) (tk' : Nat), Fr h₀ L h' m → News h₀ L h' ((D, { cls := .type "tuple", data := .seq #[.float (hueF r g b) ta, .float (satF r g b) tb, .int (maxI r g b) tc] }) :: news) → (∀ p ∈ news, p.1 < D) → Q (.ref D) { s with heap := h', toks := tk' })
    (F : Fr h₀ L h' m) (N : News h₀ L h' ((D, { cls := .type "tuple", data := .seq #[.float x ta, .float y tb, .int z tc] }) :: news)) (l : ∀ p ∈ news, p.1 < D) (ex : x = hueF r g b) (ey : y = satF r g b) (ez : z = maxI r g b) :
    Q (.ref D) { s with heap := h', toks := tk' } := by
  subst ex ey ez
  exact hret D ta tb tc h' tk' F N l
end
end Mine
namespace Mine
/-- an int or a float, without its token -/
inductive PV where
  | i (n : Int)
  | f (x : UInt64)
inductive Kin : PV → Value → Prop
  | i (n : Int) (t : Tok) : Kin (.i n) (.int n t)
  | f (x : UInt64) (t : Tok) : Kin (.f x) (.float x t)
noncomputable def secI (x : UInt64) : Int := Flt.toInt Float64.truncOf (Float64.mul x 4618441417868443648)
noncomputable def fracF (x : UInt64) : UInt64 := Float64.sub (Float64.mul x 4618441417868443648) (Float64.ofInt (secI x))
noncomputable def pF (y : UInt64) (v : Int) : UInt64 := Float64.mul (Float64.ofInt v) (Float64.sub 4607182418800017408 y)
noncomputable def qF (x y : UInt64) (v : Int) : UInt64 := Float64.mul (Float64.ofInt v) (Float64.sub 4607182418800017408 (Float64.mul y (fracF x)))
noncomputable def tF (x y : UInt64) (v : Int) : UInt64 := Float64.mul (Float64.ofInt v) (Float64.sub 4607182418800017408 (Float64.mul y (Float64.sub 4607182418800017408 (fracF x))))
noncomputable def hsvL (x y : UInt64) (v : Int) : PV × PV × PV :=
  if (Float64.cmp y 0 == some Ordering.eq) = true then (.i v, .i v, .i v)
  else if (secI x).fmod 6 = 0 then (.i v, .f (tF x y v), .f (pF y v))
  else if (secI x).fmod 6 = 1 then (.f (qF x y v), .i v, .f (pF y v))
  else if (secI x).fmod 6 = 2 then (.f (pF y v), .i v, .f (tF x y v))
  else if (secI x).fmod 6 = 3 then (.f (pF y v), .f (qF x y v), .i v)
  else if (secI x).fmod 6 = 4 then (.f (tF x y v), .f (pF y v), .i v)
  else (.i v, .f (pF y v), .f (qF x y v))
section
variable {h₀ : Heap} {L : Addr} {m : Str → Option Value} {news : List (Addr × Obj)} {s : Shared} {Q : Value → Shared → Prop}
theorem hsv_end {x y : UInt64} {v : Int} {va vb vc : Value} {pa pb pc : PV} {D : Addr} {h' : Heap} {tk' : Nat}
    (hret : ∀ (D : Addr) (va vb vc : Value) (h' : Heap) (tk' : Nat), Mine.Kin (Mine.hsvL x y v).1 va → Mine.Kin (Mine.hsvL x y v).2.1 vb → Mine.Kin (Mine.hsvL x y v).2.2 vc → Fr h₀ L h' m →
      News h₀ L h' ((D, { cls := .type "tuple", data := .seq #[va, vb, vc] }) :: news) → (∀ p ∈ news, p.1 < D) → Q (.ref D) { s with heap := h', toks := tk' })
    (F : Fr h₀ L h' m) (N : News h₀ L h' ((D, { cls := .type "tuple", data := .seq #[va, vb, vc] }) :: news)) (l : ∀ p ∈ news, p.1 < D)
    (e : hsvL x y v = (pa, pb, pc)) (ka : Kin pa va) (kb : Kin pb vb) (kc : Kin pc vc) :
    Q (.ref D) { s with heap := h', toks := tk' } := by
  refine hret D va vb vc h' tk' ?_ ?_ ?_ F N l <;> rw [e] <;> assumption
theorem big_no {n : Nat} {P : Prop} (h : n < 100) (g : 2 ^ 1024 - 2 ^ 970 ≤ n) : P := by
  have : 100 ≤ 2 ^ 1024 - 2 ^ 970 := by decide +kernel
  exact absurd (Nat.lt_of_lt_of_le h (Nat.le_trans this g)) (Nat.lt_irrefl _)
theorem fmod6 (k : Int) : k.fmod 6 = 0 ∨ k.fmod 6 = 1 ∨ k.fmod 6 = 2 ∨ k.fmod 6 = 3 ∨ k.fmod 6 = 4 ∨ k.fmod 6 = 5 := by
  rw [Int.fmod_eq_emod_of_nonneg _ (by decide)]; omega
end
end Mine
namespace Mine
noncomputable abbrev SS (x : String) : Str := Str.ofString x
/-- what the walk of parse229 asks of a good reply x whose port is n -/
structure Good229 (x : Str) (n : Int) : Prop where
  len : x.length ≤ 100
  code : (Txt.slice x none (some 3) != Str.ofString "229") = false
  left : 0 ≤ Txt.find x (Str.ofString "(")
  left2 : Txt.find x (Str.ofString "(") + 1 < (x.length : Int)
  right : 0 < Txt.find3 x (Str.ofString ")") (Txt.find x (Str.ofString "(") + 1)
  right2 : Txt.find3 x (Str.ofString ")") (Txt.find x (Str.ofString "(") + 1) - 1 < (x.length : Int)
  mark : (Txt.item x (Txt.find x (Str.ofString "(") + 1) != Txt.item x (Txt.find3 x (Str.ofString ")") (Txt.find x (Str.ofString "(") + 1) - 1)) = false
  five : (Txt.split (Txt.slice x (some (Txt.find x (Str.ofString "(") + 1)) (some (Txt.find3 x (Str.ofString ")") (Txt.find x (Str.ofString "(") + 1)))) (Txt.item x (Txt.find x (Str.ofString "(") + 1))).length = 5
  text : PySem.intText? ((Txt.split (Txt.slice x (some (Txt.find x (Str.ofString "(") + 1)) (some (Txt.find3 x (Str.ofString ")") (Txt.find x (Str.ofString "(") + 1)))) (Txt.item x (Txt.find x (Str.ofString "(") + 1))).getD 3 Str.empty) = some n
  short : ((Txt.split (Txt.slice x (some (Txt.find x (Str.ofString "(") + 1)) (some (Txt.find3 x (Str.ofString ")") (Txt.find x (Str.ofString "(") + 1)))) (Txt.item x (Txt.find x (Str.ofString "(") + 1))).getD 3 Str.empty).length ≤ 640
theorem map_len5 {l : List (Str × Tok)} {sp : List Str} (e : List.map (fun x => x.1) l = sp) (h : sp.length = 5) (g : (l.length : Int) ≠ 5) : False := by
  subst e
  rw [List.length_map] at h
  omega
section
variable {prog : Program} {w : World} {A : Around} {E : Value → Shared → Prop} {s : Shared} {h₀ : Heap} {L : Addr} {m : Str → Option Value} {news : List (Addr × Obj)} {Q : Value → Shared → Prop}
theorem int_part {x : Str} {l : List (Str × Tok)} {y : Str} {t : Tok} {n : Int} (G : Good229 x n)
    (e : List.map (fun x => x.1) l = Txt.split (Txt.slice x (some (Txt.find x (Str.ofString "(") + 1)) (some (Txt.find3 x (Str.ofString ")") (Txt.find x (Str.ofString "(") + 1)))) (Txt.item x (Txt.find x (Str.ofString "(") + 1)))
    (hy : (List.map (fun x => x.1) l)[Int.toNat 3]? = some y) (h : Q (.int n s.toks) { s with toks := s.toks + 1 }) :
    wpAny (model prog w) A (call (.type "int") [.str y t]) Q E s := by
  have hn := G.text
  have hl := G.short
  rw [← e] at hn hl
  have : (List.map (fun x => x.1) l).getD 3 Str.empty = y := by
    rw [List.getD_eq_getElem?_getD]
    rw [show (3 : Nat) = Int.toNat 3 from rfl, hy]
    rfl
  rw [this] at hn hl
  exact KIN.call_text hn hl h
theorem five_no {x : Str} {n : Int} {P : Prop} {l : List (Str × Tok)} (G : Good229 x n)
    (e : List.map (fun x => x.1) l = Txt.split (Txt.slice x (some (Txt.find x (Str.ofString "(") + 1)) (some (Txt.find3 x (Str.ofString ")") (Txt.find x (Str.ofString "(") + 1)))) (Txt.item x (Txt.find x (Str.ofString "(") + 1)))
    (g : (l.length : Int) ≠ 5) : P := (map_len5 e G.five g).elim
theorem p229_end {n : Int} {D : Addr} {pr q : Addr × Obj} {ta tb : Tok} {h' : Heap} {tk' : Nat}
    (hret : ∀ (D : Addr) (ta tb : Tok) (h' : Heap) (tk' : Nat), Fr h₀ L h' m → News h₀ L h' ((D, { cls := .type "tuple", data := .seq #[.str (Str.ofString "peer") ta, .int n tb] }) :: pr :: news) → AllLt D (pr :: news) → Q (.ref D) { s with heap := h', toks := tk' })
    (F : Fr h₀ L h' m) (N : News h₀ L h' ((D, { cls := .type "tuple", data := .seq #[.str (Str.ofString "peer") ta, .int n tb] }) :: q :: pr :: news)) (l : q.1 < D ∧ pr.1 < D ∧ AllLt D news) :
    Q (.ref D) { s with heap := h', toks := tk' } :=
  hret D ta tb h' tk' F (fun p hp => N p (by rcases List.mem_cons.mp hp with rfl | hp; exact .head _; exact .tail _ (.tail _ hp))) l.2
end
end Mine
namespace Mine
noncomputable def p257go (x : Str) : Nat → Int → Str → Str
  | 0, _, d => d
  | k + 1, i, d =>
    if i < (x.length : Int) then
      if (Txt.item x i == Str.ofString "\"") = true then
        if (x.length : Int) ≤ i + 1 then d
        else if (Txt.item x (i + 1) != Str.ofString "\"") = true then d
        else p257go x k (i + 1 + 1) (d ++ Txt.item x i)
      else p257go x k (i + 1) (d ++ Txt.item x i)
    else d
@[irreducible] noncomputable def P257 (x r : Str) (i : Int) (d : Str) : Prop := 5 ≤ i ∧ (d.length : Int) ≤ 4 * i ∧ ∃ k : Nat, (x.length : Int) - i ≤ k ∧ p257go x k i d = r
section
variable {x r d : Str} {i : Int}
theorem p257_and (h : P257 x r i d) : 5 ≤ i ∧ (d.length : Int) ≤ 4 * i ∧ P257 x r i d := by
  have q := h
  unfold P257 at q
  exact ⟨q.1, q.2.1, h⟩
theorem p257_start (h : p257go x x.length 5 (Str.ofString "") = r) : P257 x r 5 (Str.ofString "") := by
  unfold P257
  exact ⟨by omega, by rw [show (Str.ofString "").length = 0 from by decide +kernel]; omega, x.length, by omega, h⟩
theorem p257_skip (h : P257 x r i d) (hi : i < (x.length : Int)) (hc : (Txt.item x i == Str.ofString "\"") = false) (hl : (Txt.item x i).length ≤ 1) : P257 x r (i + 1) (d ++ Txt.item x i) := by
  unfold P257 at h ⊢
  obtain ⟨h5, hd, k, hk, e⟩ := h
  cases k with
  | zero => omega
  | succ k =>
    rw [p257go, if_pos hi, if_neg (by rw [hc]; exact Bool.false_ne_true)] at e
    exact ⟨by omega, by rw [Str.length_append]; omega, k, by omega, e⟩
theorem p257_two (h : P257 x r i d) (hi : i < (x.length : Int)) (hc : (Txt.item x i == Str.ofString "\"") = true) (hn : ¬ (x.length : Int) ≤ i + 1) (hc' : (Txt.item x (i + 1) != Str.ofString "\"") = false) (hl : (Txt.item x i).length ≤ 1) : P257 x r (i + 1 + 1) (d ++ Txt.item x i) := by
  unfold P257 at h ⊢
  obtain ⟨h5, hd, k, hk, e⟩ := h
  cases k with
  | zero => omega
  | succ k =>
    rw [p257go, if_pos hi, if_pos hc, if_neg hn, if_neg (by rw [hc']; exact Bool.false_ne_true)] at e
    exact ⟨by omega, by rw [Str.length_append]; omega, k, by omega, e⟩
theorem p257_done (h : P257 x r i d) (hi : ¬ i < (x.length : Int)) : d = r := by
  unfold P257 at h
  obtain ⟨h5, _, k, hk, e⟩ := h
  cases k with
  | zero => exact e
  | succ k => rw [p257go, if_neg hi] at e; exact e
theorem p257_last (h : P257 x r i d) (hi : i < (x.length : Int)) (hc : (Txt.item x i == Str.ofString "\"") = true) (hn : (x.length : Int) ≤ i + 1) : d = r := by
  unfold P257 at h
  obtain ⟨h5, _, k, hk, e⟩ := h
  cases k with
  | zero => omega
  | succ k => rw [p257go, if_pos hi, if_pos hc, if_pos hn] at e; exact e
theorem p257_brk (h : P257 x r i d) (hi : i < (x.length : Int)) (hc : (Txt.item x i == Str.ofString "\"") = true) (hn : ¬ (x.length : Int) ≤ i + 1) (hc' : (Txt.item x (i + 1) != Str.ofString "\"") = true) : d = r := by
  unfold P257 at h
  obtain ⟨h5, _, k, hk, e⟩ := h
  cases k with
  | zero => omega
  | succ k => rw [p257go, if_pos hi, if_pos hc, if_neg hn, if_pos hc'] at e; exact e
theorem p257_end {h₀ : Heap} {L : Addr} {m : Str → Option Value} {news : List (Addr × Obj)} {s : Shared} {Q : Value → Shared → Prop} {t : Tok} {h' : Heap} {tk' : Nat}
    (hret : ∀ (t : Tok) (h' : Heap) (tk' : Nat), Fr h₀ L h' m → News h₀ L h' news → Q (.str r t) { s with heap := h', toks := tk' }) (e : d = r) (F : Fr h₀ L h' m) (N : News h₀ L h' news) : Q (.str d t) { s with heap := h', toks := tk' } := by
  subst e
  exact hret t h' tk' F N
end
end Mine
namespace Mine
/-- q is the first place where x and y part -/
@[irreducible] noncomputable def PreAt (x y : Str) (q : Int) : Prop := (∀ j : Int, 0 ≤ j → j < q → (Txt.item x j == Txt.item y j) = true) ∧ (Txt.item x q == Txt.item y q) = false
/-- from behind: p - 1 is the last place where they part -/
@[irreducible] noncomputable def PostAt (x y : Str) (p : Int) : Prop := (∀ j : Int, p < j → j ≤ 0 → (Txt.item x (j - 1) == Txt.item y (j - 1)) = true) ∧ (Txt.item x (p - 1) == Txt.item y (p - 1)) = false
theorem pre_on {x y : Str} {q k : Int} (h : PreAt x y q) (hk : k ≤ q) (e : (Txt.item x k == Txt.item y k) = true) : k + 1 ≤ q := by
  unfold PreAt at h
  by_cases c : k = q
  · subst c; rw [h.2] at e; cases e
  · omega
theorem pre_out {x y : Str} {q k : Int} (h : PreAt x y q) (h0 : 0 ≤ k) (hk : k ≤ q) (e : (Txt.item x k == Txt.item y k) = false) : k = q := by
  unfold PreAt at h
  by_cases c : k = q
  · exact c
  · have := h.1 k h0 (by omega)
    rw [e] at this; cases this
theorem post_on {x y : Str} {p k : Int} (h : PostAt x y p) (hk : p ≤ k) (e : (Txt.item x (k - 1) == Txt.item y (k - 1)) = true) : p ≤ k - 1 := by
  unfold PostAt at h
  by_cases c : k = p
  · subst c; rw [h.2] at e; cases e
  · omega
theorem post_out {x y : Str} {p k : Int} (h : PostAt x y p) (h0 : k ≤ 0) (hk : p ≤ k) (e : (Txt.item x (k - 1) == Txt.item y (k - 1)) = false) : k = p := by
  unfold PostAt at h
  by_cases c : k = p
  · exact c
  · have := h.1 k (by omega) h0
    rw [e] at this; cases this
end Mine
namespace Mine
@[irreducible] noncomputable def cutTo (x : Str) (k : Int) : Str := if k = 0 then Txt.slice x none none else Txt.slice x none (some k)
@[irreducible] noncomputable def CutsOK (x y : Str) (p : Int) : Prop := ∀ k, p ≤ k → k ≤ 0 → (1 ≤ (cutTo x k).length ∧ (cutTo x k).length ≤ 5) ∧ (1 ≤ (cutTo y k).length ∧ (cutTo y k).length ≤ 5)
theorem cutA {x y : Str} {p k : Int} (h : CutsOK x y p) (h1 : p ≤ k) (h2 : k ≤ 0) : 1 ≤ (cutTo x k).length ∧ (cutTo x k).length ≤ 5 := by unfold CutsOK at h; exact (h k h1 h2).1
theorem cutB {x y : Str} {p k : Int} (h : CutsOK x y p) (h1 : p ≤ k) (h2 : k ≤ 0) : 1 ≤ (cutTo y k).length ∧ (cutTo y k).length ≤ 5 := by unfold CutsOK at h; exact (h k h1 h2).2
section
variable {prog : Program} {w : World} {A : Around} {E : Value → Shared → Prop} {s : Shared} {h₀ : Heap} {L a : Addr} {m : Str → Option Value} {news : List (Addr × Obj)} {name : Str} {scope : Scope} {cd : Value}
theorem cut_ {nm pn : Str} {p1 p2 p3 p4 p5 p6 : Pos} {k3 : Nat} {x : Str} {t u : Tok} {k : Int} {Q : Value → Shared → Prop} (F : Fr h₀ L s.heap m) (N : News h₀ L s.heap news) (ha : m nm = some (.str x t)) (hp : m pn = some (.int k u)) (hz : x.length ≤ sizeLine)
    (hc : 1 ≤ (cutTo x k).length ∧ (cutTo x k).length ≤ 5)
    (h : ∀ h' t' tk, Fr h₀ L h' m → News h₀ L h' news → 1 ≤ (cutTo x k).length ∧ (cutTo x k).length ≤ 5 → Q (.str (cutTo x k) t') { s with heap := h', toks := tk })
    (hk : scope.kind = .function := by rfl) (hl : (envOf name scope L a cd).kindOf nm = some .local := by rfl) (hl' : (envOf name scope L a cd).kindOf pn = some .local := by rfl)
    (hd : (nm == ("__debug__" : Str)) = false := by decide) (hd' : (pn == ("__debug__" : Str)) = false := by decide) :
    wpAny (model prog w) A (eval (.Subscript (.Name nm p1) (.Slice none (some (.BoolOp .Or [.Name pn p2, .Constant .none k3 p3] p4)) none p5) p6) (envOf name scope L a cd)) Q E s := by
  refine Subscript_ (ld F ha ?_ hk hl hd)
  refine wpAny_Slice (evalPart_none_step (evalPart_some_step (BoolOp_or (ld F hp (truthy_int ?_) hk hl' hd'))))
  by_cases h0 : k = 0
  · subst h0
    rw [if_neg (by decide)]
    refine BoolOp_one (Constant_none (evalPart_none_step ?_))
    refine slice_strN_nn F N (fun h' t' tk F' N' => ?_) (by with_unfolding_all rfl) (by intro _; with_unfolding_all rfl) hz
    have := h h' t' tk F' N' hc
    unfold cutTo at this
    rw [if_pos rfl] at this
    exact this
  · have hne : (k != 0) = true := by simpa using h0
    rw [hne, if_pos rfl]
    refine evalPart_none_step ?_
    refine slice_strN_ns F N (fun h' t' tk F' N' => ?_) (by with_unfolding_all rfl) (by intro _; with_unfolding_all rfl) hz
    have := h h' t' tk F' N' hc
    unfold cutTo at this
    rw [if_neg h0] at this
    exact this
end
end Mine
namespace Mine
@[irreducible] noncomputable def subC (c d : Str) : Int := if (c == d) = true then 0 else if (Txt.lower c == Txt.lower d) = true then 1 else 2
theorem sub_0 {c d : Str} (h : (c == d) = true) : 0 = subC c d := by unfold subC; rw [if_pos h]
theorem sub_1 {c d : Str} (h : (c == d) = false) (h' : (Txt.lower c == Txt.lower d) = true) : 1 = subC c d := by unfold subC; rw [if_neg (by rw [h]; exact Bool.false_ne_true), if_pos h']
theorem sub_2 {c d : Str} (h : (c == d) = false) (h' : (Txt.lower c == Txt.lower d) = false) : 2 = subC c d := by unfold subC; rw [if_neg (by rw [h]; exact Bool.false_ne_true), if_neg (by rw [h']; exact Bool.false_ne_true)]
theorem int_end {h₀ : Heap} {L : Addr} {m : Str → Option Value} {news : List (Addr × Obj)} {s : Shared} {Q : Value → Shared → Prop} {x y : Int} {t : Tok} {h' : Heap} {tk' : Nat}
    (hret : ∀ (t : Tok) (h' : Heap) (tk' : Nat), Fr h₀ L h' m → News h₀ L h' news → Q (.int x t) { s with heap := h', toks := tk' }) (F : Fr h₀ L h' m) (N : News h₀ L h' news) (e : y = x) : Q (.int y t) { s with heap := h', toks := tk' } := by
  subst e
  exact hret t h' tk' F N
noncomputable abbrev LSt := Int × Int × Int × List Int
@[irreducible] noncomputable def inStep (a bc : Str) (st : LSt) (i : Int) : LSt :=
  let d := st.2.2.2.getD i.toNat 0
  let q := (if d < st.2.1 then d else st.2.1) + 2
  let sub := st.1 + subC bc (Txt.item a i)
  let r := if sub < q then sub else q
  (d, r, if r < st.2.2.1 then r else st.2.2.1, st.2.2.2.set i.toNat r)
@[irreducible] noncomputable def inRun (a bc : Str) (st : LSt) (l : List Int) : LSt := l.foldl (inStep a bc) st
noncomputable def outGo (a b : Str) (v : Int) (n : Nat) : Nat → Int → List Int → Int → Int
  | 0, _, _, res => res
  | f + 1, bi, row, _ =>
    let st := inRun a (Txt.item b bi) (bi * 2, bi * 2, 9223372036854775807, row) (rangeKs 0 n)
    if v < st.2.2.1 then v + 1 else outGo a b v n f (bi + 1) st.2.2.2 st.2.1
theorem int_small {n : Nat} (h : 1 ≤ n ∧ n ≤ 5) : Builtin.Range.small 2 (2 * ((n : Int) + 1)) 2 = true ∧ Builtin.Range.rangeSize 2 (2 * ((n : Int) + 1)) 2 = (n : Int) := by
  obtain ⟨h1, h2⟩ := h
  have : n = 1 ∨ n = 2 ∨ n = 3 ∨ n = 4 ∨ n = 5 := by omega
  rcases this with rfl | rfl | rfl | rfl | rfl <;> decide +kernel
section
variable {prog : Program} {w : World} {A : Around} {E : Value → Shared → Prop} {s : Shared} {h₀ : Heap} {L : Addr} {m : Str → Option Value} {news : List (Addr × Obj)}
theorem rowList_ {r : Addr} {n : Nat} {t u v : Tok} {Q : Value → Shared → Prop} (hh : A.handled = none) (F : Fr h₀ L s.heap m) (N : News h₀ L s.heap news)
    (hr : IsRange s.heap r 2 (2 * ((n : Int) + 1)) 2 t u v) (hn : 1 ≤ n ∧ n ≤ 5)
    (h : ∀ S h' tk vs c', Fr h₀ L h' m → News h₀ L h' ((S, listOf vs.toArray c') :: news) → (∀ p ∈ news, p.1 < S) → IntsAre vs (rangeInts 2 2 n) → Q (.ref S) { s with heap := h', toks := tk }) :
    wpAny (model prog w) A (call (.type "list") [.ref r]) Q E s := by
  refine call_list_range hh hr (int_small hn).1 (int_small hn).2 (by omega) fun h' tk acc' c' hk hS' hacc => ?_
  refine h s.heap.objs.size h' tk acc'.toList c' (F.keeps hk) (fun p hp => ?_) (fun p hp => Heap.lt_size (N p hp).1) (IntsAre.ofCarried (carriedAll_of_get _ _ (by simp [hacc.1, rangeInts_length]) fun j v hv => ?_))
  · rcases List.mem_cons.mp hp with rfl | hp
    · refine ⟨by simpa using hS', Nat.ne_of_gt F.ns.lt, F.fresh⟩
    · exact ⟨hk _ _ (N p hp).1, (N p hp).2⟩
  · have hv' : acc'[j]? = some v := by simpa using hv
    obtain ⟨tk, rfl⟩ := hacc.2 j v hv'
    have hj : j < n := by
      have := (Array.getElem?_eq_some_iff.mp hv').1
      rw [hacc.1] at this; exact this
    exact ⟨.int (2 + (j : Nat) * 2), by simp [rangeInts_get hj], .int _ _⟩
end
end Mine
namespace Mine
@[irreducible] noncomputable def OutP (a b : Str) (v : Int) (n : Nat) (d : Int) (k : Nat) (row : List Int) (res : Int) : Prop := row.length = n ∧ k ≤ n ∧ outGo a b v n (n - k) (k : Int) row res = d
@[irreducible] noncomputable def InP (a bc : Str) (n : Nat) (row₀ : List Int) (d₀ : Int) (pre : List Int) (di re mn : Int) (row : List Int) : Prop :=
  row.length = n ∧ (di, re, mn, row) = inRun a bc (d₀, d₀, 9223372036854775807, row₀) pre
theorem out_start {x y a b : Str} {v d : Int} {n : Nat} (hA : x = a) (hB : y = b) (hd : outGo a b v n n 0 (rangeInts 2 2 n) 0 = d) : OutP x y v n d 0 (rangeInts 2 2 n) 0 := by
  subst hA hB
  unfold OutP
  exact ⟨rangeInts_length _ _ _, Nat.zero_le _, hd⟩
theorem out_len {a b : Str} {v d : Int} {n k : Nat} {row : List Int} {res : Int} (h : OutP a b v n d k row res) : row.length = n := by unfold OutP at h; exact h.1
theorem out_done {a b : Str} {v d : Int} {n k : Nat} {row : List Int} {res : Int} (h : OutP a b v n d k row res) (hk : k = n) : res = d := by
  unfold OutP at h
  obtain ⟨_, _, h⟩ := h
  subst hk
  rw [Nat.sub_self, outGo] at h
  exact h
theorem out_step {a b bc : Str} {v d bi di re mn : Int} {n k : Nat} {row₀ row : List Int} {res : Int} (h : OutP a b v n d k row₀ res) (hi : InP a bc n row₀ (bi * 2) (rangeKs 0 n) di re mn row) (hm : ¬ v < mn) (hk : k < n) (hb : bi = (k : Int)) (hbc : bc = Txt.item b bi) : OutP a b v n d (k + 1) row re := by
  unfold OutP at h ⊢
  unfold InP at hi
  obtain ⟨hl, hkn, h⟩ := h
  subst hb hbc
  refine ⟨hi.1, hk, ?_⟩
  obtain ⟨f, hf⟩ : ∃ f, n - k = f + 1 := ⟨n - k - 1, by omega⟩
  rw [hf, outGo, ← hi.2] at h
  dsimp only at h
  rw [if_neg hm] at h
  rw [show n - (k + 1) = f by omega, Int.natCast_add]
  exact h
theorem out_ret {a b bc : Str} {v d bi di re mn : Int} {n k : Nat} {row₀ row : List Int} {res : Int} (h : OutP a b v n d k row₀ res) (hi : InP a bc n row₀ (bi * 2) (rangeKs 0 n) di re mn row) (hm : v < mn) (hk : k < n) (hb : bi = (k : Int)) (hbc : bc = Txt.item b bi) : v + 1 = d := by
  unfold OutP at h
  unfold InP at hi
  obtain ⟨hl, hkn, h⟩ := h
  subst hb hbc
  obtain ⟨f, hf⟩ : ∃ f, n - k = f + 1 := ⟨n - k - 1, by omega⟩
  rw [hf, outGo, ← hi.2] at h
  dsimp only at h
  rw [if_pos hm] at h
  exact h
theorem in_start {a bc : Str} {n : Nat} {row₀ : List Int} {d₀ : Int} (h : row₀.length = n) : InP a bc n row₀ d₀ [] d₀ d₀ 9223372036854775807 row₀ := by
  unfold InP inRun
  exact ⟨h, rfl⟩
theorem in_len {a bc : Str} {n : Nat} {row₀ row pre : List Int} {d₀ di re mn : Int} (h : InP a bc n row₀ d₀ pre di re mn row) : row.length = n := by unfold InP at h; exact h.1
theorem in_step {a bc : Str} {n : Nat} {row₀ row pre : List Int} {d₀ di re mn i mn' : Int} (h : InP a bc n row₀ d₀ pre di re mn row)
    (e3 : mn' = if (if di + subC bc (Txt.item a i) < (if row.getD i.toNat 0 < re then row.getD i.toNat 0 else re) + 2 then di + subC bc (Txt.item a i) else (if row.getD i.toNat 0 < re then row.getD i.toNat 0 else re) + 2) < mn then (if di + subC bc (Txt.item a i) < (if row.getD i.toNat 0 < re then row.getD i.toNat 0 else re) + 2 then di + subC bc (Txt.item a i) else (if row.getD i.toNat 0 < re then row.getD i.toNat 0 else re) + 2) else mn) :
    (row.set i.toNat (if di + subC bc (Txt.item a i) < (if row.getD i.toNat 0 < re then row.getD i.toNat 0 else re) + 2 then di + subC bc (Txt.item a i) else (if row.getD i.toNat 0 < re then row.getD i.toNat 0 else re) + 2)).length = n ∧
    InP a bc n row₀ d₀ (pre ++ [i]) (row.getD i.toNat 0) (if di + subC bc (Txt.item a i) < (if row.getD i.toNat 0 < re then row.getD i.toNat 0 else re) + 2 then di + subC bc (Txt.item a i) else (if row.getD i.toNat 0 < re then row.getD i.toNat 0 else re) + 2) mn'
      (row.set i.toNat (if di + subC bc (Txt.item a i) < (if row.getD i.toNat 0 < re then row.getD i.toNat 0 else re) + 2 then di + subC bc (Txt.item a i) else (if row.getD i.toNat 0 < re then row.getD i.toNat 0 else re) + 2)) := by
  unfold InP at h ⊢
  unfold inRun at h ⊢
  obtain ⟨hl, h⟩ := h
  rw [List.foldl_append, ← h, e3]
  refine ⟨by rw [List.length_set]; exact hl, by rw [List.length_set]; exact hl, ?_⟩
  show _ = inStep a bc (di, re, mn, row) i
  unfold inStep
  rfl
theorem if_t {c : Prop} [Decidable c] {a b : Int} (h : c) : a = if c then a else b := by rw [if_pos h]
theorem if_f {c : Prop} [Decidable c] {a b : Int} (h : ¬ c) : b = if c then a else b := by rw [if_neg h]
theorem in_full {a bc : Str} {n : Nat} {L : Int} {row₀ row : List Int} {d₀ di re mn : Int} (h : InP a bc n row₀ d₀ (rangeKs 0 (L - 0).toNat) di re mn row) (hL : L = (n : Int)) : InP a bc n row₀ d₀ (rangeKs 0 n) di re mn row := by
  subst hL
  rw [show ((n : Int) - 0).toNat = n by omega] at h
  exact h
end Mine
namespace Mine
theorem out_and {a b : Str} {v d : Int} {n k : Nat} {row : List Int} {res : Int} (h : OutP a b v n d k row res) : row.length = n ∧ OutP a b v n d k row res := ⟨out_len h, h⟩
end Mine
namespace Mine
theorem led_in {q : Addr × Obj} {news own : List (Addr × Obj)} : ∀ p ∈ q :: news, p ∈ q :: (news ++ own) := fun p hp => by
  rcases List.mem_cons.mp hp with rfl | hp
  · exact .head _
  · exact .tail _ (List.mem_append_left _ hp)
theorem led_in1 {q : Addr × Obj} {news own : List (Addr × Obj)} : ∀ p ∈ q :: news, p ∈ (q :: news) ++ own := fun p hp => List.mem_append_left _ hp
end Mine
namespace Mine
section
variable {h₀ : Heap} {L : Addr} {m : Str → Option Value} {news own : List (Addr × Obj)} {r : Addr × Obj} {s : Shared} {Q : Value → Shared → Prop} {x y : Int} {t : Tok} {h' : Heap} {tk' : Nat}
theorem int_end1 (hret : ∀ (t : Tok) (h' : Heap) (tk' : Nat), Fr h₀ L h' m → News h₀ L h' news → Q (.int x t) { s with heap := h', toks := tk' }) (F : Fr h₀ L h' m) (N : News h₀ L h' (r :: news)) (e : y = x) : Q (.int y t) { s with heap := h', toks := tk' } :=
  int_end hret F (fun p hp => N p (.tail _ hp)) e
theorem int_end2 (hret : ∀ (t : Tok) (h' : Heap) (tk' : Nat), Fr h₀ L h' m → News h₀ L h' news → Q (.int x t) { s with heap := h', toks := tk' }) (F : Fr h₀ L h' m) (N : News h₀ L h' (r :: (news ++ own))) (e : y = x) : Q (.int y t) { s with heap := h', toks := tk' } :=
  int_end hret F (fun p hp => N p (.tail _ (List.mem_append_left _ hp))) e
end
end Mine
namespace Mine
open Sem (wp)
/-- the caller of the claim stands on the stack -/
noncomputable def On (Γ : Ctx) : Prop := Γ.code.isCaller = true ∨ (Γ.below.any fun c => c.1.isCaller) = true
noncomputable def OnB (Γ : Ctx) : Prop := (Γ.below.any fun c => c.1.isCaller) = true
/-- wpAny, under the claim's caller alone -/
noncomputable def wpC {α : Type} (M : Model) (A : Around) (t : Sem α) (Q : α → Shared → Prop) (E : Value → Shared → Prop) (s : Shared) : Prop :=
  ∀ Γ p, Γ.In A → On Γ → wp M Γ t (fun a _ s' => Q a s') (fun e _ s' => E e s') p s
noncomputable def codeC (M : Model) (A : Around) (c : Code) (R : Result → Shared → Prop) (s : Shared) : Prop :=
  ∀ Γ p, Γ.code = c → Γ.Below A → OnB Γ → wpCode M Γ R p s
section
variable {α β : Type} {M : Model} {A : Around} {E : Value → Shared → Prop} {s : Shared}
theorem OnB.on {Γ : Ctx} (h : OnB Γ) : On Γ := .inr h
theorem On.enter {Γ : Ctx} (h : On Γ) (c : Code) (hd : Option Value) (p : Pos) : OnB (Γ.enter c hd p) := by
  show (((Γ.code, p) :: Γ.below).any fun c => c.1.isCaller) = true
  rw [List.any_cons]
  rcases h with h | h
  · rw [show (Γ.code, p).1.isCaller = true from h]; rfl
  · rw [h, Bool.or_true]
theorem wpC_of_any {t : Sem α} {Q : α → Shared → Prop} (h : wpAny M A t Q E s) : wpC M A t Q E s := fun Γ p hΓ _ => h Γ p hΓ
theorem codeC_of_any {c : Code} {R : Result → Shared → Prop} (h : codeAny M A c R s) : codeC M A c R s := fun Γ p hc hΓ _ => h Γ p hc hΓ
theorem wpC_pure {a : α} {Q : α → Shared → Prop} (h : Q a s) : wpC M A (pure a) Q E s := fun _ _ _ _ => h
theorem wpC_mono {t : Sem α} {Q Q' : α → Shared → Prop} {E' : Value → Shared → Prop} (h : wpC M A t Q E s)
    (hQ : ∀ a s, Q a s → Q' a s) (hE : ∀ e s, E e s → E' e s) : wpC M A t Q' E' s :=
  fun Γ p hΓ ho => Sem.wp_mono M Γ t (fun a _ s => hQ a s) (fun e _ s => hE e s) p s (h Γ p hΓ ho)
theorem wpC_bind {m : Sem α} {f : α → Sem β} {Q : β → Shared → Prop} (h : wpC M A m (fun a s' => wpC M A (f a) Q E s') E s) :
    wpC M A (m >>= f) Q E s := fun Γ p hΓ ho => by
  rw [Sem.wp_bind']
  exact Sem.wp_mono M Γ m (fun a p' s' h' => h' Γ p' hΓ ho) (fun _ _ _ h' => h') p s (h Γ p hΓ ho)
/-- ahead of the node that reads the stack: by the kit's own rules -/
theorem wpC_any {m : Sem α} {f : α → Sem β} {Q : β → Shared → Prop} (h : wpAny M A m (fun a s' => wpC M A (f a) Q E s') E s) :
    wpC M A (m >>= f) Q E s := wpC_bind (wpC_of_any h)
/-- behind it: by the kit's own rules -/
theorem wpC_then {m : Sem α} {f : α → Sem β} {Q : β → Shared → Prop} (h : wpC M A m (fun a s' => wpAny M A (f a) Q E s') E s) :
    wpC M A (m >>= f) Q E s := wpC_bind (wpC_mono h (fun _ _ x => wpC_of_any x) fun _ _ x => x)
theorem wpC_holding {vs : List Value} {m : Sem α} {Q : α → Shared → Prop} (h : wpC M A m Q E s) : wpC M A (holding vs m) Q E s :=
  fun Γ p hΓ ho => by rw [Sem.wp_holding]; exact h Γ p hΓ ho
theorem wpC_tryCatch {m : Sem α} {k : Value → Sem α} {Q : α → Shared → Prop} (h : wpC M A m Q (fun e s' => wpC M A (k e) Q E s') s) :
    wpC M A (tryCatch m k) Q E s := fun Γ p hΓ ho => by
  rw [Sem.wp_tryCatch']
  exact Sem.wp_mono M Γ m (fun _ _ _ h' => h') (fun e p' s' h' => h' Γ p' hΓ ho) p s (h Γ p hΓ ho)
theorem wpC_attempt {m : Sem α} {Q : Except Value α → Shared → Prop} (h : wpC M A m (fun a => Q (.ok a)) (fun e => Q (.error e)) s) :
    wpC M A m.attempt Q E s := fun Γ p hΓ ho => by rw [Sem.wp_attempt]; exact h Γ p hΓ ho
theorem wpC_onRaise {m : Sem α} {k : Value → Sem Unit} {Q : α → Shared → Prop}
    (h : wpC M A m Q (fun e s' => wpAny M A (k e) (fun _ s'' => E e s'') E s') s) : wpC M A (m.onRaise k) Q E s := fun Γ p hΓ ho => by
  rw [Sem.wp_onRaise]
  exact Sem.wp_mono M Γ m (fun _ _ _ h' => h') (fun e p' s' h' => h' Γ p' hΓ) p s (h Γ p hΓ ho)
theorem codeC_mono {c : Code} {R R' : Result → Shared → Prop} (h : codeC M A c R s) (hR : ∀ r s, R r s → R' r s) : codeC M A c R' s :=
  fun Γ p hc hΓ ho => wpCode_mono hR (h Γ p hc hΓ ho)
theorem wpC_run {c : Code} {h : Option Value} {Q : Flow → Shared → Prop}
    (hc : codeC M (A.mark h) c (fun r s' => match r with | .ok f => Q f s' | .error e => E e s') s) (hnb : h ≠ some byPass := by intro x; cases x) :
    wpC M A (run c h) Q E s :=
  fun Γ p hΓ ho => by rw [Sem.wp_run]; exact hc _ p rfl (hΓ.enter c h p hnb) (ho.enter c h p)
theorem wpC_call {f : Value} {pos : List Value} {kw : List (Str × Value)} {Q : Value → Shared → Prop}
    (hc : codeC M A (.call f ⟨pos, kw⟩) (fun r s' => match r with | .ok (.ret v) => Q v s' | .ok _ => False | .error e => E e s') s) :
    wpC M A (call f pos kw) Q E s := fun Γ p hΓ ho => by
  show wp M Γ (runValue _) _ _ p s
  rw [Sem.wp_runValue]; exact hc _ p rfl (hΓ.enter _ none p (by intro x; cases x)) (ho.enter _ none p)
theorem codeC_of_tree {c : Code} {R : Result → Shared → Prop}
    (h : wpC M (A.under c) (M.den c) (fun fin s' => match fin with | .done f => R (.ok f) s' | .again c' => c'.quiet = true ∧ codeC M A c' R s')
      (fun e s' => R (.error e) s') s) : codeC M A c R s := fun Γ p hc hΓ ho => by
  rw [wpCode_iff_wp, hc]
  refine Sem.wp_mono M Γ _ (fun fin p' s' h' => ?_) (fun _ _ _ h' => h') p s (h Γ p (hc ▸ hΓ.in) ho.on)
  cases fin with
  | done f => exact h'
  | again c' => exact ⟨h'.1, h'.2 (Γ.goto c') p' rfl (hΓ.goto c') ho⟩
/-- under the claim's caller nothing is marked -/
theorem wpC_mark {own : List String} {e : Value} {Q : Unit → Shared → Prop} (h : Q () s) : wpC M A (markTheRefusal own e) Q E s := fun Γ p hΓ ho => by
  have key : pythonCodeMadeTheCall own (((Γ.code, p) :: Γ.below).map (·.1)) = false := by
    have this : (((Γ.code, p) :: Γ.below).map (·.1)).any Code.isCaller = true := by
      rw [List.any_map, List.any_eq_true]
      rcases ho with ho | ho
      · exact ⟨_, List.mem_cons_self, ho⟩
      · obtain ⟨x, hx, hy⟩ := List.any_eq_true.mp ho
        exact ⟨x, List.mem_cons_of_mem _ hx, hy⟩
    show ((!(((Γ.code, p) :: Γ.below).map (·.1)).any Code.isCaller) && _ && _) = false
    rw [this]; rfl
  unfold markTheRefusal
  rw [Sem.wp_bind']
  show wp M Γ (if pythonCodeMadeTheCall own (((Γ.code, p) :: Γ.below).map (·.1)) = true then _ else _) _ _ p s
  rw [if_neg (by rw [key]; exact Bool.false_ne_true)]
  exact h
end
end Mine
namespace Mine
section
variable {prog : Program} {w : World} {A₀ A : Around} {s : Shared} {base h₀ g₀ : Heap} {L a : Addr} {m : Str → Option Value} {cn : Str} {cs : Scope} {ccd : Value} {cl : List (Str × Addr)} {news : List (Addr × Obj)} {K : Frag} {p : Program} {loose : List Str} {mean : ExcName → Option Value} {mg mb : Str → Option Value}
    {R : Result → Shared → Prop} {name qual : Str} {params : Arguments} {body : List Stmt} {scope : Scope} {dV kV doc pm cdv ct oc : Value} {an od : Option Addr} {osl : Array (Option Value)} {f : Addr} {args : Args} {binds : List (Str × Value)}
theorem enter_ (B : Below A₀ base [] h₀) (F : Fr h₀ L s.heap m) (N : News h₀ L s.heap news) (hA : A.frames = some [envX cn cs L a ccd cl]) (hck : cs.kind = .function) :
    ∃ oL es ep, (hideAll s.heap (news.map (·.1))).get? L = some oL ∧ oL.data = .dict es ep ∧ (∀ h', h'.get? L = some oL → Heap.Ns h' L m) ∧ (∀ (sl : Array (Option Value)) h', h'.get? L = some { oL with slots := sl } → Heap.Ns h' L m) ∧
      h₀.StaysIn (hideAll s.heap (news.map (·.1))) ∧ Below A base [envX cn cs L a ccd cl] (hideAll s.heap (news.map (·.1))) := by
  have nm : ∀ b o, h₀.get? b = some o → b ∉ news.map (·.1) := fun b o e q => by
    obtain ⟨p, hp, rfl⟩ := List.mem_map.mp q
    rw [(N p hp).2.2] at e; cases e
  have st : h₀.StaysIn (hideAll s.heap (news.map (·.1))) := fun b o e => hideAll_get _ (F.keep b o e) (nm b o e)
  have nL : L ∉ news.map (·.1) := fun q => by
    obtain ⟨p, hp, e⟩ := List.mem_map.mp q
    exact (N p hp).2.1 e
  have B₂ := (groundX (R := fun _ _ => True) B F N hA rfl hck).2.1
  obtain ⟨oL, es, ep, hL, hLd, hLk, hLf⟩ := F.ns
  have hLg := hideAll_get (news.map (·.1)) hL nL
  exact ⟨oL, es, ep, hLg, hLd, fun h' e => ⟨oL, es, ep, e, hLd, hLk, hLf⟩, fun sl h' e => ⟨_, es, ep, e, hLd, hLk, hLf⟩, st, B₂⟩
theorem mem1 {b : Addr} (hm : b ∈ [envX cn cs L a ccd cl].filterMap (·.frame)) : b = L := by
  obtain ⟨env, he, hf⟩ := List.mem_filterMap.mp hm
  rw [List.mem_singleton.mp he] at hf
  exact (Option.some.inj hf).symm
theorem enterS0 (B : Below A₀ base [] h₀) (F : Fr h₀ L s.heap m) (X₀ : K.In h₀) (N : News h₀ L s.heap news) (T : Top p loose mean mg mb h₀) (hA : A.frames = some [envX cn cs L a ccd cl])
    (ho : K.lookup f = some ⟨oc, od, .func (fnOf name qual params body scope dV kV doc pm an cdv ct), osl⟩) (hcd : codeIn K cdv qual = true) (hroom : A.depth < recursionLimit)
    (hbind : BindsTo s (fnOf name qual params body scope dV kV doc pm an cdv ct) args binds) (hloc : ∀ y ∈ binds, scope.names.lookup y.1 = some .local)
    (h : ∀ g L' h₁, Fr h₀ L g m → Fr g L' h₁ (fun y => binds.reverse.lookup y) → News g L' h₁ news → Below A base [envX cn cs L a ccd cl] g → K.In g → Top p loose mean mg mb g → KtsDicts ([envX cn cs L a ccd cl].filterMap (·.frame)) g →
      wpAny (model prog w) (A.deeper (envOf qual scope L' f cdv)) (execs body (envOf qual scope L' f cdv))
        (fun fl s' => LeaveS0 ([envX cn cs L a ccd cl].filterMap (·.frame)) h₀ L m g R (match fl with | .ret v => v | _ => .none) s')
        (fun e s' => wpAny (model prog w) (A.deeper (envOf qual scope L' f cdv)) (leaving (envOf qual scope L' f cdv) e) (fun _ s'' => R (.error e) s'') (fun e' s'' => R (.error e') s'') s')
        { s with heap := h₁, toks := s.toks + binds.length })
    (hck : cs.kind = .function) (hco : scope.isCoroutine = false) (hgen : scope.isGenerator = false) (hk : scope.kind = .function)
    (hcell : ∀ x ∈ scope.names, x.2 ≠ .cell) : codeAny (model prog w) A (.call (.ref f) args) R s := by
  have X := X₀.keeps F.keep
  refine codeAny_call_def (fd := fnOf name qual params body scope dV kV doc pm an cdv ct) (body := body) (binds := binds) hroom (X _ _ ho) rfl (T.nolimit.keeps F.keep) (codeRec_of X hcd) rfl hbind hcell hloc (fun h₁ hns hk₁ => ?_) hco hgen hk
  obtain ⟨oL, es, ep, hLg, hLd, hN, hNs, st, B₂⟩ := enter_ B F N hA hck
  refine wpAny_mono (h _ s.heap.objs.size h₁ ⟨hN _ hLg, st, F.above⟩ ⟨hns, fun b o e => hk₁ b o (of_hideAll _ e), Nat.le_of_eq (hideAll_size _ _)⟩
    (fun p hp => ⟨hk₁ _ _ (N p hp).1, Nat.ne_of_lt (Heap.lt_size (N p hp).1), hideAll_none _ (List.mem_map_of_mem hp)⟩) B₂ (X₀.keeps st) (T.keeps st) (fun b hb => by
      rw [mem1 hb]
      exact ⟨oL, es, ep, hLg, hLd⟩)) (fun fl s' hl => ?_) fun _ _ y => y
  obtain ⟨g', L', m', news', T', F', N', k⟩ := hl
  have nL₀ : h₀.get? L = none := kts_self F
  obtain ⟨sl, hs⟩ := T'.up hLg
  refine k ⟨hNs sl _ (F'.keep _ _ hs), fun b o e => F'.keep b o (T'.other b o (st b o e) (fun q => by
    have z := mem1 q
    rw [z, nL₀] at e
    cases e)), F.above⟩ fun p hp => ⟨(N' p hp).1, fun q => ?_, ?_⟩
  · have := (N' p hp).2.2; rw [q, hs] at this; cases this
  · cases q : h₀.get? p.1 with
    | none => rfl
    | some o =>
      obtain ⟨sl', hs'⟩ := T'.up (st _ _ q)
      have := (N' p hp).2.2
      rw [hs'] at this
      cases this
end
end Mine
namespace Mine
open Sem (wp)
open Builtin Builtin.Str Builtin.BaseException
/-- e is an exception of an own class C whose one argument is the text x; str of it is BaseException's -/
noncomputable def OwnExc (K : Frag) (C : Addr) (h : Heap) (e : Addr) (x : Str) (tk : Tok) : Prop :=
  K.In h ∧ findIn K (.ref C) "__str__" = some (some (.builtin "BaseException.__str__")) ∧ subIn K (.ref C) (.type "BaseException") = some true ∧
  ∃ o ws t0, h.get? e = some o ∧ o.cls = .ref C ∧ o.data = .fields ws ∧ ws[0]? = some (.ref t0) ∧ h.TupAt t0 [.str x tk]
section
variable {prog : Program} {w : World} {A : Around} {E : Value → Shared → Prop} {s : Shared} {K : Frag} {C e : Addr} {x : Str} {tk : Tok}
theorem OwnExc.type {M : Model} {h : Heap} (H : OwnExc K C h e x tk) : Looks M h (typeOf (.ref e)) (.ref C) := by
  obtain ⟨_, _, _, o, ws, t0, ho, hc, _⟩ := H
  exact hc ▸ (Looks.ld ho).andThen .now
theorem bexc_args {M : Model} {Q : Value × List Value → Shared → Prop} (H : OwnExc K C s.heap e x tk) (hq : ∀ t0, Q (.ref t0, [.str x tk]) s) :
    wpAny M A (bexcArgs (.ref e)) Q E s := by
  obtain ⟨_, _, _, o, vs, t0, ho, _, hd, h0, ot, k, hto, _, htd⟩ := H
  unfold bexcArgs
  refine wpAny_bind (wpAny_field ho hd h0 (wpAny_bind (wpAny_seqItems hto htd ?_)))
  show wpAny M A (pure (Value.ref t0, [Value.str x tk].toArray.toList)) Q E s
  exact wpAny_pure (hq t0)
theorem bexc_str {Q : Fin → Shared → Prop} (H : OwnExc K C s.heap e x tk) (hq : Q (.done (.ret (.str x tk))) s) :
    wpAny (model prog w) A (Builtin.«BaseException.__str__» ⟨[.ref e], []⟩) Q E s := by
  unfold Builtin.«BaseException.__str__»
  repeat (first | (with_reducible refine bexc_args H ?_; intro t0) | wp_step)
  exact hq
theorem call_bexc {Q : Value → Shared → Prop} (H : OwnExc K C s.heap e x tk) (hq : Q (.str x tk) s) :
    wpAny (model prog w) A (call (.builtin "BaseException.__str__") [.ref e]) Q E s := by
  have FS := F.excStr_Exception.str
  refine wpAny_call (codeAny_call_builtin FS.plain F.entry_bexc_str ?_)
  have hk : builtinKind "BaseException.__str__" = some .slot := by decide +kernel
  have hsplit : splitId "BaseException.__str__" = some ("BaseException", "__str__") := by decide +kernel
  simp only [checkBuiltinCall, hk, hsplit]
  refine wpAny_bind (wpAny_bind (H.type.here ((looks_subIn H.1 H.2.2.1).here ?_)))
  simp only [Bool.not_true, Bool.false_eq_true, if_false]
  have ha := F.args_bexc_str (.ref e)
  cases hsig : Manifest.signature? "BaseException.__str__" with
  | none => exact wpAny_pure (bexc_str H hq)
  | some sig =>
    simp only [argsOk, hsig] at ha
    have h2 : Bind.checkArgs "BaseException.__str__" sig ⟨[.ref e], []⟩ = pure () := ha
    show wpAny _ _ (Bind.checkArgs "BaseException.__str__" sig ⟨[.ref e], []⟩) _ _ s
    rw [h2]
    exact wpAny_pure (bexc_str H hq)
theorem strOf_own (hu : A.units < cLine) {Q : Value → Shared → Prop} (H : OwnExc K C s.heap e x tk) (hq : Q (.str x tk) s) :
    wpAny (model prog w) A (Builtin.Str.strOf (.ref e)) Q E s := by
  have key : ∀ {Q : Option Value → Shared → Prop}, Q (some (.str x tk)) s → wpAny (model prog w) A (callSpecial? (.ref e) "__str__" []) Q E s := fun {Q} hQ => by
    simp only [callSpecial?]
    refine wpAny_bind (wpAny_bind (H.type.here ((looks_findIn H.1 H.2.1).here ?_)))
    simp only [F.excStr_Exception.str.bind]
    exact wpAny_holding (wpAny_bind (wpAny_pure (wpAny_bind (call_bexc H (wpAny_pure hQ)))))
  unfold Builtin.Str.strOf
  repeat (first | with_reducible refine wpAny_cRoomFor hu ?_ | with_reducible refine key ?_ | wp_step)
  exact hq
theorem str_own (hu : A.units + 2 < cLine) {Q : Value → Shared → Prop} (H : OwnExc K C s.heap e x tk) (hq : Q (.str x tk) s) :
    wpAny (model prog w) A (call (.type "str") [.ref e]) Q E s :=
  callType_new F.called_str (by decide) (F.typeCall_str_1 _) (F.newCall_str_1 _) (fun obj => F.args_object_init_2 obj _) F.entry_str_new
    (meets_str_new (S := fun A' R s' => A'.units + 1 < cLine ∧ OwnExc K C s'.heap e x tk ∧ R (.ok (.ret (.str x tk))) s')
      fun _ _ A' _ _ hq => strOf_own (A := A'.in1) hq.1 hq.2.1 hq.2.2)
    ⟨(show A.units + 1 + 1 < cLine from hu), H, typeIs_str _ _ _, hq⟩
end
end Mine
namespace Mine
theorem ownexc_of {K : Frag} {C e t : Addr} {h h₀ : Heap} {L : Addr} {n₂ : List (Addr × Obj)} {x : Str} {tk : Tok} (X : K.In h) (N : News h₀ L h n₂) (G : Got n₂ e t (.ref C) [.str x tk])
    (hf : findIn K (.ref C) "__str__" = some (some (.builtin "BaseException.__str__"))) (hs : subIn K (.ref C) (.type "BaseException") = some true) : OwnExc K C h e x tk := by
  obtain ⟨oe, ot, ws, nt, he, ht, hc, hd, h0, htc, htd⟩ := G
  exact ⟨X, hf, hs, oe, ws, t, N.get he, hc, hd, h0, ot, nt, N.get ht, htc, htd⟩
end Mine
namespace Mine
section
variable {prog : Program} {w : World} {A : Around} {s : Shared} {R : Result → Shared → Prop}
theorem codeC_func {body : List Stmt} {env : Env}
    (h : wpC (model prog w) (A.deeper env) (execs body env) (fun f s' => R (.ok (.ret (match f with | .ret v => v | _ => .none))) s')
      (fun e s' => wpAny (model prog w) (A.deeper env) (leaving env e) (fun _ s'' => R (.error e) s'') (fun e' s'' => R (.error e') s'') s') s) :
    codeC (model prog w) A (.func body env) R s := by
  refine codeC_of_tree ?_
  show wpC _ (A.deeper env) (do point; match ← (execs body env).onRaise (leaving env) with | .ret v => ret v | _ => ret .none) _ _ s
  refine wpC_any (wpAny_point (wpC_bind (wpC_onRaise (wpC_mono h (fun f s' h' => ?_) fun _ _ h' => h'))))
  cases f <;> exact wpC_pure h'
theorem codeC_call_function {a : Addr} {args : Args} {o : Obj} {fd : FuncData} {body : List Stmt} (hroom : A.depth < recursionLimit)
    (ho : s.heap.get? a = some o) (hd' : o.data = .func fd) (hco : fd.scope.isCoroutine = false) (hgen : fd.scope.isGenerator = false) (hbody : fd.body = .stmts body) (hcd : s.heap.CodeRec fd.code fd.qualname)
    (h : wpAny (model prog w) A.in1 (bindArgs fd args) (fun binds s₁ =>
      wpAny (model prog w) A.in1 (newFunctionEnv fd.scope fd.globals fd.closure binds (fd.qualname ++ ".<locals>.") (some a) fd.code none fd.builtins)
        (fun env s₂ => s₂.heap.NoLimit ∧ codeC (model prog w) A (.func body env) R s₂) (fun e s' => R (.error e) s') s₁) (fun e s' => R (.error e) s') s) :
    codeC (model prog w) A (.call (.ref a) args) R s := by
  refine codeC_of_tree ?_
  show wpC _ A.in1 (callAny (.ref a) args) _ _ s
  simp only [callAny]
  refine wpC_any (wpAny_load ho ?_)
  obtain ⟨c, oc, vs, tq, hc, hoc, hdc, hq⟩ := hcd
  simp only [hd', callFunction, hco, hgen, hbody, hc]
  rw [hc] at h
  refine wpC_any (m := field (.ref c) 1) (wpAny_field hoc hdc hq (wpC_any (wpAny_pure ?_)))
  exact wpC_any (wpAny_mono h (fun binds s₁ h₁ => wpC_any (wpAny_mono h₁ (fun env s₂ h₂ => wpC_any (wpAny_enterFrame h₂.1 hroom
    (wpC_pure (And.intro rfl h₂.2)))) fun _ _ x => x)) fun _ _ x => x)
end
section
variable {prog : Program} {w : World} {A₀ A : Around} {s : Shared} {base h₀ g₀ : Heap} {L a : Addr} {m : Str → Option Value} {cn : Str} {cs : Scope} {ccd : Value} {cl : List (Str × Addr)} {news : List (Addr × Obj)} {K : Frag} {p : Program} {loose : List Str} {mean : ExcName → Option Value} {mg mb : Str → Option Value}
    {R : Result → Shared → Prop} {name qual : Str} {params : Arguments} {body : List Stmt} {scope : Scope} {dV kV doc pm cdv ct oc : Value} {an od : Option Addr} {osl : Array (Option Value)} {f : Addr} {args : Args} {binds : List (Str × Value)}
theorem codeC_call_def {R : Result → Shared → Prop} {a : Addr} {o : Obj} {fd : FuncData} {body : List Stmt} {args : Args} {binds : List (Str × Value)}
    (hroom : A.depth < recursionLimit) (ho : s.heap.get? a = some o) (hdata : o.data = .func fd) (hlim : s.heap.NoLimit) (hcd : s.heap.CodeRec fd.code fd.qualname)
    (hbody : fd.body = .stmts body) (hbind : BindsTo s fd args binds)
    (hcell : ∀ x ∈ fd.scope.names, x.2 ≠ .cell) (hloc : ∀ x ∈ binds, fd.scope.names.lookup x.1 = some .local)
    (h : ∀ h₀, h₀.Ns s.heap.objs.size (fun x => binds.reverse.lookup x) → (∀ b o, s.heap.get? b = some o → h₀.get? b = some o) →
      wpC (model prog w) (A.deeper (callEnv fd s.heap.objs.size a)) (execs body (callEnv fd s.heap.objs.size a)) (fun f s' => R (.ok (.ret (match f with | .ret v => v | _ => .none))) s')
        (fun e s' => wpAny (model prog w) (A.deeper (callEnv fd s.heap.objs.size a)) (leaving (callEnv fd s.heap.objs.size a) e) (fun _ s'' => R (.error e) s'') (fun e' s'' => R (.error e') s'') s')
        { s with heap := h₀, toks := s.toks + binds.length })
    (hco : fd.scope.isCoroutine = false) (hgen : fd.scope.isGenerator = false) (hk : fd.scope.kind = .function) :
    codeC (model prog w) A (.call (.ref a) args) R s :=
  codeC_call_function hroom ho hdata hco hgen hbody hcd (hbind _ _ _ _ (wpAny_newFunctionEnv hcell hloc (fun h₀ hns₀ hsb₀ =>
    ⟨hlim.fresh _ hsb₀, codeC_func (h h₀ hns₀ fun b o e => hsb₀.extBut b o (Nat.ne_of_lt (Heap.lt_size e)) (Heap.get?_push_of_some _ e))⟩) hk))
/-- a plain def, entered from a frame with cells, on the way to the node that reads the stack -/
theorem enterC0 (B : Below A₀ base [] h₀) (F : Fr h₀ L s.heap m) (X₀ : K.In h₀) (N : News h₀ L s.heap news) (T : Top p loose mean mg mb h₀) (hA : A.frames = some [envX cn cs L a ccd cl])
    (ho : K.lookup f = some ⟨oc, od, .func (fnOf name qual params body scope dV kV doc pm an cdv ct), osl⟩) (hcd : codeIn K cdv qual = true) (hroom : A.depth < recursionLimit)
    (hbind : BindsTo s (fnOf name qual params body scope dV kV doc pm an cdv ct) args binds) (hloc : ∀ y ∈ binds, scope.names.lookup y.1 = some .local)
    (h : ∀ g L' h₁, Fr h₀ L g m → Fr g L' h₁ (fun y => binds.reverse.lookup y) → News g L' h₁ news → Below A base [envX cn cs L a ccd cl] g → K.In g → Top p loose mean mg mb g → KtsDicts ([envX cn cs L a ccd cl].filterMap (·.frame)) g →
      wpC (model prog w) (A.deeper (envOf qual scope L' f cdv)) (execs body (envOf qual scope L' f cdv))
        (fun fl s' => LeaveS0 ([envX cn cs L a ccd cl].filterMap (·.frame)) h₀ L m g R (match fl with | .ret v => v | _ => .none) s')
        (fun e s' => wpAny (model prog w) (A.deeper (envOf qual scope L' f cdv)) (leaving (envOf qual scope L' f cdv) e) (fun _ s'' => R (.error e) s'') (fun e' s'' => R (.error e') s'') s')
        { s with heap := h₁, toks := s.toks + binds.length })
    (hck : cs.kind = .function) (hco : scope.isCoroutine = false) (hgen : scope.isGenerator = false) (hk : scope.kind = .function)
    (hcell : ∀ x ∈ scope.names, x.2 ≠ .cell) : codeC (model prog w) A (.call (.ref f) args) R s := by
  have X := X₀.keeps F.keep
  refine codeC_call_def (fd := fnOf name qual params body scope dV kV doc pm an cdv ct) (body := body) (binds := binds) hroom (X _ _ ho) rfl (T.nolimit.keeps F.keep) (codeRec_of X hcd) rfl hbind hcell hloc (fun h₁ hns hk₁ => ?_) hco hgen hk
  obtain ⟨oL, es, ep, hLg, hLd, hN, hNs, st, B₂⟩ := enter_ B F N hA hck
  refine wpC_mono (h _ s.heap.objs.size h₁ ⟨hN _ hLg, st, F.above⟩ ⟨hns, fun b o e => hk₁ b o (of_hideAll _ e), Nat.le_of_eq (hideAll_size _ _)⟩
    (fun p hp => ⟨hk₁ _ _ (N p hp).1, Nat.ne_of_lt (Heap.lt_size (N p hp).1), hideAll_none _ (List.mem_map_of_mem hp)⟩) B₂ (X₀.keeps st) (T.keeps st) (fun b hb => by
      rw [mem1 hb]
      exact ⟨oL, es, ep, hLg, hLd⟩)) (fun fl s' hl => ?_) fun _ _ y => y
  obtain ⟨g', L', m', news', T', F', N', k⟩ := hl
  have nL₀ : h₀.get? L = none := kts_self F
  obtain ⟨sl, hs⟩ := T'.up hLg
  refine k ⟨hNs sl _ (F'.keep _ _ hs), fun b o e => F'.keep b o (T'.other b o (st b o e) (fun q => by
    have z := mem1 q
    rw [z, nL₀] at e
    cases e)), F.above⟩ fun p hp => ⟨(N' p hp).1, fun q => ?_, ?_⟩
  · have := (N' p hp).2.2; rw [q, hs] at this; cases this
  · cases q : h₀.get? p.1 with
    | none => rfl
    | some o =>
      obtain ⟨sl', hs'⟩ := T'.up (st _ _ q)
      have := (N' p hp).2.2
      rw [hs'] at this
      cases this
end
end Mine
namespace Mine
open PySem.NumText
theorem wpC_ite_true {α : Type} {M : Model} {A : Around} {E : Value → Shared → Prop} {s : Shared} {Q : α → Shared → Prop} {c : Prop} [Decidable c] {a b : Sem α} (hc : c) (h : wpC M A a Q E s) : wpC M A (if c then a else b) Q E s := by
  rw [if_pos hc]; exact h
theorem wpC_ite_false {α : Type} {M : Model} {A : Around} {E : Value → Shared → Prop} {s : Shared} {Q : α → Shared → Prop} {c : Prop} [Decidable c] {a b : Sem α} (hc : ¬ c) (h : wpC M A b Q E s) : wpC M A (if c then a else b) Q E s := by
  rw [if_neg hc]; exact h
theorem codeC_builtin {prog : Program} {w : World} {A : Around} {s : Shared} {R : Result → Shared → Prop} {id : String} {args : Args} {b : Builtin} (hb : entryFor table id = some b)
    (h : wpC (model prog w) (A.under (.builtin id args)) (b args)
      (fun fin s' => match fin with | .done f => R (.ok f) s' | .again c' => c'.quiet = true ∧ codeC (model prog w) A c' R s') (fun e s' => R (.error e) s') s) :
    codeC (model prog w) A (.builtin id args) R s := by
  refine codeC_of_tree ?_
  show wpC _ _ (match entryFor table id with | some b => b args | none => unsupported ((withoutEnding? id "#data").getD id)) _ _ s
  rw [hb]; exact h
theorem codeC_call_builtin {prog : Program} {w : World} {A : Around} {s : Shared} {R : Result → Shared → Prop} {id : String} {args : Args} {b : Builtin} (hq : plainId id = true) (hb : entryFor table id = some b)
    (h : wpAny (model prog w) A.in1 (checkBuiltinCall id args) (fun _ s₁ => wpC (model prog w) A.in1 (b args)
      (fun fin s' => match fin with | .done f => R (.ok f) s' | .again c' => c'.quiet = true ∧ codeC (model prog w) A c' R s') (fun e s' => R (.error e) s') s₁)
      (fun e s' => R (.error e) s') s) : codeC (model prog w) A (.call (.builtin id) args) R s := by
  refine codeC_of_tree ?_
  show wpC _ A.in1 (do checkBuiltinCall id args; again (.builtin id args)) _ _ s
  exact wpC_any (wpAny_mono h (fun _ s₁ h₁ => wpC_pure (And.intro (plainId_quiet hq args) (codeC_builtin hb (by rw [Around.under_plainId hq args]; exact h₁)))) fun _ _ x => x)
theorem text_refused {A : Around} {E : Value → Shared → Prop} {s : Shared} {Q : Value → Shared → Prop} {x : Str} {u : Tok} {text : List Nat}
    (hh : A.handled = none) (hs : (text.takeWhile (· != 0)).length ≤ 640) (hr : (int_private% "readNumeral") 0 10 (text.takeWhile (· != 0)) = (int_private% "Numeral.invalid"))
    (h : ∀ h' tk e, Heap.NewExc s.heap h' e "ValueError" → E (.ref e) { s with heap := h', toks := tk }) (hrep : (reprText x).length ≤ sizeLine) {prog : Program} {w : World} :
    wpC (model prog w) A ((int_private% "intFromText") (.str x u) text 10) Q E s := by
  obtain ⟨hp, g, d, tk, os⟩ := s
  refine wpC_ite_true (show (text.takeWhile (· != 0)).length ≤ 640 from hs) ?_
  refine wpC_any (wpAny_pure ?_)
  dsimp only
  rw [hr]
  dsimp only
  refine wpC_any ?_
  repeat (first | wp_step)
  refine wpC_ite_false (show ¬ (false = true) from Bool.false_ne_true) ?_
  refine wpC_any (wpAny_rule ?_)
  refine wpC_any ?_
  repeat (first | wp_step)
  dsimp only
  refine wpC_any (wpAny_pyRepr_str ?_ hrep)
  refine wpC_any (wpAny_mkStr ?_ (by
    have e : ((Str.ofString (toString "invalid literal for int() with base " ++ toString 10 ++ toString ": ")) : Str).cps.size ≤ 60 := by decide +kernel
    have e2 : (({ cps := (reprText x).cps.extract 0 200 } : Str)).cps.size ≤ 200 := by simp only [Array.size_extract]; omega
    show ((Str.ofString (toString "invalid literal for int() with base " ++ toString 10 ++ toString ": ")).cps ++ ({ cps := (reprText x).cps.extract 0 200 } : Str).cps).size ≤ sizeLine
    rw [Array.size_append]
    have e3 : 260 ≤ sizeLine := by decide +kernel
    omega))
  refine wpC_any (wpAny_newExc_plain plainExc_ValueError fun h' e hm => ?_)
  refine wpC_bind (wpC_mark ?_)
  refine wpC_of_any (wpAny_raiseNew_none hh ?_)
  exact h _ _ _ hm.newExc

theorem obj_refused {A : Around} {E : Value → Shared → Prop} {s : Shared} {Q : Value → Shared → Prop} {x : Str} {u : Tok}
    (hh : A.handled = none) (hs : (numSeenOf x).length ≤ 640) (hr : (int_private% "readNumeral") 0 10 (numSeenOf x) = (int_private% "Numeral.invalid"))
    (h : ∀ h' tk e, Heap.NewExc s.heap h' e "ValueError" → E (.ref e) { s with heap := h', toks := tk }) (hrep : (reprText x).length ≤ sizeLine) {prog : Program} {w : World} :
    wpC (model prog w) A ((int_private% "intFromObject") (.str x u)) Q E s := by
  obtain ⟨hp, g, d, tk, os⟩ := s
  have f3 := KIN.str_int
  have f4 := KIN.str_idx
  have f5 := KIN.str_trunc
  have f6 : typeOf (.str x u) = pure (.type "str") := rfl
  refine wpC_any ?_
  repeat (first | wp_step)
  refine wpC_any ?_
  repeat (first | wp_step)
  refine wpC_ite_false (show ¬ (false = true) from Bool.false_ne_true) ?_
  refine wpC_any ?_
  repeat (first | wp_step)
  refine wpC_any ?_
  repeat (first | wp_step)
  exact text_refused (text := numTextOf x) hh hs hr h hrep
theorem new_refused {A : Around} {E : Value → Shared → Prop} {s : Shared} {Q : Fin → Shared → Prop} {x : Str} {u : Tok}
    (hh : A.handled = none) (hs : (numSeenOf x).length ≤ 640) (hr : (int_private% "readNumeral") 0 10 (numSeenOf x) = (int_private% "Numeral.invalid"))
    (h : ∀ h' tk e, Heap.NewExc s.heap h' e "ValueError" → E (.ref e) { s with heap := h', toks := tk }) (hrep : (reprText x).length ≤ sizeLine) {prog : Program} {w : World} :
    wpC (model prog w) A (Builtin.«int.__new__» ⟨[.type "int", .str x u], []⟩) Q E s := by
  obtain ⟨hp, g, d, tk, os⟩ := s
  have f1 := F.conv_sub_int
  have f2 := F.madeHere_int
  refine wpC_any ?_
  repeat (first | wp_step)
  refine wpC_ite_false (show ¬ (false = true) from Bool.false_ne_true) ?_
  refine wpC_any ?_
  rw [f1]
  refine wpAny_pure ?_
  refine wpC_ite_false (show ¬ (false = true) from Bool.false_ne_true) ?_
  refine wpC_any ?_
  rw [f2]
  refine wpAny_pure ?_
  refine wpC_ite_false (show ¬ (false = true) from Bool.false_ne_true) ?_
  refine wpC_ite_false (show ¬ (1 > 2) from by decide) ?_
  refine wpC_any (wpAny_pure ?_)
  exact wpC_bind (obj_refused hh hs hr h hrep)
/-- int of a text that is no number raises ValueError, and marks nothing under the claim's caller -/
theorem call_refused {A : Around} {E : Value → Shared → Prop} {s : Shared} {Q : Value → Shared → Prop} {x : Str} {u : Tok}
    (hh : A.handled = none) (hs : (numSeenOf x).length ≤ 640) (hr : (int_private% "readNumeral") 0 10 (numSeenOf x) = (int_private% "Numeral.invalid"))
    (h : ∀ h' tk e, Heap.NewExc s.heap h' e "ValueError" → E (.ref e) { s with heap := h', toks := tk }) (hrep : (reprText x).length ≤ sizeLine) {prog : Program} {w : World} :
    wpC (model prog w) A (call (.type "int") [.str x u]) Q E s := by
  have ft := F.called_int
  obtain ⟨c, tl, hmro⟩ := ft.mro
  have hmade := ft.made
  have hsub := ft.sub
  have hct := F.typeCall_int_1 (.str x u)
  refine wpC_call (codeC_of_tree ?_)
  show wpC _ _ (callAny (.type "int") _) _ _ _
  refine wpC_pure ⟨Code.quiet_builtin _ (by decide +kernel), codeC_builtin F.entry_type_call ?_⟩
  rw [Around.under_plain (weight_type_call_type "int" [.str x u] []) (units_type_call_type "int" [.str x u] [])]
  have h1 := ft.notType
  have h2 := ft.canCreate
  refine wpC_any ?_
  repeat (first | wp_step)
  refine wpC_any ?_
  rw [hmro]
  refine wpAny_pure ?_
  refine wpC_ite_false (show ¬ (false = true) from Bool.false_ne_true) ?_
  refine wpC_any ?_
  rw [hmade]
  refine wpAny_pure ?_
  refine wpC_any (wpAny_pure ?_)
  exact wpC_bind (wpC_holding (wpC_call (codeC_call_builtin ft.plain F.entry_int_new (wpAny_of_eq (F.newCall_int_1 (.str x u)) (new_refused (A := A.in1.in1) hh hs hr h hrep)))))
end Mine
namespace Mine
section
variable {M : Model} {A : Around} {E : Value → Shared → Prop} {s : Shared} {env : Env}
theorem wpC_attempt_try {body orelse : Sem Flow} {h₀ : ExceptHandler} {hs : List ExceptHandler} {Q : Flow → Shared → Prop}
    (h : wpC M A body (fun f s₁ => match f with | .next => wpAny M A orelse Q E s₁ | f => Q f s₁)
      (fun e s₁ => wpAny M A (noteFrame e env) (fun _ s₂ => wpAny M A (setFlight e none) (fun _ s₃ => wpAny M A (handleBy e env (h₀ :: hs)) Q E s₃) E s₂) E s₁) s) :
    wpC M A (tryStmt false body (h₀ :: hs) orelse [] env) Q E s := by
  unfold tryStmt
  simp only [List.isEmpty_nil, if_true, List.isEmpty_cons, Bool.false_and, Bool.false_eq_true, if_false]
  refine wpC_bind (wpC_attempt (wpC_mono h (fun f s₁ h₁ => ?_) fun e s₁ h₁ => ?_))
  · cases f <;> first | exact wpC_of_any h₁ | exact wpC_pure h₁
  · exact wpC_of_any (wpAny_bind (wpAny_mono h₁ (fun _ _ h₂ => wpAny_bind h₂) fun _ _ x => x))
theorem wpC_Try {body : List Stmt} {h₀ : ExceptHandler} {hs : List ExceptHandler} {orelse : List Stmt} {pos : Pos} {Q : Flow → Shared → Prop}
    (h : wpC M A (execs body env) (fun f s₁ => match f with | .next => wpAny M A (execs orelse env) Q E s₁ | f => Q f s₁)
      (fun e s₁ => wpAny M A (noteFrame e env) (fun _ s₂ => wpAny M A (setFlight e none) (fun _ s₃ => wpAny M A (handleBy e env (h₀ :: hs)) Q E s₃) E s₂) E s₁) s) :
    wpC M A (exec (.Try body (h₀ :: hs) orelse [] pos) env) Q E s := by
  rw [arm_exec_Try]
  exact wpC_any (wpAny_standAt (wpC_attempt_try h))
theorem wpC_execs_cons {st : Stmt} {rest : List Stmt} {Q : Flow → Shared → Prop}
    (h : wpC M A (exec st env) (fun f s₁ => match f with | .next => wpC M A (execs rest env) Q E s₁ | f => Q f s₁) E s) : wpC M A (execs (st :: rest) env) Q E s := by
  rw [execs]
  refine wpC_bind (wpC_mono h (fun f s₁ h₁ => ?_) fun _ _ x => x)
  cases f <;> first | exact h₁ | exact wpC_pure h₁
/-- the front of a body by the kit's walk, its last statement under the caller -/
theorem wpC_execs_append {a b : List Stmt} : ∀ {s : Shared} {Q : Flow → Shared → Prop}, 
    wpAny M A (execs a env) (fun f s₁ => match f with | .next => wpC M A (execs b env) Q E s₁ | f => Q f s₁) E s → wpC M A (execs (a ++ b) env) Q E s := by
  have key : execs (a ++ b) env = (execs a env >>= fun f => match f with | .next => execs b env | f => pure f) := by
    induction a with
    | nil => show execs b env = _; rw [show execs ([] : List Stmt) env = pure .next from rfl]; rfl
    | cons x a ih =>
      show execs (x :: (a ++ b)) env = _
      rw [execs, execs, ih]
      rw [bind_assoc]
      congr 1
      funext f
      cases f <;> rfl
  intro s Q h
  rw [key]
  refine wpC_any (wpAny_mono h (fun f s₁ h₁ => ?_) fun _ _ x => x)
  cases f <;> first | exact h₁ | exact wpC_pure h₁
theorem wpC_Return {e : Expr} {pos : Pos} {Q : Flow → Shared → Prop} (h : wpC M A (eval e env) (fun v s₁ => Q (.ret v) s₁) E s) : wpC M A (exec (.Return (some e) pos) env) Q E s := by
  rw [arm_exec_Return]
  refine wpC_any (wpAny_standAt ?_)
  show wpC M A (eval e env >>= _) Q E s
  exact wpC_bind (wpC_mono h (fun _ _ x => wpC_pure x) fun _ _ x => x)
theorem wpC_Compare {left : Expr} {ops : List CmpOp} {rs : List Expr} {pos : Pos} {Q : Value → Shared → Prop}
    (h : wpC M A (eval left env) (fun v s₁ => wpAny M A (compareChain pos v ops (markedEach ops rs (evalEach rs env))) Q E s₁) E s) : wpC M A (eval (.Compare left ops rs pos) env) Q E s := by
  rw [arm_eval_Compare]
  exact wpC_then h
end
end Mine
namespace Mine
structure FnAnd (h : Heap) (f : Addr) (P : Prop) : Prop where
  fn : ∃ o fd, h.get? f = some o ∧ o.data = .func fd
  go : P
section
variable {M : Model} {A : Around} {E : Value → Shared → Prop} {s : Shared} {env : Env}
theorem wpC_keep {α : Type} {vs : List Value} {m : Sem α} {Q : α → Shared → Prop} (h : wpC M A m Q E s) : wpC M A (m.keep vs) Q E s :=
  fun Γ p hΓ ho => by rw [Sem.wp_keep]; exact h Γ p hΓ ho
theorem wpC_callWith_fn {pos : Pos} {f : Addr} {args : List (Bool × Sem Value)} {Q : Value → Shared → Prop}
    (hplain : args.any (·.1) = false) (hlen : ¬ args.length + 2 * ([] : List (Option Str × Sem Value)).length > 30)
    (h : wpAny M A (evalArgs (.ref f) true args []) (fun a s₁ => FnAnd s₁.heap f (wpC M A (call (.ref f) ([] ++ a.pos) a.kw) Q E s₁)) E s) :
    wpC M A (callWith pos (.ref f) [] args []) Q E s := by
  unfold callWith
  refine wpC_any (wpAny_holding (wpAny_mono h (fun a s₁ h₁ => wpC_any (wpAny_standAt ?_)) fun _ _ x => x))
  obtain ⟨⟨o, fd, ho, hd⟩, h₁⟩ := h₁
  simp only [hplain, List.any_nil, Bool.or_false]
  refine wpC_any (m := keeperOf (.ref f)) ?_
  unfold keeperOf
  refine wpAny_bind (wpAny_load ho ?_)
  rw [hd]
  refine wpAny_pure ?_
  dsimp only
  rw [if_neg hlen]
  refine wpC_bind (wpC_keep (wpC_mono h₁ (fun r s₂ hr => ?_) fun _ _ x => x))
  exact wpC_any (wpAny_holding (wpAny_point (wpC_pure hr)))
theorem wpC_callWith_type {pos : Pos} {T : String} {args : List (Bool × Sem Value)} {Q : Value → Shared → Prop}
    (hplain : args.any (·.1) = false)
    (h : wpAny M A (evalArgs (.type T) true args []) (fun a s₁ => wpC M A (call (.type T) ([] ++ a.pos) a.kw) Q E s₁) E s) :
    wpC M A (callWith pos (.type T) [] args []) Q E s := by
  unfold callWith
  refine wpC_any (wpAny_holding (wpAny_mono h (fun a s₁ h₁ => wpC_any (wpAny_standAt ?_)) fun _ _ x => x))
  simp only [hplain, List.any_nil, Bool.or_false]
  refine wpC_any (wpAny_pure ?_)
  dsimp only
  refine wpC_bind (wpC_mono h₁ (fun r s₂ hr => ?_) fun _ _ x => x)
  exact wpC_any (wpAny_holding (wpAny_point (wpC_pure hr)))
theorem wpC_Call_Name {id : Str} {p pos : Pos} {args : List Expr} {keywords : List Keyword} {Q : Value → Shared → Prop}
    (h : wpAny M A (eval (.Name id p) env) (fun f s₁ => wpC M A (callWith pos f [] (backTo pos (starEach args env)) (backToKw pos (keywordEach keywords env))) Q E s₁) E s) :
    wpC M A (eval (.Call (.Name id p) args keywords pos) env) Q E s := by
  rw [arm_eval_Call_Name']
  exact wpC_any h
theorem wpC_Expr {e : Expr} {pos : Pos} {Q : Flow → Shared → Prop} (hi : interactive env = false) (hs : swapsWith e none pos.line env = pure false)
    (h : wpC M A (eval e env) (fun v s₁ => wpAny M A (dropValue e pos v) Q E s₁) E s) : wpC M A (exec (.Expr e pos) env) Q E s := by
  rw [arm_exec_Expr]
  refine wpC_any (wpAny_standAt ?_)
  rw [hi, hs]
  refine wpC_any (wpAny_pure ?_)
  exact wpC_then h
theorem wpC_Assign {t : List Expr} {e : Expr} {pos : Pos} {Q : Flow → Shared → Prop} (hs : swapsWithSole t e pos.line env = pure false)
    (h : wpC M A (eval e env) (fun v s₁ => wpAny M A (swappedStores t e env >>= fun sw => assignStores env v sw ((assignEach t env).map (·.2))) Q E s₁) E s) : wpC M A (exec (.Assign t e pos) env) Q E s := by
  rw [arm_exec_Assign]
  refine wpC_any (wpAny_standAt ?_)
  rw [hs]
  refine wpC_any (wpAny_pure ?_)
  exact wpC_then h
end
end Mine
namespace Mine
section
variable {prog : Program} {w : World} {A₀ A : Around} {s : Shared} {base h₀ : Heap} {outer : List Env} {L a : Addr} {m : Str → Option Value} {cn : Str} {cs : Scope} {ccd : Value} {news : List (Addr × Obj)} {K : Frag} {p : Program} {loose : List Str} {mean : ExcName → Option Value} {mg mb : Str → Option Value}
    {R : Result → Shared → Prop} {name qual : Str} {params : Arguments} {body : List Stmt} {scope : Scope} {dV kV doc pm cdv ct oc : Value} {an od : Option Addr} {osl : Array (Option Value)} {f : Addr} {args : Args} {binds : List (Str × Value)}
/-- a def that is entered inside a try and does not return -/
theorem enterC1 (B : Below A₀ base outer h₀) (F : Fr h₀ L s.heap m) (X₀ : K.In h₀) (N : News h₀ L s.heap news) (T : Top p loose mean mg mb h₀) (D : KtsDicts (outer.filterMap (·.frame)) h₀)
    (hA : A.frames = some (envOf cn cs L a ccd :: outer))
    (ho : K.lookup f = some ⟨oc, od, .func (fnOf name qual params body scope dV kV doc pm an cdv ct), osl⟩) (hcd : codeIn K cdv qual = true) (hroom : A.depth < recursionLimit)
    (hbind : BindsTo s (fnOf name qual params body scope dV kV doc pm an cdv ct) args binds) (hloc : ∀ y ∈ binds, scope.names.lookup y.1 = some .local)
    (h : ∀ g L' h₁, Fr h₀ L g m → Fr g L' h₁ (fun y => binds.reverse.lookup y) → News g L' h₁ news → Below A base (envOf cn cs L a ccd :: outer) g → K.In g → Top p loose mean mg mb g → KtsDicts ((envOf cn cs L a ccd :: outer).filterMap (·.frame)) g →
      wpC (model prog w) (A.deeper (envOf qual scope L' f cdv)) (execs body (envOf qual scope L' f cdv))
        (fun fl s' => R (.ok (.ret (match fl with | .ret v => v | _ => .none))) s')
        (fun e s' => wpAny (model prog w) (A.deeper (envOf qual scope L' f cdv)) (leaving (envOf qual scope L' f cdv) e) (fun _ s'' => R (.error e) s'') (fun e' s'' => R (.error e') s'') s')
        { s with heap := h₁, toks := s.toks + binds.length })
    (hck : cs.kind = .function) (hco : scope.isCoroutine = false) (hgen : scope.isGenerator = false) (hk : scope.kind = .function)
    (hcell : ∀ x ∈ scope.names, x.2 ≠ .cell) : codeC (model prog w) A (.call (.ref f) args) R s := by
  have X := X₀.keeps F.keep
  refine codeC_call_def (fd := fnOf name qual params body scope dV kV doc pm an cdv ct) (body := body) (binds := binds) hroom (X _ _ ho) rfl (T.nolimit.keeps F.keep) (codeRec_of X hcd) rfl hbind hcell hloc (fun h₁ hns hk₁ => ?_) hco hgen hk
  obtain ⟨oL, es, ep, hLg, hLd, hN, hNs, st, B₂⟩ := kts_enter B F N hA hck
  exact h _ s.heap.objs.size h₁ ⟨hN _ hLg, st, F.above⟩ ⟨hns, fun b o e => hk₁ b o (of_hideAll _ e), Nat.le_of_eq (hideAll_size _ _)⟩
    (fun p hp => ⟨hk₁ _ _ (N p hp).1, Nat.ne_of_lt (Heap.lt_size (N p hp).1), hideAll_none _ (List.mem_map_of_mem hp)⟩) B₂ (X₀.keeps st) (T.keeps st) (fun b hb => by
      rcases kts_mem hb with rfl | hb
      · exact ⟨oL, es, ep, hLg, hLd⟩
      · obtain ⟨o, es', n', ho', hd'⟩ := D b hb
        exact ⟨o, es', n', st b o ho', hd'⟩)
end
end Mine
namespace Mine
section
variable {M : Model} {A : Around} {E : Value → Shared → Prop} {s : Shared} {env : Env}
theorem args1 {f : Value} {x : Sem Value} {Q : Args → Shared → Prop} (h : wpAny M A x (fun v s₁ => Q ⟨[v], []⟩ s₁) E s) :
    wpAny M A (evalArgs f true [(false, x)] []) Q E s :=
  Calls.evalArgs_plain (Calls.spliced_cons (wpAny_mono h (fun _ _ q => Calls.spliced_nil q) fun _ _ q => q))
theorem args2 {f : Value} {x y : Sem Value} {Q : Args → Shared → Prop} (h : wpAny M A x (fun v s₁ => wpAny M A y (fun u s₂ => Q ⟨[v, u], []⟩ s₂) E s₁) E s) :
    wpAny M A (evalArgs f true [(false, x), (false, y)] []) Q E s :=
  Calls.evalArgs_plain (Calls.spliced_cons (wpAny_mono h (fun _ _ q => Calls.spliced_cons (wpAny_mono q (fun _ _ q => Calls.spliced_nil q) fun _ _ q => q)) fun _ _ q => q))
theorem args1b {f : Value} {a x : Sem Value} {Q : Args → Shared → Prop} (h : wpAny M A x (fun v s₁ => Q ⟨[v], []⟩ s₁) E s) :
    wpAny M A (evalArgs f true [(false, if false = true then a else x)] []) Q E s := args1 h
theorem args2b {f : Value} {a b x y : Sem Value} {Q : Args → Shared → Prop} (h : wpAny M A x (fun v s₁ => wpAny M A y (fun u s₂ => Q ⟨[v, u], []⟩ s₂) E s₁) E s) :
    wpAny M A (evalArgs f true [(false, if false = true then a else x), (false, if false = true then b else y)] []) Q E s := args2 h
end
end Mine
namespace Mine
/-- a reply that parse229 reads up to its port, which is no number -/
structure BadPort (x : Str) : Prop where
  len : x.length ≤ 100
  code : (Txt.slice x none (some 3) != Str.ofString "229") = false
  left : 0 ≤ Txt.find x (Str.ofString "(")
  left2 : Txt.find x (Str.ofString "(") + 1 < (x.length : Int)
  right : 0 < Txt.find3 x (Str.ofString ")") (Txt.find x (Str.ofString "(") + 1)
  right2 : Txt.find3 x (Str.ofString ")") (Txt.find x (Str.ofString "(") + 1) - 1 < (x.length : Int)
  mark : (Txt.item x (Txt.find x (Str.ofString "(") + 1) != Txt.item x (Txt.find3 x (Str.ofString ")") (Txt.find x (Str.ofString "(") + 1) - 1)) = false
  five : (Txt.split (Txt.slice x (some (Txt.find x (Str.ofString "(") + 1)) (some (Txt.find3 x (Str.ofString ")") (Txt.find x (Str.ofString "(") + 1)))) (Txt.item x (Txt.find x (Str.ofString "(") + 1))).length = 5
  port : (Txt.split (Txt.slice x (some (Txt.find x (Str.ofString "(") + 1)) (some (Txt.find3 x (Str.ofString ")") (Txt.find x (Str.ofString "(") + 1)))) (Txt.item x (Txt.find x (Str.ofString "(") + 1))).getD 3 Str.empty = Str.ofString "21z1"
end Mine
namespace Mine
theorem map_len5' {l : List (Str × Tok)} {sp : List Str} (e : List.map (fun x => x.1) l = sp) (h : sp.length = 5) (g : (l.length : Int) ≠ 5) : False := by
  subst e
  rw [List.length_map] at h
  omega
theorem five_noV {x : Str} {P : Prop} {l : List (Str × Tok)} (G : BadPort x)
    (e : List.map (fun x => x.1) l = Txt.split (Txt.slice x (some (Txt.find x (Str.ofString "(") + 1)) (some (Txt.find3 x (Str.ofString ")") (Txt.find x (Str.ofString "(") + 1)))) (Txt.item x (Txt.find x (Str.ofString "(") + 1)))
    (g : (l.length : Int) ≠ 5) : P := (map_len5' e G.five g).elim
theorem port_eq {x : Str} {l : List (Str × Tok)} {y : Str} (G : BadPort x)
    (e : List.map (fun x => x.1) l = Txt.split (Txt.slice x (some (Txt.find x (Str.ofString "(") + 1)) (some (Txt.find3 x (Str.ofString ")") (Txt.find x (Str.ofString "(") + 1)))) (Txt.item x (Txt.find x (Str.ofString "(") + 1)))
    (hy : (List.map (fun x => x.1) l)[Int.toNat 3]? = some y) : y = Str.ofString "21z1" := by
  have hn := G.port
  rw [← e] at hn
  have : (List.map (fun x => x.1) l).getD 3 Str.empty = y := by
    rw [List.getD_eq_getElem?_getD]
    rw [show (3 : Nat) = Int.toNat 3 from rfl, hy]
    rfl
  rw [this] at hn
  exact hn
end Mine
namespace Mine
open PySem.NumText
theorem num21z1 : (int_private% "readNumeral") 0 10 (numSeenOf (Str.ofString "21z1")) = (int_private% "Numeral.invalid") := by with_unfolding_all rfl
theorem ref_end {Q : Value → Shared → Prop} {s : Shared} {h₀ : Heap} {L : Addr} {m : Str → Option Value} {news : List (Addr × Obj)} {extra : List (Addr × Obj)} {kd x : Str} {D : Addr} {ta tb : Tok} {h' : Heap} {tk' : Nat}
    (hret : ∀ (D : Addr) (ta tb : Tok) (h' : Heap) (tk' : Nat), Fr h₀ L h' m → News h₀ L h' ((D, { cls := .type "tuple", data := .seq #[.str kd ta, .str x tb] }) :: news) → AllLt D news → Q (.ref D) { s with heap := h', toks := tk' })
    (F : Fr h₀ L h' m) (N : News h₀ L h' ((D, { cls := .type "tuple", data := .seq #[.str kd ta, .str x tb] }) :: (extra ++ news))) (l : AllLt D (extra ++ news)) :
    Q (.ref D) { s with heap := h', toks := tk' } :=
  hret D ta tb h' tk' F (fun p hp => N p (by rcases List.mem_cons.mp hp with rfl | hp; exact .head _; exact .tail _ (List.mem_append_right _ hp)))
    (by induction extra with
        | nil => exact l
        | cons a r ih => exact ih (fun p hp => N p (by rcases List.mem_cons.mp hp with rfl | hp; exact .head _; exact .tail _ (.tail _ hp))) l.2)
end Mine
namespace Mine
/-- the run of the claim's caller, whose tree is known under the caller alone -/
theorem ends_on {prog : Program} {w : World} {t : Sem Fin} {s : Shared} {R : Result → Shared → Prop} (hz : s.asleep)
    (h : wpC (model prog w) callerA t (fun fin s' => ∃ f, fin = .done f ∧ R (.ok f) s' ∧ leftWithCleanup s'.gens = false) (fun e s' => R (.error e) s' ∧ leftWithCleanup s'.gens = false) s) :
    ∃ n r s' s'', runN (denote table) prog w n s ⟨t, .builtin "claim.caller" {}, default, []⟩ = .halted (outcomeOf r) s' ∧
      schedN (denote table) prog w n (.single s ⟨t, .builtin "claim.caller" {}, default, []⟩) = .halted (outcomeOf r) s' ∧ s'.forget = s''.forget ∧ R r s'' := by
  have h0 := h _ default caller_in (.inl rfl)
  obtain ⟨n, r, a, b, hs, hn, hf, hR⟩ := wp_halts_full (M := model prog w) (R := R) hz (Sem.wp_mono _ _ t (fun fin _ s' q => by
    obtain ⟨f, rfl, q⟩ := q
    exact q) (fun _ _ _ q => q) default s h0)
  exact ⟨n, r, b, a, hn, hs, hf, hR⟩
abbrev rowO : OpenRow := PySem.Challenge.rw_to0016_01.row
noncomputable def hookP (P : ∀ p : PySem.Params, @Eq (List PySem.Addr) (@List.cons Nat (nat_lit 2) (@List.cons Nat (nat_lit 3) (@List.cons Nat (nat_lit 6) (@List.cons Nat (nat_lit 15) (@List.cons Nat (nat_lit 22) (@List.cons Nat (nat_lit 23) (@List.cons Nat (nat_lit 24) (@List.cons Nat (nat_lit 25) (@List.cons Nat (nat_lit 28) (@List.cons Nat (nat_lit 35) (@List.cons Nat (nat_lit 36) (@List.cons Nat (nat_lit 37) (@List.cons Nat (nat_lit 40) (@List.cons Nat (nat_lit 47) (@List.cons Nat (nat_lit 48) (@List.cons Nat (nat_lit 49) (@List.cons Nat (nat_lit 52) (@List.cons Nat (nat_lit 54) (@List.cons Nat (nat_lit 55) (@List.cons Nat (nat_lit 57) (@List.cons Nat (nat_lit 58) (@List.cons Nat (nat_lit 59) (@List.cons Nat (nat_lit 61) (@List.cons Nat (nat_lit 62) (@List.cons Nat (nat_lit 64) (@List.cons Nat (nat_lit 65) (@List.cons Nat (nat_lit 66) (@List.cons Nat (nat_lit 68) (@List.cons Nat (nat_lit 69) (@List.cons Nat (nat_lit 71) (@List.cons Nat (nat_lit 72) (@List.cons Nat (nat_lit 73) (@List.cons Nat (nat_lit 75) (@List.cons Nat (nat_lit 76) (@List.cons Nat (nat_lit 78) (@List.cons Nat (nat_lit 79) (@List.cons Nat (nat_lit 80) (@List.cons Nat (nat_lit 82) (@List.cons Nat (nat_lit 83) (@List.cons Nat (nat_lit 85) (@List.cons Nat (nat_lit 86) (@List.cons Nat (nat_lit 87) (@List.cons Nat (nat_lit 89) (@List.cons Nat (nat_lit 90) (@List.cons Nat (nat_lit 92) (@List.cons Nat (nat_lit 93) (@List.cons Nat (nat_lit 94) (@List.cons Nat (nat_lit 96) (@List.cons Nat (nat_lit 97) (@List.cons Nat (nat_lit 99) (@List.cons Nat (nat_lit 100) (@List.cons Nat (nat_lit 101) (@List.cons Nat (nat_lit 104) (@List.cons Nat (nat_lit 105) (@List.cons Nat (nat_lit 106) (@List.cons Nat (nat_lit 109) (@List.cons Nat (nat_lit 110) (@List.nil Nat)))))))))))))))))))))))))))))))))))))))))))))))))))))))))) (List.map (fun x => x.1) (Mine.hd.heap_1 p))) : Hook := kHook Mine.hd.heap_1 (@List.cons Nat (nat_lit 2) (@List.cons Nat (nat_lit 3) (@List.cons Nat (nat_lit 6) (@List.cons Nat (nat_lit 15) (@List.cons Nat (nat_lit 22) (@List.cons Nat (nat_lit 23) (@List.cons Nat (nat_lit 24) (@List.cons Nat (nat_lit 25) (@List.cons Nat (nat_lit 28) (@List.cons Nat (nat_lit 35) (@List.cons Nat (nat_lit 36) (@List.cons Nat (nat_lit 37) (@List.cons Nat (nat_lit 40) (@List.cons Nat (nat_lit 47) (@List.cons Nat (nat_lit 48) (@List.cons Nat (nat_lit 49) (@List.cons Nat (nat_lit 52) (@List.cons Nat (nat_lit 54) (@List.cons Nat (nat_lit 55) (@List.cons Nat (nat_lit 57) (@List.cons Nat (nat_lit 58) (@List.cons Nat (nat_lit 59) (@List.cons Nat (nat_lit 61) (@List.cons Nat (nat_lit 62) (@List.cons Nat (nat_lit 64) (@List.cons Nat (nat_lit 65) (@List.cons Nat (nat_lit 66) (@List.cons Nat (nat_lit 68) (@List.cons Nat (nat_lit 69) (@List.cons Nat (nat_lit 71) (@List.cons Nat (nat_lit 72) (@List.cons Nat (nat_lit 73) (@List.cons Nat (nat_lit 75) (@List.cons Nat (nat_lit 76) (@List.cons Nat (nat_lit 78) (@List.cons Nat (nat_lit 79) (@List.cons Nat (nat_lit 80) (@List.cons Nat (nat_lit 82) (@List.cons Nat (nat_lit 83) (@List.cons Nat (nat_lit 85) (@List.cons Nat (nat_lit 86) (@List.cons Nat (nat_lit 87) (@List.cons Nat (nat_lit 89) (@List.cons Nat (nat_lit 90) (@List.cons Nat (nat_lit 92) (@List.cons Nat (nat_lit 93) (@List.cons Nat (nat_lit 94) (@List.cons Nat (nat_lit 96) (@List.cons Nat (nat_lit 97) (@List.cons Nat (nat_lit 99) (@List.cons Nat (nat_lit 100) (@List.cons Nat (nat_lit 101) (@List.cons Nat (nat_lit 104) (@List.cons Nat (nat_lit 105) (@List.cons Nat (nat_lit 106) (@List.cons Nat (nat_lit 109) (@List.cons Nat (nat_lit 110) (@List.nil Nat)))))))))))))))))))))))))))))))))))))))))))))))))))))))))) P
noncomputable def hook : Hook := hookP (fun _ => by kernel_rfl)
noncomputable def xt (s : Shared) : Bool := xlAt Mine.hd.view_1 [] s && recOk (RowW.records rowO.toRowW) s
open scoped Classical in
theorem left0 : LeftO PySem.Challenge.rw_to0016_01.row.prog Mine.hd.view_1 [] (fun s => xlAt Mine.hd.view_1 [] s && recOk (RowW.records (OpenRow.toRowW (OpenLaw.row PySem.Challenge.rw_to0016_01))) s) (Hook.obs (hookP (fun _ => by kernel_rfl))) (Hook.val (hookP (fun _ => by kernel_rfl))) 2092 := by
  delta Mine.hookP LeftO
  decide +kernel
theorem left : LeftO PySem.Challenge.rw_to0016_01.row.prog Mine.hd.view_1 [] xt (Hook.obs hook) (Hook.val hook) 2092 := by
  delta xt hook
  exact left0
/-- what is to be shown of law's call -/
noncomputable abbrev WalkC (d : DefRec) (kwd : List (Str × Expr)) : Prop :=
  ∀ (w : World) (s₀ s₁ : Shared) (mg mb : Str → Option Value), Ground Mine.hd.view_1 [] rowO.records (XL Mine.hd.view_1 []) w s₀ mg mb s₁.heap → hook.says w s₁.heap →
    ∀ (a : Addr) (o : Obj) (pm cd doc dV kV : Value), s₁.heap.get? a = some o → o.data = .func { docDef d.name d.params d.body d.scope pm cd doc with defaults := dV, kwdefaults := kV } →
    s₁.heap.CodeRec cd d.name → Dflts mg s₁.heap d.params kwd dV kV → mg d.name = some (.ref a) → s₁.gens = #[] → ∀ (args : List WData) (vals : List Value) (as : List Addr),
    rowO.toRowW.claim.pre args = true → WData.layableAll args = true → ReadsAllW rowO.records (classAt s₀.heap) s₁.heap vals args as → WellAll w.params s₁.heap vals args → (∀ a ∈ as, (a == sysModules) = false) →
      wpC (model rowO.prog w) callerA (PySem.call (.ref a) vals) (fun v s' => GoodWG rowO.toRowW.claim (classAt s₀.heap) (ExcName.means s₀.heap) args s₁ (.ok (.ret v)) s')
        (fun e s' => GoodWG rowO.toRowW.claim (classAt s₀.heap) (ExcName.means s₀.heap) args s₁ (.error e) s') s₁
theorem held {d : DefRec} {kwd : List (Str × Expr)} (hdef : defOf Mine.hd.view_1 rowO.name = some (d, kwd)) (hp : rowO.prog.theDef rowO.name = some (d.params, d.body, d.scope))
    (hk : kwWritten? d.params.kwonlyargs d.params.kw_defaults = some kwd) (said : rowO.wellSaid = true) (hb : rowO.prog.bare)
    (ok : (chainsOk Mine.hd.view_1 && opensWell rowO.prog && (frees rowO.toRowW && rowO.within.isEmpty)) = true) (hw : rowO.toRowW.promised)
    (walk : WalkC d kwd) : rowO.Holds := by
  obtain ⟨ok, okf⟩ := Bool.and_eq_true_iff.mp ok
  obtain ⟨hch, hop⟩ := Bool.and_eq_true_iff.mp ok
  obtain ⟨okf, hin⟩ := Bool.and_eq_true_iff.mp okf
  have fr := frees_parts okf
  have hid := ident_freeW fr.2.1 fr.2.2.1 fr.2.2.2.1
  have back := left.behind (XP := XL Mine.hd.view_1 []) (fun s e => xl_of s (Bool.and_eq_true_iff.mp e).1) hch
  refine ⟨said, hw, ⟨hb, hop, rfl⟩, hw.witness, fun w => ⟨(back w).1, fun s' hs' => ?_⟩⟩
  obtain ⟨sF, hF, hg0, sT, hT, hz, hge, hmain, G, hy⟩ := (back w).2 s' hs'
  have hge : sT.gens = #[] := Array.eq_empty_of_size_eq_zero (beq_iff_eq.mp hge)
  refine ⟨sF, hF, hg0, sT, hT, fun n hn => ?_, (fun x hx => nomatch hx), (fun x hx => nomatch hx), fun args hpre hlay ord hord => ?_⟩
  · obtain rfl : n = rowO.name := by split at hn <;> simp_all
    exact pinned_of_view hmain G hdef hp hk
  obtain ⟨⟨vs, s₁⟩, hlaid⟩ := Option.isSome_iff_exists.mp (layAllW_isSome (P := w.params) (ord := ord) G.has args rowO.toRowW.args sT (pre_splitW hpre).1)
  have keeps := layAllW_keeps _ _ _ hlaid
  have rest := layAllW_rest _ _ _ hlaid
  obtain ⟨as, hrd, hin', hold⟩ := reads_layAllW hord _ _ _ hlaid hlay s₁.heap (fun _ _ e => e)
  have L : Laid rowO.records w sT s₁ args vs as := ⟨⟨ord, hord, hlaid⟩, hrd, hin', hold, keeps, rest.1.trans hge, rest.2.2.1⟩
  have G₁ := G.keeps XL.keeps keeps
  obtain ⟨a, o, pm, cd, doc, dV, kV, h1, h2, h3, h4, h5⟩ := G₁.fn hdef
  have hcall := walk w sT s₁ _ _ G₁ (hook.keeps w _ _ (hook.of w sT hy) keeps) a o pm cd doc dV kV h2 h3 h4 h5 (defOf_name hdef ▸ h1) L.gens args vs as hpre hlay L.reads L.well (L.low G.low)
  have hgood := fun r s₂ (g : GoodWG rowO.toRowW.claim (classAt sT.heap) (ExcName.means sT.heap) args s₁ r s₂) => g.laid fr.1 (List.isEmpty_iff.mp hin) hid L
  have htree : wpC (model rowO.prog w) callerA (callStub rowO.name vs).cur
      (fun fin s₂ => ∃ f, fin = .done f ∧ (rowO.toRowW.claim.Ends sT args vs s₁ (.ok f) s₂ ∧ s₂.os = sT.os) ∧ leftWithCleanup s₂.gens = false)
      (fun e s₂ => (rowO.toRowW.claim.Ends sT args vs s₁ (.error e) s₂ ∧ s₂.os = sT.os) ∧ leftWithCleanup s₂.gens = false) s₁ := by
    refine wpC_any (wpAny_nsGet G₁.T.g ?_)
    rw [h1]
    refine wpC_bind (wpC_mono hcall (fun v s₂ g => wpC_pure ⟨_, rfl, ?_⟩) fun e s₂ g => ?_)
    · have z := hgood _ _ g
      exact ⟨⟨z.1, z.2.1⟩, leftWithCleanup_false_of_bare z.2.2⟩
    · have z := hgood _ _ g
      exact ⟨⟨z.1, z.2.1⟩, leftWithCleanup_false_of_bare z.2.2⟩
  obtain ⟨k, r, sE, sE', hrun, hsched, hfo, hcase, hos⟩ := ends_on (prog := rowO.prog) (w := w) (R := fun r s₂ => rowO.toRowW.claim.Ends sT args vs s₁ r s₂ ∧ s₂.os = sT.os) (Shared.asleep_of_life rest.2.2.2 hz) htree
  have hfe := Shared.forget_eq hfo
  have hcase := hcase.congr hfe.1
  have hos : sE.os = sT.os := hfe.2.2.2.1.trans hos
  have hlife : sE.heap.life = sT.heap.life := (runN_life _ _ _ hrun).trans rest.2.2.2
  refine ⟨vs, s₁, hlaid, k, _, sE, hsched, ?_, (fun _ i x hx => by rw [hge] at hx; simp at hx), (fun q => nomatch q), by rw [hlife], Shared.rest_eq hos⟩
  rcases hcase with ⟨v, rfl, d1, d2, d3, d4, d5⟩ | ⟨e, ob, cls, rfl, d1, d2, d3, d4, d5⟩
  · exact .inl ⟨v, rfl, d1, d2, d3, fun b o y _ => d4 b o y, d5⟩
  · exact .inr ⟨e, ob, cls, rfl, d1, d2, d3, d4, fun b o y _ => d5 b o y⟩
end Mine
section
theorem Mine.rgbC : ∀ {w : World} {mean : ExcName → Option Value} {mg mb : Str → Option Value} {r g b : Int} {t1 t2 t3 : Tok}
   {dp un : Nat} {gd : Option (List Code)} {cn : Str} {cs : Scope} {a : Addr} {ccd : Value} {cl : List (Str × Addr)} {outer : List Env} {A₀ : Around} {base h₀ : Heap} {L : Addr} {m : Str → Option Value} {s : Shared} {news : List (Addr × Obj)} {Q E : Value → Shared → Prop}
   (B : Below A₀ base outer h₀) (F : Fr h₀ L s.heap m) (X : (Mine.hd.heap_1 w.params).In h₀) (N : News h₀ L s.heap news) (T : Top Mine.hd.view_1 (looseW Mine.hd.view_1 []) mean mg mb h₀) (hk : cs.kind = .function) 
   (hdp : dp + 1 < recursionLimit) (hu : un + 8 < cLine)
   (hr : 0 ≤ r ∧ r ≤ 16) (hg : 0 ≤ g ∧ g ≤ 16) (hb : 0 ≤ b ∧ b ≤ 16)
   (hret : ∀ (D : Addr) (ta tb tc : Tok) (h' : Heap) (tk' : Nat), Fr h₀ L h' m → News h₀ L h' ((D, { cls := .type "tuple", data := .seq #[.float (Mine.hueF r g b) ta, .float (Mine.satF r g b) tb, .int (Mine.maxI r g b) tc] }) :: news) → (∀ p ∈ news, p.1 < D) → Q (.ref D) { s with heap := h', toks := tk' }),
   wpAny (model PySem.Challenge.rw_to0016_01.row.prog w) (ktrTop dp un gd cn cs L a ccd cl outer) (call (.ref 72) [.int r t1, .int g t2, .int b t3]) Q E s := by
  k_fill
  intros
  rename_i hret
  refine wpAny_call ?_
  k_dflt cell_enter
  (repeat' (first | first | (k_unfold; (try dsimp only)) | (k_end; wrow_close) | (walk1; (try dsimp only)) | (dsimp only; walk1) | (leave1; walk_say "STEP leave1"; try dsimp only) | fail "no step"))
  all_goals (refine Mine.rgb_end hret (by assumption) (by assumption) (by assumption) ?_ ?_ rfl)
  all_goals (first | unfold Mine.hueF Mine.idiv | unfold Mine.satF Mine.idiv); (repeat' split) <;> first | rfl | contradiction | omega
end
section
theorem Mine.hsvC : ∀ {w : World} {mean : ExcName → Option Value} {mg mb : Str → Option Value} {x y : UInt64} {v : Int} {t1 t2 t3 : Tok}
   {dp un : Nat} {gd : Option (List Code)} {cn : Str} {cs : Scope} {a : Addr} {ccd : Value} {cl : List (Str × Addr)} {outer : List Env} {A₀ : Around} {base h₀ : Heap} {L : Addr} {m : Str → Option Value} {s : Shared} {news : List (Addr × Obj)} {Q E : Value → Shared → Prop}
   (B : Below A₀ base outer h₀) (F : Fr h₀ L s.heap m) (X : (Mine.hd.heap_1 w.params).In h₀) (N : News h₀ L s.heap news) (T : Top Mine.hd.view_1 (looseW Mine.hd.view_1 []) mean mg mb h₀) (hk : cs.kind = .function) 
   (hdp : dp + 1 < recursionLimit) (hu : un + 8 < cLine)
   (hv : 0 ≤ v ∧ v ≤ 16) (hn : Float64.isNaN (Float64.mul x 4618441417868443648) = false) (hi : Float64.isInf (Float64.mul x 4618441417868443648) = false) (hb : (Flt.toInt Float64.truncOf (Float64.mul x 4618441417868443648)).natAbs < 100)
   (hret : ∀ (D : Addr) (va vb vc : Value) (h' : Heap) (tk' : Nat), Mine.Kin (Mine.hsvL x y v).1 va → Mine.Kin (Mine.hsvL x y v).2.1 vb → Mine.Kin (Mine.hsvL x y v).2.2 vc → Fr h₀ L h' m →
      News h₀ L h' ((D, { cls := .type "tuple", data := .seq #[va, vb, vc] }) :: news) → (∀ p ∈ news, p.1 < D) → Q (.ref D) { s with heap := h', toks := tk' }),
   wpAny (model PySem.Challenge.rw_to0016_01.row.prog w) (ktrTop dp un gd cn cs L a ccd cl outer) (call (.ref 79) [.float x t1, .float y t2, .int v t3]) Q E s := by
  k_fill
  intro w mean mg mb x y v t1 t2 t3 dp un gd cn cs a ccd cl outer A₀ base h₀ L m s news Q E B F X N T hk hdp hu hv hn hi hb hret
  refine wpAny_call ?_
  k_dflt cell_enter
  (repeat' (first | first | (k_unfold; (try dsimp only)) | (k_end; wrow_close) | (walk1; (try dsimp only)) | (dsimp only; walk1) | (leave1; walk_say "STEP leave1"; try dsimp only) | fail "no step"))
  all_goals first
    | (refine Mine.hsv_end hret (by assumption) (by assumption) (by assumption) ?_ (by constructor) (by constructor) (by constructor); unfold Mine.hsvL Mine.qF Mine.tF Mine.pF Mine.fracF Mine.secI; (repeat' split) <;> first | rfl | contradiction | omega | simp_all)
    | (exfalso; rcases Mine.fmod6 (Flt.toInt Float64.truncOf (Float64.mul x 4618441417868443648)) with q | q | q | q | q | q <;> contradiction)
end
section
local macro_rules | `(tactic| walk_at "call type:int") => `(tactic| (k_here; (with_reducible show wpAny _ _ (call (Value.type "int") [Value.str _ _]) _ _ _); refine Mine.int_part (by with_reducible assumption) (by with_reducible assumption) (by with_reducible assumption) ?_))
theorem Mine.p229C : ∀ {w : World} {mean : ExcName → Option Value} {mg mb : Str → Option Value} {x : Str} {n : Int} {t1 : Tok} {peer : Addr} {t2 t3 : Tok}
   {dp un : Nat} {gd : Option (List Code)} {cn : Str} {cs : Scope} {a : Addr} {ccd : Value} {cl : List (Str × Addr)} {outer : List Env} {A₀ : Around} {base h₀ : Heap} {L : Addr} {m : Str → Option Value} {s : Shared} {news : List (Addr × Obj)} {Q E : Value → Shared → Prop}
   (B : Below A₀ base outer h₀) (F : Fr h₀ L s.heap m) (X : (Mine.hd.heap_1 w.params).In h₀) (N : News h₀ L s.heap ((peer, { cls := .type "tuple", data := .seq #[.str (Str.ofString "peer") t2, .int 21 t3] }) :: news)) (T : Top Mine.hd.view_1 (looseW Mine.hd.view_1 []) mean mg mb h₀) (hk : cs.kind = .function) 
   (hdp : dp + 1 < recursionLimit) (hu : un + 8 < cLine)
   (G : Mine.Good229 x n)
   (hret : ∀ (D : Addr) (ta tb : Tok) (h' : Heap) (tk' : Nat), Fr h₀ L h' m → News h₀ L h' ((D, { cls := .type "tuple", data := .seq #[.str (Str.ofString "peer") ta, .int n tb] }) :: (peer, { cls := .type "tuple", data := .seq #[.str (Str.ofString "peer") t2, .int 21 t3] }) :: news) → AllLt D ((peer, { cls := .type "tuple", data := .seq #[.str (Str.ofString "peer") t2, .int 21 t3] }) :: news) → Q (.ref D) { s with heap := h', toks := tk' }),
   wpAny (model PySem.Challenge.rw_to0016_01.row.prog w) (ktrTop dp un gd cn cs L a ccd cl outer) (call (.ref 58) [.str x t1, .ref peer]) Q E s := by
  k_fill
  intro w mean mg mb x n t1 peer t2 t3 dp un gd cn cs a ccd cl outer A₀ base h₀ L m s news Q E B F X N T hk hdp hu G hret
  have H := G.len
  have H0 := G.code
  have H1 := G.left
  have H2 := G.left2
  have H3 := G.right
  have H4 := G.right2
  have H5 := G.mark
  refine wpAny_call ?_
  k_dflt cell_enter
  (repeat' (first | first | (k_unfold; (try dsimp only)) | (k_end; wrow_close) | (walk1; (try dsimp only)) | (dsimp only; walk1) | (leave1; walk_say "STEP leave1"; try dsimp only) | fail "no step"))
  all_goals first
    | (exact Mine.five_no G (by with_reducible assumption) (by with_reducible assumption))
    | (exact Mine.p229_end hret (by with_reducible assumption) (by with_reducible assumption) (by assumption))
end
section
theorem Mine.p257C : ∀ {w : World} {mean : ExcName → Option Value} {mg mb : Str → Option Value} {x r : Str} {t1 : Tok}
   {dp un : Nat} {gd : Option (List Code)} {cn : Str} {cs : Scope} {a : Addr} {ccd : Value} {cl : List (Str × Addr)} {outer : List Env} {A₀ : Around} {base h₀ : Heap} {L : Addr} {m : Str → Option Value} {s : Shared} {news : List (Addr × Obj)} {Q E : Value → Shared → Prop}
   (B : Below A₀ base outer h₀) (F : Fr h₀ L s.heap m) (X : (Mine.hd.heap_1 w.params).In h₀) (N : News h₀ L s.heap news) (T : Top Mine.hd.view_1 (looseW Mine.hd.view_1 []) mean mg mb h₀) (hk : cs.kind = .function) 
   (hdp : dp + 1 < recursionLimit) (hu : un + 8 < cLine)
   (H : x.length ≤ 100) (H0 : (Txt.slice x none (some 3) != Str.ofString "257") = false) (H1 : (Txt.slice x (some 3) (some 5) != Str.ofString " \"") = false) (HR : Mine.p257go x x.length 5 (Str.ofString "") = r)
   (hret : ∀ (t : Tok) (h' : Heap) (tk' : Nat), Fr h₀ L h' m → News h₀ L h' news → Q (.str r t) { s with heap := h', toks := tk' }),
   wpAny (model PySem.Challenge.rw_to0016_01.row.prog w) (ktrTop dp un gd cn cs L a ccd cl outer) (call (.ref 65) [.str x t1]) Q E s := by
  k_fill
  intro w mean mg mb x r t1 dp un gd cn cs a ccd cl outer A₀ base h₀ L m s news Q E B F X N T hk hdp hu H H0 H1 HR hret
  refine wpAny_call ?_
  k_dflt cell_enter
  k_with "exec While Compare cons nil" => (k_dflt (k_while_given [] (fun (_ : List Int) (i : Int) (d : Str) => 5 ≤ i ∧ (d.length : Int) ≤ 4 * i ∧ Mine.P257 x r i d) (fun (_ : List Int) (i : Int) (_ : Str) => ((x.length : Int) - i).toNat) "i" "dirname"))
  k_with "state" => ((try dsimp only) <;> with_reducible first
    | exact Mine.p257_and (Mine.p257_skip (by with_reducible assumption) (by with_reducible assumption) (by with_reducible assumption) (by omega))
    | exact Mine.p257_and (Mine.p257_two (by with_reducible assumption) (by with_reducible assumption) (by with_reducible assumption) (by with_reducible assumption) (by with_reducible assumption) (by omega))
    | exact Mine.p257_and (Mine.p257_start HR))
  (repeat' (first | first | (k_unfold; (try dsimp only)) | (k_end; wrow_close) | (walk1; (try dsimp only)) | (dsimp only; walk1) | (leave1; walk_say "STEP leave1"; try dsimp only) | fail "no step"))
  all_goals first
    | (refine Mine.p257_end hret ?_ (by with_reducible assumption) (by with_reducible assumption); first
        | exact Mine.p257_done (by with_reducible assumption) (by with_reducible assumption)
        | exact Mine.p257_last (by with_reducible assumption) (by with_reducible assumption) (by with_reducible assumption) (by with_reducible assumption)
        | exact Mine.p257_brk (by with_reducible assumption) (by with_reducible assumption) (by with_reducible assumption) (by with_reducible assumption) (by with_reducible assumption))
end
section
theorem Mine.subCC : ∀ (w : World) (mean : ExcName → Option Value) (mg mb : Str → Option Value) (x y : Str) (t1 t2 : Tok)
   (dp un : Nat) (gd : Option (List Code)) (cn : Str) (cs : Scope) (a : Addr) (ccd : Value) (cl : List (Str × Addr)) (outer : List Env) (A₀ : Around) (base h₀ : Heap) (L : Addr) (m : Str → Option Value) (s : Shared) (news : List (Addr × Obj)) (Q E : Value → Shared → Prop)
   (B : Below A₀ base outer h₀) (F : Fr h₀ L s.heap m) (X : (Mine.hd.heap_1 w.params).In h₀) (N : News h₀ L s.heap news) (T : Top Mine.hd.view_1 (looseW Mine.hd.view_1 []) mean mg mb h₀) (hk : cs.kind = .function) 
   (hdp : dp + 1 < recursionLimit) (hu : un + 8 < cLine)
   (hx : x.length ≤ 1) (hy : y.length ≤ 1)
   (hret : ∀ (t : Tok) (h' : Heap) (tk' : Nat), Fr h₀ L h' m → News h₀ L h' news → Q (.int (Mine.subC x y) t) { s with heap := h', toks := tk' }),
   wpAny (model PySem.Challenge.rw_to0016_01.row.prog w) (ktrTop dp un gd cn cs L a ccd cl outer) (call (.ref 86) [.str x t1, .str y t2]) Q E s := by
  k_fill
  intro w mean mg mb x y t1 t2 dp un gd cn cs a ccd cl outer A₀ base h₀ L m s news Q E B F X N T hk hdp hu hx hy hret
  refine wpAny_call ?_
  k_dflt cell_enter
  (repeat' (first | first | (k_unfold; (try dsimp only)) | (k_end; wrow_close) | (walk1; (try dsimp only)) | (dsimp only; walk1) | (leave1; walk_say "STEP leave1"; try dsimp only) | fail "no step"))
  all_goals (refine Mine.int_end hret (by with_reducible assumption) (by with_reducible assumption) ?_; first
    | exact Mine.sub_0 (by with_reducible assumption)
    | exact Mine.sub_1 (by with_reducible assumption) (by with_reducible assumption)
    | exact Mine.sub_2 (by with_reducible assumption) (by with_reducible assumption))
end
section
local macro_rules | `(tactic| walk_at "eval Subscript") => `(tactic| (k_here; (with_reducible show wpAny _ _ (eval (Expr.Subscript (Expr.Name _ _) (Expr.Slice none (some (Expr.BoolOp BoolOp.Or [Expr.Name _ _, Expr.Constant Const.none _ _] _)) none _) _) _) _ _ _); k_dflt (refine' Mine.cut_ ?k1 ?k2 ?k3 ?k4 ?k5 ?k6 ?_; (case k1 => k_asm); (case k2 => k_asm); (case k3 => rfl); (case k4 => rfl); (case k5 => size_fits); (case k6 => first | exact Mine.cutA (by with_reducible assumption) (by with_reducible assumption) (by with_reducible assumption) | exact Mine.cutB (by with_reducible assumption) (by with_reducible assumption) (by with_reducible assumption))); intro h' t' tk' F' N' hc'; (try k_sweep)))
local macro_rules | `(tactic| walk_at "call ref") => `(tactic| (k_here; (with_reducible show wpAny _ _ (call (Value.ref 86) [Value.str _ _, Value.str _ _]) _ _ _); (refine' Mine.subCC _ _ _ _ _ _ _ _ _ _ _ _ _ _ _ _ _ _ _ _ _ _ _ _ _ _ ?k1 ?k2 ?k3 ?k4 ?k5 ?k6 ?k7 ?k8 ?k9 ?k10 ?_; (case k1 => k_asm); (case k2 => k_asm); (case k3 => k_asm); (case k4 => k_asm); (case k5 => k_asm); (case k6 => first | exact rfl | assumption); (case k7 => ktr_room); (case k8 => ktr_units); (case k9 => omega); (case k10 => omega)); intro t9 h9 tk9 F9 N9; (try dsimp only); (try k_sweep)))
local macro_rules | `(tactic| walk_at "InvEndN") => `(tactic| (k_dflt ((rename News _ _ _ _ => nE'); (first
  | (refine kst_end ⟨_, _, _, _, _, _, _, _, _⟩ (by assumption) nE' (by ((try dsimp only); first | exact Mine.led_in | exact Mine.led_in1 | exact fun p hp => hp)) (by first | (intro p hp; kst_mem) | kst_anyIn) (by rfl) (by kst_facts) (by kst_all) (by kst_same) (by kst_p))
  | (refine kst_end ⟨_, _, _, _, _⟩ (by assumption) nE' (by ((try dsimp only); first | exact Mine.led_in | exact Mine.led_in1 | exact fun p hp => hp)) (by first | (intro p hp; kst_mem) | kst_anyIn) (by rfl) (by kst_facts) (by kst_all) (by kst_same) (by kst_p))))))
theorem Mine.levC : ∀ (w : World) (mean : ExcName → Option Value) (mg mb : Str → Option Value) (x y a2 b2 : Str) (n : Nat) (q p v d : Int) (t1 t2 t3 : Tok)
   (dp un : Nat) (gd : Option (List Code)) (cn : Str) (cs : Scope) (a : Addr) (ccd : Value) (cl : List (Str × Addr)) (outer : List Env) (A₀ : Around) (base h₀ : Heap) (L : Addr) (m : Str → Option Value) (s : Shared) (news : List (Addr × Obj)) (Q E : Value → Shared → Prop)
   (B : Below A₀ base outer h₀) (F : Fr h₀ L s.heap m) (X : (Mine.hd.heap_1 w.params).In h₀) (N : News h₀ L s.heap news) (T : Top Mine.hd.view_1 (looseW Mine.hd.view_1 []) mean mg mb h₀) (hk : cs.kind = .function) 
   (hdp : dp + 3 < recursionLimit) (hu : un + 16 < cLine)
   (hx : x.length = 5) (hy : y.length = 5) (hne : (x == y) = false) (hq0 : 0 ≤ q) (hq4 : q ≤ 4) (hq : Mine.PreAt x y q) (hp0 : p ≤ 0) (hp4 : q - 4 ≤ p) (hp : Mine.PostAt (Txt.slice x (some q) none) (Txt.slice y (some q) none) p)
  (hcl : Mine.CutsOK (Txt.slice x (some q) none) (Txt.slice y (some q) none) p) (hv0 : 0 ≤ v) (hA : Mine.cutTo (Txt.slice x (some q) none) p = a2) (hB : Mine.cutTo (Txt.slice y (some q) none) p = b2) (hAn : a2.length = n) (hBn : b2.length = n) (hd : Mine.outGo a2 b2 v n n 0 (rangeInts 2 2 n) 0 = d)
   (hret : ∀ (t : Tok) (h' : Heap) (tk' : Nat), Fr h₀ L h' m → News h₀ L h' news → Q (.int d t) { s with heap := h', toks := tk' }),
   wpAny (model PySem.Challenge.rw_to0016_01.row.prog w) (ktrTop dp un gd cn cs L a ccd cl outer) (call (.ref 93) [.str x t1, .str y t2, .int v t3]) Q E s := by
  k_fill
  intro w mean mg mb x y a2 b2 n q p v d t1 t2 t3 dp un gd cn cs a ccd cl outer A₀ base h₀ L m s news Q E B F X N T hk hdp hu hx hy hne hq0 hq4 hq hp0 hp4 hp hcl hv0 hA hB hAn hBn hd hret
  refine wpAny_call ?_
  k_dflt cell_enter
  k_with "exec While BoolOp cons nil" => (k_dflt (k_while_given [] (fun (_ : List Int) (k : Int) => 0 ≤ k ∧ k ≤ q) (fun (_ : List Int) (k : Int) => (5 - k).toNat) "pre"))
  k_with "state" => ((try dsimp only) <;> first
    | exact ⟨by omega, Mine.pre_on hq (by with_reducible assumption) (by with_reducible assumption)⟩
    | exact ⟨Int.le_refl _, hq0⟩)
  (repeat' (first | ((fail_if_success (with_reducible show wpAny _ _ (exec (Stmt.Assign [Expr.Name (Str.ofString "a") _] _ _) _) _ _ _)); first | (k_unfold; (try dsimp only)) | (k_end; wrow_close) | (walk1; (try dsimp only)) | (dsimp only; walk1) | (leave1; walk_say "STEP leave1"; try dsimp only)) | fail "no step"))
  all_goals first
    | (exfalso; omega)
    | (have e := Mine.pre_out hq (by with_reducible assumption) (by with_reducible assumption) (by with_reducible assumption); subst e)
  k_with "exec While BoolOp cons nil" => (k_dflt (k_while_given ["a", "b"] (fun (a b : Str) (_ : List Int) (k : Int) => k ≤ 0 ∧ p ≤ k ∧ Mine.PostAt a b p) (fun (_ _ : Str) (_ : List Int) (k : Int) => (k + 5).toNat) "post"))
  k_with "state" => ((try dsimp only) <;> first
    | exact ⟨by omega, Mine.post_on hp (by with_reducible assumption) (by with_reducible assumption), hp⟩
    | exact ⟨Int.le_refl _, hp0, hp⟩)
  walk1
  (repeat' (first | ((fail_if_success (with_reducible show wpAny _ _ (exec (Stmt.Assign [Expr.Name (Str.ofString "a") _] _ _) _) _ _ _)); first | (k_unfold; (try dsimp only)) | (k_end; wrow_close) | (walk1; (try dsimp only)) | (dsimp only; walk1) | (leave1; walk_say "STEP leave1"; try dsimp only)) | fail "no step"))
  all_goals first
    | (exfalso; omega)
    | (have e := Mine.post_out hp (by with_reducible assumption) (by with_reducible assumption) (by with_reducible assumption); subst e)
  have hAl := hAn
  rw [← hA] at hAl
  have hBl := hBn
  rw [← hB] at hBl
  walk1
  (repeat' (first | ((fail_if_success (with_reducible show wpAny _ _ (exec (Stmt.For _ _ _ _ _) _) _ _ _)); first | (k_unfold; (try dsimp only)) | (k_end; wrow_close) | (walk1; (try dsimp only)) | (dsimp only; walk1) | (leave1; walk_say "STEP leave1"; try dsimp only)) | fail "no step"))
  all_goals try (exfalso; omega)
  (rename IsRange _ _ _ _ _ _ _ _ => R'); (rename Fr _ _ _ _ => F'); (rename News _ _ _ _ => N')
  rw [hAl] at R'
  (with_unfolding_all refine Mine.rowList_ (n := n) rfl F' N' R' (by omega) ?_)
  intro S hS tkS vs cS FS NS lS IS
  (try dsimp only)
  k_sweep
  k_with "pyIter ref" => (k_of "bindex" => (k_dflt (k_state_given ["a", "b"] (fun (a b : Str) (pre : List Int) (row : List Int) (res : Int) => row.length = n ∧ Mine.OutP a b v n d pre.length row res) "row" "result")))
  k_with "pyIter ref" => (k_of "index" => (k_dflt (k_state_given ["a", "bchar", "row!", "distance!"] (fun (a bc : Str) (row₀ : List Int) (d₀ : Int) (pre : List Int) (di re mn : Int) (row : List Int) => row.length = n ∧ Mine.InP a bc n row₀ d₀ pre di re mn row) "distance" "result" "minimum" "row")))
  k_with "state" => ((try dsimp only [List.length_nil]) <;> first
    | with_reducible exact ⟨rangeInts_length _ _ _, Mine.out_start hA hB hd⟩
    | with_reducible exact ⟨Mine.out_len (by with_reducible assumption), Mine.in_start (Mine.out_len (by with_reducible assumption))⟩
    | with_reducible exact Mine.in_step (by with_reducible assumption) (Mine.if_t (by with_reducible assumption))
    | with_reducible exact Mine.in_step (by with_reducible assumption) (Mine.if_f (by with_reducible assumption))
    | (simp only [List.length_append, List.length_cons, List.length_nil, Nat.zero_add]; with_reducible exact Mine.out_and (Mine.out_step (by with_reducible assumption) (Mine.in_full (by with_reducible assumption) (by omega)) (by with_reducible assumption) (by omega) (by omega) (by exact rfl))))
  repeat' (first | ((fail_if_success (with_reducible show wpAny _ _ (exec (Stmt.For _ _ _ _ _) _) _ _ _)); first | (k_unfold; (try dsimp only)) | (k_end; wrow_close) | (walk1; (try dsimp only)) | (dsimp only; walk1) | (leave1; walk_say "STEP leave1"; try dsimp only)) | fail "no step")
  (repeat' (first | first | (k_unfold; (try dsimp only)) | (k_end; wrow_close) | (walk1; (try dsimp only)) | (dsimp only; walk1) | (leave1; walk_say "STEP leave1"; try dsimp only) | fail "no step"))
  all_goals first
    | exact Mine.int_end1 hret (by with_reducible assumption) (by with_reducible assumption) (Mine.out_done (by with_reducible assumption) (by rw [rangeKs_length]; omega))
    | exact Mine.int_end2 hret (by with_reducible assumption) (by with_reducible assumption) (Mine.out_ret (by with_reducible assumption) (Mine.in_full (by with_reducible assumption) (by omega)) (by with_reducible assumption) (by omega) (by omega) (by exact rfl))
end
section
theorem Mine.refuseV : ∀ (w : World) (mean : ExcName → Option Value) (mg mb : Str → Option Value) (x : Str) (t1 : Tok)
   (cn : Str) (cs : Scope) (a : Addr) (ccd : Value) (cl : List (Str × Addr)) (base h₀ : Heap) (L : Addr) (m : Str → Option Value) (s : Shared) (news : List (Addr × Obj)) (Q E : Value → Shared → Prop)
   (B : Below callerA base [] h₀) (F : Fr h₀ L s.heap m) (X : (Mine.hd.heap_1 w.params).In h₀) (N : News h₀ L s.heap news) (T : Top Mine.hd.view_1 (looseW Mine.hd.view_1 []) mean mg mb h₀) (hk : cs.kind = .function) 
   (XB : (Mine.hd.heap_1 w.params).In base) (TB : Top Mine.hd.view_1 (looseW Mine.hd.view_1 []) mean mg mb base) (G : Mine.BadPort x)
   (hret : ∀ (D : Addr) (ta tb : Tok) (h' : Heap) (tk' : Nat), Fr h₀ L h' m → News h₀ L h' ((D, { cls := .type "tuple", data := .seq #[.str (Str.ofString "value") ta, .str x tb] }) :: news) → AllLt D news → Q (.ref D) { s with heap := h', toks := tk' }),
   Mine.wpC (model PySem.Challenge.rw_to0016_01.row.prog w) (callerA.deeper (envX cn cs L a ccd cl)) (call (.ref 100) [.str x t1]) Q E s := by
  k_fill
  k_with_none
  intro w mean mg mb x t1 cn cs a ccd cl base h₀ L m s news Q E B F X N T hk XB TB G hret
  refine Mine.wpC_call ?_
  k_dflt (refine' Mine.enterC0 ?k1 ?k2 ?k3 ?k4 ?k5 ?kA ?k6 ?k7 ?k8 ?k9 ?kB ?_ ?cK ?c2 ?c3 ?c4 ?c5; (case kA => exact rfl); (case k2 => k_asm); (case k1 => k_asm); (case k3 => k_asm); (case k4 => k_asm); (case k5 => k_asm); (case k6 => k_is); (case k7 => k_is); (case k8 => first | k_room | ktr_room); (case k9 => exact BindsTo.of_eq rfl); (case kB => exact locs rfl); (case cK => first | assumption | exact rfl); (case c2 => exact rfl); (case c3 => exact rfl); (case c4 => exact rfl); (case c5 => decide); k_whole; intro g' L' h' FG' F' N' B' X' T' D'; (try dsimp only); (try k_lift B'); (try k_fold))
  refine Mine.wpC_execs_cons (Mine.wpC_Try (Mine.wpC_execs_cons (Mine.wpC_Expr rfl rfl (Mine.wpC_Call_Name ?_))))
  (repeat' (first | first | (k_unfold; (try dsimp only)) | (k_end; wrow_close) | (walk1; (try dsimp only)) | (dsimp only; walk1) | (leave1; walk_say "STEP leave1"; try dsimp only) | fail "no step"))
  refine Mine.wpC_callWith_fn rfl (show ¬ (2 + 2 * 0 > 30) from by decide) ?_
  refine Mine.args2b ?_
  (repeat' (first | first | (k_unfold; (try dsimp only)) | (k_end; wrow_close) | (walk1; (try dsimp only)) | (dsimp only; walk1) | (leave1; walk_say "STEP leave1"; try dsimp only) | fail "no step"))
  try dsimp only
  (with_reducible rename Fr g' L' _ _ => FF)
  refine ⟨⟨_, _, (X'.keeps FF.keep) 58 _ rfl, rfl⟩, Mine.wpC_call ?_⟩
  k_dflt (refine' Mine.enterC1 ?k1 ?k2 ?k3 ?k4 ?k5 ?kD ?kA ?k6 ?k7 ?k8 ?k9 ?kB ?_ ?cK ?c2 ?c3 ?c4 ?c5; (case kA => exact rfl); (case k2 => k_asm); (case k1 => k_asm); (case k3 => k_asm); (case k4 => k_asm); (case k5 => k_asm); (case kD => assumption); (case k6 => k_is); (case k7 => k_is); (case k8 => first | k_room | ktr_room); (case k9 => exact BindsTo.of_eq rfl); (case kB => exact locs rfl); (case cK => first | assumption | exact rfl); (case c2 => exact rfl); (case c3 => exact rfl); (case c4 => exact rfl); (case c5 => decide); k_whole; intro g₂ L₂ h₂ FG₂ F₂ N₂ B₂ X₂ T₂ D₂; (try dsimp only); (try k_lift B₂); (try k_fold))
  refine Mine.wpC_execs_append (a := [_, _, _, _, _, _, _, _, _]) (b := [_, _]) ?_
  have H := G.len
  have H0 := G.code
  have H1 := G.left
  have H2 := G.left2
  have H3 := G.right
  have H4 := G.right2
  have H5 := G.mark
  (repeat' (first | first | (k_unfold; (try dsimp only)) | (k_end; wrow_close) | (walk1; (try dsimp only)) | (dsimp only; walk1) | (leave1; walk_say "STEP leave1"; try dsimp only) | fail "no step"))
  all_goals try exact Mine.five_noV G (by with_reducible assumption) (by with_reducible assumption)
  try dsimp only
  refine Mine.wpC_execs_cons (Mine.wpC_Assign rfl (Mine.wpC_Call_Name ?_))
  (repeat' (first | first | (k_unfold; (try dsimp only)) | (k_end; wrow_close) | (walk1; (try dsimp only)) | (dsimp only; walk1) | (leave1; walk_say "STEP leave1"; try dsimp only) | fail "no step"))
  refine Mine.wpC_callWith_type rfl ?_
  refine Mine.args1b ?_
  (repeat' (first | first | (k_unfold; (try dsimp only)) | (k_end; wrow_close) | (walk1; (try dsimp only)) | (dsimp only; walk1) | (leave1; walk_say "STEP leave1"; try dsimp only) | fail "no step"))
  have hp := Mine.port_eq G (by with_reducible assumption) (by with_reducible assumption)
  subst hp
  refine Mine.call_refused rfl (by decide +kernel) Mine.num21z1 ?_ (by decide +kernel)
  intro h₅ tk₅ e₅ hx₅
  try dsimp only
  (repeat' (first | first | (k_unfold; (try dsimp only)) | (k_end; wrow_close) | (walk1; (try dsimp only)) | (dsimp only; walk1) | (leave1; walk_say "STEP leave1"; try dsimp only) | fail "no step"))
  with_reducible rename Fr h₀ L _ m => kFF
  with_reducible rename News h₀ L _ _ => kNN
  with_reducible rename _ < _ ∧ _ < _ ∧ AllLt _ _ => kLL
  exact Mine.ref_end (extra := [_, _]) hret kFF kNN kLL
local macro_rules | `(tactic| walk_at "call type:str") => `(tactic| (k_here; (with_reducible show wpAny _ _ (call (Value.type "str") [Value.ref _]) _ _ _); (with_reducible rename Got _ _ _ _ _ => gX'); k_dflt (refine' Mine.str_own ?hu (Mine.ownexc_of ?x ?n gX' ?f ?s) ?_; (case hu => exact Nat.le_of_ble_eq_true rfl); (case x => k_in); (case n => k_asm); (case f => k_is); (case s => k_is))))
structure Mine.BadR (x : Str) : Prop where
  len : x.length ≤ 100
  code1 : (Txt.slice x none (some 3) != Str.ofString "229") = true
theorem Mine.refuseR : ∀ (w : World) (mean : ExcName → Option Value) (mg mb : Str → Option Value) (x : Str) (t1 : Tok)
   (cn : Str) (cs : Scope) (a : Addr) (ccd : Value) (cl : List (Str × Addr)) (base h₀ : Heap) (L : Addr) (m : Str → Option Value) (s : Shared) (news : List (Addr × Obj)) (Q E : Value → Shared → Prop)
   (B : Below callerA base [] h₀) (F : Fr h₀ L s.heap m) (X : (Mine.hd.heap_1 w.params).In h₀) (N : News h₀ L s.heap news) (T : Top Mine.hd.view_1 (looseW Mine.hd.view_1 []) mean mg mb h₀) (hk : cs.kind = .function) 
   (XB : (Mine.hd.heap_1 w.params).In base) (TB : Top Mine.hd.view_1 (looseW Mine.hd.view_1 []) mean mg mb base) (G : Mine.BadR x)
   (hret : ∀ (D : Addr) (ta tb : Tok) (h' : Heap) (tk' : Nat), Fr h₀ L h' m → News h₀ L h' ((D, { cls := .type "tuple", data := .seq #[.str (Str.ofString "reply") ta, .str x tb] }) :: news) → AllLt D news → Q (.ref D) { s with heap := h', toks := tk' }),
   wpAny (model PySem.Challenge.rw_to0016_01.row.prog w) (callerA.deeper (envX cn cs L a ccd cl)) (call (.ref 100) [.str x t1]) Q E s := by
  k_fill
  k_with_none
  intro w mean mg mb x t1 cn cs a ccd cl base h₀ L m s news Q E B F X N T hk XB TB G hret
  have H := G.len
  have Hcode1 := G.code1
  refine wpAny_call ?_
  k_dflt (refine' Mine.enterS0 ?k1 ?k2 ?k3 ?k4 ?k5 ?kA ?k6 ?k7 ?k8 ?k9 ?kB ?_ ?cK ?c2 ?c3 ?c4 ?c5; (case kA => exact rfl); (case k2 => k_asm); (case k1 => k_asm); (case k3 => k_asm); (case k4 => k_asm); (case k5 => k_asm); (case k6 => k_is); (case k7 => k_is); (case k8 => first | k_room | ktr_room); (case k9 => exact BindsTo.of_eq rfl); (case kB => exact locs rfl); (case cK => first | assumption | exact rfl); (case c2 => exact rfl); (case c3 => exact rfl); (case c4 => exact rfl); (case c5 => decide); k_whole; intro g' L' h' FG' F' N' B' X' T' D'; (try dsimp only); (try k_lift B'); (try k_fold))
  (repeat' (first | first | (k_unfold; (try dsimp only)) | (k_end; wrow_close) | (walk1; (try dsimp only)) | (dsimp only; walk1) | (leave1; walk_say "STEP leave1"; try dsimp only) | fail "no step"))
  with_reducible rename Fr h₀ L _ m => kFF
  with_reducible rename News h₀ L _ _ => kNN
  with_reducible rename _ < _ ∧ AllLt _ _ => kLL
  exact Mine.ref_end (extra := [_]) hret kFF kNN kLL
structure Mine.BadO (x : Str) : Prop where
  len : x.length ≤ 100
  code0 : (Txt.slice x none (some 3) != Str.ofString "229") = false
  left1 : Txt.find x (Str.ofString "(") < 0
theorem Mine.refuseO : ∀ (w : World) (mean : ExcName → Option Value) (mg mb : Str → Option Value) (x : Str) (t1 : Tok)
   (cn : Str) (cs : Scope) (a : Addr) (ccd : Value) (cl : List (Str × Addr)) (base h₀ : Heap) (L : Addr) (m : Str → Option Value) (s : Shared) (news : List (Addr × Obj)) (Q E : Value → Shared → Prop)
   (B : Below callerA base [] h₀) (F : Fr h₀ L s.heap m) (X : (Mine.hd.heap_1 w.params).In h₀) (N : News h₀ L s.heap news) (T : Top Mine.hd.view_1 (looseW Mine.hd.view_1 []) mean mg mb h₀) (hk : cs.kind = .function) 
   (XB : (Mine.hd.heap_1 w.params).In base) (TB : Top Mine.hd.view_1 (looseW Mine.hd.view_1 []) mean mg mb base) (G : Mine.BadO x)
   (hret : ∀ (D : Addr) (ta tb : Tok) (h' : Heap) (tk' : Nat), Fr h₀ L h' m → News h₀ L h' ((D, { cls := .type "tuple", data := .seq #[.str (Str.ofString "proto") ta, .str x tb] }) :: news) → AllLt D news → Q (.ref D) { s with heap := h', toks := tk' }),
   wpAny (model PySem.Challenge.rw_to0016_01.row.prog w) (callerA.deeper (envX cn cs L a ccd cl)) (call (.ref 100) [.str x t1]) Q E s := by
  k_fill
  k_with_none
  intro w mean mg mb x t1 cn cs a ccd cl base h₀ L m s news Q E B F X N T hk XB TB G hret
  have H := G.len
  have Hcode0 := G.code0
  have Hleft1 := G.left1
  refine wpAny_call ?_
  k_dflt (refine' Mine.enterS0 ?k1 ?k2 ?k3 ?k4 ?k5 ?kA ?k6 ?k7 ?k8 ?k9 ?kB ?_ ?cK ?c2 ?c3 ?c4 ?c5; (case kA => exact rfl); (case k2 => k_asm); (case k1 => k_asm); (case k3 => k_asm); (case k4 => k_asm); (case k5 => k_asm); (case k6 => k_is); (case k7 => k_is); (case k8 => first | k_room | ktr_room); (case k9 => exact BindsTo.of_eq rfl); (case kB => exact locs rfl); (case cK => first | assumption | exact rfl); (case c2 => exact rfl); (case c3 => exact rfl); (case c4 => exact rfl); (case c5 => decide); k_whole; intro g' L' h' FG' F' N' B' X' T' D'; (try dsimp only); (try k_lift B'); (try k_fold))
  (repeat' (first | first | (k_unfold; (try dsimp only)) | (k_end; wrow_close) | (walk1; (try dsimp only)) | (dsimp only; walk1) | (leave1; walk_say "STEP leave1"; try dsimp only) | fail "no step"))
  with_reducible rename Fr h₀ L _ m => kFF
  with_reducible rename News h₀ L _ _ => kNN
  with_reducible rename _ < _ ∧ AllLt _ _ => kLL
  exact Mine.ref_end (extra := [_]) hret kFF kNN kLL
structure Mine.BadC (x : Str) : Prop where
  len : x.length ≤ 100
  code0 : (Txt.slice x none (some 3) != Str.ofString "229") = false
  left0 : 0 ≤ Txt.find x (Str.ofString "(")
  left2 : Txt.find x (Str.ofString "(") + 1 < (x.length : Int)
  right1 : Txt.find3 x (Str.ofString ")") (Txt.find x (Str.ofString "(") + 1) < 0
theorem Mine.refuseC : ∀ (w : World) (mean : ExcName → Option Value) (mg mb : Str → Option Value) (x : Str) (t1 : Tok)
   (cn : Str) (cs : Scope) (a : Addr) (ccd : Value) (cl : List (Str × Addr)) (base h₀ : Heap) (L : Addr) (m : Str → Option Value) (s : Shared) (news : List (Addr × Obj)) (Q E : Value → Shared → Prop)
   (B : Below callerA base [] h₀) (F : Fr h₀ L s.heap m) (X : (Mine.hd.heap_1 w.params).In h₀) (N : News h₀ L s.heap news) (T : Top Mine.hd.view_1 (looseW Mine.hd.view_1 []) mean mg mb h₀) (hk : cs.kind = .function) 
   (XB : (Mine.hd.heap_1 w.params).In base) (TB : Top Mine.hd.view_1 (looseW Mine.hd.view_1 []) mean mg mb base) (G : Mine.BadC x)
   (hret : ∀ (D : Addr) (ta tb : Tok) (h' : Heap) (tk' : Nat), Fr h₀ L h' m → News h₀ L h' ((D, { cls := .type "tuple", data := .seq #[.str (Str.ofString "proto") ta, .str x tb] }) :: news) → AllLt D news → Q (.ref D) { s with heap := h', toks := tk' }),
   wpAny (model PySem.Challenge.rw_to0016_01.row.prog w) (callerA.deeper (envX cn cs L a ccd cl)) (call (.ref 100) [.str x t1]) Q E s := by
  k_fill
  k_with_none
  intro w mean mg mb x t1 cn cs a ccd cl base h₀ L m s news Q E B F X N T hk XB TB G hret
  have H := G.len
  have Hcode0 := G.code0
  have Hleft0 := G.left0
  have Hleft2 := G.left2
  have Hright1 := G.right1
  refine wpAny_call ?_
  k_dflt (refine' Mine.enterS0 ?k1 ?k2 ?k3 ?k4 ?k5 ?kA ?k6 ?k7 ?k8 ?k9 ?kB ?_ ?cK ?c2 ?c3 ?c4 ?c5; (case kA => exact rfl); (case k2 => k_asm); (case k1 => k_asm); (case k3 => k_asm); (case k4 => k_asm); (case k5 => k_asm); (case k6 => k_is); (case k7 => k_is); (case k8 => first | k_room | ktr_room); (case k9 => exact BindsTo.of_eq rfl); (case kB => exact locs rfl); (case cK => first | assumption | exact rfl); (case c2 => exact rfl); (case c3 => exact rfl); (case c4 => exact rfl); (case c5 => decide); k_whole; intro g' L' h' FG' F' N' B' X' T' D'; (try dsimp only); (try k_lift B'); (try k_fold))
  (repeat' (first | first | (k_unfold; (try dsimp only)) | (k_end; wrow_close) | (walk1; (try dsimp only)) | (dsimp only; walk1) | (leave1; walk_say "STEP leave1"; try dsimp only) | fail "no step"))
  with_reducible rename Fr h₀ L _ m => kFF
  with_reducible rename News h₀ L _ _ => kNN
  with_reducible rename _ < _ ∧ AllLt _ _ => kLL
  exact Mine.ref_end (extra := [_]) hret kFF kNN kLL
structure Mine.BadM (x : Str) : Prop where
  len : x.length ≤ 100
  code0 : (Txt.slice x none (some 3) != Str.ofString "229") = false
  left0 : 0 ≤ Txt.find x (Str.ofString "(")
  left2 : Txt.find x (Str.ofString "(") + 1 < (x.length : Int)
  right0 : 0 < Txt.find3 x (Str.ofString ")") (Txt.find x (Str.ofString "(") + 1)
  right2 : Txt.find3 x (Str.ofString ")") (Txt.find x (Str.ofString "(") + 1) - 1 < (x.length : Int)
  mark1 : (Txt.item x (Txt.find x (Str.ofString "(") + 1) != Txt.item x (Txt.find3 x (Str.ofString ")") (Txt.find x (Str.ofString "(") + 1) - 1)) = true
theorem Mine.refuseM : ∀ (w : World) (mean : ExcName → Option Value) (mg mb : Str → Option Value) (x : Str) (t1 : Tok)
   (cn : Str) (cs : Scope) (a : Addr) (ccd : Value) (cl : List (Str × Addr)) (base h₀ : Heap) (L : Addr) (m : Str → Option Value) (s : Shared) (news : List (Addr × Obj)) (Q E : Value → Shared → Prop)
   (B : Below callerA base [] h₀) (F : Fr h₀ L s.heap m) (X : (Mine.hd.heap_1 w.params).In h₀) (N : News h₀ L s.heap news) (T : Top Mine.hd.view_1 (looseW Mine.hd.view_1 []) mean mg mb h₀) (hk : cs.kind = .function) 
   (XB : (Mine.hd.heap_1 w.params).In base) (TB : Top Mine.hd.view_1 (looseW Mine.hd.view_1 []) mean mg mb base) (G : Mine.BadM x)
   (hret : ∀ (D : Addr) (ta tb : Tok) (h' : Heap) (tk' : Nat), Fr h₀ L h' m → News h₀ L h' ((D, { cls := .type "tuple", data := .seq #[.str (Str.ofString "proto") ta, .str x tb] }) :: news) → AllLt D news → Q (.ref D) { s with heap := h', toks := tk' }),
   wpAny (model PySem.Challenge.rw_to0016_01.row.prog w) (callerA.deeper (envX cn cs L a ccd cl)) (call (.ref 100) [.str x t1]) Q E s := by
  k_fill
  k_with_none
  intro w mean mg mb x t1 cn cs a ccd cl base h₀ L m s news Q E B F X N T hk XB TB G hret
  have H := G.len
  have Hcode0 := G.code0
  have Hleft0 := G.left0
  have Hleft2 := G.left2
  have Hright0 := G.right0
  have Hright2 := G.right2
  have Hmark1 := G.mark1
  refine wpAny_call ?_
  k_dflt (refine' Mine.enterS0 ?k1 ?k2 ?k3 ?k4 ?k5 ?kA ?k6 ?k7 ?k8 ?k9 ?kB ?_ ?cK ?c2 ?c3 ?c4 ?c5; (case kA => exact rfl); (case k2 => k_asm); (case k1 => k_asm); (case k3 => k_asm); (case k4 => k_asm); (case k5 => k_asm); (case k6 => k_is); (case k7 => k_is); (case k8 => first | k_room | ktr_room); (case k9 => exact BindsTo.of_eq rfl); (case kB => exact locs rfl); (case cK => first | assumption | exact rfl); (case c2 => exact rfl); (case c3 => exact rfl); (case c4 => exact rfl); (case c5 => decide); k_whole; intro g' L' h' FG' F' N' B' X' T' D'; (try dsimp only); (try k_lift B'); (try k_fold))
  (repeat' (first | first | (k_unfold; (try dsimp only)) | (k_end; wrow_close) | (walk1; (try dsimp only)) | (dsimp only; walk1) | (leave1; walk_say "STEP leave1"; try dsimp only) | fail "no step"))
  with_reducible rename Fr h₀ L _ m => kFF
  with_reducible rename News h₀ L _ _ => kNN
  with_reducible rename _ < _ ∧ AllLt _ _ => kLL
  exact Mine.ref_end (extra := [_]) hret kFF kNN kLL
structure Mine.BadP (x : Str) : Prop where
  len : x.length ≤ 100
  code0 : (Txt.slice x none (some 3) != Str.ofString "229") = false
  left0 : 0 ≤ Txt.find x (Str.ofString "(")
  left2 : Txt.find x (Str.ofString "(") + 1 < (x.length : Int)
  right0 : 0 < Txt.find3 x (Str.ofString ")") (Txt.find x (Str.ofString "(") + 1)
  right2 : Txt.find3 x (Str.ofString ")") (Txt.find x (Str.ofString "(") + 1) - 1 < (x.length : Int)
  mark0 : (Txt.item x (Txt.find x (Str.ofString "(") + 1) != Txt.item x (Txt.find3 x (Str.ofString ")") (Txt.find x (Str.ofString "(") + 1) - 1)) = false
  five1 : (Txt.split (Txt.slice x (some (Txt.find x (Str.ofString "(") + 1)) (some (Txt.find3 x (Str.ofString ")") (Txt.find x (Str.ofString "(") + 1)))) (Txt.item x (Txt.find x (Str.ofString "(") + 1))).length ≠ 5
theorem Mine.five_noP {x : Str} {P : Prop} {l : List (Str × Tok)} (G : BadP x)
    (e : List.map (fun x => x.1) l = Txt.split (Txt.slice x (some (Txt.find x (Str.ofString "(") + 1)) (some (Txt.find3 x (Str.ofString ")") (Txt.find x (Str.ofString "(") + 1)))) (Txt.item x (Txt.find x (Str.ofString "(") + 1)))
    (g : (l.length : Int) = 5) : P := by
  have h := G.five1
  rw [← e, List.length_map] at h
  omega
theorem Mine.refuseP : ∀ (w : World) (mean : ExcName → Option Value) (mg mb : Str → Option Value) (x : Str) (t1 : Tok)
   (cn : Str) (cs : Scope) (a : Addr) (ccd : Value) (cl : List (Str × Addr)) (base h₀ : Heap) (L : Addr) (m : Str → Option Value) (s : Shared) (news : List (Addr × Obj)) (Q E : Value → Shared → Prop)
   (B : Below callerA base [] h₀) (F : Fr h₀ L s.heap m) (X : (Mine.hd.heap_1 w.params).In h₀) (N : News h₀ L s.heap news) (T : Top Mine.hd.view_1 (looseW Mine.hd.view_1 []) mean mg mb h₀) (hk : cs.kind = .function) 
   (XB : (Mine.hd.heap_1 w.params).In base) (TB : Top Mine.hd.view_1 (looseW Mine.hd.view_1 []) mean mg mb base) (G : Mine.BadP x)
   (hret : ∀ (D : Addr) (ta tb : Tok) (h' : Heap) (tk' : Nat), Fr h₀ L h' m → News h₀ L h' ((D, { cls := .type "tuple", data := .seq #[.str (Str.ofString "proto") ta, .str x tb] }) :: news) → AllLt D news → Q (.ref D) { s with heap := h', toks := tk' }),
   wpAny (model PySem.Challenge.rw_to0016_01.row.prog w) (callerA.deeper (envX cn cs L a ccd cl)) (call (.ref 100) [.str x t1]) Q E s := by
  k_fill
  k_with_none
  intro w mean mg mb x t1 cn cs a ccd cl base h₀ L m s news Q E B F X N T hk XB TB G hret
  have H := G.len
  have Hcode0 := G.code0
  have Hleft0 := G.left0
  have Hleft2 := G.left2
  have Hright0 := G.right0
  have Hright2 := G.right2
  have Hmark0 := G.mark0
  refine wpAny_call ?_
  k_dflt (refine' Mine.enterS0 ?k1 ?k2 ?k3 ?k4 ?k5 ?kA ?k6 ?k7 ?k8 ?k9 ?kB ?_ ?cK ?c2 ?c3 ?c4 ?c5; (case kA => exact rfl); (case k2 => k_asm); (case k1 => k_asm); (case k3 => k_asm); (case k4 => k_asm); (case k5 => k_asm); (case k6 => k_is); (case k7 => k_is); (case k8 => first | k_room | ktr_room); (case k9 => exact BindsTo.of_eq rfl); (case kB => exact locs rfl); (case cK => first | assumption | exact rfl); (case c2 => exact rfl); (case c3 => exact rfl); (case c4 => exact rfl); (case c5 => decide); k_whole; intro g' L' h' FG' F' N' B' X' T' D'; (try dsimp only); (try k_lift B'); (try k_fold))
  (repeat' (first | first | (k_unfold; (try dsimp only)) | (k_end; wrow_close) | (walk1; (try dsimp only)) | (dsimp only; walk1) | (leave1; walk_say "STEP leave1"; try dsimp only) | fail "no step"))
  all_goals try exact Mine.five_noP G (by with_reducible assumption) (by with_reducible assumption)
  with_reducible rename Fr h₀ L _ m => kFF
  with_reducible rename News h₀ L _ _ => kNN
  with_reducible rename _ < _ ∧ _ < _ ∧ AllLt _ _ => kLL
  exact Mine.ref_end (extra := [_, _]) hret kFF kNN kLL
end
namespace Mine
section
variable {prog : Program} {w : World} {A : Around} {s : Shared} {R : Result → Shared → Prop}
/-- a def with cells, entered from the claim's caller, on the way to the node that reads the stack -/
theorem codeC_cellsN {name : Str} {params : Arguments} {body : List Stmt} {scope : Scope}
    {pm cd doc : Value} {a : Addr} {o : Obj} {args : List Value} {binds : List (Str × Value)}
    (hroom : A.depth < recursionLimit) (ho : s.heap.get? a = some o) (hdata : o.data = .func (Calls.docDef name params body scope pm cd doc)) (hlim : s.heap.NoLimit) (hcd : s.heap.CodeRec cd name)
    (hbind : bindArgs (Calls.docDef name params body scope pm cd doc) ⟨args, []⟩ = pure binds)
    (hkind : ∀ x ∈ binds, scope.names.lookup x.1 = some .local ∨ (scope.names.lookup x.1 = some .cell ∧ ((cellsFrom (s.heap.objs.size + 1) scope.names []).lookup x.1).isSome = true))
    (hnd : ((cellsFrom 0 scope.names []).map (·.1)).Nodup)
    (h : ∀ h₁ tk cells, Fr s.heap s.heap.objs.size h₁ (bindL (envOfC name scope s.heap.objs.size a cd).kindOf binds fun _ => none) → News s.heap s.heap.objs.size h₁ cells →
      CellsAre (bindC (envOfC name scope s.heap.objs.size a cd).kindOf binds fun _ => none) (cellsFrom (s.heap.objs.size + 1) scope.names []) cells →
      wpC (model prog w) (A.deeper (envOfC name scope s.heap.objs.size a cd)) (execs body (envOfC name scope s.heap.objs.size a cd))
        (fun f s' => R (.ok (.ret (match f with | .ret v => v | _ => .none))) s')
        (fun e s' => wpAny (model prog w) (A.deeper (envOfC name scope s.heap.objs.size a cd)) (leaving (envOfC name scope s.heap.objs.size a cd) e)
          (fun _ s'' => R (.error e) s'') (fun e' s'' => R (.error e') s'') s')
        { s with heap := h₁, toks := tk })
    (hco : scope.isCoroutine = false := by rfl) (hgen : scope.isGenerator = false := by rfl) (hk : scope.kind = .function := by rfl) :
    codeC (model prog w) A (.call (.ref a) ⟨args, []⟩) R s := by
  refine codeC_call_function hroom ho hdata hco hgen rfl hcd ?_
  rw [hbind]
  refine wpAny_pure (wpAny_newFunctionEnv_cells hk hkind fun env he s' x => ?_)
  subst he
  obtain ⟨h₁, tk, rfl, _⟩ := x.done
  obtain ⟨cells, N, Y⟩ := Cl.news (h₀ := s.heap) (Nat.le_refl _) fun n c hm => ⟨x.cell n c (lookup_of_mem_nodup (cellsFrom_names scope.names 0 (s.heap.objs.size + 1) [] [] rfl ▸ hnd) hm), x.above n c hm⟩
  exact ⟨hlim.keeps x.toInCall.keep, codeC_func (h h₁ tk cells ⟨x.toInCall.ns, x.toInCall.keep, x.toInCall.fresh⟩ N Y)⟩
theorem enter_callC {M : Model} {f : Value} {pos : List Value} {kw : List (Str × Value)} {c : ClaimW} {cl : Str → Option Addr} {mean : ExcName → Option Value} {args : List WData} {s₁ : Shared}
    (h : codeC M A (.call f ⟨pos, kw⟩) (GoodWG c cl mean args s₁) s) : wpC M A (PySem.call f pos kw) (fun v s' => GoodWG c cl mean args s₁ (.ok (.ret v)) s') (fun e s' => GoodWG c cl mean args s₁ (.error e) s') s :=
  wpC_call (codeC_mono h fun res s' g => by rcases g.1 with ⟨v, _, _, rfl, _⟩ | ⟨e, _, _, rfl, _⟩ <;> exact g)
end
end Mine
namespace Mine
theorem ints_all {vs : List Value} {ns : List Int} (h : IntsAre vs ns) : ∀ v ∈ vs, ∃ n t, v = Value.int n t := by
  induction h with
  | nil => intro v hv; cases hv
  | cons n t _ ih =>
    intro v hv
    rcases List.mem_cons.mp hv with rfl | hv
    · exact ⟨n, t, rfl⟩
    · exact ih v hv
theorem all_ints : ∀ {vs : List Value}, (∀ v ∈ vs, ∃ n t, v = Value.int n t) → ∃ ms, IntsAre vs ms
  | [], _ => ⟨[], .nil⟩
  | v :: vs, h => by
    obtain ⟨n, t, rfl⟩ := h v (.head _)
    obtain ⟨ms, hm⟩ := all_ints fun u hu => h u (.tail _ hu)
    exact ⟨n :: ms, .cons n t hm⟩
section
variable {prog : Program} {w : World} {A : Around} {E : Value → Shared → Prop} {s : Shared} {h₀ : Heap} {L l : Addr} {m : Str → Option Value} {news : List (Addr × Obj)} {vs : List Value}
/-- the sum of a slice of a list of ints: some int -/
theorem sum_slice {ns : List Int} {lo hi st : Option Int} {Q : Value → Shared → Prop} (F : Fr h₀ L s.heap m) (N : News h₀ L s.heap news) (hh : A.handled = none)
    (hm : (l, ({ cls := .type "list", data := .seq (slicePick vs.toArray lo hi st) } : Obj)) ∈ news) (hi' : IntsAre vs ns)
    (h : ∀ n h' tk t', Fr h₀ L h' m → News h₀ L h' news → Q (.int n t') { s with heap := h', toks := tk }) : wpAny (model prog w) A (call (.builtin "sum") [.ref l]) Q E s := by
  obtain ⟨ms, hms⟩ := all_ints (vs := (slicePick vs.toArray lo hi st).toList) (fun v hv => by
    have : v ∈ vs := by
      unfold slicePick at hv
      obtain ⟨i, _, e⟩ := List.mem_filterMap.mp hv
      rw [List.getElem?_toArray] at e
      exact List.mem_of_getElem? e
    exact ints_all hi' v this)
  exact LSm.sum_ints F N hh (vs := (slicePick vs.toArray lo hi st).toList) ⟨_, (N _ hm).1, rfl, _, by rw [Array.toArray_toList]⟩ hms fun h' tk t' F' N' => h _ h' tk t' F' N'
theorem slice3 {value slice : Expr} {items : Array Value} {vl vu vst : Value} {ops : List Value} {lo hi st : Option Int} {Q : Value → Shared → Prop}
    (F : Fr h₀ L s.heap m) (N : News h₀ L s.heap news) (hl : s.heap.IsList l items) (pl : IsPart vl lo) (pu : IsPart vu hi) (ps : IsPart vst st) (hz : st ≠ some 0)
    (h : ∀ D h', Fr h₀ L h' m → News h₀ L h' ((D, { cls := .type "list", data := .seq (slicePick items lo hi st) }) :: news) → (∀ p ∈ news, p.1 < D) → Q (.ref D) { s with heap := h' })
    (hs : subscripted slice false (.ref l) (.ref s.heap.objs.size) = operate ops (getItem (.ref l) (.ref s.heap.objs.size)) := by with_unfolding_all rfl)
    (ht : ∀ r, letTemporaryGo value (.ref l) r = pure () := by intro _; with_unfolding_all rfl)
    (hsz : items.size ≤ sizeLine := by size_fits) :
    wpAny (model prog w) A (subscriptTail value slice (.ref l) (.ref s.heap.objs.size)) Q E { s with heap := s.heap.push { cls := .type "slice", data := .fields #[vl, vu, vst] } } :=
  slice_list3 F N hl pl pu ps hz (fun h' F' N' => h _ h' F' N' fun p hp => Nat.lt_succ_of_lt (Heap.lt_size (N p hp).1)) hs ht hsz
end
end Mine
namespace Mine
/-- statement k of law's body, and law's scope -/
noncomputable def lawAt (k : Nat) : Option (Stmt × Scope) :=
  match PySem.Challenge.rw_to0016_01.row.prog.theDef (Str.ofString "law") with
  | some (_, b, sc) => (b[k]?).map fun st => (st, sc)
  | none => none
end Mine
namespace Mine
section
variable {prog : Program} {w : World} {A : Around} {E : Value → Shared → Prop} {s : Shared} {h₀ : Heap} {L : Addr} {m : Str → Option Value} {env : Env}
/-- the turns of a list comprehension, each known by one lemma, that leaves the ledger as it was -/
theorem rest_all {elt : Expr} {x : Str} {scope : Scope} {cl : List (Str × Addr)} {S : List (Addr × Obj) → Prop} {P R : Nat → Value → Prop} {Fin : List Value → List (Addr × Obj) → Prop} {N : Nat} {news : List (Addr × Obj)} (hS : S news)
    (turn : ∀ i, i < N → ∀ v I oI C oC D ys m₂ h tk (Q E' : Value → Shared → Prop), P i v → LCg.NsObj oC m₂ → m₂ x = some v → Fr h₀ L h m → News h₀ L h ((I, oI) :: (C, oC) :: (D, LCg.lst ys) :: news) →
      LCg.Off3 I C D news → ((@Ne Nat I C) ∧ (@Ne Nat I D) ∧ (@Ne Nat C D)) →
      (∀ y h' tk', R i y → Fr h₀ L h' m → News h₀ L h' ((I, oI) :: (C, oC) :: (D, LCg.lst ys) :: news) → Q y { s with heap := h', toks := tk' }) →
      wpAny (model prog w) A (eval elt (compEnvC scope cl C env)) Q E' { s with heap := h, toks := tk })
    (fin : ∀ ys : List Value, ys.length = N → (∀ (i : Nat) (y : Value), ys[i]? = some y → R i y) → Fin ys news) :
    LCg.CompRest prog w A h₀ L m env elt x scope cl s S P Fin N 0 [] news := by
  have key : ∀ (n i : Nat) (ys : List Value), i + n = N → ys.length = i → (∀ (j : Nat) (y : Value), ys[j]? = some y → R j y) → LCg.CompRest prog w A h₀ L m env elt x scope cl s S P Fin n i ys news := by
    intro n
    induction n with
    | zero => intro i ys hi hl hr; exact fin ys (by omega) hr
    | succ n ih =>
      intro i ys hi hl hr
      refine LCg.CompRest.succ fun v I oI C oC D m₂ h tk E' hv hC hx F N' off ne => ?_
      refine turn i (by omega) v I oI C oC D ys m₂ h tk _ E' hv hC hx F N' off ne fun y h' tk' hy F' N'' => ?_
      refine ⟨h', tk', news, rfl, F', N'', off, hS, ih (i + 1) (ys ++ [y]) (by omega) (by rw [List.length_append, hl]; rfl) fun j u hj => ?_⟩
      by_cases hlt : j < ys.length
      · rw [List.getElem?_append_left hlt] at hj; exact hr j u hj
      · rw [List.getElem?_append_right (by omega)] at hj
        have hj0 : j - ys.length = 0 := by
          rcases Nat.eq_zero_or_pos (j - ys.length) with h0 | h0
          · exact h0
          · rw [List.getElem?_eq_none (by simp only [List.length_singleton]; omega)] at hj; cases hj
        rw [hj0] at hj
        have : u = y := by simpa using hj.symm
        subst this
        have : j = i := by omega
        subst this
        exact hy
  exact key N 0 [] (by omega) rfl (fun j y hj => by simp at hj)
theorem of_len {ys : List Value} {n : Nat} (h : ys.length = n) : ys = List.ofFn (fun i : Fin n => ys[i.val]'(Nat.lt_of_lt_of_eq i.isLt h.symm)) := by
  refine List.ext_getElem? fun i => ?_
  rw [List.getElem?_ofFn]
  by_cases hi : i < n
  · rw [dif_pos hi, List.getElem?_eq_getElem (Nat.lt_of_lt_of_eq hi h.symm)]
  · rw [dif_neg hi, List.getElem?_eq_none (Nat.le_trans (Nat.le_of_eq h) (Nat.not_lt.mp hi))]
theorem six_ints {ys : List Value} (h : ys.length = 6) (hr : ∀ (i : Nat) (y : Value), ys[i]? = some y → ∃ n t, y = Value.int n t) :
    ∃ a b c d e f ta tb tc td te tf, ys = [.int a ta, .int b tb, .int c tc, .int d td, .int e te, .int f tf] := by
  have g : ∀ i : Fin 6, ∃ n t, ys[i.val]'(Nat.lt_of_lt_of_eq i.isLt h.symm) = Value.int n t := fun i => hr i.val _ (List.getElem?_eq_getElem (Nat.lt_of_lt_of_eq i.isLt h.symm))
  obtain ⟨a, ta, ea⟩ := g 0
  obtain ⟨b, tb, eb⟩ := g 1
  obtain ⟨c, tc, ec⟩ := g 2
  obtain ⟨d, td, ed⟩ := g 3
  obtain ⟨e, te, ee⟩ := g 4
  obtain ⟨f, tf, ef⟩ := g 5
  refine ⟨a, b, c, d, e, f, ta, tb, tc, td, te, tf, (of_len h).trans ?_⟩
  exact congr (congrArg List.cons ea) (congr (congrArg List.cons eb) (congr (congrArg List.cons ec) (congr (congrArg List.cons ed) (congr (congrArg List.cons ee) (congr (congrArg List.cons ef) rfl)))))
end
/-- the element and the scope of statement k's comprehension -/
noncomputable def compAt (k : Nat) : Option (Expr × Scope) :=
  (lawAt k).bind fun p => match p.1 with
    | .Assign _ (.ListComp elt _ sc _) _ => some (elt, sc)
    | _ => none
end Mine
namespace Mine
section
variable {prog : Program} {w : World} {A : Around} {E : Value → Shared → Prop} {s : Shared} {h₀ : Heap} {L : Addr} {m : Str → Option Value} {env : Env}
theorem fresh_above {h : Heap} {a : Addr} (ha : h.objs.size ≤ a) : h.get? a = none := by
  cases e : h.get? a with
  | none => rfl
  | some o => exact absurd (Heap.lt_size e) (Nat.not_lt.mpr ha)
/-- the frame of a comprehension whose one cell is its own variable -/
theorem newEnv_cell {x : Str} {scope : Scope} {cl : List (Str × Addr)} {Q : Env → Shared → Prop}
    (hcf : ∀ k, cellsFrom k scope.names cl = (x, k) :: cl) (hpc : ∀ h, pushCells h scope.names = h.push { cls := .type "cell", data := .cell none })
    (h : Q (newEnv scope s.heap.objs.size env.globals ((x, s.heap.objs.size + 1) :: cl) env.qual none .none (some env) builtinsNs)
      { s with heap := (s.heap.push { cls := .type "dict", data := .dict #[] }).push { cls := .type "cell", data := .cell none } }) :
    wpAny (model prog w) A (newFunctionEnv scope env.globals cl [] env.qual none .none (some env)) Q E s := by
  simp only [newFunctionEnv, Option.isSome_some, if_true]
  refine wpAny_bind (wpAny_alloc ?_)
  refine wpAny_bind (wpAny_layCells _ (fun name kind cells => by cases hkc : kind == NameKind.cell <;> simp [hkc]) _ _ _ _ ?_)
  rw [show ({ s with heap := s.heap.push { cls := .type "dict", data := .dict #[] } } : Shared).heap.objs.size = s.heap.objs.size + 1 from Heap.size_push ..]
  rw [hcf, hpc]
  rw [List.forIn_nil]
  exact wpAny_bind (wpAny_pure (wpAny_pure h))
/-- what stands when a comprehension's four objects are laid: I iterator, D list, C names, c cell -/
structure Four (h₀ H H4 : Heap) (L I D C c : Addr) (m : Str → Option Value) (news : List (Addr × Obj)) (it : Obj) : Prop where
  lc : C + 1 = c
  I4 : H4.get? I = some it
  keep : ∀ b o, H.get? b = some o → H4.get? b = some o
  hI₀ : h₀.get? I = none
  hD₀ : h₀.get? D = none
  hC₀ : h₀.get? C = none
  hc₀ : h₀.get? c = none
  hLI : L ≠ I
  hDL : D ≠ L
  hCL : C ≠ L
  hcL : c ≠ L
  ne : @Ne Nat I C ∧ @Ne Nat I c ∧ @Ne Nat I D ∧ @Ne Nat C c ∧ @Ne Nat C D ∧ @Ne Nat c D
  off : ∀ p ∈ news, @Ne Nat p.1 I ∧ @Ne Nat p.1 C ∧ @Ne Nat p.1 c ∧ @Ne Nat p.1 D
  N0 : ∃ oC, LCg.NsObj oC (fun _ => none) ∧ News h₀ L H4 ((C, oC) :: (c, { cls := .type "cell", data := .cell none }) :: (D, LCg.lst []) :: news)
theorem four_new {H : Heap} {news : List (Addr × Obj)} (it : Obj) (hit : it.isFreed = false) (F : Fr h₀ L H m) (N : News h₀ L H news) :
    Four h₀ H ((((H.push it).push { cls := .type "list", dict := none, data := .seq ([] : List Value).toArray }).push { cls := .type "dict", data := .dict #[] }).push { cls := .type "cell", data := .cell none }) L H.objs.size (H.push it).objs.size
      ((H.push it).push { cls := .type "list", dict := none, data := .seq ([] : List Value).toArray }).objs.size (((H.push it).push { cls := .type "list", dict := none, data := .seq ([] : List Value).toArray }).push { cls := .type "dict", data := .dict #[] }).objs.size m news it := by
  have z1 : (H.push it).objs.size = H.objs.size + 1 := Heap.size_push ..
  have I1 : (H.push it).get? H.objs.size = some it := Heap.get?_push_size _ hit
  have k1 : ∀ b o, H.get? b = some o → (H.push it).get? b = some o := fun b o e => Heap.get?_push_of_some _ e
  have n1 : @LT.lt Nat _ L H.objs.size := F.ns.lt
  have lt₁ : ∀ b o, H.get? b = some o → @LT.lt Nat _ b H.objs.size := fun b o e => Heap.lt_size e
  have fr₀ : ∀ a, @LE.le Nat _ H.objs.size a → h₀.get? a = none := fun a ha => by
    cases e : h₀.get? a with
    | none => rfl
    | some o => exact absurd (lt₁ a o (F.keep a o e)) (Nat.not_lt.mpr ha)
  have ltN : ∀ p ∈ news, @LT.lt Nat _ p.1 H.objs.size := fun p hp => lt₁ _ _ (N p hp).1
  have kN : ∀ p ∈ news, H.get? p.1 = some p.2 ∧ p.1 ≠ L ∧ h₀.get? p.1 = none := N
  generalize H.push it = H1 at *
  have z2 : (H1.push { cls := .type "list", dict := none, data := .seq ([] : List Value).toArray }).objs.size = H1.objs.size + 1 := Heap.size_push ..
  have D2 : (H1.push { cls := .type "list", dict := none, data := .seq ([] : List Value).toArray }).get? H1.objs.size = some (LCg.lst []) := Heap.get?_push_size _ rfl
  have k2 : ∀ b o, H1.get? b = some o → (H1.push { cls := .type "list", dict := none, data := .seq ([] : List Value).toArray }).get? b = some o := fun b o e => Heap.get?_push_of_some _ e
  generalize H1.push { cls := .type "list", dict := none, data := .seq ([] : List Value).toArray } = H2 at *
  have z3 : (H2.push { cls := .type "dict", data := .dict #[] }).objs.size = H2.objs.size + 1 := Heap.size_push ..
  have C3 : (H2.push { cls := .type "dict", data := .dict #[] }).Ns H2.objs.size (fun _ => none) := Heap.Ns.new H2 (.type "dict")
  have k3 : ∀ b o, H2.get? b = some o → (H2.push { cls := .type "dict", data := .dict #[] }).get? b = some o := fun b o e => Heap.get?_push_of_some _ e
  generalize H2.push { cls := .type "dict", data := .dict #[] } = H3 at *
  have c4 : (H3.push { cls := .type "cell", data := .cell none }).get? H3.objs.size = some { cls := .type "cell", data := .cell none } := Heap.get?_push_size _ rfl
  have k4 : ∀ b o, H3.get? b = some o → (H3.push { cls := .type "cell", data := .cell none }).get? b = some o := fun b o e => Heap.get?_push_of_some _ e
  generalize H3.push { cls := .type "cell", data := .cell none } = H4 at *
  obtain ⟨oC, heC, hoC⟩ := LCg.ns_obj C3
  clear C3 F
  generalize H.objs.size = I at *
  generalize H1.objs.size = D at *
  generalize H2.objs.size = C at *
  generalize H3.objs.size = c at *
  have gD : h₀.get? D = none := fr₀ D (by omega)
  have gC : h₀.get? C = none := fr₀ C (by omega)
  have gc : h₀.get? c = none := fr₀ c (by omega)
  have lD : D ≠ L := Nat.ne_of_gt (by show @LT.lt Nat _ L D; omega)
  have lC : C ≠ L := Nat.ne_of_gt (by show @LT.lt Nat _ L C; omega)
  have lc : c ≠ L := Nat.ne_of_gt (by show @LT.lt Nat _ L c; omega)
  refine ⟨z3.symm, k4 _ _ (k3 _ _ (k2 _ _ I1)), fun b o e => k4 b o (k3 b o (k2 b o (k1 b o e))), fr₀ I (Nat.le_refl _), gD, gC, gc, Nat.ne_of_lt n1, lD, lC, lc, ?_, ?_, oC, hoC, ?_⟩
  · clear fr₀ ltN kN
    refine ⟨?_, ?_, ?_, ?_, ?_, ?_⟩ <;> omega
  · intro p hp
    have := ltN p hp
    clear fr₀ ltN kN
    refine ⟨?_, ?_, ?_, ?_⟩ <;> omega
  · intro p hp
    rcases List.mem_cons.mp hp with rfl | hp
    · exact ⟨k4 _ _ heC, lC, gC⟩
    rcases List.mem_cons.mp hp with rfl | hp
    · exact ⟨c4, lc, gc⟩
    rcases List.mem_cons.mp hp with rfl | hp
    · exact ⟨k4 _ _ (k3 _ _ D2), lD, gD⟩
    · exact ⟨k4 _ _ (k3 _ _ (k2 _ _ (k1 _ _ (kN p hp).1))), (kN p hp).2⟩
/-- where the comprehension's loop stands -/
inductive CellSt (h₀ : Heap) (L : Addr) (m : Str → Option Value) (I C c D : Addr) (oC : Obj) (n : Nat) (s₁ : Shared) (Inv : Nat → List Value → List (Addr × Obj) → Prop) (k : Nat) (s' : Shared) : Prop
  | mk (h' : Heap) (tk i : Nat) (ys : List Value) (oc : Obj) (v₀ : Option Value) (news' : List (Addr × Obj)) (e : s' = { s₁ with heap := h', toks := tk }) (hi : i ≤ n) (hk : k = n + 1 - i) (hl : ys.length = i)
    (hr : IsRangeIter h' I (0 + (i : Int) * 1) ((n : Int) - (i : Int)) 1) (F : Fr h₀ L h' m) (ho : oc.data = .cell v₀) (N : News h₀ L h' ((C, oC) :: (c, oc) :: (D, LCg.lst ys) :: news')) (off : ∀ p ∈ news', @Ne Nat p.1 I ∧ @Ne Nat p.1 C ∧ @Ne Nat p.1 c ∧ @Ne Nat p.1 D) (hI : Inv i ys news')
/-- [elt for x in range(n)], where x is a cell of the comprehension's own scope -/
theorem comp_cell {elt iter : Expr} {x : Str} {px : Pos} {scope : Scope} {cl : List (Str × Addr)} {pos : Pos} {Q : Value → Shared → Prop} {n : Nat} {Inv : Nat → List Value → List (Addr × Obj) → Prop}
    (hclos : closureFor scope env = pure cl) (hkind : scope.kind = .function) (hnames : ∀ y ∈ scope.names, y.2 = .local → scope.names.lookup y.1 = some .local)
    (hcf : ∀ k, cellsFrom k scope.names cl = (x, k) :: cl) (hpc : ∀ h, pushCells h scope.names = h.push { cls := .type "cell", data := .cell none })
    (hxk : ∀ c C, (compEnvC scope ((x, c) :: cl) C env).kindOf x = some .cell) (hh : A.handled = none) (hsz : n ≤ sizeLine)
    (h : wpAny (model prog w) A (eval iter env) (fun xv s₁ => ∃ r t u v news, xv = .ref r ∧ Fr h₀ L s₁.heap m ∧ News h₀ L s₁.heap news ∧ IsRange s₁.heap r 0 n 1 t u v ∧ Builtin.Range.small 0 n 1 = true ∧
      Builtin.Range.rangeSize 0 n 1 = ((n : Nat) : Int) ∧ Inv 0 [] news ∧
      (∀ i ys news' I oI C oC c oc D h tk v (E' : Value → Shared → Prop), i < n → Inv i ys news' → (∃ t, v = .int (i : Int) t) → oc.data = .cell (some v) → Fr h₀ L h m →
        News h₀ L h ((I, oI) :: (C, oC) :: (c, oc) :: (D, LCg.lst ys) :: news') → (∀ p ∈ news', @Ne Nat p.1 I ∧ @Ne Nat p.1 C ∧ @Ne Nat p.1 c ∧ @Ne Nat p.1 D) → (@Ne Nat I C ∧ @Ne Nat I c ∧ @Ne Nat I D ∧ @Ne Nat C c ∧ @Ne Nat C D ∧ @Ne Nat c D) →
        wpAny (model prog w) A (eval elt (compEnvC scope ((x, c) :: cl) C env)) (fun y s₂ => ∃ h' tk' news'', s₂ = { s₁ with heap := h', toks := tk' } ∧ Fr h₀ L h' m ∧ News h₀ L h' ((I, oI) :: (C, oC) :: (c, oc) :: (D, LCg.lst ys) :: news'') ∧
          (∀ p ∈ news'', @Ne Nat p.1 I ∧ @Ne Nat p.1 C ∧ @Ne Nat p.1 c ∧ @Ne Nat p.1 D) ∧ Inv (i + 1) (ys ++ [y]) news'') E' { s₁ with heap := h, toks := tk }) ∧
      (∀ D h tk ys news', Inv n ys news' → Fr h₀ L h m → News h₀ L h ((D, LCg.lst ys) :: news') → (∀ p ∈ news', @Ne Nat p.1 D) → Q (.ref D) { s₁ with heap := h, toks := tk })) E s)
    (hs : ∀ x, foldedSetIterable iter env x = pure x := by intro _; rfl) :
    wpAny (model prog w) A (eval (.ListComp elt [⟨.Name x px, iter, [], 0⟩] scope pos) env) Q E s := by
  rw [eval_ListComp]
  refine wpAny_comprehension_free (use := none) rfl hs hclos hkind hnames (wpAny_mono h (fun xv s₁ h₁ => ?_) fun _ _ e => e)
  obtain ⟨r, t, u, v, news, rfl, F, N, hr, hsm, hn, hI, turn, fin⟩ := h₁
  refine wpAny_pyIter_range hr hsm ?_
  refine wpAny_newObj_type ?_
  refine newEnv_cell hcf hpc ?_
  dsimp only
  have X := four_new { cls := .type "range_iterator", data := .fields #[rawInt 0, rawInt (Builtin.Range.rangeSize 0 n 1), rawInt 1] } rfl F N
  rw [X.lc]
  generalize (((s₁.heap.push { cls := .type "range_iterator", data := .fields #[rawInt 0, rawInt (Builtin.Range.rangeSize 0 n 1), rawInt 1] }).push { cls := .type "list", dict := none, data := .seq ([] : List Value).toArray }).push { cls := .type "dict", data := .dict #[] }).push { cls := .type "cell", data := .cell none } = H4 at X ⊢
  generalize (((s₁.heap.push { cls := .type "range_iterator", data := .fields #[rawInt 0, rawInt (Builtin.Range.rangeSize 0 n 1), rawInt 1] }).push { cls := .type "list", dict := none, data := .seq ([] : List Value).toArray }).push { cls := .type "dict", data := .dict #[] }).objs.size = c at X ⊢
  generalize ((s₁.heap.push { cls := .type "range_iterator", data := .fields #[rawInt 0, rawInt (Builtin.Range.rangeSize 0 n 1), rawInt 1] }).push { cls := .type "list", dict := none, data := .seq ([] : List Value).toArray }).objs.size = C at X ⊢
  generalize (s₁.heap.push { cls := .type "range_iterator", data := .fields #[rawInt 0, rawInt (Builtin.Range.rangeSize 0 n 1), rawInt 1] }).objs.size = D at X ⊢
  generalize s₁.heap.objs.size = I at X ⊢
  obtain ⟨_, hI1, k, hI₀, hD₀, hC₀, hc₀, hLI, hDL, hCL, hcL, ⟨nIC, nIc, nID, nCc, nCD, ncD⟩, off₀, oC, hoC, N0⟩ := X
  have W := LCg.range_walks (prog := prog) (w := w) (A := A) (I := I) hh 0 n
  have st0 : IsRangeIter H4 I (0 + ((0 : Nat) : Int) * 1) ((n : Int) - ((0 : Nat) : Int)) 1 := by
    show H4.get? I = _
    rw [hI1, hn]
    simp
  clear hI1 hr hsm
  have loop : codeAny (model prog w) A (.compLoop (.ListComp elt [⟨.Name x px, iter, [], 0⟩] scope pos) 0 (.ref I) (.ref D) (compEnvC scope ((x, c) :: cl) C env))
      (compPost (model prog w) A E none Q (.ref D) C) { s₁ with heap := H4, toks := s₁.toks } := by
    refine codeAny_compLoop_tests
      (CellSt h₀ L m I C c D oC n s₁ Inv) ?_ (n + 1)
      ⟨H4, _, 0, [], _, none, news, rfl, Nat.zero_le _, rfl, rfl, st0, F.keeps k, rfl, N0, off₀, hI⟩
    rintro kk s' ⟨h', tk, i, ys, oc, v₀, news', rfl, hi, rfl, hyl, hst, F', hoc, N', off', hinv⟩
    have aC := (N' _ (.head _)).1
    have ac := (N' _ (.tail _ (.head _))).1
    have aD := (N' _ (.tail _ (.tail _ (.head _)))).1
    by_cases hlt : i < n
    · refine W.item i _ _ _ hlt hst fun v h₂ tk₂ hPv hst₂ hk₂ => ?_
      have hc₂ : h₂.get? c = some oc := hk₂ _ _ (by simpa using Ne.symm nIc) ac
      refine wpAny_assign_Name (wpAny_storeName_cell (c := c) (v₀ := v₀) (show (compEnvC scope ((x, c) :: cl) C env).scope.kind = .function from hkind) (hxk c C) (by show List.lookup x ((x, c) :: cl) = some c; simp) ⟨oc, hc₂, hoc⟩ fun h₃ hc₃ hs₃ => ?_)
      refine wpAny_tests_nil ?_
      simp only [if_true]
      obtain ⟨oc₃, hoc₃, hocd⟩ := hc₃
      have up : ∀ b o, b ≠ I → b ≠ c → h'.get? b = some o → h₃.get? b = some o := fun b o e1 e2 e => hs₃.extBut b o e2 (hk₂ b o (by simpa using e1) e)
      have hst₃ := W.frame _ _ h₃ hst₂ fun b hb o e => hs₃.extBut b o (fun q => nIc ((List.mem_singleton.mp hb).symm.trans q)) e
      have F₃ : Fr h₀ L h₃ m := (LCg.fr_but F' hk₂ hLI hI₀).change hs₃ hcL hc₀
      have N₃ : News h₀ L h₃ ((I, _) :: (C, oC) :: (c, oc₃) :: (D, LCg.lst ys) :: news') := fun p hp => by
        rcases List.mem_cons.mp hp with rfl | hp
        · exact ⟨hst₃, Ne.symm hLI, hI₀⟩
        rcases List.mem_cons.mp hp with rfl | hp
        · exact ⟨up _ _ (Ne.symm nIC) nCc aC, hCL, hC₀⟩
        rcases List.mem_cons.mp hp with rfl | hp
        · exact ⟨hoc₃, hcL, hc₀⟩
        rcases List.mem_cons.mp hp with rfl | hp
        · exact ⟨up _ _ (Ne.symm nID) (Ne.symm ncD) aD, hDL, hD₀⟩
        · have z := N' p (.tail _ (.tail _ (.tail _ hp)))
          exact ⟨up _ _ (off' p hp).1 (off' p hp).2.2.1 z.1, z.2⟩
      refine wpAny_mono (turn i ys news' I _ C oC c oc₃ D h₃ _ v _ hlt hinv (by obtain ⟨t, e⟩ := hPv; exact ⟨t, by rw [e]; simp⟩) hocd F₃ N₃ off' ⟨nIC, nIc, nID, nCc, nCD, ncD⟩) (fun y s₄ h₄ => ?_) fun _ _ e => e
      obtain ⟨h₄, tk₄, news₄, rfl, F₄, N₄, off₄, hinv₄⟩ := h₄
      have hst₄ := W.frame _ _ h₄ hst₃ fun b hb o e => by
        obtain rfl := List.mem_singleton.mp hb
        have e' : h₃.get? b = _ := hst₃
        rw [e'] at e
        cases e
        exact (N₄ _ (.head _)).1
      refine append_at (hsz := by show ys.toArray.size ≤ sizeLine; rw [List.size_toArray, hyl]; exact Nat.le_trans hi hsz) (N₄ _ (.tail _ (.tail _ (.tail _ (.head _))))).1 fun h₅ hs₅ hD₅ => ?_
      refine ⟨n + 1 - (i + 1), by omega, h₅, tk₄, i + 1, ys ++ [y], oc₃, some v, news₄, rfl, hlt, rfl, by rw [List.length_append, List.length_singleton, hyl],
        W.frame _ _ _ hst₄ fun b hb o e => hs₅.extBut b o (fun q => nID ((List.mem_singleton.mp hb).symm.trans q)) e, F₄.change hs₅ hDL hD₀, hocd, fun p hp => ?_, off₄, hinv₄⟩
      rcases List.mem_cons.mp hp with rfl | hp
      · exact ⟨hs₅.extBut _ _ nCD (N₄ _ (.tail _ (.head _))).1, hCL, hC₀⟩
      rcases List.mem_cons.mp hp with rfl | hp
      · exact ⟨hs₅.extBut _ _ ncD (N₄ _ (.tail _ (.tail _ (.head _)))).1, hcL, hc₀⟩
      rcases List.mem_cons.mp hp with rfl | hp
      · exact ⟨hD₅.trans (congrArg some (LCg.lst_snoc ys y)), hDL, hD₀⟩
      · have z := N₄ p (.tail _ (.tail _ (.tail _ (.tail _ hp))))
        exact ⟨hs₅.extBut _ _ (off₄ p hp).2.2.2 z.1, z.2⟩
    · obtain rfl : i = n := Nat.le_antisymm hi (Nat.not_lt.mp hlt)
      refine W.done _ _ _ hst fun h₂ tk₂ hk₂ => ?_
      refine ⟨_, hoC.ns (hk₂ _ _ (by simpa using Ne.symm nIC) aC), fun h'' hs'' => fin D h'' tk₂ ys news' hinv ((LCg.fr_but F' hk₂ hLI hI₀).change hs'' hCL hC₀) (fun p hp => ?_) fun p hp => (off' p hp).2.2.2⟩
      rcases List.mem_cons.mp hp with rfl | hp
      · exact ⟨hs''.extBut _ _ (Ne.symm nCD) (hk₂ _ _ (by simpa using Ne.symm nID) aD), hDL, hD₀⟩
      · have z := N' p (.tail _ (.tail _ (.tail _ hp)))
        exact ⟨hs''.extBut _ _ (off' p hp).2.1 (hk₂ _ _ (by simpa using (off' p hp).1) z.1), z.2⟩
  exact codeAny_compStart_list loop (W.self 0 _ _ _ st0 loop)
end
end Mine
namespace Mine
noncomputable def comp2At (k : Nat) : Option (Expr × Scope × Expr × Scope) :=
  (lawAt k).bind fun p => match p.1 with
    | .Assign _ (.ListComp (.ListComp elt it2 sc2 p2) _ sc _) _ => some (elt, sc2, .ListComp elt it2 sc2 p2, sc)
    | _ => none
noncomputable abbrev sixList (a b c d e f : Int) (ta tb tc td te tf : Tok) : Obj := LCg.lst [.int a ta, .int b tb, .int c tc, .int d td, .int e te, .int f tf]
/-- bit k of v -/
noncomputable def bitI (v : Int) (k : Nat) : Int := (v.fdiv (2 ^ k)).fmod 2
/-- a row: the list of the five bits of v -/
noncomputable def IsRow (v : Int) (o : Obj) : Prop := ∃ t0 t1 t2 t3 t4, o = LCg.lst [.int (bitI v 0) t0, .int (bitI v 1) t1, .int (bitI v 2) t2, .int (bitI v 3) t3, .int (bitI v 4) t4]
theorem row_of {v : Int} {ys : List Value} (h : ys.length = 5) (hr : ∀ (k : Nat) (y : Value), ys[k]? = some y → ∃ t, y = Value.int (bitI v k) t) : IsRow v (LCg.lst ys) := by
  have g : ∀ i : Fin 5, ∃ t, ys[i.val]'(Nat.lt_of_lt_of_eq i.isLt h.symm) = Value.int (bitI v i.val) t := fun i => hr i.val _ (List.getElem?_eq_getElem (Nat.lt_of_lt_of_eq i.isLt h.symm))
  obtain ⟨t0, e0⟩ := g 0
  obtain ⟨t1, e1⟩ := g 1
  obtain ⟨t2, e2⟩ := g 2
  obtain ⟨t3, e3⟩ := g 3
  obtain ⟨t4, e4⟩ := g 4
  refine ⟨t0, t1, t2, t3, t4, congrArg LCg.lst ((of_len h).trans ?_)⟩
  show [ys[0], ys[1], ys[2], ys[3], ys[4]] = _
  exact congr (congrArg List.cons e0) (congr (congrArg List.cons e1) (congr (congrArg List.cons e2) (congr (congrArg List.cons e3) (congr (congrArg List.cons e4) rfl))))
noncomputable abbrev Nd (news : List (Addr × Obj)) : Prop := List.Nodup (α := Nat) (news.map fun p => p.1)
/-- the rows made so far -/
noncomputable def RowsInv (vs : List Int) (base : List (Addr × Obj)) (i : Nat) (ys : List Value) (news : List (Addr × Obj)) : Prop :=
  ∃ rs : List (Addr × Obj), rs.length = i ∧ ys = rs.map (fun p => Value.ref p.1) ∧ news = rs.reverse ++ base ∧ Nd news ∧ ∀ (j : Nat) (p : Addr × Obj), rs[j]? = some p → IsRow (vs.getD j 0) p.2
theorem rows_start {vs : List Int} {base : List (Addr × Obj)} (h : Nd base) : RowsInv vs base 0 [] base := ⟨[], rfl, rfl, rfl, h, fun j p hj => by simp at hj⟩
theorem rows_step {vs : List Int} {base news : List (Addr × Obj)} {i : Nat} {ys : List Value} {D : Addr} {o : Obj} (h : RowsInv vs base i ys news) (hD : ∀ p ∈ news, @Ne Nat p.1 D) (ho : IsRow (vs.getD i 0) o) : RowsInv vs base (i + 1) (ys ++ [.ref D]) ((D, o) :: news) := by
  obtain ⟨rs, hl, hy, hn, hnd, hr⟩ := h
  refine ⟨rs ++ [(D, o)], by rw [List.length_append, hl]; rfl, by rw [hy, List.map_append]; rfl, by rw [List.reverse_append, hn]; rfl, ?_, fun j p hj => ?_⟩
  · show List.Nodup (α := Nat) (D :: news.map fun p => p.1)
    refine List.nodup_cons.mpr ⟨fun hm => ?_, hnd⟩
    obtain ⟨p, hp, e⟩ := List.mem_map.mp hm
    exact hD p hp e
  · by_cases hlt : j < rs.length
    · rw [List.getElem?_append_left hlt] at hj; exact hr j p hj
    · rw [List.getElem?_append_right (by omega)] at hj
      have hj0 : j - rs.length = 0 := by
        rcases Nat.eq_zero_or_pos (j - rs.length) with h0 | h0
        · exact h0
        · rw [List.getElem?_eq_none (by simp only [List.length_singleton]; omega)] at hj; cases hj
      rw [hj0] at hj
      obtain rfl : (D, o) = p := by simpa using hj
      obtain rfl : j = i := by omega
      exact ho
theorem rows_four {vs : List Int} {base news : List (Addr × Obj)} {ys : List Value} (h : RowsInv vs base 4 ys news) :
    ∃ (R0 R1 R2 R3 : Addr) (p0 p1 p2 p3 : Obj), ys = [Value.ref R0, Value.ref R1, Value.ref R2, Value.ref R3] ∧ news = (R3, p3) :: (R2, p2) :: (R1, p1) :: (R0, p0) :: base ∧ Nd news ∧ IsRow (vs.getD 0 0) p0 ∧ IsRow (vs.getD 1 0) p1 ∧ IsRow (vs.getD 2 0) p2 ∧ IsRow (vs.getD 3 0) p3 := by
  obtain ⟨rs, hl, hy, hn, hnd, hr⟩ := h
  obtain ⟨a, b, c, d, rfl⟩ : ∃ a b c d, rs = [a, b, c, d] := by
    rcases rs with _ | ⟨a, _ | ⟨b, _ | ⟨c, _ | ⟨d, _ | ⟨e, r⟩⟩⟩⟩⟩
    · cases hl
    · cases hl
    · cases hl
    · cases hl
    · exact ⟨a, b, c, d, rfl⟩
    · simp only [List.length_cons] at hl; omega
  have h0 := hr 0 a rfl
  have h1 := hr 1 b rfl
  have h2 := hr 2 c rfl
  have h3 := hr 3 d rfl
  obtain ⟨a1, a2⟩ := a
  obtain ⟨b1, b2⟩ := b
  obtain ⟨c1, c2⟩ := c
  obtain ⟨d1, d2⟩ := d
  exact ⟨a1, b1, c1, d1, a2, b2, c2, d2, hy, hn, hnd, h0, h1, h2, h3⟩
end Mine
namespace Mine
theorem rows_base {vs : List Int} {base news : List (Addr × Obj)} {i : Nat} {ys : List Value} (h : RowsInv vs base i ys news) : ∀ p ∈ base, p ∈ news := by
  obtain ⟨rs, _, _, rfl, _, _⟩ := h
  exact fun p hp => List.mem_append_right _ hp
theorem off1_mem {D : Addr} : ∀ {l : List (Addr × Obj)}, LCg.Off1 D l → ∀ p ∈ l, @Ne Nat p.1 D
  | [], _, _, h => nomatch h
  | _ :: _, x, p, h => by
    rcases List.mem_cons.mp h with rfl | h
    · exact x.1
    · exact off1_mem x.2 p h
section
variable {h₀ h : Heap} {L : Addr} {a b c d e f : Addr × Obj} {w : List (Addr × Obj)}
theorem news6 (N : News h₀ L h (a :: b :: c :: w)) (hd : d ∈ w) (he : e ∈ w) (hf : f ∈ w) : News h₀ L h (a :: b :: c :: d :: e :: f :: w) := fun p hp => by
  rcases List.mem_cons.mp hp with rfl | hp
  · exact N _ (.head _)
  rcases List.mem_cons.mp hp with rfl | hp
  · exact N _ (.tail _ (.head _))
  rcases List.mem_cons.mp hp with rfl | hp
  · exact N _ (.tail _ (.tail _ (.head _)))
  rcases List.mem_cons.mp hp with rfl | hp
  · exact N _ (.tail _ (.tail _ (.tail _ hd)))
  rcases List.mem_cons.mp hp with rfl | hp
  · exact N _ (.tail _ (.tail _ (.tail _ he)))
  rcases List.mem_cons.mp hp with rfl | hp
  · exact N _ (.tail _ (.tail _ (.tail _ hf)))
  · exact N _ (.tail _ (.tail _ (.tail _ hp)))
theorem news3 (N : News h₀ L h (a :: b :: c :: d :: e :: f :: w)) : News h₀ L h (a :: b :: c :: w) := fun p hp => by
  rcases List.mem_cons.mp hp with rfl | hp
  · exact N _ (.head _)
  rcases List.mem_cons.mp hp with rfl | hp
  · exact N _ (.tail _ (.head _))
  rcases List.mem_cons.mp hp with rfl | hp
  · exact N _ (.tail _ (.tail _ (.head _)))
  · exact N _ (.tail _ (.tail _ (.tail _ (.tail _ (.tail _ (.tail _ hp))))))
theorem news_rot (N : News h₀ L h (e :: a :: b :: c :: d :: w)) : News h₀ L h (a :: b :: c :: d :: e :: w) := fun p hp => by
  rcases List.mem_cons.mp hp with rfl | hp
  · exact N _ (.tail _ (.head _))
  rcases List.mem_cons.mp hp with rfl | hp
  · exact N _ (.tail _ (.tail _ (.head _)))
  rcases List.mem_cons.mp hp with rfl | hp
  · exact N _ (.tail _ (.tail _ (.tail _ (.head _))))
  rcases List.mem_cons.mp hp with rfl | hp
  · exact N _ (.tail _ (.tail _ (.tail _ (.tail _ (.head _)))))
  rcases List.mem_cons.mp hp with rfl | hp
  · exact N _ (.head _)
  · exact N _ (.tail _ (.tail _ (.tail _ (.tail _ (.tail _ hp)))))
theorem offs_cons {I C c D D' : Addr} {o : Obj} {news : List (Addr × Obj)} (h : ∀ p ∈ news, @Ne Nat p.1 I ∧ @Ne Nat p.1 C ∧ @Ne Nat p.1 c ∧ @Ne Nat p.1 D) (h1 : @Ne Nat I D') (h2 : @Ne Nat C D') (h3 : @Ne Nat c D') (h4 : @Ne Nat D D') :
    ∀ p ∈ (D', o) :: news, @Ne Nat p.1 I ∧ @Ne Nat p.1 C ∧ @Ne Nat p.1 c ∧ @Ne Nat p.1 D := fun p hp => by
  rcases List.mem_cons.mp hp with rfl | hp
  · exact ⟨h1.symm, h2.symm, h3.symm, h4.symm⟩
  · exact h p hp
end
end Mine
namespace Mine
theorem four_six {d0 d1 d2 d3 d4 d5 : Int} {i : Nat} (hi : i < 4) : [d0, d1, d2, d3, d4, d5].getD ((i : Int)).toNat 0 = [d0, d1, d2, d3].getD i 0 := by
  rw [Int.toNat_natCast]
  match i, hi with
  | 0, _ => rfl
  | 1, _ => rfl
  | 2, _ => rfl
  | 3, _ => rfl
end Mine
namespace Mine
/-- two addresses that differ: omega does not look inside -/
structure Neq (a b : Nat) : Prop where
  out : a ≠ b
noncomputable def AllNeq (c : Nat) : List (Addr × Obj) → Prop
  | [] => True
  | p :: r => Neq p.1 c ∧ AllNeq c r
theorem allNeq_of {c : Nat} : ∀ {l : List (Addr × Obj)}, (∀ p ∈ l, @Ne Nat p.1 c) → AllNeq c l
  | [], _ => trivial
  | p :: r, h => ⟨⟨h p (.head _)⟩, allNeq_of fun q hq => h q (.tail _ hq)⟩
theorem nd_all {pre post : List (Addr × Obj)} {c : Addr} {o : Obj} (h : Nd (pre ++ (c, o) :: post)) : AllNeq c (pre ++ post) := by
  refine allNeq_of fun p hp e => ?_
  unfold Nd at h
  rw [List.map_append, List.map_cons] at h
  have h' := List.nodup_append.mp h
  rcases List.mem_append.mp hp with hp | hp
  · exact h'.2.2 p.1 (List.mem_map.mpr ⟨p, hp, rfl⟩) c (.head _) e
  · have := (List.nodup_cons.mp h'.2.1).1
    exact this (List.mem_map.mpr ⟨p, hp, e⟩)
theorem nd_cons {news : List (Addr × Obj)} {D : Addr} {o : Obj} (h : Nd news) (hD : ∀ p ∈ news, @Ne Nat p.1 D) : Nd ((D, o) :: news) :=
  List.nodup_cons.mpr ⟨fun hm => by
    obtain ⟨p, hp, e⟩ := List.mem_map.mp hm
    exact hD p hp e, h⟩
end Mine
namespace Mine
noncomputable abbrev rowsObj (R0 R1 R2 R3 : Addr) : Obj := LCg.lst [.ref R0, .ref R1, .ref R2, .ref R3]
end Mine
namespace Mine
noncomputable abbrev pricesObj (t0 t1 t2 t3 t4 : Tok) : Obj := { cls := .type "tuple", data := .seq #[.int 1 t0, .int 1 t1, .int 2 t2, .int 2 t3, .int 2 t4] }
end Mine
namespace Mine
theorem nd_lt {news : List (Addr × Obj)} {D : Addr} {o : Obj} (h : Nd news) (l : AllLt D news) : Nd ((D, o) :: news) := nd_cons h fun p hp => by
  induction news with
  | nil => cases hp
  | cons a r ih =>
    rcases List.mem_cons.mp hp with rfl | hp
    · exact Nat.ne_of_lt l.1
    · exact ih (List.nodup_cons.mp h).2 l.2 hp
end Mine
namespace Mine
section
variable {prog : Program} {w : World} {A : Around} {E : Value → Shared → Prop} {s : Shared} {h₀ : Heap} {L : Addr} {m : Str → Option Value} {news : List (Addr × Obj)}
/-- a written tuple of texts, at a place that is not written -/
theorem pick3 {value slice : Expr} {D : Addr} {x0 x1 x2 : Str} {t0 t1 t2 : Tok} {k : Int} {u : Tok} {Q : Value → Shared → Prop} (N : News h₀ L s.heap news)
    (hm : (D, ({ cls := .type "tuple", data := .seq #[.str x0 t0, .str x1 t1, .str x2 t2] } : Obj)) ∈ news) (hk : 0 ≤ k ∧ k < 3)
    (hx : x0.length ≤ 20 ∧ x1.length ≤ 20 ∧ x2.length ≤ 20) (h : ∀ t, ([x0, x1, x2].getD k.toNat Str.empty).length ≤ 20 → Q (.str ([x0, x1, x2].getD k.toNat Str.empty) t) s)
    (hs : subscripted slice false (.ref D) (.int k u) = operate [.ref D, .int k u] (getItem (.ref D) (.int k u)) := by with_unfolding_all rfl) :
    wpAny (model prog w) A (subscriptTail value slice (.ref D) (.int k u)) Q E s := by
  have ht : IsTup s.heap D ([.str x0 t0, .str x1 t1, .str x2 t2] : List Value).toArray := News.isTup N hm
  rcases (by omega : k = 0 ∨ k = 1 ∨ k = 2) with rfl | rfl | rfl
  · exact item_tupleT ht (by decide) (by decide) (j := 0) rfl rfl (h t0 hx.1) hs
  · exact item_tupleT ht (by decide) (by decide) (j := 1) rfl rfl (h t1 hx.2.1) hs
  · exact item_tupleT ht (by decide) (by decide) (j := 2) rfl rfl (h t2 hx.2.2) hs
theorem pick4 {value slice : Expr} {D : Addr} {x0 x1 x2 x3 : Str} {t0 t1 t2 t3 : Tok} {k : Int} {u : Tok} {Q : Value → Shared → Prop} (N : News h₀ L s.heap news)
    (hm : (D, ({ cls := .type "tuple", data := .seq #[.str x0 t0, .str x1 t1, .str x2 t2, .str x3 t3] } : Obj)) ∈ news) (hk : 0 ≤ k ∧ k < 4)
    (hx : x0.length ≤ 20 ∧ x1.length ≤ 20 ∧ x2.length ≤ 20 ∧ x3.length ≤ 20) (h : ∀ t, ([x0, x1, x2, x3].getD k.toNat Str.empty).length ≤ 20 → Q (.str ([x0, x1, x2, x3].getD k.toNat Str.empty) t) s)
    (hs : subscripted slice false (.ref D) (.int k u) = operate [.ref D, .int k u] (getItem (.ref D) (.int k u)) := by with_unfolding_all rfl) :
    wpAny (model prog w) A (subscriptTail value slice (.ref D) (.int k u)) Q E s := by
  have ht : IsTup s.heap D ([.str x0 t0, .str x1 t1, .str x2 t2, .str x3 t3] : List Value).toArray := News.isTup N hm
  rcases (by omega : k = 0 ∨ k = 1 ∨ k = 2 ∨ k = 3) with rfl | rfl | rfl | rfl
  · exact item_tupleT ht (by decide) (by decide) (j := 0) rfl rfl (h t0 hx.1) hs
  · exact item_tupleT ht (by decide) (by decide) (j := 1) rfl rfl (h t1 hx.2.1) hs
  · exact item_tupleT ht (by decide) (by decide) (j := 2) rfl rfl (h t2 hx.2.2.1) hs
  · exact item_tupleT ht (by decide) (by decide) (j := 3) rfl rfl (h t3 hx.2.2.2) hs
end
theorem fmod_rng3 (x : Int) : 0 ≤ x.fmod 3 ∧ x.fmod 3 < 3 := by rw [Int.fmod_eq_emod_of_nonneg x (by decide)]; omega
theorem fmod_rng4 (x : Int) : 0 ≤ x.fmod 4 ∧ x.fmod 4 < 4 := by rw [Int.fmod_eq_emod_of_nonneg x (by decide)]; omega
end Mine
namespace Mine
noncomputable def leadS (d : Int) : Str := [Str.ofString "229 ok (", Str.ofString "229 1) (", Str.ofString "229("].getD (d.fmod 3).toNat Str.empty
noncomputable def markS (d : Int) : Str := Txt.item (Str.ofString "|!x~") ((d.fdiv 3).fmod 4)
noncomputable def aheadS (d : Int) : Str := [Str.ofString "", Str.ofString "7", Str.ofString "42"].getD ((d.fdiv 12).fmod 3).toNat Str.empty
noncomputable def behindS (d : Int) : Str := [Str.ofString ")", Str.ofString ").", Str.ofString ") (|||9|)"].getD ((d.fdiv 36).fmod 3).toNat Str.empty
noncomputable def endS (d : Int) : Str := [Str.ofString "\"", Str.ofString "\"x", Str.ofString "\" \"x", Str.ofString ""].getD ((d.fdiv 108).fmod 4).toNat Str.empty
end Mine
namespace Mine
noncomputable def forAt (k : Nat) : Option (Expr × Expr × List Stmt) :=
  (lawAt k).bind fun p => match p.1 with
    | .For t it b _ _ => some (t, it, b)
    | _ => none
theorem bitI_rng (v : Int) (k : Nat) : 0 ≤ bitI v k ∧ bitI v k < 2 := by
  unfold bitI; rw [Int.fmod_eq_emod_of_nonneg _ (by decide)]; omega
section
variable {prog : Program} {w : World} {A : Around} {E : Value → Shared → Prop} {s : Shared} {h₀ : Heap} {L : Addr} {m : Str → Option Value} {news : List (Addr × Obj)}
theorem pick2 {value slice : Expr} {D : Addr} {x0 x1 : Str} {t0 t1 : Tok} {k : Int} {u : Tok} {Q : Value → Shared → Prop} (N : News h₀ L s.heap news)
    (hm : (D, ({ cls := .type "tuple", data := .seq #[.str x0 t0, .str x1 t1] } : Obj)) ∈ news) (hk : 0 ≤ k ∧ k < 2)
    (hx : x0.length ≤ 20 ∧ x1.length ≤ 20) (h : ∀ t, ([x0, x1].getD k.toNat Str.empty).length ≤ 20 → Q (.str ([x0, x1].getD k.toNat Str.empty) t) s)
    (hs : subscripted slice false (.ref D) (.int k u) = operate [.ref D, .int k u] (getItem (.ref D) (.int k u)) := by with_unfolding_all rfl) :
    wpAny (model prog w) A (subscriptTail value slice (.ref D) (.int k u)) Q E s := by
  have ht : IsTup s.heap D ([.str x0 t0, .str x1 t1] : List Value).toArray := News.isTup N hm
  rcases (by omega : k = 0 ∨ k = 1) with rfl | rfl
  · exact item_tupleT ht (by decide) (by decide) (j := 0) rfl rfl (h t0 hx.1) hs
  · exact item_tupleT ht (by decide) (by decide) (j := 1) rfl rfl (h t1 hx.2) hs
/-- words.append(v): the rest of the ledger stands -/
theorem append_W {W : Addr} {ws : List Value} {v : Value} {post : List (Addr × Obj)} {Q : Value → Shared → Prop} (hW : ∀ p ∈ post, @Ne Nat p.1 W) (F : Fr h₀ L s.heap m) (N : News h₀ L s.heap news)
    (sub : ∀ p ∈ (W, LCg.lst ws) :: post, p ∈ news) (hl : ws.length ≤ 100)
    (h : ∀ h', Fr h₀ L h' m → News h₀ L h' ((W, LCg.lst (ws ++ [v])) :: post) → Q .none { s with heap := h' }) :
    wpAny (model prog w) A (call (.builtin "list.append") [.ref W, v]) Q E s := by
  have z := N _ (sub _ (.head _))
  refine append_at (hsz := by show ws.toArray.size ≤ sizeLine; rw [List.size_toArray]; exact Nat.le_trans hl (by decide +kernel)) z.1 fun h₅ hs₅ hD₅ => h h₅ (F.change hs₅ z.2.1 z.2.2) fun p hp => ?_
  rcases List.mem_cons.mp hp with rfl | hp
  · exact ⟨hD₅.trans (congrArg some (LCg.lst_snoc ws v)), z.2⟩
  · have y := N p (sub _ (.tail _ hp))
    exact ⟨hs₅.extBut _ _ (hW p hp) y.1, y.2⟩
end
/-- what law's frame holds while the rows are told -/
structure Loc (d : Int) (W : Addr) (m : Str → Option Value) : Prop where
  lead : ∃ t, m (Str.ofString "lead") = some (.str (leadS d) t)
  mark : ∃ t, m (Str.ofString "mark") = some (.str (markS d) t)
  ahead : ∃ t, m (Str.ofString "ahead") = some (.str (aheadS d) t)
  behind : ∃ t, m (Str.ofString "behind") = some (.str (behindS d) t)
  endd : ∃ t, m (Str.ofString "end") = some (.str (endS d) t)
  words : m (Str.ofString "words") = some (.ref W)
theorem setv {n : Str} {v : Option Value} {m : Str → Option Value} (h : m n = v) : m = fun y => if y = n then v else m y := by
  funext y
  by_cases e : y = n
  · rw [if_pos e, e, h]
  · rw [if_neg e]
end Mine
namespace Mine
theorem lens (d : Int) : (leadS d).length ≤ 10 ∧ (markS d).length = 1 ∧ (aheadS d).length ≤ 10 ∧ (behindS d).length ≤ 10 ∧ (endS d).length ≤ 10 := by
  refine ⟨?_, ?_, ?_, ?_, ?_⟩
  · unfold leadS
    generalize (d.fmod 3).toNat = i
    rcases i with _ | _ | _ | i <;> first | decide | (simp; decide)
  · unfold markS
    rcases (by have := fmod_rng4 (d.fdiv 3); omega : (d.fdiv 3).fmod 4 = 0 ∨ (d.fdiv 3).fmod 4 = 1 ∨ (d.fdiv 3).fmod 4 = 2 ∨ (d.fdiv 3).fmod 4 = 3) with e | e | e | e <;> rw [e] <;> decide +kernel
  · unfold aheadS
    generalize ((d.fdiv 12).fmod 3).toNat = i
    rcases i with _ | _ | _ | i <;> first | decide | (simp; decide)
  · unfold behindS
    generalize ((d.fdiv 36).fmod 3).toNat = i
    rcases i with _ | _ | _ | i <;> first | decide | (simp; decide)
  · unfold endS
    generalize ((d.fdiv 108).fmod 4).toNat = i
    rcases i with _ | _ | _ | _ | i <;> first | decide | (simp; decide)
end Mine
namespace Mine
noncomputable abbrev bs (v : Int) : List Int := [bitI v 0, bitI v 1, bitI v 2, bitI v 3, bitI v 4]
noncomputable abbrev frontX (v : Int) : Str := Txt.item (Str.ofString "aA") ([bitI v 0, bitI v 1, bitI v 2, bitI v 3, bitI v 4].getD (Int.toNat 0) 0) ++ Txt.item (Str.ofString "bB") ([bitI v 0, bitI v 1, bitI v 2, bitI v 3, bitI v 4].getD (Int.toNat 1) 0)
noncomputable abbrev nameX (v d : Int) : Str := Str.ofString "257 \"" ++ frontX v ++ [Str.ofString "c", Str.ofString "\"\""].getD ([bitI v 0, bitI v 1, bitI v 2, bitI v 3, bitI v 4].getD (Int.toNat 2) 0).toNat Str.empty ++ endS d
noncomputable abbrev nameS (v : Int) : Str := frontX v ++ Txt.item (Str.ofString "c\"") ([bitI v 0, bitI v 1, bitI v 2, bitI v 3, bitI v 4].getD (Int.toNat 2) 0)
noncomputable def nameF (a b c : Int) (e : Nat) : Str := Str.ofString "257 \"" ++ (Txt.item (Str.ofString "aA") a ++ Txt.item (Str.ofString "bB") b) ++ [Str.ofString "c", Str.ofString "\"\""].getD c.toNat Str.empty ++ [Str.ofString "\"", Str.ofString "\"x", Str.ofString "\" \"x", Str.ofString ""].getD e Str.empty
noncomputable def nameFS (a b c : Int) : Str := (Txt.item (Str.ofString "aA") a ++ Txt.item (Str.ofString "bB") b) ++ Txt.item (Str.ofString "c\"") c
noncomputable def nameOk (x r : Str) : Bool := decide (x.length ≤ 100) && ((Txt.slice x none (some 3) != Str.ofString "257") == false) && ((Txt.slice x (some 3) (some 5) != Str.ofString " \"") == false) && (p257go x x.length 5 (Str.ofString "") == r) && decide (r.length ≤ 10)
theorem name_fin : ∀ a b c : Fin 2, ∀ e : Fin 4, nameOk (nameF (a.val : Int) (b.val : Int) (c.val : Int) e.val) (nameFS (a.val : Int) (b.val : Int) (c.val : Int)) = true := by decide +kernel
structure NameGood (x r : Str) : Prop where
  len : x.length ≤ 100
  h0 : (Txt.slice x none (some 3) != Str.ofString "257") = false
  h1 : (Txt.slice x (some 3) (some 5) != Str.ofString " \"") = false
  go : p257go x x.length 5 (Str.ofString "") = r
  rlen : r.length ≤ 10
theorem good_of {x r : Str} (h : nameOk x r = true) : NameGood x r := by
  unfold nameOk at h
  simp only [Bool.and_eq_true, decide_eq_true_eq, beq_iff_eq] at h
  obtain ⟨⟨⟨⟨a, b⟩, c⟩, d⟩, e⟩ := h
  exact ⟨a, b, c, d, e⟩
theorem bit_fin (v : Int) (k : Nat) : ∃ b : Fin 2, bitI v k = (b.val : Int) := by
  have := bitI_rng v k
  rcases (by omega : bitI v k = 0 ∨ bitI v k = 1) with e | e
  · exact ⟨0, by rw [e]; rfl⟩
  · exact ⟨1, by rw [e]; rfl⟩
theorem mod_fin4 (x : Int) : ∃ b : Fin 4, (x.fmod 4).toNat = b.val := by
  have := fmod_rng4 x
  exact ⟨⟨(x.fmod 4).toNat, by omega⟩, rfl⟩
theorem mod_fin3 (x : Int) : ∃ b : Fin 3, (x.fmod 3).toNat = b.val := by
  have := fmod_rng3 x
  exact ⟨⟨(x.fmod 3).toNat, by omega⟩, rfl⟩
theorem name_good (v d : Int) : NameGood (nameX v d) (nameS v) := by
  obtain ⟨a, ha⟩ := bit_fin v 0
  obtain ⟨b, hb⟩ := bit_fin v 1
  obtain ⟨c, hc⟩ := bit_fin v 2
  obtain ⟨e, he⟩ := mod_fin4 (d.fdiv 108)
  have key := good_of (name_fin a b c e)
  have e1 : nameX v d = nameF (bitI v 0) (bitI v 1) (bitI v 2) ((d.fdiv 108).fmod 4).toNat := rfl
  have e2 : nameS v = nameFS (bitI v 0) (bitI v 1) (bitI v 2) := rfl
  rw [e1, e2, ha, hb, hc, he]
  exact key
end Mine
namespace Mine
noncomputable abbrev portI (v : Int) : Int := 13 + 10 * [bitI v 0, bitI v 1, bitI v 2, bitI v 3, bitI v 4].getD (Int.toNat 3) 0 + [bitI v 0, bitI v 1, bitI v 2, bitI v 3, bitI v 4].getD (Int.toNat 4) 0
noncomputable abbrev toldX (v d : Int) : Str := leadS d ++ markS d ++ aheadS d ++ markS d ++ aheadS d ++ markS d ++ Str.ofString (toString (portI v)) ++ markS d ++ behindS d
noncomputable def leadF (i : Nat) : Str := [Str.ofString "229 ok (", Str.ofString "229 1) (", Str.ofString "229("].getD i Str.empty
noncomputable def markF (i : Nat) : Str := [Str.ofString "|", Str.ofString "!", Str.ofString "x", Str.ofString "~"].getD i Str.empty
noncomputable def aheadF (i : Nat) : Str := [Str.ofString "", Str.ofString "7", Str.ofString "42"].getD i Str.empty
noncomputable def behindF (i : Nat) : Str := [Str.ofString ")", Str.ofString ").", Str.ofString ") (|||9|)"].getD i Str.empty
noncomputable def portF (a b : Nat) : Str := ([[Str.ofString "13", Str.ofString "14"], [Str.ofString "23", Str.ofString "24"]].getD a []).getD b Str.empty
noncomputable def toldF (l m a e p q : Nat) : Str := leadF l ++ markF m ++ aheadF a ++ markF m ++ aheadF a ++ markF m ++ portF p q ++ markF m ++ behindF e
noncomputable abbrev strL (l : List Nat) : Str := ⟨l.toArray⟩
noncomputable def leadL (i : Nat) : List Nat := [[50, 50, 57, 32, 111, 107, 32, 40], [50, 50, 57, 32, 49, 41, 32, 40], [50, 50, 57, 40]].getD i []
noncomputable def markN (i : Nat) : Nat := [124, 33, 120, 126].getD i 0
noncomputable def markL (i : Nat) : List Nat := [markN i]
noncomputable def aheadL (i : Nat) : List Nat := [[], [55], [52, 50]].getD i []
noncomputable def behindL (i : Nat) : List Nat := [[41], [41, 46], [41, 32, 40, 124, 124, 124, 57, 124, 41]].getD i []
noncomputable def portL (p q : Nat) : List Nat := [49 + p, 51 + q]
theorem lead_L : ∀ l : Fin 3, leadF l.val = strL (leadL l.val) := by decide +kernel
theorem mark_L : ∀ l : Fin 4, markF l.val = strL (markL l.val) := by decide +kernel
theorem ahead_L : ∀ l : Fin 3, aheadF l.val = strL (aheadL l.val) := by decide +kernel
theorem behind_L : ∀ l : Fin 3, behindF l.val = strL (behindL l.val) := by decide +kernel
theorem port_L : ∀ p q : Fin 2, portF p.val q.val = strL (portL p.val q.val) := by decide +kernel
theorem s229 : Str.ofString "229" = strL [50, 50, 57] := by decide +kernel
theorem s40 : Str.ofString "(" = strL [40] := by decide +kernel
theorem s41 : Str.ofString ")" = strL [41] := by decide +kernel
theorem strL_app (a b : List Nat) : strL a ++ strL b = strL (a ++ b) := by
  show (⟨a.toArray ++ b.toArray⟩ : Str) = ⟨(a ++ b).toArray⟩
  rw [List.append_toArray]
noncomputable def toldL (l m a e p q : Nat) : List Nat := leadL l ++ markL m ++ aheadL a ++ markL m ++ aheadL a ++ markL m ++ portL p q ++ markL m ++ behindL e
theorem told_L (l : Fin 3) (m : Fin 4) (a e : Fin 3) (p q : Fin 2) : toldF l.val m.val a.val e.val p.val q.val = strL (toldL l.val m.val a.val e.val p.val q.val) := by
  unfold toldF toldL
  rw [lead_L, mark_L, ahead_L, behind_L, port_L]
  simp only [strL_app]
noncomputable def qPn (l : Nat) : Nat := [7, 7, 3].getD l 0
noncomputable def rPn (l a : Nat) : Nat := [13, 13, 9].getD l 0 + [0, 2, 4].getD a 0
noncomputable def innerL (m a p q : Nat) : List Nat := markL m ++ (aheadL a ++ (markL m ++ (aheadL a ++ (markL m ++ (portL p q ++ markL m)))))
noncomputable def good229c (x : Str) (q r : Int) (mk sp : Str) : Bool :=
  decide (x.length ≤ 100) && ((Txt.slice x none (some 3) != strL [50, 50, 57]) == false) && decide (Txt.find x (strL [40]) = q) && decide (0 ≤ q) && decide (q + 1 < (x.length : Int)) &&
    decide (Txt.find3 x (strL [41]) (q + 1) = r) && decide (0 < r) && decide (r - 1 < (x.length : Int)) &&
    ((Txt.item x (q + 1) != Txt.item x (r - 1)) == false) && (decide (Txt.slice x (some (q + 1)) (some r) = sp) && decide (Txt.item x (q + 1) = mk))
theorem good229_of {x : Str} {n : Int} {q r : Int} {mk sp a b c d e : Str} (h : good229c x q r mk sp = true) (hs : Txt.split sp mk = [a, b, c, d, e]) (hn : PySem.intText? d = some n) (hd : d.length ≤ 640) : Good229 x n := by
  unfold good229c at h
  rw [← s229, ← s40, ← s41] at h
  simp only [Bool.and_eq_true, decide_eq_true_eq, beq_iff_eq] at h
  obtain ⟨⟨⟨⟨⟨⟨⟨⟨⟨z0, z1⟩, rfl⟩, z2⟩, z3⟩, rfl⟩, z4⟩, z5⟩, z6⟩, z8, z9⟩ := h
  have z7 := hs
  rw [← z8, ← z9] at z7
  refine ⟨z0, z1, z2, z3, z4, z5, z6, by rw [z7]; rfl, by rw [z7]; exact hn, by rw [z7]; exact hd⟩
/-- a sign's first place from i on -/
noncomputable def firstL (c : Nat) : List Nat → Nat → Option Nat
  | [], _ => none
  | a :: l, i => if Nat.beq a c then some i else firstL c l (i + 1)
theorem firstL_spec {c : Nat} : ∀ {l : List Nat} {i k : Nat}, firstL c l i = some k → i ≤ k ∧ l[k - i]? = some c ∧ ∀ v, v < k - i → l[v]? ≠ some c
  | a :: l, i, k, h => by
    rw [firstL] at h
    by_cases e : Nat.beq a c = true
    · rw [if_pos e] at h
      obtain rfl := Option.some.inj h
      rw [Nat.sub_self]
      exact ⟨Nat.le_refl _, by rw [Nat.eq_of_beq_eq_true e]; rfl, fun v hv => by omega⟩
    · rw [if_neg e] at h
      obtain ⟨h1, h2, h3⟩ := firstL_spec h
      obtain ⟨j, rfl⟩ : ∃ j, k = i + 1 + j := ⟨k - (i + 1), by omega⟩
      rw [show i + 1 + j - (i + 1) = j by omega] at h2 h3
      rw [show i + 1 + j - i = j + 1 by omega]
      refine ⟨by omega, by simpa using h2, fun v hv => ?_⟩
      cases v with
      | zero => intro q; exact e (by have q' : a = c := by simpa using q
                                     rw [q']; exact Nat.beq_refl c)
      | succ v => have := h3 v (by omega); simpa using this
theorem getL {l : List Nat} {c v : Nat} (h : l[v]? = some c) : (strL l).cps.getD v 0 = c := StrLaws.getD_of_getElem? (x := strL l) h
theorem find3_L {l : List Nat} {c i k : Nat} (h : firstL c (l.drop i) i = some k) : Txt.find3 (strL l) (strL [c]) (i : Int) = (k : Int) := by
  obtain ⟨h1, h2, h3⟩ := firstL_spec h
  rw [List.getElem?_drop, show i + (k - i) = k by omega] at h2
  have hk : k < l.length := (List.getElem?_eq_some_iff.mp h2).1
  have hf : PySem.fromIndex (strL l).length (i : Int) = i := by
    unfold PySem.fromIndex
    omega
  have hlen : (strL l).length = l.length := rfl
  rcases StrLaws.find3_spec (strL l) c (i : Int) with ⟨_, hn⟩ | ⟨j, e, j1, j2, j3, j4⟩
  · rw [hf] at hn
    exact absurd (getL h2) (hn k (by omega) (by omega))
  · rw [hf] at j1 j4
    have hj : l[j]? = some c := StrLaws.getElem?_of_getD (x := strL l) j2 j3
    have : ¬ j < k := fun q => h3 (j - i) (by omega) (by rw [List.getElem?_drop, show i + (j - i) = j by omega]; exact hj)
    have : ¬ k < j := fun q => j4 k (by omega) q (getL h2)
    rw [e, show j = k by omega]
theorem find_L {l : List Nat} {c k : Nat} (h : firstL c l 0 = some k) : Txt.find (strL l) (strL [c]) = (k : Int) := find3_L (i := 0) h
theorem slice_L {l : List Nat} {i j : Nat} (h1 : i ≤ j) (h2 : j ≤ l.length) : Txt.slice (strL l) (some (i : Int)) (some (j : Int)) = strL ((l.drop i).take (j - i)) := by
  have := beq_iff_eq.mp (slice_closes (x := strL l) (i := (i : Int)) (j := (j : Int)) (by show 0 ≤ (i : Int) ∧ (i : Int) ≤ (j : Int) ∧ (j : Int) ≤ (l.length : Int); omega))
  rw [this, show ((j : Int) - (i : Int)).toNat = j - i by omega]
  rfl
theorem slice3_L {l : List Nat} (h2 : 3 ≤ l.length) : Txt.slice (strL l) none (some 3) = strL (l.take 3) := by
  have := beq_iff_eq.mp (slice_closes_to (x := strL l) (j := 3) (by show 0 ≤ (3 : Int) ∧ (3 : Int) ≤ (l.length : Int); omega))
  rw [this]
  rfl
theorem item_L {l : List Nat} {i c : Nat} (h : l[i]? = some c) : Txt.item (strL l) (i : Int) = strL [c] := item_meets (x := strL l) (by omega) (by simpa using h)
noncomputable def goodL (l : List Nat) (q r : Nat) (mk : Nat) (sp : List Nat) : Bool :=
  Nat.ble l.length 100 && (l.take 3 == [50, 50, 57]) && (firstL 40 l 0 == some q) && (firstL 41 (l.drop (q + 1)) (q + 1) == some (r + 1)) && Nat.ble (q + 1) r && Nat.ble (r + 1) l.length && (l[q + 1]? == some mk) && (l[r]? == some mk) && ((l.drop (q + 1)).take (r - q) == sp)
theorem good229_L {l : List Nat} {q r mk : Nat} {sp : List Nat} (h : goodL l q r mk sp = true) : good229c (strL l) (q : Int) ((r + 1 : Nat) : Int) (strL [mk]) (strL sp) = true := by
  unfold goodL at h
  simp only [Bool.and_eq_true, beq_iff_eq, Nat.ble_eq] at h
  obtain ⟨⟨⟨⟨⟨⟨⟨⟨h1, h2⟩, h3⟩, h4⟩, h5⟩, h6⟩, h7⟩, h8⟩, h9⟩ := h
  have hl : (strL l).length = l.length := rfl
  have h3' : 3 ≤ l.length := by
    have := congrArg List.length h2
    rw [List.length_take] at this
    simp at this
    omega
  unfold good229c
  rw [slice3_L h3', h2, find_L h3, hl, show (q : Int) + 1 = ((q + 1 : Nat) : Int) by omega, find3_L h4, item_L h7, show ((r + 1 : Nat) : Int) - 1 = ((r : Nat) : Int) by omega, item_L h8,
    slice_L (by omega) (by omega), show r + 1 - (q + 1) = r - q by omega, h9]
  simp
  omega
theorem told_chk : ∀ l : Fin 3, ∀ m : Fin 4, ∀ a e : Fin 3, ∀ p q : Fin 2, goodL (toldL l.val m.val a.val e.val p.val q.val) (qPn l.val) (rPn l.val a.val) (markN m.val) (innerL m.val a.val p.val q.val) = true := by decide +kernel
theorem split_fin : ∀ m : Fin 4, ∀ a : Fin 3, ∀ p q : Fin 2, Txt.split (strL (innerL m.val a.val p.val q.val)) (strL (markL m.val)) = [Str.empty, strL (aheadL a.val), strL (aheadL a.val), strL (portL p.val q.val), Str.empty] := by decide +kernel
theorem port_int : ∀ p q : Fin 2, PySem.intText? (strL (portL p.val q.val)) = some (13 + 10 * (p.val : Int) + (q.val : Int)) ∧ (strL (portL p.val q.val)).length ≤ 640 := by decide +kernel
theorem mark_F (d : Int) : ∃ m : Fin 4, markS d = markF m.val := by
  unfold markS
  rcases (by have := fmod_rng4 (d.fdiv 3); omega : (d.fdiv 3).fmod 4 = 0 ∨ (d.fdiv 3).fmod 4 = 1 ∨ (d.fdiv 3).fmod 4 = 2 ∨ (d.fdiv 3).fmod 4 = 3) with e | e | e | e <;> rw [e]
  · exact ⟨0, by decide +kernel⟩
  · exact ⟨1, by decide +kernel⟩
  · exact ⟨2, by decide +kernel⟩
  · exact ⟨3, by decide +kernel⟩
theorem port_F : ∀ p q : Fin 2, Str.ofString (toString (13 + 10 * (p.val : Int) + (q.val : Int))) = portF p.val q.val := by decide +kernel
theorem told_good (v d : Int) : Good229 (toldX v d) (portI v) := by
  obtain ⟨p, hp⟩ := bit_fin v 3
  obtain ⟨q, hq⟩ := bit_fin v 4
  obtain ⟨l, hl⟩ := mod_fin3 d
  obtain ⟨m, hm⟩ := mark_F d
  obtain ⟨a, ha⟩ := mod_fin3 (d.fdiv 12)
  obtain ⟨e, he⟩ := mod_fin3 (d.fdiv 36)
  have e1 : portI v = 13 + 10 * bitI v 3 + bitI v 4 := rfl
  have e2 : toldX v d = leadF (d.fmod 3).toNat ++ markS d ++ aheadF ((d.fdiv 12).fmod 3).toNat ++ markS d ++ aheadF ((d.fdiv 12).fmod 3).toNat ++ markS d ++ Str.ofString (toString (13 + 10 * bitI v 3 + bitI v 4)) ++ markS d ++ behindF ((d.fdiv 36).fmod 3).toNat := rfl
  rw [e1, e2, hp, hq, hl, hm, ha, he, port_F p q]
  have z := told_L l m a e p q
  unfold toldF at z
  rw [z]
  exact good229_of (good229_L (told_chk l m a e p q)) (split_fin m a p q) (port_int p q).1 (port_int p q).2
end Mine
namespace Mine
noncomputable abbrev wordS (v : Int) : Str := nameS v ++ Str.ofString (toString (portI v))
theorem bne_abs {x : Str} {P : Prop} (h : (x != x) = true) : P := by simp at h
theorem port_rng (v : Int) : 0 ≤ portI v ∧ portI v ≤ 100 := by
  have a := bitI_rng v 3
  have b := bitI_rng v 4
  show 0 ≤ 13 + 10 * bitI v 3 + bitI v 4 ∧ 13 + 10 * bitI v 3 + bitI v 4 ≤ 100
  omega
end Mine
namespace Mine
theorem loc_canon {d : Int} {W : Addr} {m : Str → Option Value} (h : Loc d W m) : ∃ tl tm ta tb te, m = fun y => if y = Str.ofString "lead" then some (.str (leadS d) tl) else if y = Str.ofString "mark" then some (.str (markS d) tm) else
     if y = Str.ofString "ahead" then some (.str (aheadS d) ta) else if y = Str.ofString "behind" then some (.str (behindS d) tb) else if y = Str.ofString "end" then some (.str (endS d) te) else if y = Str.ofString "words" then some (.ref W) else m y := by
  obtain ⟨⟨tl, h1⟩, ⟨tm, h2⟩, ⟨ta, h3⟩, ⟨tb, h4⟩, ⟨te, h5⟩, h6⟩ := h
  refine ⟨tl, tm, ta, tb, te, ?_⟩
  exact (setv h1).trans (congrArg (fun (g : Str → Option Value) => fun y => if y = Str.ofString "lead" then some (.str (leadS d) tl) else g y)
    ((setv h2).trans (congrArg (fun (g : Str → Option Value) => fun y => if y = Str.ofString "mark" then some (.str (markS d) tm) else g y)
    ((setv h3).trans (congrArg (fun (g : Str → Option Value) => fun y => if y = Str.ofString "ahead" then some (.str (aheadS d) ta) else g y)
    ((setv h4).trans (congrArg (fun (g : Str → Option Value) => fun y => if y = Str.ofString "behind" then some (.str (behindS d) tb) else g y)
    ((setv h5).trans (congrArg (fun (g : Str → Option Value) => fun y => if y = Str.ofString "end" then some (.str (endS d) te) else g y)
    (setv h6))))))))))
/-- the words so far -/
noncomputable def WordsInv (vs : List Int) (i : Nat) (ws : List Value) : Prop := ws.length = i ∧ ∀ (j : Nat) (y : Value), ws[j]? = some y → ∃ t, y = Value.str (wordS (vs.getD j 0)) t
theorem words_step {vs : List Int} {i : Nat} {ws : List Value} {t : Tok} (h : WordsInv vs i ws) : WordsInv vs (i + 1) (ws ++ [.str (wordS (vs.getD i 0)) t]) := by
  obtain ⟨hl, hr⟩ := h
  refine ⟨by rw [List.length_append, hl]; rfl, fun j y hj => ?_⟩
  by_cases hlt : j < ws.length
  · rw [List.getElem?_append_left hlt] at hj; exact hr j y hj
  · rw [List.getElem?_append_right (by omega)] at hj
    have hj0 : j - ws.length = 0 := by
      rcases Nat.eq_zero_or_pos (j - ws.length) with h0 | h0
      · exact h0
      · rw [List.getElem?_eq_none (by simp only [List.length_singleton]; omega)] at hj; cases hj
    rw [hj0] at hj
    obtain rfl : Value.str (wordS (vs.getD i 0)) t = y := by simpa using hj
    obtain rfl : j = i := by omega
    exact ⟨t, rfl⟩
theorem words_four {v0 v1 v2 v3 : Int} {ws : List Value} (h : WordsInv [v0, v1, v2, v3] 4 ws) : ∃ t0 t1 t2 t3, ws = [.str (wordS v0) t0, .str (wordS v1) t1, .str (wordS v2) t2, .str (wordS v3) t3] := by
  obtain ⟨hl, hr⟩ := h
  rcases ws with _ | ⟨a, _ | ⟨b, _ | ⟨c, _ | ⟨d, _ | ⟨e, r⟩⟩⟩⟩⟩
  · cases hl
  · cases hl
  · cases hl
  · cases hl
  · obtain ⟨t0, rfl⟩ := hr 0 a rfl
    obtain ⟨t1, rfl⟩ := hr 1 b rfl
    obtain ⟨t2, rfl⟩ := hr 2 c rfl
    obtain ⟨t3, rfl⟩ := hr 3 d rfl
    exact ⟨t0, t1, t2, t3, rfl⟩
  · simp only [List.length_cons] at hl; omega
section
variable {h₀ h : Heap} {L : Addr} {a b : Addr × Obj} {own tail : List (Addr × Obj)}
theorem news_in (N : News h₀ L h (own ++ a :: tail)) (hb : b ∈ tail) : News h₀ L h (a :: b :: (own ++ tail)) := fun p hp => by
  rcases List.mem_cons.mp hp with rfl | hp
  · exact N _ (List.mem_append_right _ (.head _))
  rcases List.mem_cons.mp hp with rfl | hp
  · exact N _ (List.mem_append_right _ (.tail _ hb))
  rcases List.mem_append.mp hp with hp | hp
  · exact N _ (List.mem_append_left _ hp)
  · exact N _ (List.mem_append_right _ (.tail _ hp))
theorem news_out (N : News h₀ L h (a :: b :: (own ++ tail))) : News h₀ L h (own ++ a :: tail) := fun p hp => by
  rcases List.mem_append.mp hp with hp | hp
  · exact N _ (.tail _ (.tail _ (List.mem_append_left _ hp)))
  rcases List.mem_cons.mp hp with rfl | hp
  · exact N _ (.head _)
  · exact N _ (.tail _ (.tail _ (List.mem_append_right _ hp)))
end
end Mine
namespace Mine
/-- the element and the scope of the comprehension in statement 22 -/
noncomputable def comp22 : Option (Expr × Scope) :=
  (lawAt 22).bind fun p => match p.1 with
    | .Assign _ (.Call _ [.ListComp elt _ sc _] _ _) _ => some (elt, sc)
    | _ => none
noncomputable def codeN (a b : Int) (i : Nat) : Int := (([2, 2, 9] : List Int).getD i 0 + if (i : Int) = a then b else 0).fmod 10
noncomputable def codeD (a b : Int) (i : Nat) : Str := Str.ofString (toString (codeN a b i))
end Mine
namespace Mine
theorem code_hit {a b : Int} {i : Nat} (h : 0 + (i : Int) = a) : Str.ofString (toString ((([2, 2, 9] : List Int).getD (0 + (i : Int)).toNat 0 + b).fmod 10)) = codeD a b i := by
  unfold codeD codeN
  rw [if_pos (by omega), show (0 + (i : Int)).toNat = i by omega]
theorem code_miss {a b : Int} {i : Nat} (h : 0 + (i : Int) ≠ a) : Str.ofString (toString ((([2, 2, 9] : List Int).getD (0 + (i : Int)).toNat 0 + 0).fmod 10)) = codeD a b i := by
  unfold codeD codeN
  rw [if_neg (by omega), show (0 + (i : Int)).toNat = i by omega]
theorem three_strs {a b : Int} {ys : List Value} (h : ys.length = 3) (hr : ∀ (i : Nat) (y : Value), ys[i]? = some y → ∃ t, y = Value.str (codeD a b i) t) :
    ∃ t0 t1 t2, ys = [.str (codeD a b 0) t0, .str (codeD a b 1) t1, .str (codeD a b 2) t2] := by
  rcases ys with _ | ⟨x, _ | ⟨y, _ | ⟨z, _ | ⟨u, r⟩⟩⟩⟩
  · cases h
  · cases h
  · cases h
  · obtain ⟨t0, rfl⟩ := hr 0 x rfl
    obtain ⟨t1, rfl⟩ := hr 1 y rfl
    obtain ⟨t2, rfl⟩ := hr 2 z rfl
    exact ⟨t0, t1, t2, rfl⟩
  · simp only [List.length_cons] at h; omega
theorem digit_fin : ∀ b : Fin 10, (Str.ofString (toString ((b.val : Nat) : Int))).length = 1 := by decide +kernel
theorem digit_len (x : Int) : (Str.ofString (toString (x.fmod 10))).length = 1 := by
  rw [Int.fmod_eq_emod_of_nonneg x (by decide)]
  have e : x % 10 = (((x % 10).toNat : Nat) : Int) := by omega
  rw [e]
  exact digit_fin ⟨(x % 10).toNat, by omega⟩
theorem code_len (a b : Int) (i : Nat) : (codeD a b i).length = 1 := digit_len _
noncomputable abbrev innerS (d : Int) : Str := Txt.mul (markS d) 3 ++ Str.ofString "2121" ++ markS d
theorem inner_len (d : Int) : (innerS d).length ≤ 10 := by
  obtain ⟨m, hm⟩ := mark_F d
  have key : ∀ m : _root_.Fin 4, (Txt.mul (markF m.val) 3 ++ Str.ofString "2121" ++ markF m.val).length ≤ 10 := by decide +kernel
  unfold innerS
  rw [hm]
  exact key m
noncomputable abbrev pairO (k : String) (t : Tok) (x : Str) (u : Tok) : Obj := { cls := .type "tuple", data := .seq #[.str (Str.ofString k) t, .str x u] }
noncomputable abbrev sx0 (d : Int) (code : Str) : Str := code ++ Txt.slice (leadS d) (some 3) none ++ innerS d ++ Str.ofString ")"
noncomputable abbrev sx1 (d : Int) : Str := Str.ofString "229 " ++ innerS d ++ Str.ofString ")"
noncomputable abbrev sx2 (d : Int) : Str := leadS d ++ innerS d
noncomputable abbrev sx3 (d : Int) : Str := leadS d ++ innerS d ++ Str.ofString "y)"
noncomputable abbrev sx4 (d : Int) : Str := leadS d ++ markS d ++ innerS d ++ Str.ofString ")"
noncomputable abbrev sx5 (d : Int) : Str := leadS d ++ Txt.slice (innerS d) (some 1) none ++ Str.ofString ")"
noncomputable abbrev sx6 (d : Int) : Str := leadS d ++ Str.ofString ")" ++ innerS d ++ Str.ofString ")"
noncomputable abbrev sx7 (d : Int) : Str := leadS d ++ Txt.mul (markS d) 3 ++ Str.ofString "21z1" ++ markS d ++ Str.ofString ")"
noncomputable abbrev spO (T0 T1 T2 T3 T4 T5 T6 T7 : Addr) : Obj := { cls := .type "tuple", data := .seq #[.ref T0, .ref T1, .ref T2, .ref T3, .ref T4, .ref T5, .ref T6, .ref T7] }
end Mine
namespace Mine
/-- a hue that passes law's test -/
structure HueOk (x : UInt64) : Prop where
  lo : (Float64.cmpInt x 0 == some Ordering.lt) = false
  hi : (Float64.cmpInt x 1 == some Ordering.gt || Float64.cmpInt x 1 == some Ordering.eq) = false
theorem hue_lo {c : Prop} [Decidable c] {x y : UInt64} {P : Prop} (hx : HueOk x) (hy : HueOk y) (h : (Float64.cmpInt (if c then y else x) 0 == some Ordering.lt) = true) : P := by
  split at h
  · rw [hy.lo] at h; cases h
  · rw [hx.lo] at h; cases h
theorem hue_hi {c : Prop} [Decidable c] {x y : UInt64} {P : Prop} (hx : HueOk x) (hy : HueOk y) (h : (Float64.cmpInt (if c then y else x) 1 == some Ordering.gt || Float64.cmpInt (if c then y else x) 1 == some Ordering.eq) = true) : P := by
  split at h
  · rw [hy.hi] at h; cases h
  · rw [hx.hi] at h; cases h
end Mine
namespace Mine
/-- the left comprehension of statements 18 and 19 -/
noncomputable def comp18 (k : Nat) : Option (Expr × Scope) :=
  (lawAt k).bind fun p => match p.1 with
    | .If (.Compare (.ListComp elt _ sc _) _ _ _) _ _ _ => some (elt, sc)
    | _ => none
noncomputable def comp18r (k : Nat) : Option (Expr × Scope) :=
  (lawAt k).bind fun p => match p.1 with
    | .If (.Compare _ _ [.ListComp elt _ sc _] _) _ _ _ => some (elt, sc)
    | _ => none
end Mine
namespace Mine
/-- round(1024 * part) is n -/
noncomputable def RoundIs : PV → Int → Prop
  | .i k, n => 1024 * k = n
  | .f x, n => Float64.isNaN (Float64.mul (Float64.ofInt 1024) x) = false ∧ Float64.isInf (Float64.mul (Float64.ofInt 1024) x) = false ∧ Flt.toInt Float64.nearestOf (Float64.mul (Float64.ofInt 1024) x) = n
theorem ff_no {b : Bool} {P : Prop} (h : b = false) (g : b = true) : P := by rw [h] at g; cases g
noncomputable abbrev zF (x : UInt64) : UInt64 := Float64.add x 4602678819172646912
/-- what hsv_to_rgb asks of its first argument -/
structure HsvOk (x : UInt64) : Prop where
  hn : Float64.isNaN (Float64.mul x 4618441417868443648) = false
  hi : Float64.isInf (Float64.mul x 4618441417868443648) = false
  hb : (Flt.toInt Float64.truncOf (Float64.mul x 4618441417868443648)).natAbs < 100
theorem three_ints {a b c : Int} {ys : List Value} (h : ys.length = 3) (hr : ∀ (i : Nat) (y : Value), ys[i]? = some y → ∃ t, y = Value.int ([a, b, c].getD i 0) t) :
    ∃ t0 t1 t2, ys = [.int a t0, .int b t1, .int c t2] := by
  rcases ys with _ | ⟨x, _ | ⟨y, _ | ⟨z, _ | ⟨u, r⟩⟩⟩⟩
  · cases h
  · cases h
  · cases h
  · obtain ⟨t0, rfl⟩ := hr 0 x rfl
    obtain ⟨t1, rfl⟩ := hr 1 y rfl
    obtain ⟨t2, rfl⟩ := hr 2 z rfl
    exact ⟨t0, t1, t2, rfl⟩
  · simp only [List.length_cons] at h; omega
end Mine
namespace Mine
/-- the tuple that is walked stands in the ledger -/
noncomputable def SrcTp (ax : Addr) (its : Array Value) (nw : List (Addr × Obj)) : Prop := ∃ o, (ax, o) ∈ nw ∧ o.cls = .type "tuple" ∧ ∃ n, o.data = .seq its n
section
variable {prog : Program} {w : World} {A : Around} {E : Value → Shared → Prop} {s : Shared} {h₀ : Heap} {L : Addr} {m : Str → Option Value} {env : Env}
theorem SrcTp.tup {ax : Addr} {its : Array Value} {nw : List (Addr × Obj)} {h : Heap} (x : SrcTp ax its nw) (N : News h₀ L h nw) : h.IsTuple ax its := by
  obtain ⟨o, hm, hc, n, hd⟩ := x
  exact ⟨o, (N _ hm).1, hc, n, hd⟩
/-- [elt for x in a tuple of the ledger] -/
theorem comp_tuple {elt iter : Expr} {x : Str} {px : Pos} {scope : Scope} {cl : List (Str × Addr)} {pos : Pos} {Q : Value → Shared → Prop}
    (F₀ : Fr h₀ L s.heap m) (hclos : closureFor scope env = pure cl) (hcell : ∀ y ∈ scope.names, y.2 ≠ .cell) (hkind : scope.kind = .function)
    (hnames : ∀ y ∈ scope.names, y.2 = .local → scope.names.lookup y.1 = some .local) (hx : scope.names.lookup x = some .local) (hh : A.handled = none)
    (h : wpAny (model prog w) A (eval iter env) (fun xv s₁ => ∃ ax its news, xv = .ref ax ∧ Fr h₀ L s₁.heap m ∧ News h₀ L s₁.heap news ∧ SrcTp ax its news ∧ its.size ≤ sizeLine ∧
      ∀ g, LCg.CompRest prog w A h₀ L m env elt x scope cl { s₁ with heap := g } (SrcTp ax its) (fun i v => its[i]? = some v) (LCg.FinE h₀ L m { s₁ with heap := g } Q) its.size 0 [] news) E s)
    (hs : ∀ x, foldedSetIterable iter env x = pure x := by intro _; rfl) :
    wpAny (model prog w) A (eval (.ListComp elt [⟨.Name x px, iter, [], 0⟩] scope pos) env) Q E s := by
  rw [eval_ListComp]
  refine wpAny_comprehension_free (use := none) rfl hs hclos hkind hnames (wpAny_mono h (fun xv s₁ h₁ => ?_) fun _ _ e => e)
  obtain ⟨ax, its, news, rfl, F, N, S, hsz, R⟩ := h₁
  have ht := S.tup N
  have hlt : ax < s₁.heap.objs.size := by obtain ⟨_, e, _⟩ := ht; exact Heap.lt_size e
  refine wpAny_pyIter_tuple ht ?_
  have up : ∀ b o, s₁.heap.get? b = some o → (s₁.heap.push { cls := .type "tuple_iterator", data := .fields #[.ref ax, .int 0 0] }).get? b = some o := fun b o e => Heap.get?_push_of_some _ e
  refine LCg.block_U (St := fun i h => h.IsTupleIter s₁.heap.objs.size ax i ∧ h.IsTuple ax its) (Walks.tuple hh s₁.heap.objs.size ax (Nat.ne_of_lt hlt) its) hsz (fun i h st => by obtain ⟨o, e, _⟩ := st.1; exact ⟨o, e⟩)
    (fun i h h' o nw st e e' _ N' S' => ⟨st.1.at fun o₁ e₁ => by rw [e] at e₁; cases e₁; exact e', S'.tup N'⟩) hcell hkind hx ⟨⟨_, Heap.get?_push_size _ rfl, rfl, rfl⟩, ?_⟩ (fun b hb => ?_)
    (F.keeps up) (N.grown up) (Nat.ne_of_lt F.ns.lt) (next_is_new F) (fun p hp => Nat.ne_of_lt (Heap.lt_size (N p hp).1)) S (R _) ?_
  · obtain ⟨o, e, r⟩ := ht
    exact ⟨o, up _ _ e, r⟩
  · show b < (s₁.heap.push _).objs.size
    rw [Heap.size_push]
    rcases List.mem_cons.mp hb with rfl | hb
    · exact Nat.lt_succ_self _
    · rw [List.mem_singleton.mp hb]; exact Nat.lt_succ_of_lt hlt
  · intro D C h tk m' ys news' F' N' o1 hn hC₀ hD₀ hCL hDL hCD offC fin
    refine ⟨m', hn, fun h'' hs'' => fin D h'' tk (F'.change hs'' hCL hC₀) (fun p hp => ?_) o1⟩
    refine ⟨hs''.extBut _ _ ?_ (N' p hp).1, (N' p hp).2⟩
    rcases List.mem_cons.mp hp with rfl | hp
    · exact Ne.symm hCD
    · exact offC p hp
end
end Mine
namespace Mine
section
variable {prog : Program} {w : World} {A : Around} {E : Value → Shared → Prop} {s : Shared} {h₀ : Heap} {L : Addr} {m : Str → Option Value} {env : Env}
/-- the turns of a comprehension with a test, each known by one lemma -/
theorem rest_test {ct elt : Expr} {x : Str} {scope : Scope} {cl : List (Str × Addr)} {S : List (Addr × Obj) → Prop} {P : Nat → Value → Prop} {Inv : Nat → List Value → Prop} {Fin : List Value → List (Addr × Obj) → Prop} {N : Nat} {news : List (Addr × Obj)} (hS : S news) (h0 : Inv 0 [])
    (turn : ∀ i, i < N → ∀ ys, Inv i ys → ∀ v I oI C oC D m₂ h tk (Qy : Value → Shared → Prop) (Qn : Shared → Prop) (E' : Value → Shared → Prop), P i v → LCg.NsObj oC m₂ → m₂ x = some v → Fr h₀ L h m → News h₀ L h ((I, oI) :: (C, oC) :: (D, LCg.lst ys) :: news) →
      LCg.Off3 I C D news → ((@Ne Nat I C) ∧ (@Ne Nat I D) ∧ (@Ne Nat C D)) →
      (∀ y h' tk', Inv (i + 1) (ys ++ [y]) → Fr h₀ L h' m → News h₀ L h' ((I, oI) :: (C, oC) :: (D, LCg.lst ys) :: news) → Qy y { s with heap := h', toks := tk' }) →
      (∀ h' tk', Inv (i + 1) ys → Fr h₀ L h' m → News h₀ L h' ((I, oI) :: (C, oC) :: (D, LCg.lst ys) :: news) → Qn { s with heap := h', toks := tk' }) →
      wpAny (model prog w) A (isTrue ct (compEnvC scope cl C env) (eval ct (compEnvC scope cl C env))) (fun ok s' => if ok = true then wpAny (model prog w) A (eval elt (compEnvC scope cl C env)) Qy E' s' else Qn s') E' { s with heap := h, toks := tk })
    (fin : ∀ ys : List Value, Inv N ys → Fin ys news) :
    LCt.CompRestT prog w A h₀ L m env ct elt x scope cl s S P Fin N 0 [] news := by
  have key : ∀ (n i : Nat) (ys : List Value), i + n = N → Inv i ys → LCt.CompRestT prog w A h₀ L m env ct elt x scope cl s S P Fin n i ys news := by
    intro n
    induction n with
    | zero => intro i ys hi hv; obtain rfl : i = N := by omega
              exact fin ys hv
    | succ n ih =>
      intro i ys hi hv v I oI C oC D m₂ h tk E' hP hC hx F N' off ne
      refine turn i (by omega) ys hv v I oI C oC D m₂ h tk _ _ E' hP hC hx F N' off ne (fun y h' tk' hy F' N'' => ?_) (fun h' tk' hy F' N'' => ?_)
      · exact ⟨h', tk', news, rfl, F', N'', off, hS, ih (i + 1) (ys ++ [y]) (by omega) hy⟩
      · exact ⟨h', tk', news, rfl, F', N'', off, hS, ih (i + 1) ys (by omega) hy⟩
  exact key N 0 [] (by omega) h0
end
noncomputable def price (k : Nat) : Int := ([1, 1, 2, 2, 2] : List Int).getD k 0
/-- what the first k signs of two rows cost -/
noncomputable def dueTo (a b : Int) : Nat → Int
  | 0 => 0
  | k + 1 => dueTo a b k + if bitI a k = bitI b k then 0 else price k
noncomputable abbrev dueI (a b : Int) : Int := dueTo a b 5
noncomputable def DueInv (a b : Int) (i : Nat) (ys : List Value) : Prop := ∃ ns, IntsAre ys ns ∧ ns.sum = dueTo a b i
theorem ints_snoc {ys : List Value} {ns : List Int} {n : Int} {t : Tok} (h : IntsAre ys ns) : IntsAre (ys ++ [.int n t]) (ns ++ [n]) := by
  induction h with
  | nil => exact .cons n t .nil
  | cons k u _ ih => exact .cons k u ih
theorem due_yes {a b : Int} {i : Nat} {ys : List Value} {t : Tok} (h : DueInv a b i ys) (e : bitI a i ≠ bitI b i) : DueInv a b (i + 1) (ys ++ [.int (price i) t]) := by
  obtain ⟨ns, hi, hs⟩ := h
  refine ⟨_, ints_snoc hi, ?_⟩
  rw [List.sum_append, hs]
  show dueTo a b i + [price i].sum = dueTo a b i + _
  rw [if_neg e]
  simp
theorem due_no {a b : Int} {i : Nat} {ys : List Value} (h : DueInv a b i ys) (e : bitI a i = bitI b i) : DueInv a b (i + 1) ys := by
  obtain ⟨ns, hi, hs⟩ := h
  refine ⟨_, hi, ?_⟩
  rw [hs]
  show _ = dueTo a b i + _
  rw [if_pos e, Int.add_zero]
theorem bits_at (v : Int) {i : Nat} (hi : i < 5) : [bitI v 0, bitI v 1, bitI v 2, bitI v 3, bitI v 4].getD (0 + (i : Int)).toNat 0 = bitI v i := by
  rw [show (0 + (i : Int)).toNat = i by omega]
  rcases (by omega : i = 0 ∨ i = 1 ∨ i = 2 ∨ i = 3 ∨ i = 4) with rfl | rfl | rfl | rfl | rfl <;> rfl
theorem price_at (i : Nat) : ([1, 1, 2, 2, 2] : List Int).getD (0 + (i : Int)).toNat 0 = price i := by
  rw [show (0 + (i : Int)).toNat = i by omega]
  rfl
/-- statement 12's comprehension: its test, its element, its scope -/
noncomputable def comp12 : Option (Expr × Expr × Scope) :=
  (lawAt 12).bind fun p => match p.1 with
    | .For _ _ (.Assign _ (.Call _ [.ListComp elt [⟨_, _, [ct], _⟩] sc _] _ _) _ :: _) _ _ => some (ct, elt, sc)
    | _ => none
end Mine
namespace Mine
/-- what law's frame keeps for its end -/
structure Keep (d : Int) (m : Str → Option Value) : Prop where
  lead : ∃ t, m (Str.ofString "lead") = some (.str (leadS d) t)
  mark : ∃ t, m (Str.ofString "mark") = some (.str (markS d) t)
/-- what law's frame holds while the ways are told -/
structure Loc12 (W Y : Addr) (sl dl : Int) (m : Str → Option Value) : Prop where
  keep : Keep dl m
  words : m (Str.ofString "words") = some (.ref W)
  slack : ∃ t, m (Str.ofString "slack") = some (.int sl t)
  ways : m (Str.ofString "ways") = some (.ref Y)
end Mine
namespace Mine
section
variable {prog : Program} {w : World} {A : Around} {E : Value → Shared → Prop} {s : Shared} {h₀ : Heap} {L l : Addr} {m : Str → Option Value} {news : List (Addr × Obj)} {vs : List Value}
theorem sum_lst {ns : List Int} {d : Int} {Q : Value → Shared → Prop} (F : Fr h₀ L s.heap m) (N : News h₀ L s.heap news) (hh : A.handled = none)
    (hm : (l, LCg.lst vs) ∈ news) (hi' : IntsAre vs ns) (hd : ns.sum = d)
    (h : ∀ h' tk t', Fr h₀ L h' m → News h₀ L h' news → Q (.int d t') { s with heap := h', toks := tk }) : wpAny (model prog w) A (call (.builtin "sum") [.ref l]) Q E s := by
  subst hd
  exact LSm.sum_ints F N hh ⟨_, (N _ hm).1, rfl, _, rfl⟩ hi' fun h' tk t' F' N' => h h' tk t' F' N'
end
end Mine
namespace Mine
section
variable {prog : Program} {w : World} {A : Around} {E : Value → Shared → Prop} {s : Shared} {h₀ : Heap} {L c : Addr} {m : Str → Option Value} {news : List (Addr × Obj)} {env : Env}
/-- a cell of the ledger is set; the rest stands -/
theorem store_cell {n : Str} {v : Value} {v₀ : Option Value} {o : Obj} {post : List (Addr × Obj)} {Q : Unit → Shared → Prop} (F : Fr h₀ L s.heap m) (N : News h₀ L s.heap ((c, o) :: post)) (hW : ∀ p ∈ post, @Ne Nat p.1 c) (ho : o.data = .cell v₀)
    (hk : env.scope.kind = .function) (hl : env.kindOf n = some .cell) (hc : env.cells.lookup n = some c)
    (h : ∀ h' o', o'.data = .cell (some v) → Fr h₀ L h' m → News h₀ L h' ((c, o') :: post) → Q () { s with heap := h' }) :
    wpAny (model prog w) A (storeName env n v) Q E s := by
  have z := N _ (.head _)
  refine wpAny_storeName_cell hk hl hc ⟨o, z.1, ho⟩ fun h' hc' hs' => ?_
  obtain ⟨o', e', d'⟩ := hc'
  refine h h' o' d' (F.change hs' z.2.1 z.2.2) fun p hp => ?_
  rcases List.mem_cons.mp hp with rfl | hp
  · exact ⟨e', z.2⟩
  · have y := N p (.tail _ hp)
    exact ⟨hs'.extBut _ _ (hW p hp) y.1, y.2⟩
theorem news_sub {h : Heap} {A B : List (Addr × Obj)} (N : News h₀ L h B) (hs : ∀ p ∈ A, p ∈ B) : News h₀ L h A := fun p hp => N p (hs p hp)
theorem sub_cons {a : Addr × Obj} {A B : List (Addr × Obj)} (h : a ∈ B) (hs : ∀ p ∈ A, p ∈ B) : ∀ p ∈ a :: A, p ∈ B := fun p hp => by
  rcases List.mem_cons.mp hp with rfl | hp
  · exact h
  · exact hs p hp
theorem sub_app {A A' B : List (Addr × Obj)} (h : ∀ p ∈ A, p ∈ B) (hs : ∀ p ∈ A', p ∈ B) : ∀ p ∈ A ++ A', p ∈ B := fun p hp => (List.mem_append.mp hp).elim (h p) (hs p)
end
theorem loc12_canon {W Y : Addr} {sl dl : Int} {m : Str → Option Value} (h : Loc12 W Y sl dl m) : ∃ t, m = fun y => if y = Str.ofString "words" then some (.ref W) else if y = Str.ofString "slack" then some (.int sl t) else if y = Str.ofString "ways" then some (.ref Y) else m y := by
  obtain ⟨_, h1, ⟨t, h2⟩, h3⟩ := h
  exact ⟨t, (setv h1).trans (congrArg (fun (g : Str → Option Value) => fun y => if y = Str.ofString "words" then some (.ref W) else g y)
    ((setv h2).trans (congrArg (fun (g : Str → Option Value) => fun y => if y = Str.ofString "slack" then some (.int sl t) else g y) (setv h3))))⟩
end Mine
namespace Mine
theorem allLt_mem {d : Addr} : ∀ {l : List (Addr × Obj)}, AllLt d l → ∀ p ∈ l, @LT.lt Nat _ p.1 d
  | [], _, _, h => nomatch h
  | _ :: _, x, p, h => by
    rcases List.mem_cons.mp h with rfl | h
    · exact x.1
    · exact allLt_mem x.2 p h
end Mine
namespace Mine
noncomputable def nthL {α : Type} : List α → Nat → List α
  | [], _ => []
  | a :: _, 0 => [a]
  | _ :: l, n + 1 => nthL l n
/-- the entries at the places that are told -/
noncomputable def pickL {α : Type} (B : List α) : List Nat → List α
  | [] => []
  | i :: is => nthL B i ++ pickL B is
theorem mem_nthL {α : Type} {x : α} : ∀ {l : List α} {n : Nat}, x ∈ nthL l n → x ∈ l
  | _ :: _, 0, h => (List.mem_singleton.mp h) ▸ .head _
  | _ :: _, _ + 1, h => .tail _ (mem_nthL h)
theorem mem_pickL {α : Type} {x : α} {B : List α} : ∀ {is : List Nat}, x ∈ pickL B is → x ∈ B
  | _ :: _, h => (List.mem_append.mp h).elim mem_nthL mem_pickL
section
variable {h₀ h : Heap} {L : Addr} {A B : List (Addr × Obj)} {a : Addr × Obj} {P : Addr × Obj → Prop}
theorem news_pick (N : News h₀ L h B) (is : List Nat) : News h₀ L h (pickL B is) := fun p hp => N p (mem_pickL hp)
theorem news_app (NA : News h₀ L h A) (NB : News h₀ L h B) : News h₀ L h (A ++ B) := fun p hp => (List.mem_append.mp hp).elim (NA p) (NB p)
theorem news_l (N : News h₀ L h (A ++ B)) : News h₀ L h A := fun p hp => N p (List.mem_append_left _ hp)
theorem news_r (N : News h₀ L h (A ++ B)) : News h₀ L h B := fun p hp => N p (List.mem_append_right _ hp)
theorem news_tl (N : News h₀ L h (a :: B)) : News h₀ L h B := fun p hp => N p (.tail _ hp)
theorem news_drop (N : News h₀ L h B) (k : Nat) : News h₀ L h (B.drop k) := fun p hp => N p (List.mem_of_mem_drop hp)
theorem all_pick (H : ∀ p ∈ B, P p) (is : List Nat) : ∀ p ∈ pickL B is, P p := fun p hp => H p (mem_pickL hp)
theorem all_drop (H : ∀ p ∈ B, P p) (k : Nat) : ∀ p ∈ B.drop k, P p := fun p hp => H p (List.mem_of_mem_drop hp)
theorem all_app (HA : ∀ p ∈ A, P p) (HB : ∀ p ∈ B, P p) : ∀ p ∈ A ++ B, P p := fun p hp => (List.mem_append.mp hp).elim (HA p) (HB p)
theorem all_cons (h1 : P a) (H : ∀ p ∈ B, P p) : ∀ p ∈ a :: B, P p := fun p hp => by
  rcases List.mem_cons.mp hp with rfl | hp
  · exact h1
  · exact H p hp
end
end Mine
namespace Mine
section
variable {prog : Program} {w : World} {A : Around} {E : Value → Shared → Prop} {s : Shared} {h₀ : Heap} {L : Addr} {m : Str → Option Value} {env : Env}
/-- where the comprehension's loop stands -/
inductive CellStT (h₀ : Heap) (L : Addr) (m : Str → Option Value) (I C c D : Addr) (oC : Obj) (n : Nat) (s₁ : Shared) (news : List (Addr × Obj)) (Inv : Nat → List Value → Prop) (k : Nat) (s' : Shared) : Prop
  | mk (h' : Heap) (tk i : Nat) (ys : List Value) (oc : Obj) (v₀ : Option Value) (e : s' = { s₁ with heap := h', toks := tk }) (hi : i ≤ n) (hk : k = n + 1 - i) (hl : ys.length ≤ i)
    (hr : IsRangeIter h' I (0 + (i : Int) * 1) ((n : Int) - (i : Int)) 1) (F : Fr h₀ L h' m) (ho : oc.data = .cell v₀) (N : News h₀ L h' ((C, oC) :: (c, oc) :: (D, LCg.lst ys) :: news)) (hI : Inv i ys)
/-- y = [elt for x in range(n) if ct], where x is a cell of the comprehension's own scope; the turns leave the ledger as it was -/
theorem comp_cellT {ct elt iter : Expr} {x : Str} {px : Pos} {scope : Scope} {cl : List (Str × Addr)} {pos spos py : Pos} {y : Str} {Q : Flow → Shared → Prop} {n : Nat} {Inv : Nat → List Value → Prop}
    (hLe : env.locals = L) (hsw : swapsWith (.ListComp elt [⟨.Name x px, iter, [ct], 0⟩] scope pos) (some (.Name y py)) spos.line env = pure true) (hy : env.kindOf y = some .local) (hp : (env.scope.kind == .class || (env.scope.kind == .module && env.locals != env.globals)) = false)
    (hclos : closureFor scope env = pure cl) (hkind : scope.kind = .function) (hnames : ∀ y ∈ scope.names, y.2 = .local → scope.names.lookup y.1 = some .local)
    (hcf : ∀ k, cellsFrom k scope.names cl = (x, k) :: cl) (hpc : ∀ h, pushCells h scope.names = h.push { cls := .type "cell", data := .cell none })
    (hxk : ∀ c C, (compEnvC scope ((x, c) :: cl) C env).kindOf x = some .cell) (hh : A.handled = none) (hsz : n ≤ sizeLine)
    (h : wpAny (model prog w) A (eval iter env) (fun xv s₁ => ∃ r t u v news, xv = .ref r ∧ Fr h₀ L s₁.heap m ∧ News h₀ L s₁.heap news ∧ IsRange s₁.heap r 0 n 1 t u v ∧ Builtin.Range.small 0 n 1 = true ∧
      Builtin.Range.rangeSize 0 n 1 = ((n : Nat) : Int) ∧ Inv 0 [] ∧
      (∀ i ys I oI C oC c oc D h tk v (Qy : Value → Shared → Prop) (Qn : Shared → Prop) (E' : Value → Shared → Prop), i < n → Inv i ys → (∃ t, v = .int (i : Int) t) → oc.data = .cell (some v) → Fr h₀ L h m →
        News h₀ L h ((I, oI) :: (C, oC) :: (c, oc) :: (D, LCg.lst ys) :: news) → (∀ p ∈ news, @Ne Nat p.1 I ∧ @Ne Nat p.1 C ∧ @Ne Nat p.1 c ∧ @Ne Nat p.1 D) → (@Ne Nat I C ∧ @Ne Nat I c ∧ @Ne Nat I D ∧ @Ne Nat C c ∧ @Ne Nat C D ∧ @Ne Nat c D) →
        (∀ y h' tk', Inv (i + 1) (ys ++ [y]) → Fr h₀ L h' m → News h₀ L h' ((I, oI) :: (C, oC) :: (c, oc) :: (D, LCg.lst ys) :: news) → Qy y { s₁ with heap := h', toks := tk' }) →
        (∀ h' tk', Inv (i + 1) ys → Fr h₀ L h' m → News h₀ L h' ((I, oI) :: (C, oC) :: (c, oc) :: (D, LCg.lst ys) :: news) → Qn { s₁ with heap := h', toks := tk' }) →
        wpAny (model prog w) A (isTrue ct (compEnvC scope ((x, c) :: cl) C env) (eval ct (compEnvC scope ((x, c) :: cl) C env))) (fun ok s' => if ok = true then wpAny (model prog w) A (eval elt (compEnvC scope ((x, c) :: cl) C env)) Qy E' s' else Qn s') E' { s₁ with heap := h, toks := tk }) ∧
      (∀ D h tk ys, Inv n ys → Fr h₀ L h (fun z => if z = y then some (.ref D) else m z) → News h₀ L h ((D, LCg.lst ys) :: news) → (∀ p ∈ news, @Ne Nat p.1 D) → Q .next { s₁ with heap := h, toks := tk })) E s)
    (hs : ∀ x, foldedSetIterable iter env x = pure x := by intro _; rfl) :
    wpAny (model prog w) A (exec (.Assign [.Name y py] (.ListComp elt [⟨.Name x px, iter, [ct], 0⟩] scope pos) spos) env) Q E s := by
  rw [exec_Assign_Name_used _ _ _ _ hsw]
  refine wpAny_bind (wpAny_standAt (wpAny_bind ?_))
  show wpAny _ A (do let _ ← comprehension (.ListComp elt [⟨.Name x px, iter, [ct], 0⟩] scope pos) scope env _ (newList []) false (eval iter env) (some (assign (.Name y py) env))) _ _ s
  refine wpAny_bind (wpAny_mono (wpAny_comprehension_free (use := some (assign (.Name y py) env)) (Q := fun _ s' => Q .next s') rfl hs hclos hkind hnames
    (wpAny_mono h (fun xv s₁ h₁ => ?_) fun _ _ e => e)) (fun _ s' hq => wpAny_pure (wpAny_pure hq)) fun _ _ e => e)
  obtain ⟨r, t, u, v, news, rfl, F, N, hr, hsm, hn, hI, turn, fin⟩ := h₁
  refine wpAny_pyIter_range hr hsm ?_
  refine wpAny_newObj_type ?_
  refine newEnv_cell hcf hpc ?_
  dsimp only
  have X := four_new { cls := .type "range_iterator", data := .fields #[rawInt 0, rawInt (Builtin.Range.rangeSize 0 n 1), rawInt 1] } rfl F N
  rw [X.lc]
  generalize (((s₁.heap.push { cls := .type "range_iterator", data := .fields #[rawInt 0, rawInt (Builtin.Range.rangeSize 0 n 1), rawInt 1] }).push { cls := .type "list", dict := none, data := .seq ([] : List Value).toArray }).push { cls := .type "dict", data := .dict #[] }).push { cls := .type "cell", data := .cell none } = H4 at X ⊢
  generalize (((s₁.heap.push { cls := .type "range_iterator", data := .fields #[rawInt 0, rawInt (Builtin.Range.rangeSize 0 n 1), rawInt 1] }).push { cls := .type "list", dict := none, data := .seq ([] : List Value).toArray }).push { cls := .type "dict", data := .dict #[] }).objs.size = c at X ⊢
  generalize ((s₁.heap.push { cls := .type "range_iterator", data := .fields #[rawInt 0, rawInt (Builtin.Range.rangeSize 0 n 1), rawInt 1] }).push { cls := .type "list", dict := none, data := .seq ([] : List Value).toArray }).objs.size = C at X ⊢
  generalize (s₁.heap.push { cls := .type "range_iterator", data := .fields #[rawInt 0, rawInt (Builtin.Range.rangeSize 0 n 1), rawInt 1] }).objs.size = D at X ⊢
  generalize s₁.heap.objs.size = I at X ⊢
  obtain ⟨_, hI1, k, hI₀, hD₀, hC₀, hc₀, hLI, hDL, hCL, hcL, ⟨nIC, nIc, nID, nCc, nCD, ncD⟩, off₀, oC, hoC, N0⟩ := X
  have W := LCg.range_walks (prog := prog) (w := w) (A := A) (I := I) hh 0 n
  have st0 : IsRangeIter H4 I (0 + ((0 : Nat) : Int) * 1) ((n : Int) - ((0 : Nat) : Int)) 1 := by
    show H4.get? I = _
    rw [hI1, hn]
    simp
  clear hI1 hr hsm
  have loop : codeAny (model prog w) A (.compLoop (.ListComp elt [⟨.Name x px, iter, [ct], 0⟩] scope pos) 0 (.ref I) (.ref D) (compEnvC scope ((x, c) :: cl) C env))
      (compPost (model prog w) A E (some (assign (.Name y py) env)) (fun _ s' => Q .next s') (.ref D) C) { s₁ with heap := H4, toks := s₁.toks } := by
    refine codeAny_compLoop_tests
      (CellStT h₀ L m I C c D oC n s₁ news Inv) ?_ (n + 1)
      ⟨H4, _, 0, [], _, none, rfl, Nat.zero_le _, rfl, Nat.zero_le _, st0, F.keeps k, rfl, N0, hI⟩
    rintro kk s' ⟨h', tk, i, ys, oc, v₀, rfl, hi, rfl, hyl, hst, F', hoc, N', hinv⟩
    have off' := off₀
    have aC := (N' _ (.head _)).1
    have ac := (N' _ (.tail _ (.head _))).1
    have aD := (N' _ (.tail _ (.tail _ (.head _)))).1
    by_cases hlt : i < n
    · refine W.item i _ _ _ hlt hst fun v h₂ tk₂ hPv hst₂ hk₂ => ?_
      have hc₂ : h₂.get? c = some oc := hk₂ _ _ (by simpa using Ne.symm nIc) ac
      refine wpAny_assign_Name (wpAny_storeName_cell (c := c) (v₀ := v₀) (show (compEnvC scope ((x, c) :: cl) C env).scope.kind = .function from hkind) (hxk c C) (by show List.lookup x ((x, c) :: cl) = some c; simp) ⟨oc, hc₂, hoc⟩ fun h₃ hc₃ hs₃ => ?_)
      refine wpAny_tests_one ?_
      obtain ⟨oc₃, hoc₃, hocd⟩ := hc₃
      have up : ∀ b o, b ≠ I → b ≠ c → h'.get? b = some o → h₃.get? b = some o := fun b o e1 e2 e => hs₃.extBut b o e2 (hk₂ b o (by simpa using e1) e)
      have hst₃ := W.frame _ _ h₃ hst₂ fun b hb o e => hs₃.extBut b o (fun q => nIc ((List.mem_singleton.mp hb).symm.trans q)) e
      have F₃ : Fr h₀ L h₃ m := (LCg.fr_but F' hk₂ hLI hI₀).change hs₃ hcL hc₀
      have N₃ : News h₀ L h₃ ((I, _) :: (C, oC) :: (c, oc₃) :: (D, LCg.lst ys) :: news) := fun p hp => by
        rcases List.mem_cons.mp hp with rfl | hp
        · exact ⟨hst₃, Ne.symm hLI, hI₀⟩
        rcases List.mem_cons.mp hp with rfl | hp
        · exact ⟨up _ _ (Ne.symm nIC) nCc aC, hCL, hC₀⟩
        rcases List.mem_cons.mp hp with rfl | hp
        · exact ⟨hoc₃, hcL, hc₀⟩
        rcases List.mem_cons.mp hp with rfl | hp
        · exact ⟨up _ _ (Ne.symm nID) (Ne.symm ncD) aD, hDL, hD₀⟩
        · have z := N' p (.tail _ (.tail _ (.tail _ hp)))
          exact ⟨up _ _ (off' p hp).1 (off' p hp).2.2.1 z.1, z.2⟩
      refine turn i ys I _ C oC c oc₃ D h₃ _ v _ _ _ hlt hinv (by obtain ⟨t, e⟩ := hPv; exact ⟨t, by rw [e]; simp⟩) hocd F₃ N₃ off' ⟨nIC, nIc, nID, nCc, nCD, ncD⟩ (fun y h₄ tk₄ hinv₄ F₄ N₄ => ?_) (fun h₄ tk₄ hinv₄ F₄ N₄ => ?_)
      rotate_left
      · have hst₄ := W.frame _ _ h₄ hst₃ fun b hb o e => by
          obtain rfl := List.mem_singleton.mp hb
          have e' : h₃.get? b = _ := hst₃
          rw [e'] at e
          cases e
          exact (N₄ _ (.head _)).1
        exact ⟨n + 1 - (i + 1), by omega, h₄, tk₄, i + 1, ys, oc₃, some v, rfl, hlt, rfl, by omega, hst₄, F₄, hocd, fun p hp => N₄ p (.tail _ hp), hinv₄⟩
      have off₄ := off₀
      have hst₄ := W.frame _ _ h₄ hst₃ fun b hb o e => by
        obtain rfl := List.mem_singleton.mp hb
        have e' : h₃.get? b = _ := hst₃
        rw [e'] at e
        cases e
        exact (N₄ _ (.head _)).1
      refine append_at (hsz := by show ys.toArray.size ≤ sizeLine; rw [List.size_toArray]; exact Nat.le_trans (Nat.le_trans hyl hi) hsz) (N₄ _ (.tail _ (.tail _ (.tail _ (.head _))))).1 fun h₅ hs₅ hD₅ => ?_
      refine ⟨n + 1 - (i + 1), by omega, h₅, tk₄, i + 1, ys ++ [y], oc₃, some v, rfl, hlt, rfl, by rw [List.length_append, List.length_singleton]; omega,
        W.frame _ _ _ hst₄ fun b hb o e => hs₅.extBut b o (fun q => nID ((List.mem_singleton.mp hb).symm.trans q)) e, F₄.change hs₅ hDL hD₀, hocd, fun p hp => ?_, hinv₄⟩
      rcases List.mem_cons.mp hp with rfl | hp
      · exact ⟨hs₅.extBut _ _ nCD (N₄ _ (.tail _ (.head _))).1, hCL, hC₀⟩
      rcases List.mem_cons.mp hp with rfl | hp
      · exact ⟨hs₅.extBut _ _ ncD (N₄ _ (.tail _ (.tail _ (.head _)))).1, hcL, hc₀⟩
      rcases List.mem_cons.mp hp with rfl | hp
      · exact ⟨hD₅.trans (congrArg some (LCg.lst_snoc ys y)), hDL, hD₀⟩
      · have z := N₄ p (.tail _ (.tail _ (.tail _ (.tail _ hp))))
        exact ⟨hs₅.extBut _ _ (off₄ p hp).2.2.2 z.1, z.2⟩
    · obtain rfl : i = n := Nat.le_antisymm hi (Nat.not_lt.mp hlt)
      refine W.done _ _ _ hst fun h₂ tk₂ hk₂ => ?_
      have F₂ := LCg.fr_but F' hk₂ hLI hI₀
      show wpAny _ A (assign (.Name y py) env (.ref D)) _ _ _
      refine wpAny_assign_Name (wpAny_storeName_local (m := m) hy (hLe.symm ▸ F₂.ns) (fun h₃ hn₃ hs₃ => ?_) hp)
      rw [hLe] at hn₃ hs₃
      refine ⟨_, (hoC.ns (hk₂ _ _ (by simpa using Ne.symm nIC) aC)).sameBut hs₃ hCL, fun h'' hs'' => fin D h'' (tk₂ + 1) ys hinv ((F₂.set hn₃ hs₃).change hs'' hCL hC₀) (fun p hp => ?_) fun p hp => (off' p hp).2.2.2⟩
      rcases List.mem_cons.mp hp with rfl | hp
      · exact ⟨hs''.extBut _ _ (Ne.symm nCD) (hs₃.extBut _ _ hDL (hk₂ _ _ (by simpa using Ne.symm nID) aD)), hDL, hD₀⟩
      · have z := N' p (.tail _ (.tail _ (.tail _ hp)))
        exact ⟨hs''.extBut _ _ (off' p hp).2.1 (hs₃.extBut _ _ z.2.1 (hk₂ _ _ (by simpa using (off' p hp).1) z.1)), z.2⟩
  exact codeAny_compStart_list loop (W.self 0 _ _ _ st0 loop)
end
end Mine
namespace Mine
noncomputable def partDef : Option (List Stmt × Scope) :=
  match PySem.Challenge.rw_to0016_01.row.prog.theDef (Str.ofString "_law_parted") with
  | some (_, b, sc) => some (b, sc)
  | none => none
/-- the inner comprehension of _law_parted: its element, its scope, and the outer's test, element, scope -/
noncomputable def partComp : Option (Expr × Scope × Expr × Expr × Scope) :=
  partDef.bind fun (p : List Stmt × Scope) => match (p.1[2]? : Option Stmt) with
    | some (Stmt.For _ _ (Stmt.Assign _ (Expr.ListComp elt [⟨_, _, [ct], _⟩] sc _) _ :: _) _ _) => (match ct with
      | Expr.Compare (Expr.ListComp e2 _ sc2 _) _ _ _ => some (e2, sc2, ct, elt, sc)
      | _ => none)
    | _ => none
end Mine
namespace Mine
theorem bits_at' (v : Int) {i : Nat} (hi : i < 5) : [bitI v 0, bitI v 1, bitI v 2, bitI v 3, bitI v 4].getD ((i : Int)).toNat 0 = bitI v i := by
  rw [Int.toNat_natCast]
  rcases (by omega : i = 0 ∨ i = 1 ∨ i = 2 ∨ i = 3 ∨ i = 4) with rfl | rfl | rfl | rfl | rfl <;> rfl
end Mine
namespace Mine
theorem four_bools {b0 b1 b2 b3 : Bool} {ys : List Value} (h : ys.length = 4) (hr : ∀ (i : Nat) (y : Value), ys[i]? = some y → y = Value.bool ([b0, b1, b2, b3].getD i false)) : ys = [.bool b0, .bool b1, .bool b2, .bool b3] := by
  rcases ys with _ | ⟨x, _ | ⟨y, _ | ⟨z, _ | ⟨u, _ | ⟨r, q⟩⟩⟩⟩⟩
  · cases h
  · cases h
  · cases h
  · cases h
  · rw [hr 0 x rfl, hr 1 y rfl, hr 2 z rfl, hr 3 u rfl]; rfl
  · simp only [List.length_cons] at h; omega
end Mine
namespace Mine
/-- the sign k parts the four rows as l0 .. l3 say -/
noncomputable def partB (v0 v1 v2 v3 : Int) (l0 l1 l2 l3 : Bool) (k : Nat) : Bool := ((true == l0) && (((bitI v1 k == bitI v0 k) == l1) && (((bitI v2 k == bitI v0 k) == l2) && ((bitI v3 k == bitI v0 k) == l3))))
/-- what the first k signs that part so cost -/
noncomputable def partTo (v0 v1 v2 v3 : Int) (l0 l1 l2 l3 : Bool) : Nat → Int
  | 0 => 0
  | k + 1 => partTo v0 v1 v2 v3 l0 l1 l2 l3 k + if partB v0 v1 v2 v3 l0 l1 l2 l3 k = true then price k else 0
noncomputable abbrev partI (v0 v1 v2 v3 : Int) (l0 l1 l2 l3 : Bool) : Int := partTo v0 v1 v2 v3 l0 l1 l2 l3 5
noncomputable def PInv (v0 v1 v2 v3 : Int) (l0 l1 l2 l3 : Bool) (i : Nat) (ys : List Value) : Prop := ∃ ks : List Nat, ks.length ≤ i ∧ (∀ j, ks.getD j 0 < 5) ∧ ys.length = ks.length ∧
  (∀ (j : Nat) (y : Value), ys[j]? = some y → ∃ t, y = .int ((ks.getD j 0 : Nat) : Int) t) ∧ (ks.map price).sum = partTo v0 v1 v2 v3 l0 l1 l2 l3 i
theorem part_yes {v0 v1 v2 v3 : Int} {l0 l1 l2 l3 : Bool} {i : Nat} {ys : List Value} {t : Tok} (hi : i < 5) (h : PInv v0 v1 v2 v3 l0 l1 l2 l3 i ys) (e : partB v0 v1 v2 v3 l0 l1 l2 l3 i = true) :
    PInv v0 v1 v2 v3 l0 l1 l2 l3 (i + 1) (ys ++ [.int (i : Int) t]) := by
  obtain ⟨ks, hl, hk, hy, hv, hs⟩ := h
  have app : ∀ j, (ks ++ [i]).getD j 0 = if j < ks.length then ks.getD j 0 else if j = ks.length then i else 0 := by
    intro j
    by_cases hj : j < ks.length
    · rw [if_pos hj, List.getD_eq_getElem?_getD, List.getElem?_append_left hj, ← List.getD_eq_getElem?_getD]
    · rw [if_neg hj, List.getD_eq_getElem?_getD, List.getElem?_append_right (by omega)]
      by_cases he : j = ks.length
      · rw [if_pos he, he, Nat.sub_self]; rfl
      · rw [if_neg he, List.getElem?_eq_none (by simp only [List.length_singleton]; omega)]; rfl
  refine ⟨ks ++ [i], by rw [List.length_append, List.length_singleton]; omega, fun j => ?_, by rw [List.length_append, List.length_append, hy]; rfl, fun j y hj => ?_, ?_⟩
  · rw [app]
    split
    · exact hk j
    · split <;> omega
  · rw [app]
    by_cases hlt : j < ys.length
    · rw [List.getElem?_append_left hlt] at hj
      rw [if_pos (hy ▸ hlt)]
      exact hv j y hj
    · rw [List.getElem?_append_right (by omega)] at hj
      have hj0 : j - ys.length = 0 := by
        rcases Nat.eq_zero_or_pos (j - ys.length) with h0 | h0
        · exact h0
        · rw [List.getElem?_eq_none (by simp only [List.length_singleton]; omega)] at hj; cases hj
      rw [hj0] at hj
      rw [if_neg (by omega), if_pos (by omega)]
      exact ⟨t, by simpa using hj.symm⟩
  · rw [List.map_append, List.sum_append, hs]
    show partTo v0 v1 v2 v3 l0 l1 l2 l3 i + [price i].sum = partTo v0 v1 v2 v3 l0 l1 l2 l3 i + _
    rw [if_pos e]
    simp
theorem part_no {v0 v1 v2 v3 : Int} {l0 l1 l2 l3 : Bool} {i : Nat} {ys : List Value} (h : PInv v0 v1 v2 v3 l0 l1 l2 l3 i ys) (e : partB v0 v1 v2 v3 l0 l1 l2 l3 i ≠ true) :
    PInv v0 v1 v2 v3 l0 l1 l2 l3 (i + 1) ys := by
  obtain ⟨ks, hl, hk, hy, hv, hs⟩ := h
  refine ⟨ks, by omega, hk, hy, hv, ?_⟩
  rw [hs]
  show _ = partTo v0 v1 v2 v3 l0 l1 l2 l3 i + _
  rw [if_neg e, Int.add_zero]
theorem part_zero {v0 v1 v2 v3 : Int} {l0 l1 l2 l3 : Bool} : PInv v0 v1 v2 v3 l0 l1 l2 l3 0 [] := ⟨[], by simp, fun j => by simp, rfl, fun j y hj => by simp at hj, rfl⟩
theorem ints_of {zs : List Value} : ∀ {ns : List Int}, zs.length = ns.length → (∀ (j : Nat) (y : Value), zs[j]? = some y → ∃ t, y = .int (ns.getD j 0) t) → IntsAre zs ns := by
  induction zs with
  | nil => intro ns hl _
           cases ns with
           | nil => exact .nil
           | cons _ _ => cases hl
  | cons z zs ih =>
    intro ns hl h
    cases ns with
    | nil => cases hl
    | cons n ns =>
      obtain ⟨t, rfl⟩ := h 0 z rfl
      exact .cons n t (ih (Nat.succ.inj hl) fun j y hj => h (j + 1) y hj)
theorem part_ints {ks : List Nat} {zs : List Value} (hl : zs.length = ks.length) (h : ∀ (j : Nat) (y : Value), zs[j]? = some y → ∃ t, y = .int (price (ks.getD j 0)) t) : IntsAre zs (ks.map price) := by
  refine ints_of (by rw [List.length_map, hl]) fun j y hj => ?_
  obtain ⟨t, rfl⟩ := h j y hj
  have hlt : j < ks.length := by
    rw [← hl]
    rcases Nat.lt_or_ge j zs.length with h | h
    · exact h
    · rw [List.getElem?_eq_none h] at hj; cases hj
  refine ⟨t, ?_⟩
  rw [List.getD_eq_getElem?_getD, List.getD_eq_getElem?_getD, List.getElem?_map, List.getElem?_eq_getElem hlt]
  rfl
/-- _law_parted's loop -/
noncomputable def partFor : Option (Expr × Expr × List Stmt) :=
  partDef.bind fun (p : List Stmt × Scope) => match (p.1[2]? : Option Stmt) with
    | some (Stmt.For tg it body _ _) => some (tg, it, body)
    | _ => none
theorem lt3 {a L : Addr} (h : @LT.lt Nat _ a L) : @Ne Nat a (L + 1 + 1 + 1) := Nat.ne_of_lt (Nat.lt_of_lt_of_le h (Nat.le_add_right L 3))
end Mine
namespace Mine
/-- the signs of the word of the server n, as numbers -/
noncomputable def codes (n : Nat) : List Nat := [97 - 32 * (n % 2), 98 - 32 * (n / 2 % 2), 99 - 65 * (n / 4 % 2), 49 + n / 8 % 2, 51 + n / 16 % 2]
noncomputable def wordN (n : Nat) : Str := ⟨(codes n).toArray⟩
theorem word_fin : ∀ a b c p q : Fin 2, nameFS (a.val : Int) (b.val : Int) (c.val : Int) ++ Str.ofString (toString (13 + 10 * (p.val : Int) + (q.val : Int))) = wordN (a.val + 2 * b.val + 4 * c.val + 8 * p.val + 16 * q.val) := by decide +kernel
theorem bits_fin : ∀ a b c p q : Fin 2, (a.val + 2 * b.val + 4 * c.val + 8 * p.val + 16 * q.val) < 32 ∧ (a.val + 2 * b.val + 4 * c.val + 8 * p.val + 16 * q.val) % 2 = a.val ∧ (a.val + 2 * b.val + 4 * c.val + 8 * p.val + 16 * q.val) / 2 % 2 = b.val ∧
    (a.val + 2 * b.val + 4 * c.val + 8 * p.val + 16 * q.val) / 4 % 2 = c.val ∧ (a.val + 2 * b.val + 4 * c.val + 8 * p.val + 16 * q.val) / 8 % 2 = p.val ∧ (a.val + 2 * b.val + 4 * c.val + 8 * p.val + 16 * q.val) / 16 % 2 = q.val := by decide +kernel
structure CodeOf (v : Int) (n : Nat) : Prop where
  lt : n < 32
  word : wordS v = wordN n
  b0 : bitI v 0 = ((n % 2 : Nat) : Int)
  b1 : bitI v 1 = ((n / 2 % 2 : Nat) : Int)
  b2 : bitI v 2 = ((n / 4 % 2 : Nat) : Int)
  b3 : bitI v 3 = ((n / 8 % 2 : Nat) : Int)
  b4 : bitI v 4 = ((n / 16 % 2 : Nat) : Int)
theorem code_of (v : Int) : ∃ n, CodeOf v n := by
  obtain ⟨a, ha⟩ := bit_fin v 0
  obtain ⟨b, hb⟩ := bit_fin v 1
  obtain ⟨c, hc⟩ := bit_fin v 2
  obtain ⟨p, hp⟩ := bit_fin v 3
  obtain ⟨q, hq⟩ := bit_fin v 4
  obtain ⟨z, z0, z1, z2, z3, z4⟩ := bits_fin a b c p q
  refine ⟨_, z, ?_, by rw [z0, ha], by rw [z1, hb], by rw [z2, hc], by rw [z3, hp], by rw [z4, hq]⟩
  have e1 : wordS v = nameFS (bitI v 0) (bitI v 1) (bitI v 2) ++ Str.ofString (toString (13 + 10 * bitI v 3 + bitI v 4)) := rfl
  rw [e1, ha, hb, hc, hp, hq]
  exact word_fin a b c p q
noncomputable def unN (a b : Nat) (w : Int) : Int := if a = b then 0 else w
noncomputable def dueN (a b : Nat) : Int := unN (a % 2) (b % 2) 1 + unN (a / 2 % 2) (b / 2 % 2) 1 + unN (a / 4 % 2) (b / 4 % 2) 2 + unN (a / 8 % 2) (b / 8 % 2) 2 + unN (a / 16 % 2) (b / 16 % 2) 2
theorem un_int {x y : Int} {a b : Nat} {w : Int} (hx : x = (a : Int)) (hy : y = (b : Int)) : (if x = y then 0 else w) = unN a b w := by
  subst hx hy
  unfold unN
  by_cases h : a = b
  · rw [if_pos (congrArg (fun (n : Nat) => (n : Int)) h), if_pos h]
  · rw [if_neg (fun e => h (by omega)), if_neg h]
theorem due_N {va vb : Int} {a b : Nat} (ha : CodeOf va a) (hb : CodeOf vb b) : dueI va vb = dueN a b := by
  have e : dueI va vb = 0 + (if bitI va 0 = bitI vb 0 then 0 else 1) + (if bitI va 1 = bitI vb 1 then 0 else 1) + (if bitI va 2 = bitI vb 2 then 0 else 2) + (if bitI va 3 = bitI vb 3 then 0 else 2) + (if bitI va 4 = bitI vb 4 then 0 else 2) := rfl
  rw [e, un_int ha.b0 hb.b0, un_int ha.b1 hb.b1, un_int ha.b2 hb.b2, un_int ha.b3 hb.b3, un_int ha.b4 hb.b4, Int.zero_add]
  rfl
end Mine
namespace Mine
noncomputable def signs : List Nat := [97, 65, 98, 66, 99, 34, 49, 50, 51, 52]
/-- what it costs to put one of the ten signs for another -/
noncomputable def subN (c d : Nat) : Int := if c = d then 0 else if (c + 32 = d ∧ c ≠ 34) ∨ (d + 32 = c ∧ d ≠ 34) then 1 else 2
theorem sub_tab : ∀ c ∈ signs, ∀ d ∈ signs, subC ⟨#[c]⟩ ⟨#[d]⟩ = subN c d := by decide +kernel
@[irreducible] noncomputable def inStepN (cst : Int → Int) (st : LSt) (i : Int) : LSt :=
  let d := st.2.2.2.getD i.toNat 0
  let q := (if d < st.2.1 then d else st.2.1) + 2
  let sub := st.1 + cst i
  let r := if sub < q then sub else q
  (d, r, if r < st.2.2.1 then r else st.2.2.1, st.2.2.2.set i.toNat r)
noncomputable def outN (cst : Int → Int → Int) (v : Int) (n : Nat) : Nat → Int → List Int → Int → Int
  | 0, _, _, res => res
  | f + 1, bi, row, _ =>
    let st := (rangeKs 0 n).foldl (inStepN (cst bi)) (bi * 2, bi * 2, 9223372036854775807, row)
    if v < st.2.2.1 then v + 1 else outN cst v n f (bi + 1) st.2.2.2 st.2.1
theorem inRun_N {a bc : Str} {cst : Int → Int} : ∀ (l : List Int) (st : LSt), (∀ i ∈ l, subC bc (Txt.item a i) = cst i) → inRun a bc st l = l.foldl (inStepN cst) st
  | [], st, _ => by unfold inRun; rfl
  | i :: l, st, h => by
    have e : inStep a bc st i = inStepN cst st i := by
      unfold inStep inStepN
      rw [h i (.head _)]
    have z := inRun_N (a := a) (bc := bc) l (inStepN cst st i) fun j hj => h j (.tail _ hj)
    unfold inRun at z ⊢
    rw [List.foldl_cons, List.foldl_cons, e]
    exact z
theorem ks_mem {n : Nat} {i : Int} (h : i ∈ rangeKs 0 n) : 0 ≤ i ∧ i < (n : Int) := by
  obtain ⟨j, hj, e⟩ := List.mem_iff_getElem?.mp h |>.imp fun j e => (⟨(by
    have := (List.getElem?_eq_some_iff.mp e).1
    rw [rangeKs_length] at this; exact this : j < n), e⟩ : j < n ∧ _)
  have z := kll_at (a := 0) hj
  rw [List.getD_eq_getElem?_getD, e] at z
  have z' : i = 0 + (j : Int) := z
  omega
theorem out_N {a b : Str} {cst : Int → Int → Int} {v : Int} {n : Nat} (h : ∀ i j : Int, 0 ≤ i → i < (n : Int) → 0 ≤ j → j < (n : Int) → subC (Txt.item b i) (Txt.item a j) = cst i j) :
    ∀ (f : Nat) (bi : Int) (row : List Int) (res : Int), 0 ≤ bi → bi + (f : Int) = (n : Int) → outGo a b v n f bi row res = outN cst v n f bi row res
  | 0, bi, row, res, _, _ => rfl
  | f + 1, bi, row, res, h0, hn => by
    have hf : bi + ((f : Int) + 1) = (n : Int) := by rw [← hn]; rfl
    rw [outGo, outN, inRun_N (cst := cst bi) _ _ fun j hj => h bi j h0 (by omega) (ks_mem hj).1 (ks_mem hj).2]
    split
    · rfl
    · exact out_N h f (bi + 1) _ _ (by omega) (by omega)
/-- a sign of a text that is given by its numbers -/
theorem item_of {l : List Nat} {j : Int} (h0 : 0 ≤ j) (h1 : j < (l.length : Int)) : Txt.item ⟨l.toArray⟩ j = ⟨#[l.getD j.toNat 0]⟩ := by
  unfold Txt.item Txt.charAt
  have hl : (⟨l.toArray⟩ : Str).length = l.length := by
    show l.toArray.size = _
    rw [List.size_toArray]
  rw [hl]
  unfold seqIndex?
  have e1 : (if j < 0 then j + (l.length : Int) else j) = j := if_neg (by omega)
  simp only [e1]
  have e2 : (decide (0 ≤ j) && decide (j < (l.length : Int))) = true := by rw [decide_eq_true h0, decide_eq_true h1]; rfl
  rw [if_pos e2]
  show (⟨#[(l.toArray[j.toNat]?).getD 0]⟩ : Str) = _
  rw [List.getElem?_toArray, ← List.getD_eq_getElem?_getD]
theorem item_neg {l : List Nat} {i : Nat} (h : i < l.length) : Txt.item ⟨l.toArray⟩ (-(i : Int) - 1) = ⟨#[l.getD (l.length - 1 - i) 0]⟩ := by
  unfold Txt.item Txt.charAt
  have hl : (⟨l.toArray⟩ : Str).length = l.length := by
    show l.toArray.size = _
    rw [List.size_toArray]
  rw [hl]
  unfold seqIndex?
  have e1 : (if (-(i : Int) - 1) < 0 then (-(i : Int) - 1) + (l.length : Int) else (-(i : Int) - 1)) = ((l.length - 1 - i : Nat) : Int) := by
    rw [if_pos (by omega)]
    omega
  simp only [e1]
  have e2 : (decide (0 ≤ ((l.length - 1 - i : Nat) : Int)) && decide (((l.length - 1 - i : Nat) : Int) < (l.length : Int))) = true := by rw [decide_eq_true (by omega), decide_eq_true (by omega)]; rfl
  rw [if_pos e2]
  show (⟨#[(l.toArray[((l.length - 1 - i : Nat) : Int).toNat]?).getD 0]⟩ : Str) = _
  rw [List.getElem?_toArray, ← List.getD_eq_getElem?_getD, Int.toNat_natCast]
theorem slice5 {l : List Nat} {q : Nat} (hl : l.length = 5) (hq : q ≤ 4) : Txt.slice ⟨l.toArray⟩ (some (q : Int)) none = ⟨(l.drop q).toArray⟩ := by
  rcases l with _ | ⟨c0, _ | ⟨c1, _ | ⟨c2, _ | ⟨c3, _ | ⟨c4, _ | ⟨c5, r⟩⟩⟩⟩⟩⟩
  · cases hl
  · cases hl
  · cases hl
  · cases hl
  · cases hl
  · rcases (by omega : q = 0 ∨ q = 1 ∨ q = 2 ∨ q = 3 ∨ q = 4) with rfl | rfl | rfl | rfl | rfl <;> kernel_rfl
  · simp only [List.length_cons] at hl; omega
theorem cut5 {l : List Nat} {i : Nat} (hl : l.length ≤ 5) (hi : i < l.length) : cutTo ⟨l.toArray⟩ (-(i : Int)) = ⟨(l.take (l.length - i)).toArray⟩ := by
  unfold cutTo
  rcases l with _ | ⟨c0, _ | ⟨c1, _ | ⟨c2, _ | ⟨c3, _ | ⟨c4, _ | ⟨c5, r⟩⟩⟩⟩⟩⟩
  · cases hi
  · rcases (by simp only [List.length_cons, List.length_nil] at hi; omega : i = 0) with rfl; kernel_rfl
  · rcases (by simp only [List.length_cons, List.length_nil] at hi; omega : i = 0 ∨ i = 1) with rfl | rfl <;> kernel_rfl
  · rcases (by simp only [List.length_cons, List.length_nil] at hi; omega : i = 0 ∨ i = 1 ∨ i = 2) with rfl | rfl | rfl <;> kernel_rfl
  · rcases (by simp only [List.length_cons, List.length_nil] at hi; omega : i = 0 ∨ i = 1 ∨ i = 2 ∨ i = 3) with rfl | rfl | rfl | rfl <;> kernel_rfl
  · rcases (by simp only [List.length_cons, List.length_nil] at hi; omega : i = 0 ∨ i = 1 ∨ i = 2 ∨ i = 3 ∨ i = 4) with rfl | rfl | rfl | rfl | rfl <;> kernel_rfl
  · simp only [List.length_cons] at hl; omega
theorem str_eq {c d : Nat} (h : c = d) : ((⟨#[c]⟩ : Str) == ⟨#[d]⟩) = true := by subst h; exact beq_self_eq_true _
theorem str_ne {c d : Nat} (h : c ≠ d) : ((⟨#[c]⟩ : Str) == ⟨#[d]⟩) = false := by
  rw [beq_eq_false_iff_ne]
  intro e
  exact h (by injection e with e; injection e with e; injection e)
theorem drop_getD (l : List Nat) (q j : Nat) : (l.drop q).getD j 0 = l.getD (q + j) 0 := by
  rw [List.getD_eq_getElem?_getD, List.getD_eq_getElem?_getD, List.getElem?_drop]
theorem take_getD (l : List Nat) {n j : Nat} (h : j < n) : (l.take n).getD j 0 = l.getD j 0 := by
  rw [List.getD_eq_getElem?_getD, List.getD_eq_getElem?_getD, List.getElem?_take, if_pos h]
/-- where two lists of five signs part -/
structure Parts (l k : List Nat) (q r : Nat) : Prop where
  ll : l.length = 5
  kl : k.length = 5
  qr : q ≤ r
  r4 : r ≤ 4
  pre : ∀ j, j < q → l.getD j 0 = k.getD j 0
  atq : l.getD q 0 ≠ k.getD q 0
  post : ∀ j, r < j → j < 5 → l.getD j 0 = k.getD j 0
  atr : l.getD r 0 ≠ k.getD r 0
theorem Parts.ne {l k : List Nat} {q r : Nat} (h : Parts l k q r) : ((⟨l.toArray⟩ : Str) == ⟨k.toArray⟩) = false := by
  rw [beq_eq_false_iff_ne]
  intro e
  injection e with e
  injection e with e
  exact h.atq (by rw [e])
theorem Parts.preAt {l k : List Nat} {q r : Nat} (h : Parts l k q r) : PreAt ⟨l.toArray⟩ ⟨k.toArray⟩ (q : Int) := by
  have h1 := h.ll; have h2 := h.kl; have h3 := h.qr; have h4 := h.r4
  unfold PreAt
  refine ⟨fun j j0 jq => ?_, ?_⟩
  · rw [item_of j0 (by omega), item_of j0 (by omega)]
    exact str_eq (h.pre _ (by omega))
  · rw [item_of (by omega) (by omega), item_of (by omega) (by omega), Int.toNat_natCast]
    exact str_ne h.atq
theorem Parts.postAt {l k : List Nat} {q r : Nat} (h : Parts l k q r) : PostAt (Txt.slice ⟨l.toArray⟩ (some (q : Int)) none) (Txt.slice ⟨k.toArray⟩ (some (q : Int)) none) ((r : Int) - 4) := by
  have h1 := h.ll; have h2 := h.kl; have h3 := h.qr; have h4 := h.r4
  rw [slice5 h1 (Nat.le_trans h3 h4), slice5 h2 (Nat.le_trans h3 h4)]
  have z1 : (l.drop q).length = 5 - q := by rw [List.length_drop, h1]
  have z2 : (k.drop q).length = 5 - q := by rw [List.length_drop, h2]
  unfold PostAt
  refine ⟨fun j jr j0 => ?_, ?_⟩
  · obtain ⟨i, rfl⟩ : ∃ i : Nat, j = -(i : Int) := ⟨(-j).toNat, by omega⟩
    rw [item_neg (by omega), item_neg (by omega), z1, z2, drop_getD, drop_getD]
    exact str_eq (h.post _ (by omega) (by omega))
  · rw [show (r : Int) - 4 - 1 = -((4 - r : Nat) : Int) - 1 by omega, item_neg (by omega), item_neg (by omega), z1, z2, drop_getD, drop_getD, show q + (5 - q - 1 - (4 - r)) = r by omega]
    exact str_ne h.atr
noncomputable def coreL (l : List Nat) (q r : Nat) : List Nat := (l.drop q).take (r + 1 - q)
theorem Parts.core {l k : List Nat} {q r : Nat} (h : Parts l k q r) : cutTo (Txt.slice ⟨l.toArray⟩ (some (q : Int)) none) ((r : Int) - 4) = ⟨(coreL l q r).toArray⟩ ∧ (⟨(coreL l q r).toArray⟩ : Str).length = r + 1 - q := by
  have h1 := h.ll; have h3 := h.qr; have h4 := h.r4
  have z1 : (l.drop q).length = 5 - q := by rw [List.length_drop, h1]
  rw [slice5 h1 (Nat.le_trans h3 h4), show (r : Int) - 4 = -((4 - r : Nat) : Int) by omega, cut5 (by omega) (by omega), z1, show 5 - q - (4 - r) = r + 1 - q by omega]
  refine ⟨rfl, ?_⟩
  show (coreL l q r).toArray.size = _
  rw [List.size_toArray]
  unfold coreL
  rw [List.length_take, z1]
  omega
theorem Parts.symm {l k : List Nat} {q r : Nat} (h : Parts l k q r) : Parts k l q r :=
  ⟨h.kl, h.ll, h.qr, h.r4, fun j hj => (h.pre j hj).symm, fun e => h.atq e.symm, fun j h1 h2 => (h.post j h1 h2).symm, fun e => h.atr e.symm⟩
theorem Parts.cuts {l k : List Nat} {q r : Nat} (h : Parts l k q r) : CutsOK (Txt.slice ⟨l.toArray⟩ (some (q : Int)) none) (Txt.slice ⟨k.toArray⟩ (some (q : Int)) none) ((r : Int) - 4) := by
  have h1 := h.ll; have h2 := h.kl; have h3 := h.qr; have h4 := h.r4
  have z1 : (l.drop q).length = 5 - q := by rw [List.length_drop, h1]
  have z2 : (k.drop q).length = 5 - q := by rw [List.length_drop, h2]
  unfold CutsOK
  rw [slice5 h1 (Nat.le_trans h3 h4), slice5 h2 (Nat.le_trans h3 h4)]
  intro j jr j0
  obtain ⟨i, rfl⟩ : ∃ i : Nat, j = -(i : Int) := ⟨(-j).toNat, by omega⟩
  rw [cut5 (Nat.le_trans (Nat.le_of_eq z1) (Nat.sub_le 5 q)) (by rw [z1]; omega), cut5 (Nat.le_trans (Nat.le_of_eq z2) (Nat.sub_le 5 q)) (by rw [z2]; omega)]
  have y1 : (⟨((l.drop q).take ((l.drop q).length - i)).toArray⟩ : Str).length = 5 - q - i := by
    show (List.toArray _).size = _
    rw [List.size_toArray, List.length_take, z1]
    omega
  have y2 : (⟨((k.drop q).take ((k.drop q).length - i)).toArray⟩ : Str).length = 5 - q - i := by
    show (List.toArray _).size = _
    rw [List.size_toArray, List.length_take, z2]
    omega
  rw [y1, y2]
  omega
noncomputable def firstT : List Bool → Nat
  | true :: _ => 0
  | false :: l => firstT l + 1
  | [] => 0
/-- where two servers' words part -/
noncomputable def mask (a b : Nat) : List Bool := [decide (a % 2 ≠ b % 2), decide (a / 2 % 2 ≠ b / 2 % 2), decide (a / 4 % 2 ≠ b / 4 % 2), decide (a / 8 % 2 ≠ b / 8 % 2), decide (a / 16 % 2 ≠ b / 16 % 2)]
noncomputable def qM (m : List Bool) : Nat := firstT m
noncomputable def rM (m : List Bool) : Nat := 4 - firstT m.reverse
noncomputable def chkParts (a b : Nat) : Bool :=
  let l := codes a
  let k := codes b
  let q := qM (mask a b)
  let r := rM (mask a b)
  decide (q ≤ r) && decide (r ≤ 4) && ((List.range q).all fun j => decide (l.getD j 0 = k.getD j 0)) && !decide (l.getD q 0 = k.getD q 0) &&
    ((List.range (4 - r)).all fun i => decide (l.getD (4 - i) 0 = k.getD (4 - i) 0)) && !decide (l.getD r 0 = k.getD r 0)
theorem parts_fin : (List.range 32).all (fun a => (List.range 32).all fun b => decide (a = b) || chkParts a b) = true := by decide +kernel
theorem parts_of {a b : Nat} (ha : a < 32) (hb : b < 32) (hne : a ≠ b) : Parts (codes a) (codes b) (qM (mask a b)) (rM (mask a b)) := by
  have z := List.all_eq_true.mp parts_fin a (List.mem_range.mpr ha)
  have z := List.all_eq_true.mp z b (List.mem_range.mpr hb)
  rw [decide_eq_false hne, Bool.false_or] at z
  unfold chkParts at z
  simp only [Bool.and_eq_true, decide_eq_true_eq, Bool.not_eq_true', decide_eq_false_iff_not, List.all_eq_true, List.mem_range] at z
  obtain ⟨⟨⟨⟨⟨z1, z2⟩, z3⟩, z4⟩, z5⟩, z6⟩ := z
  refine ⟨rfl, rfl, z1, z2, z3, z4, fun j h1 h2 => ?_, z6⟩
  have := z5 (4 - j) (by omega)
  rw [show 4 - (4 - j) = j by omega] at this
  exact this
noncomputable def wt (i : Nat) : Int := ([1, 1, 2, 2, 2] : List Int).getD i 0
noncomputable def codeAt : Nat → Nat → Nat
  | 0, x => 97 - 32 * x
  | 1, x => 98 - 32 * x
  | 2, x => 99 - 65 * x
  | 3, x => 49 + x
  | _, x => 51 + x
theorem sub_at : ∀ i j : Fin 5, ∀ x y : Fin 2, codeAt i.val x.val ∈ signs ∧ subN (codeAt i.val x.val) (codeAt j.val y.val) = if i.val = j.val then (if x.val = y.val then 0 else wt i.val) else 2 := by decide +kernel
noncomputable def bitN (n i : Nat) : Nat := [n % 2, n / 2 % 2, n / 4 % 2, n / 8 % 2, n / 16 % 2].getD i 0
theorem five {P : Nat → Prop} (h0 : P 0) (h1 : P 1) (h2 : P 2) (h3 : P 3) (h4 : P 4) {i : Nat} (h : i < 5) : P i := by
  rcases (by omega : i = 0 ∨ i = 1 ∨ i = 2 ∨ i = 3 ∨ i = 4) with rfl | rfl | rfl | rfl | rfl <;> assumption
theorem code_at (n : Nat) {i : Nat} (h : i < 5) : (codes n).getD i 0 = codeAt i (bitN n i) := five (P := fun i => (codes n).getD i 0 = codeAt i (bitN n i)) rfl rfl rfl rfl rfl h
theorem bit_lt (n : Nat) {i : Nat} (h : i < 5) : bitN n i < 2 :=
  five (P := fun i => bitN n i < 2) (Nat.mod_lt _ (by decide)) (Nat.mod_lt _ (by decide)) (Nat.mod_lt _ (by decide)) (Nat.mod_lt _ (by decide)) (Nat.mod_lt _ (by decide)) h
theorem mask_at (a b : Nat) {i : Nat} (h : i < 5) : (mask a b).getD i false = decide (bitN a i ≠ bitN b i) := five (P := fun i => (mask a b).getD i false = decide (bitN a i ≠ bitN b i)) rfl rfl rfl rfl rfl h
noncomputable def cstM (m : List Bool) (q : Nat) (i j : Int) : Int := if i = j then (if m.getD (q + i.toNat) false then wt (q + i.toNat) else 0) else 2
theorem sub_code (a b : Nat) {i j : Nat} (hi : i < 5) (hj : j < 5) : subC ⟨#[(codes b).getD i 0]⟩ ⟨#[(codes a).getD j 0]⟩ = if i = j then (if (mask a b).getD i false then wt i else 0) else 2 := by
  rw [code_at b hi, code_at a hj, mask_at a b hi]
  have z := sub_at ⟨i, hi⟩ ⟨j, hj⟩ ⟨bitN b i, bit_lt b hi⟩ ⟨bitN a j, bit_lt a hj⟩
  have y := sub_at ⟨j, hj⟩ ⟨i, hi⟩ ⟨bitN a j, bit_lt a hj⟩ ⟨bitN b i, bit_lt b hi⟩
  rw [sub_tab _ z.1 _ y.1]
  refine z.2.trans ?_
  dsimp only
  by_cases e : i = j
  · subst e
    rw [if_pos rfl, if_pos rfl]
    by_cases c : bitN b i = bitN a i
    · rw [if_pos c, if_neg (by simp only [decide_eq_true_eq]; exact fun h => h c.symm)]
    · rw [if_neg c, if_pos (by simp only [decide_eq_true_eq]; exact fun h => c h.symm)]
  · rw [if_neg e, if_neg e]
noncomputable def dueM (m : List Bool) : Int := (if m.getD 0 false then 1 else 0) + (if m.getD 1 false then 1 else 0) + (if m.getD 2 false then 2 else 0) + (if m.getD 3 false then 2 else 0) + (if m.getD 4 false then 2 else 0)
theorem un_M (a b : Nat) (w : Int) : unN a b w = if decide (a ≠ b) = true then w else 0 := by
  unfold unN
  by_cases e : a = b
  · rw [if_pos e, if_neg (by simp only [decide_eq_true_eq]; exact fun h => h e)]
  · rw [if_neg e, if_pos (by simp only [decide_eq_true_eq]; exact e)]
theorem due_M (a b : Nat) : dueN a b = dueM (mask a b) := by
  unfold dueN
  rw [un_M, un_M, un_M, un_M, un_M]
  rfl
theorem cost_fin : ∀ b0 b1 b2 b3 b4 : Bool, (b0 || b1 || b2 || b3 || b4) = true → 1 ≤ dueM [b0, b1, b2, b3, b4] ∧
    ∀ sl ∈ ([-1, 0, 1] : List Int), outN (cstM [b0, b1, b2, b3, b4] (qM [b0, b1, b2, b3, b4])) (dueM [b0, b1, b2, b3, b4] + sl) (rM [b0, b1, b2, b3, b4] + 1 - qM [b0, b1, b2, b3, b4]) (rM [b0, b1, b2, b3, b4] + 1 - qM [b0, b1, b2, b3, b4]) 0 (rangeInts 2 2 (rM [b0, b1, b2, b3, b4] + 1 - qM [b0, b1, b2, b3, b4])) 0 = dueM [b0, b1, b2, b3, b4] := by decide +kernel
theorem mask_fin : (List.range 32).all (fun a => (List.range 32).all fun b => decide (a = b) || (decide (a % 2 ≠ b % 2) || decide (a / 2 % 2 ≠ b / 2 % 2) || decide (a / 4 % 2 ≠ b / 4 % 2) || decide (a / 8 % 2 ≠ b / 8 % 2) || decide (a / 16 % 2 ≠ b / 16 % 2))) = true := by decide +kernel
theorem mask_some {a b : Nat} (ha : a < 32) (hb : b < 32) (hne : a ≠ b) : (decide (a % 2 ≠ b % 2) || decide (a / 2 % 2 ≠ b / 2 % 2) || decide (a / 4 % 2 ≠ b / 4 % 2) || decide (a / 8 % 2 ≠ b / 8 % 2) || decide (a / 16 % 2 ≠ b / 16 % 2)) = true := by
  have z := List.all_eq_true.mp mask_fin a (List.mem_range.mpr ha)
  have z := List.all_eq_true.mp z b (List.mem_range.mpr hb)
  rw [decide_eq_false hne, Bool.false_or] at z
  exact z
theorem Parts.item {l k : List Nat} {q r : Nat} (h : Parts l k q r) {j : Int} (h0 : 0 ≤ j) (h1 : j < ((r + 1 - q : Nat) : Int)) : Txt.item ⟨(coreL l q r).toArray⟩ j = ⟨#[l.getD (q + j.toNat) 0]⟩ := by
  have z : (coreL l q r).length = r + 1 - q := by rw [← h.core.2]; show _ = (List.toArray _).size; rw [List.size_toArray]
  rw [item_of h0 (by omega)]
  unfold coreL
  rw [take_getD _ (by omega), drop_getD]
theorem lev_due {a b : Nat} (ha : a < 32) (hb : b < 32) (hne : a ≠ b) {sl : Int} (hsl : -1 ≤ sl ∧ sl ≤ 1) : 0 ≤ dueN a b + sl ∧
    outGo ⟨(coreL (codes a) (qM (mask a b)) (rM (mask a b))).toArray⟩ ⟨(coreL (codes b) (qM (mask a b)) (rM (mask a b))).toArray⟩ (dueN a b + sl) (rM (mask a b) + 1 - qM (mask a b)) (rM (mask a b) + 1 - qM (mask a b)) 0 (rangeInts 2 2 (rM (mask a b) + 1 - qM (mask a b))) 0 = dueN a b := by
  have P := parts_of ha hb hne
  have h3 := P.qr
  have h4 := P.r4
  have key := cost_fin _ _ _ _ _ (mask_some ha hb hne)
  rw [due_M]
  refine ⟨?_, ?_⟩
  · have := key.1
    have : 1 ≤ dueM (mask a b) := key.1
    omega
  · rw [out_N (cst := cstM (mask a b) (qM (mask a b))) (fun i j i0 i1 j0 j1 => ?_) _ _ _ _ (Int.le_refl _) (by omega)]
    · exact key.2 sl (by
        rcases (by omega : sl = -1 ∨ sl = 0 ∨ sl = 1) with rfl | rfl | rfl
        · exact .head _
        · exact .tail _ (.head _)
        · exact .tail _ (.tail _ (.head _)))
    · rw [P.symm.item i0 i1, P.item j0 j1, sub_code a b (by omega) (by omega)]
      unfold cstM
      by_cases e : i = j
      · subst e
        rw [if_pos rfl, if_pos rfl]
      · rw [if_neg (by omega), if_neg e]
end Mine
theorem Mine.levE : ∀ (w : World) (mean : ExcName → Option Value) (mg mb : Str → Option Value) (x y : Str) (v : Int) (t1 t2 t3 : Tok)
   (dp un : Nat) (gd : Option (List Code)) (cn : Str) (cs : Scope) (a : Addr) (ccd : Value) (cl : List (Str × Addr)) (outer : List Env) (A₀ : Around) (base h₀ : Heap) (L : Addr) (m : Str → Option Value) (s : Shared) (news : List (Addr × Obj)) (Q E : Value → Shared → Prop)
   (B : Below A₀ base outer h₀) (F : Fr h₀ L s.heap m) (X : (Mine.hd.heap_1 w.params).In h₀) (N : News h₀ L s.heap news) (T : Top Mine.hd.view_1 (looseW Mine.hd.view_1 []) mean mg mb h₀) (hk : cs.kind = .function) 
   (hdp : dp + 3 < recursionLimit) (hu : un + 16 < cLine) (hx : x.length = 5) (hy : y.length = 5) (he : (x == y) = true)
   (hret : ∀ (t : Tok) (h' : Heap) (tk' : Nat), Fr h₀ L h' m → News h₀ L h' news → Q (.int 0 t) { s with heap := h', toks := tk' }),
   wpAny (model PySem.Challenge.rw_to0016_01.row.prog w) (ktrTop dp un gd cn cs L a ccd cl outer) (call (.ref 93) [.str x t1, .str y t2, .int v t3]) Q E s := by
  k_fill
  k_with_none
  intro w mean mg mb x y v t1 t2 t3 dp un gd cn cs a ccd cl outer A₀ base h₀ L m s news Q E B F X N T hk hdp hu hx hy he hret
  refine wpAny_call ?_
  k_dflt cell_enter
  (repeat' (first | first | (k_unfold; (try dsimp only)) | (k_end; wrow_close) | (walk1; (try dsimp only)) | (dsimp only; walk1) | (leave1; walk_say "STEP leave1"; try dsimp only) | fail "no step"))
  with_reducible rename Fr h₀ L _ m => Fz
  with_reducible rename News h₀ L _ _ => Nz
  exact hret _ _ _ Fz Nz
/-- the distance of two words of the servers, asked with the due or one off it for a bound -/
theorem Mine.levW : ∀ {w : World} {mean : ExcName → Option Value} {mg mb : Str → Option Value} {va vb sl : Int} {t1 t2 t3 : Tok}
   {dp un : Nat} {gd : Option (List Code)} {cn : Str} {cs : Scope} {a : Addr} {ccd : Value} {cl : List (Str × Addr)} {outer : List Env} {A₀ : Around} {base h₀ : Heap} {L : Addr} {m : Str → Option Value} {s : Shared} {news : List (Addr × Obj)} {Q E : Value → Shared → Prop}
   (B : Below A₀ base outer h₀) (F : Fr h₀ L s.heap m) (X : (Mine.hd.heap_1 w.params).In h₀) (N : News h₀ L s.heap news) (T : Top Mine.hd.view_1 (looseW Mine.hd.view_1 []) mean mg mb h₀) (hk : cs.kind = .function) 
   (hdp : dp + 3 < recursionLimit) (hu : un + 20 < cLine) (hsl : -1 ≤ sl ∧ sl ≤ 1)
   (hret : ∀ (t : Tok) (h' : Heap) (tk' : Nat), Fr h₀ L h' m → News h₀ L h' news → Q (.int (Mine.dueI va vb) t) { s with heap := h', toks := tk' }),
   wpAny (model PySem.Challenge.rw_to0016_01.row.prog w) (ktrTop dp un gd cn cs L a ccd cl outer) (call (.ref 93) [.str (Mine.wordS va) t1, .str (Mine.wordS vb) t2, .int (Mine.dueI va vb + sl) t3]) Q E s := by
  intro w mean mg mb va vb sl t1 t2 t3 dp un gd cn cs a ccd cl outer A₀ base h₀ L m s news Q E B F X N T hk hdp hu hsl hret
  obtain ⟨n, cn'⟩ := Mine.code_of va
  obtain ⟨k, ck⟩ := Mine.code_of vb
  have hdue := Mine.due_N cn' ck
  rw [hdue] at hret ⊢
  rw [cn'.word, ck.word]
  by_cases e : n = k
  · subst e
    have z : Mine.dueN n n = 0 := by
      unfold Mine.dueN Mine.unN
      simp only [if_true, Int.add_zero]
    rw [z] at hret ⊢
    exact Mine.levE w mean mg mb (Mine.wordN n) (Mine.wordN n) _ t1 t2 t3 dp un gd cn cs a ccd cl outer A₀ base h₀ L m s news Q E B F X N T hk hdp (by omega) rfl rfl (beq_self_eq_true _) hret
  · have P := Mine.parts_of cn'.lt ck.lt e
    have h3 := P.qr
    have h4 := P.r4
    obtain ⟨z1, z2⟩ := Mine.lev_due cn'.lt ck.lt e hsl
    exact Mine.levC w mean mg mb (Mine.wordN n) (Mine.wordN k) _ _ _ _ _ _ _ t1 t2 t3 dp un gd cn cs a ccd cl outer A₀ base h₀ L m s news Q E B F X N T hk hdp (by omega) rfl rfl P.ne
      (by omega) (by omega) P.preAt (by omega) (by omega) P.postAt P.cuts z1 P.core.1 P.symm.core.1 P.core.2 P.symm.core.2 z2 hret
namespace Mine
noncomputable def rIs : PV → Int → Bool
  | .i k, n => decide (1024 * k = n)
  | .f x, n => (Float64.isNaN (Float64.mul (Float64.ofInt 1024) x) == false) && ((Float64.isInf (Float64.mul (Float64.ofInt 1024) x) == false) && decide (Flt.toInt Float64.nearestOf (Float64.mul (Float64.ofInt 1024) x) = n))
theorem rIs_of {p : PV} {n : Int} (h : rIs p n = true) : RoundIs p n := by
  cases p with
  | i k => exact (of_decide_eq_true h : 1024 * k = n)
  | f x =>
    unfold rIs at h
    simp only [Bool.and_eq_true, beq_iff_eq, decide_eq_true_eq] at h
    exact h
noncomputable def hueB (x : UInt64) : Bool := ((Float64.cmpInt x 0 == some Ordering.lt) == false) && ((Float64.cmpInt x 1 == some Ordering.gt || Float64.cmpInt x 1 == some Ordering.eq) == false)
theorem hueB_of {x : UInt64} (h : hueB x = true) : HueOk x := by
  unfold hueB at h
  rw [Bool.and_eq_true, beq_iff_eq, beq_iff_eq] at h
  exact ⟨h.1, h.2⟩
noncomputable def zB (x : UInt64) : Bool := (Float64.isNaN (Float64.mul x 4618441417868443648) == false) && ((Float64.isInf (Float64.mul x 4618441417868443648) == false) && decide ((Flt.toInt Float64.truncOf (Float64.mul x 4618441417868443648)).natAbs < 100))
theorem zB_of {x : UInt64} (h : zB x = true) : HsvOk x := by
  unfold zB at h
  rw [Bool.and_eq_true, Bool.and_eq_true, beq_iff_eq, beq_iff_eq, decide_eq_true_eq] at h
  exact ⟨h.1, h.2.1, h.2.2⟩
noncomputable def backB (z d : UInt64) (a b c : Int) : Bool := let q := hsvL z d (maxI a b c); rIs q.1 (1024 * a) && (rIs q.2.1 (1024 * b) && rIs q.2.2 (1024 * c))
/-- a line of the table: the signs that part (x y z), their hue, saturation; the ways' hue; for each U the ways' saturation -/
noncomputable abbrev ColE := Int × Int × Int × UInt64 × UInt64 × UInt64 × List (Int × UInt64)
noncomputable def colB (e : ColE) : Bool :=
  match e with
  | (x, y, z, t, d, h, ss) => decide (hueF x y z = t) && (decide (satF x y z = d) && (hueB t && (hueB h && (zB (zF t) && (zB (zF h) && (backB (zF h) d x y z &&
      ss.all fun (u, s) => decide (hueF (u + 2 * (y + z)) (u + 2 * (x + z)) (u + 2 * (x + y)) = h) && (decide (satF (u + 2 * (y + z)) (u + 2 * (x + z)) (u + 2 * (x + y)) = s) && backB (zF t) s (u + 2 * (y + z)) (u + 2 * (x + z)) (u + 2 * (x + y)))))))))
noncomputable def cols0 : List ColE := [(0, 0, 0, 0, 0, 0, [(0, 0), (1, 0), (2, 0), (3, 0), (4, 0), (5, 0), (6, 0), (7, 0), (8, 0)]),
  (0, 0, 1, 4604180019048437077, 4607182418800017408, 4595172819793696085, [(0, 4607182418800017408), (1, 4604180019048437077), (2, 4602678819172646912), (3, 4600877379321698714), (4, 4599676419421066581), (5, 4598818590920615058), (6, 4598175219545276416), (7, 4597174419628082972)]),
  (0, 0, 2, 4604180019048437077, 4607182418800017408, 4595172819793696085, [(0, 4607182418800017408), (1, 4605380978949069210), (2, 4604180019048437077), (3, 4603322190547985554), (4, 4602678819172646912), (5, 4601678019255453468), (6, 4600877379321698714)]),
  (0, 0, 3, 4604180019048437077, 4607182418800017408, 4595172819793696085, [(0, 4607182418800017408), (1, 4605895676049340123), (2, 4604930618986332160), (3, 4604180019048437077), (4, 4603579539098121011), (5, 4603088237320589684)]),
  (0, 0, 4, 4604180019048437077, 4607182418800017408, 4595172819793696085, [(0, 4607182418800017408), (1, 4606181618882823964), (2, 4605380978949069210), (3, 4604725909912360774), (4, 4604180019048437077)]),
  (0, 0, 5, 4604180019048437077, 4607182418800017408, 4595172819793696085, [(0, 4607182418800017408), (1, 4606363582504131863), (2, 4605681218924227243), (3, 4605103834356615641)]),
  (0, 0, 6, 4604180019048437077, 4607182418800017408, 4595172819793696085, [(0, 4607182418800017408), (1, 4606489557318883486), (2, 4605895676049340123)]),
  (0, 0, 7, 4604180019048437077, 4607182418800017408, 4595172819793696085, [(0, 4607182418800017408), (1, 4606581938849701342)]),
  (0, 0, 8, 4604180019048437077, 4607182418800017408, 4595172819793696085, [(0, 4607182418800017408)]),
  (0, 1, 0, 4599676419421066581, 4607182418800017408, 4605681218924227243, [(0, 4607182418800017408), (1, 4604180019048437077), (2, 4602678819172646912), (3, 4600877379321698714), (4, 4599676419421066581), (5, 4598818590920615058), (6, 4598175219545276416), (7, 4597174419628082972)]),
  (0, 1, 1, 4602678819172646912, 4607182418800017408, 0, [(0, 4602678819172646912), (1, 4600877379321698714), (2, 4599676419421066581), (3, 4598818590920615058), (4, 4598175219545276416), (5, 4597174419628082972), (6, 4596373779694328218)]),
  (0, 1, 2, 4603429419110541995, 4607182418800017408, 4590669220166325589, [(0, 4604180019048437077), (1, 4603322190547985554), (2, 4602678819172646912), (3, 4601678019255453468), (4, 4600877379321698714), (5, 4600222310284990278)]),
  (0, 1, 3, 4603679619089840356, 4607182418800017408, 4592670820000712477, [(0, 4604930618986332160), (1, 4604180019048437077), (2, 4603579539098121011), (3, 4603088237320589684), (4, 4602678819172646912)]),
  (0, 1, 4, 4603804719079489536, 4607182418800017408, 4593671619917905920, [(0, 4605380978949069210), (1, 4604725909912360774), (2, 4604180019048437077), (3, 4603718111394347796)]),
  (0, 1, 5, 4603879779073279044, 4607182418800017408, 4593971859893063953, [(0, 4605681218924227243), (1, 4605103834356615641), (2, 4604608933298662839)]),
  (0, 1, 6, 4603929819069138716, 4607182418800017408, 4594172019876502642, [(0, 4605895676049340123), (1, 4605380978949069210)]),
  (0, 1, 7, 4603965561923324196, 4607182418800017408, 4594314991293244563, [(0, 4606056518893174784)]),
  (0, 2, 0, 4599676419421066581, 4607182418800017408, 4605681218924227243, [(0, 4607182418800017408), (1, 4605380978949069210), (2, 4604180019048437077), (3, 4603322190547985554), (4, 4602678819172646912), (5, 4601678019255453468), (6, 4600877379321698714)]),
  (0, 2, 1, 4601177619296856747, 4607182418800017408, 4606431818862122325, [(0, 4604180019048437077), (1, 4603322190547985554), (2, 4602678819172646912), (3, 4601678019255453468), (4, 4600877379321698714), (5, 4600222310284990278)]),
  (0, 2, 2, 4602678819172646912, 4607182418800017408, 0, [(0, 4602678819172646912), (1, 4601678019255453468), (2, 4600877379321698714), (3, 4600222310284990278), (4, 4599676419421066581)]),
  (0, 2, 3, 4603179219131243633, 4607182418800017408, 4588167220373341981, [(0, 4603579539098121011), (1, 4603088237320589684), (2, 4602678819172646912), (3, 4601985957691512990)]),
  (0, 2, 4, 4603429419110541995, 4607182418800017408, 4590669220166325589, [(0, 4604180019048437077), (1, 4603718111394347796), (2, 4603322190547985554)]),
  (0, 2, 5, 4603579539098121011, 4607182418800017408, 4591870180066957721, [(0, 4604608933298662839), (1, 4604180019048437077)]),
  (0, 2, 6, 4603679619089840356, 4607182418800017408, 4592670820000712477, [(0, 4604930618986332160)]),
  (0, 3, 0, 4599676419421066581, 4607182418800017408, 4605681218924227243, [(0, 4607182418800017408), (1, 4605895676049340123), (2, 4604930618986332160), (3, 4604180019048437077), (4, 4603579539098121011), (5, 4603088237320589684)]),
  (0, 3, 1, 4600677219338260025, 4607182418800017408, 4606181618882823964, [(0, 4604930618986332160), (1, 4604180019048437077), (2, 4603579539098121011), (3, 4603088237320589684), (4, 4602678819172646912)]),
  (0, 3, 2, 4601678019255453468, 4607182418800017408, 4606682018841420686, [(0, 4603579539098121011), (1, 4603088237320589684), (2, 4602678819172646912), (3, 4601985957691512990)]),
  (0, 3, 3, 4602678819172646912, 4607182418800017408, 0, [(0, 4602678819172646912), (1, 4601985957691512990), (2, 4601392076421969627)]),
  (0, 3, 4, 4603054119141594453, 4607182418800017408, 4586165620538955093, [(0, 4603322190547985554), (1, 4602979059147804945)]),
  (0, 3, 5, 4603279299122962979, 4607182418800017408, 4589468260265693457, [(0, 4603804719079489536)]),
  (0, 4, 0, 4599676419421066581, 4607182418800017408, 4605681218924227243, [(0, 4607182418800017408), (1, 4606181618882823964), (2, 4605380978949069210), (3, 4604725909912360774), (4, 4604180019048437077)]),
  (0, 4, 1, 4600427019358961664, 4607182418800017408, 4606056518893174784, [(0, 4605380978949069210), (1, 4604725909912360774), (2, 4604180019048437077), (3, 4603718111394347796)]),
  (0, 4, 2, 4601177619296856747, 4607182418800017408, 4606431818862122325, [(0, 4604180019048437077), (1, 4603718111394347796), (2, 4603322190547985554)]),
  (0, 4, 3, 4601928219234751829, 4607182418800017408, 4606807118831069867, [(0, 4603322190547985554), (1, 4602979059147804945)]),
  (0, 4, 4, 4602678819172646912, 4607182418800017408, 0, [(0, 4602678819172646912)]),
  (0, 5, 0, 4599676419421066581, 4607182418800017408, 4605681218924227243, [(0, 4607182418800017408), (1, 4606363582504131863), (2, 4605681218924227243), (3, 4605103834356615641)]),
  (0, 5, 1, 4600276899371382648, 4607182418800017408, 4605981458899385276, [(0, 4605681218924227243), (1, 4605103834356615641), (2, 4604608933298662839)]),
  (0, 5, 2, 4600877379321698713, 4607182418800017408, 4606281698874543309, [(0, 4604608933298662839), (1, 4604180019048437077)]),
  (0, 5, 3, 4601477859272014780, 4607182418800017408, 4606581938849701342, [(0, 4603804719079489536)]),
  (0, 6, 0, 4599676419421066581, 4607182418800017408, 4605681218924227243, [(0, 4607182418800017408), (1, 4606489557318883486), (2, 4605895676049340123)]),
  (0, 6, 1, 4600176819379663303, 4607182418800017408, 4605931418903525604, [(0, 4605895676049340123), (1, 4605380978949069210)]),
  (0, 6, 2, 4600677219338260025, 4607182418800017408, 4606181618882823964, [(0, 4604930618986332160)]),
  (0, 7, 0, 4599676419421066581, 4607182418800017408, 4605681218924227243, [(0, 4607182418800017408), (1, 4606581938849701342)]),
  (0, 7, 1, 4600105333671292343, 4607182418800017408, 4605895676049340123, [(0, 4606056518893174784)]),
  (0, 8, 0, 4599676419421066581, 4607182418800017408, 4605681218924227243, [(0, 4607182418800017408)])]
noncomputable def cols1 : List ColE := [(1, 0, 0, 0, 4607182418800017408, 4602678819172646912, [(0, 4607182418800017408), (1, 4604180019048437077), (2, 4602678819172646912), (3, 4600877379321698714), (4, 4599676419421066581), (5, 4598818590920615058), (6, 4598175219545276416), (7, 4597174419628082972)]),
  (1, 0, 1, 4605681218924227243, 4607182418800017408, 4599676419421066581, [(0, 4602678819172646912), (1, 4600877379321698714), (2, 4599676419421066581), (3, 4598818590920615058), (4, 4598175219545276416), (5, 4597174419628082972), (6, 4596373779694328218)]),
  (1, 0, 2, 4604930618986332160, 4607182418800017408, 4598175219545276416, [(0, 4604180019048437077), (1, 4603322190547985554), (2, 4602678819172646912), (3, 4601678019255453468), (4, 4600877379321698714), (5, 4600222310284990278)]),
  (1, 0, 3, 4604680419007033799, 4607182418800017408, 4597174419628082973, [(0, 4604930618986332160), (1, 4604180019048437077), (2, 4603579539098121011), (3, 4603088237320589684), (4, 4602678819172646912)]),
  (1, 0, 4, 4604555319017384619, 4607182418800017408, 4596674019669486251, [(0, 4605380978949069210), (1, 4604725909912360774), (2, 4604180019048437077), (3, 4603718111394347796)]),
  (1, 0, 5, 4604480259023595111, 4607182418800017408, 4596373779694328219, [(0, 4605681218924227243), (1, 4605103834356615641), (2, 4604608933298662839)]),
  (1, 0, 6, 4604430219027735439, 4607182418800017408, 4596173619710889528, [(0, 4605895676049340123), (1, 4605380978949069210)]),
  (1, 0, 7, 4604394476173549959, 4607182418800017408, 4596030648294147608, [(0, 4606056518893174784)]),
  (1, 1, 0, 4595172819793696085, 4607182418800017408, 4604180019048437077, [(0, 4602678819172646912), (1, 4600877379321698714), (2, 4599676419421066581), (3, 4598818590920615058), (4, 4598175219545276416), (5, 4597174419628082972), (6, 4596373779694328218)]),
  (1, 1, 1, 0, 0, 0, [(0, 0), (1, 0), (2, 0), (3, 0), (4, 0), (5, 0)]),
  (1, 1, 2, 4604180019048437077, 4602678819172646912, 4595172819793696085, [(0, 4599676419421066581), (1, 4598818590920615058), (2, 4598175219545276416), (3, 4597174419628082972), (4, 4596373779694328218)]),
  (1, 1, 3, 4604180019048437077, 4604180019048437077, 4595172819793696085, [(0, 4602678819172646912), (1, 4601678019255453468), (2, 4600877379321698714), (3, 4600222310284990278)]),
  (1, 1, 4, 4604180019048437077, 4604930618986332160, 4595172819793696085, [(0, 4603579539098121011), (1, 4603088237320589684), (2, 4602678819172646912)]),
  (1, 1, 5, 4604180019048437077, 4605380978949069210, 4595172819793696085, [(0, 4604180019048437077), (1, 4603718111394347796)]),
  (1, 1, 6, 4604180019048437077, 4605681218924227243, 4595172819793696085, [(0, 4604608933298662839)]),
  (1, 2, 0, 4598175219545276416, 4607182418800017408, 4604930618986332160, [(0, 4604180019048437077), (1, 4603322190547985554), (2, 4602678819172646912), (3, 4601678019255453468), (4, 4600877379321698714), (5, 4600222310284990278)]),
  (1, 2, 1, 4599676419421066581, 4602678819172646912, 4605681218924227243, [(0, 4599676419421066581), (1, 4598818590920615058), (2, 4598175219545276416), (3, 4597174419628082972), (4, 4596373779694328218)]),
  (1, 2, 2, 4602678819172646912, 4602678819172646912, 0, [(0, 4598175219545276416), (1, 4597174419628082972), (2, 4596373779694328218), (3, 4595718710657619782)]),
  (1, 2, 3, 4603429419110541995, 4604180019048437077, 4590669220166325589, [(0, 4600877379321698714), (1, 4600222310284990278), (2, 4599676419421066581)]),
  (1, 2, 4, 4603679619089840356, 4604930618986332160, 4592670820000712477, [(0, 4602678819172646912), (1, 4601985957691512990)]),
  (1, 2, 5, 4603804719079489536, 4605380978949069210, 4593671619917905920, [(0, 4603322190547985554)]),
  (1, 3, 0, 4598675619503873137, 4607182418800017408, 4605180818965630521, [(0, 4604930618986332160), (1, 4604180019048437077), (2, 4603579539098121011), (3, 4603088237320589684), (4, 4602678819172646912)]),
  (1, 3, 1, 4599676419421066581, 4604180019048437077, 4605681218924227243, [(0, 4602678819172646912), (1, 4601678019255453468), (2, 4600877379321698714), (3, 4600222310284990278)]),
  (1, 3, 2, 4601177619296856747, 4604180019048437077, 4606431818862122325, [(0, 4600877379321698714), (1, 4600222310284990278), (2, 4599676419421066581)]),
  (1, 3, 3, 4602678819172646912, 4604180019048437077, 0, [(0, 4599676419421066581), (1, 4599214511766977300)]),
  (1, 3, 4, 4603179219131243633, 4604930618986332160, 4588167220373341981, [(0, 4601392076421969627)]),
  (1, 4, 0, 4598925819483171499, 4607182418800017408, 4605305918955279701, [(0, 4605380978949069210), (1, 4604725909912360774), (2, 4604180019048437077), (3, 4603718111394347796)]),
  (1, 4, 1, 4599676419421066581, 4604930618986332160, 4605681218924227243, [(0, 4603579539098121011), (1, 4603088237320589684), (2, 4602678819172646912)]),
  (1, 4, 2, 4600677219338260025, 4604930618986332160, 4606181618882823964, [(0, 4602678819172646912), (1, 4601985957691512990)]),
  (1, 4, 3, 4601678019255453468, 4604930618986332160, 4606682018841420686, [(0, 4601392076421969627)]),
  (1, 5, 0, 4599075939470750515, 4607182418800017408, 4605380978949069209, [(0, 4605681218924227243), (1, 4605103834356615641), (2, 4604608933298662839)]),
  (1, 5, 1, 4599676419421066581, 4605380978949069210, 4605681218924227243, [(0, 4604180019048437077), (1, 4603718111394347796)]),
  (1, 5, 2, 4600427019358961664, 4605380978949069210, 4606056518893174784, [(0, 4603322190547985554)]),
  (1, 6, 0, 4599176019462469860, 4607182418800017408, 4605431018944928881, [(0, 4605895676049340123), (1, 4605380978949069210)]),
  (1, 6, 1, 4599676419421066581, 4605681218924227243, 4605681218924227243, [(0, 4604608933298662839)]),
  (1, 7, 0, 4599247505170840820, 4607182418800017408, 4605466761799114361, [(0, 4606056518893174784)])]
noncomputable def cols2 : List ColE := [(2, 0, 0, 0, 4607182418800017408, 4602678819172646912, [(0, 4607182418800017408), (1, 4605380978949069210), (2, 4604180019048437077), (3, 4603322190547985554), (4, 4602678819172646912), (5, 4601678019255453468), (6, 4600877379321698714)]),
  (2, 0, 1, 4606431818862122325, 4607182418800017408, 4601177619296856747, [(0, 4604180019048437077), (1, 4603322190547985554), (2, 4602678819172646912), (3, 4601678019255453468), (4, 4600877379321698714), (5, 4600222310284990278)]),
  (2, 0, 2, 4605681218924227243, 4607182418800017408, 4599676419421066581, [(0, 4602678819172646912), (1, 4601678019255453468), (2, 4600877379321698714), (3, 4600222310284990278), (4, 4599676419421066581)]),
  (2, 0, 3, 4605180818965630521, 4607182418800017408, 4598675619503873137, [(0, 4603579539098121011), (1, 4603088237320589684), (2, 4602678819172646912), (3, 4601985957691512990)]),
  (2, 0, 4, 4604930618986332160, 4607182418800017408, 4598175219545276416, [(0, 4604180019048437077), (1, 4603718111394347796), (2, 4603322190547985554)]),
  (2, 0, 5, 4604780498998753144, 4607182418800017408, 4597574739594960349, [(0, 4604608933298662839), (1, 4604180019048437077)]),
  (2, 0, 6, 4604680419007033799, 4607182418800017408, 4597174419628082973, [(0, 4604930618986332160)]),
  (2, 1, 0, 4590669220166325589, 4607182418800017408, 4603429419110541995, [(0, 4604180019048437077), (1, 4603322190547985554), (2, 4602678819172646912), (3, 4601678019255453468), (4, 4600877379321698714), (5, 4600222310284990278)]),
  (2, 1, 1, 0, 4602678819172646912, 4602678819172646912, [(0, 4599676419421066581), (1, 4598818590920615058), (2, 4598175219545276416), (3, 4597174419628082972), (4, 4596373779694328218)]),
  (2, 1, 2, 4605681218924227243, 4602678819172646912, 4599676419421066581, [(0, 4598175219545276416), (1, 4597174419628082972), (2, 4596373779694328218), (3, 4595718710657619782)]),
  (2, 1, 3, 4604930618986332160, 4604180019048437077, 4598175219545276416, [(0, 4600877379321698714), (1, 4600222310284990278), (2, 4599676419421066581)]),
  (2, 1, 4, 4604680419007033799, 4604930618986332160, 4597174419628082973, [(0, 4602678819172646912), (1, 4601985957691512990)]),
  (2, 1, 5, 4604555319017384619, 4605380978949069210, 4596674019669486251, [(0, 4603322190547985554)]),
  (2, 2, 0, 4595172819793696085, 4607182418800017408, 4604180019048437077, [(0, 4602678819172646912), (1, 4601678019255453468), (2, 4600877379321698714), (3, 4600222310284990278), (4, 4599676419421066581)]),
  (2, 2, 1, 4595172819793696085, 4602678819172646912, 4604180019048437077, [(0, 4598175219545276416), (1, 4597174419628082972), (2, 4596373779694328218), (3, 4595718710657619782)]),
  (2, 2, 2, 0, 0, 0, [(0, 0), (1, 0), (2, 0)]),
  (2, 2, 3, 4604180019048437077, 4599676419421066581, 4595172819793696085, [(0, 4596373779694328218), (1, 4595718710657619782)]),
  (2, 2, 4, 4604180019048437077, 4602678819172646912, 4595172819793696085, [(0, 4599676419421066581)]),
  (2, 3, 0, 4597174419628082973, 4607182418800017408, 4604680419007033799, [(0, 4603579539098121011), (1, 4603088237320589684), (2, 4602678819172646912), (3, 4601985957691512990)]),
  (2, 3, 1, 4598175219545276416, 4604180019048437077, 4604930618986332160, [(0, 4600877379321698714), (1, 4600222310284990278), (2, 4599676419421066581)]),
  (2, 3, 2, 4599676419421066581, 4599676419421066581, 4605681218924227243, [(0, 4596373779694328218), (1, 4595718710657619782)]),
  (2, 3, 3, 4602678819172646912, 4599676419421066581, 0, [(0, 4595172819793696085)]),
  (2, 4, 0, 4598175219545276416, 4607182418800017408, 4604930618986332160, [(0, 4604180019048437077), (1, 4603718111394347796), (2, 4603322190547985554)]),
  (2, 4, 1, 4598675619503873137, 4604930618986332160, 4605180818965630521, [(0, 4602678819172646912), (1, 4601985957691512990)]),
  (2, 4, 2, 4599676419421066581, 4602678819172646912, 4605681218924227243, [(0, 4599676419421066581)]),
  (2, 5, 0, 4598475459520434449, 4607182418800017408, 4605080738973911176, [(0, 4604608933298662839), (1, 4604180019048437077)]),
  (2, 5, 1, 4598925819483171499, 4605380978949069210, 4605305918955279701, [(0, 4603322190547985554)]),
  (2, 6, 0, 4598675619503873137, 4607182418800017408, 4605180818965630521, [(0, 4604930618986332160)])]
noncomputable def cols3 : List ColE := [(3, 0, 0, 0, 4607182418800017408, 4602678819172646912, [(0, 4607182418800017408), (1, 4605895676049340123), (2, 4604930618986332160), (3, 4604180019048437077), (4, 4603579539098121011), (5, 4603088237320589684)]),
  (3, 0, 1, 4606682018841420686, 4607182418800017408, 4601678019255453468, [(0, 4604930618986332160), (1, 4604180019048437077), (2, 4603579539098121011), (3, 4603088237320589684), (4, 4602678819172646912)]),
  (3, 0, 2, 4606181618882823964, 4607182418800017408, 4600677219338260025, [(0, 4603579539098121011), (1, 4603088237320589684), (2, 4602678819172646912), (3, 4601985957691512990)]),
  (3, 0, 3, 4605681218924227243, 4607182418800017408, 4599676419421066581, [(0, 4602678819172646912), (1, 4601985957691512990), (2, 4601392076421969627)]),
  (3, 0, 4, 4605305918955279701, 4607182418800017408, 4598925819483171499, [(0, 4603322190547985554), (1, 4602979059147804945)]),
  (3, 0, 5, 4605080738973911176, 4607182418800017408, 4598475459520434449, [(0, 4603804719079489536)]),
  (3, 1, 0, 4588167220373341981, 4607182418800017408, 4603179219131243633, [(0, 4604930618986332160), (1, 4604180019048437077), (2, 4603579539098121011), (3, 4603088237320589684), (4, 4602678819172646912)]),
  (3, 1, 1, 0, 4604180019048437077, 4602678819172646912, [(0, 4602678819172646912), (1, 4601678019255453468), (2, 4600877379321698714), (3, 4600222310284990278)]),
  (3, 1, 2, 4606431818862122325, 4604180019048437077, 4601177619296856747, [(0, 4600877379321698714), (1, 4600222310284990278), (2, 4599676419421066581)]),
  (3, 1, 3, 4605681218924227243, 4604180019048437077, 4599676419421066581, [(0, 4599676419421066581), (1, 4599214511766977300)]),
  (3, 1, 4, 4605180818965630521, 4604930618986332160, 4598675619503873137, [(0, 4601392076421969627)]),
  (3, 2, 0, 4592670820000712477, 4607182418800017408, 4603679619089840356, [(0, 4603579539098121011), (1, 4603088237320589684), (2, 4602678819172646912), (3, 4601985957691512990)]),
  (3, 2, 1, 4590669220166325589, 4604180019048437077, 4603429419110541995, [(0, 4600877379321698714), (1, 4600222310284990278), (2, 4599676419421066581)]),
  (3, 2, 2, 0, 4599676419421066581, 4602678819172646912, [(0, 4596373779694328218), (1, 4595718710657619782)]),
  (3, 2, 3, 4605681218924227243, 4599676419421066581, 4599676419421066581, [(0, 4595172819793696085)]),
  (3, 3, 0, 4595172819793696085, 4607182418800017408, 4604180019048437077, [(0, 4602678819172646912), (1, 4601985957691512990), (2, 4601392076421969627)]),
  (3, 3, 1, 4595172819793696085, 4604180019048437077, 4604180019048437077, [(0, 4599676419421066581), (1, 4599214511766977300)]),
  (3, 3, 2, 4595172819793696085, 4599676419421066581, 4604180019048437077, [(0, 4595172819793696085)]),
  (3, 4, 0, 4596674019669486251, 4607182418800017408, 4604555319017384619, [(0, 4603322190547985554), (1, 4602979059147804945)]),
  (3, 4, 1, 4597174419628082973, 4604930618986332160, 4604680419007033799, [(0, 4601392076421969627)]),
  (3, 5, 0, 4597574739594960349, 4607182418800017408, 4604780498998753144, [(0, 4603804719079489536)])]
noncomputable def cols4 : List ColE := [(4, 0, 0, 0, 4607182418800017408, 4602678819172646912, [(0, 4607182418800017408), (1, 4606181618882823964), (2, 4605380978949069210), (3, 4604725909912360774), (4, 4604180019048437077)]),
  (4, 0, 1, 4606807118831069867, 4607182418800017408, 4601928219234751829, [(0, 4605380978949069210), (1, 4604725909912360774), (2, 4604180019048437077), (3, 4603718111394347796)]),
  (4, 0, 2, 4606431818862122325, 4607182418800017408, 4601177619296856747, [(0, 4604180019048437077), (1, 4603718111394347796), (2, 4603322190547985554)]),
  (4, 0, 3, 4606056518893174784, 4607182418800017408, 4600427019358961664, [(0, 4603322190547985554), (1, 4602979059147804945)]),
  (4, 0, 4, 4605681218924227243, 4607182418800017408, 4599676419421066581, [(0, 4602678819172646912)]),
  (4, 1, 0, 4586165620538955093, 4607182418800017408, 4603054119141594453, [(0, 4605380978949069210), (1, 4604725909912360774), (2, 4604180019048437077), (3, 4603718111394347796)]),
  (4, 1, 1, 0, 4604930618986332160, 4602678819172646912, [(0, 4603579539098121011), (1, 4603088237320589684), (2, 4602678819172646912)]),
  (4, 1, 2, 4606682018841420686, 4604930618986332160, 4601678019255453468, [(0, 4602678819172646912), (1, 4601985957691512990)]),
  (4, 1, 3, 4606181618882823964, 4604930618986332160, 4600677219338260025, [(0, 4601392076421969627)]),
  (4, 2, 0, 4590669220166325589, 4607182418800017408, 4603429419110541995, [(0, 4604180019048437077), (1, 4603718111394347796), (2, 4603322190547985554)]),
  (4, 2, 1, 4588167220373341981, 4604930618986332160, 4603179219131243633, [(0, 4602678819172646912), (1, 4601985957691512990)]),
  (4, 2, 2, 0, 4602678819172646912, 4602678819172646912, [(0, 4599676419421066581)]),
  (4, 3, 0, 4593671619917905920, 4607182418800017408, 4603804719079489536, [(0, 4603322190547985554), (1, 4602979059147804945)]),
  (4, 3, 1, 4592670820000712477, 4604930618986332160, 4603679619089840356, [(0, 4601392076421969627)]),
  (4, 4, 0, 4595172819793696085, 4607182418800017408, 4604180019048437077, [(0, 4602678819172646912)])]
noncomputable def cols5 : List ColE := [(5, 0, 0, 0, 4607182418800017408, 4602678819172646912, [(0, 4607182418800017408), (1, 4606363582504131863), (2, 4605681218924227243), (3, 4605103834356615641)]),
  (5, 0, 1, 4606882178824859375, 4607182418800017408, 4602078339222330845, [(0, 4605681218924227243), (1, 4605103834356615641), (2, 4604608933298662839)]),
  (5, 0, 2, 4606581938849701342, 4607182418800017408, 4601477859272014780, [(0, 4604608933298662839), (1, 4604180019048437077)]),
  (5, 0, 3, 4606281698874543309, 4607182418800017408, 4600877379321698713, [(0, 4603804719079489536)]),
  (5, 1, 0, 4584964660638322960, 4607182418800017408, 4602979059147804945, [(0, 4605681218924227243), (1, 4605103834356615641), (2, 4604608933298662839)]),
  (5, 1, 1, 0, 4605380978949069210, 4602678819172646912, [(0, 4604180019048437077), (1, 4603718111394347796)]),
  (5, 1, 2, 4606807118831069867, 4605380978949069210, 4601928219234751829, [(0, 4603322190547985554)]),
  (5, 2, 0, 4589468260265693457, 4607182418800017408, 4603279299122962979, [(0, 4604608933298662839), (1, 4604180019048437077)]),
  (5, 2, 1, 4586165620538955093, 4605380978949069210, 4603054119141594453, [(0, 4603322190547985554)]),
  (5, 3, 0, 4591870180066957721, 4607182418800017408, 4603579539098121011, [(0, 4603804719079489536)])]
noncomputable def cols6 : List ColE := [(6, 0, 0, 0, 4607182418800017408, 4602678819172646912, [(0, 4607182418800017408), (1, 4606489557318883486), (2, 4605895676049340123)]),
  (6, 0, 1, 4606932218820719047, 4607182418800017408, 4602178419214050191, [(0, 4605895676049340123), (1, 4605380978949069210)]),
  (6, 0, 2, 4606682018841420686, 4607182418800017408, 4601678019255453468, [(0, 4604930618986332160)]),
  (6, 1, 0, 4583663620745971483, 4607182418800017408, 4602929019151945273, [(0, 4605895676049340123), (1, 4605380978949069210)]),
  (6, 1, 1, 0, 4605681218924227243, 4602678819172646912, [(0, 4604608933298662839)]),
  (6, 2, 0, 4588167220373341981, 4607182418800017408, 4603179219131243633, [(0, 4604930618986332160)])]
noncomputable def cols7 : List ColE := [(7, 0, 0, 0, 4607182418800017408, 4602678819172646912, [(0, 4607182418800017408), (1, 4606581938849701342)]),
  (7, 0, 1, 4606967961674904527, 4607182418800017408, 4602249904922421151, [(0, 4606056518893174784)]),
  (7, 1, 0, 4582519849412036123, 4607182418800017408, 4602893276297759793, [(0, 4606056518893174784)])]
noncomputable def cols8 : List ColE := [(8, 0, 0, 0, 4607182418800017408, 4602678819172646912, [(0, 4607182418800017408)])]
theorem cols0_ok : cols0.all colB = true := by decide +kernel
theorem cols1_ok : cols1.all colB = true := by decide +kernel
theorem cols2_ok : cols2.all colB = true := by decide +kernel
theorem cols3_ok : cols3.all colB = true := by decide +kernel
theorem cols4_ok : cols4.all colB = true := by decide +kernel
theorem cols5_ok : cols5.all colB = true := by decide +kernel
theorem cols6_ok : cols6.all colB = true := by decide +kernel
theorem cols7_ok : cols7.all colB = true := by decide +kernel
theorem cols8_ok : cols8.all colB = true := by decide +kernel
noncomputable def colsOf : Nat → List ColE
  | 0 => cols0
  | 1 => cols1
  | 2 => cols2
  | 3 => cols3
  | 4 => cols4
  | 5 => cols5
  | 6 => cols6
  | 7 => cols7
  | 8 => cols8
  | _ => []
theorem colsOf_ok {n : Nat} (h : n ≤ 8) : (colsOf n).all colB = true := by
  rcases (by omega : n = 0 ∨ n = 1 ∨ n = 2 ∨ n = 3 ∨ n = 4 ∨ n = 5 ∨ n = 6 ∨ n = 7 ∨ n = 8) with rfl | rfl | rfl | rfl | rfl | rfl | rfl | rfl | rfl
  · exact cols0_ok
  · exact cols1_ok
  · exact cols2_ok
  · exact cols3_ok
  · exact cols4_ok
  · exact cols5_ok
  · exact cols6_ok
  · exact cols7_ok
  · exact cols8_ok
theorem col_has : ((List.range 9).all fun x => (List.range (9 - x)).all fun y => (List.range (9 - x - y)).all fun z => (List.range (9 - x - y - z)).all fun u =>
    (colsOf x).any fun e => decide (e.1 = (x : Int)) && (decide (e.2.1 = (y : Int)) && (decide (e.2.2.1 = (z : Int)) && e.2.2.2.2.2.2.any fun p => decide (p.1 = (u : Int))))) = true := by decide +kernel
/-- what the colours of law must be -/
structure ColOk (a b c x y z : Int) : Prop where
  h1 : HueOk (hueF a b c)
  h2 : HueOk (hueF x y z)
  z1 : HsvOk (zF (hueF a b c))
  z2 : HsvOk (zF (hueF x y z))
  p0 : RoundIs (hsvL (zF (hueF a b c)) (satF x y z) (maxI x y z)).1 (1024 * x)
  p1 : RoundIs (hsvL (zF (hueF a b c)) (satF x y z) (maxI x y z)).2.1 (1024 * y)
  p2 : RoundIs (hsvL (zF (hueF a b c)) (satF x y z) (maxI x y z)).2.2 (1024 * z)
  q0 : RoundIs (hsvL (zF (hueF x y z)) (satF a b c) (maxI a b c)).1 (1024 * a)
  q1 : RoundIs (hsvL (zF (hueF x y z)) (satF a b c) (maxI a b c)).2.1 (1024 * b)
  q2 : RoundIs (hsvL (zF (hueF x y z)) (satF a b c) (maxI a b c)).2.2 (1024 * c)
theorem col_ok {x y z u : Nat} (h : x + y + z + u ≤ 8) : ColOk ((u : Int) + 2 * ((y : Int) + z)) ((u : Int) + 2 * ((x : Int) + z)) ((u : Int) + 2 * ((x : Int) + y)) x y z := by
  have k := List.all_eq_true.mp col_has x (List.mem_range.mpr (by omega))
  have k := List.all_eq_true.mp k y (List.mem_range.mpr (by omega))
  have k := List.all_eq_true.mp k z (List.mem_range.mpr (by omega))
  have k := List.all_eq_true.mp k u (List.mem_range.mpr (by omega))
  obtain ⟨e, he, k⟩ := List.any_eq_true.mp k
  have c := List.all_eq_true.mp (colsOf_ok (by omega : x ≤ 8)) e he
  obtain ⟨x', y', z', t, d, h', ss⟩ := e
  simp only [Bool.and_eq_true, decide_eq_true_eq] at k
  obtain ⟨rfl, rfl, rfl, k⟩ := k
  obtain ⟨⟨u', s⟩, hu, k⟩ := List.any_eq_true.mp k
  have k := of_decide_eq_true k
  dsimp only at k
  subst k
  unfold colB at c
  simp only [Bool.and_eq_true, decide_eq_true_eq] at c
  obtain ⟨c1, c2, c3, c4, c5, c6, c7, c8⟩ := c
  have c9 := List.all_eq_true.mp c8 _ hu
  simp only [Bool.and_eq_true, decide_eq_true_eq] at c9
  obtain ⟨d1, d2, d3⟩ := c9
  unfold backB at c7 d3
  simp only [Bool.and_eq_true] at c7 d3
  obtain ⟨e1, e2, e3⟩ := c7
  obtain ⟨f1, f2, f3⟩ := d3
  rw [← d1] at c4 c6 e1 e2 e3
  rw [← c1] at c3 c5 f1 f2 f3
  rw [← c2] at e1 e2 e3
  rw [← d2] at f1 f2 f3
  exact ⟨hueB_of c4, hueB_of c3, zB_of c6, zB_of c5, rIs_of e1, rIs_of e2, rIs_of e3, rIs_of f1, rIs_of f2, rIs_of f3⟩
theorem max_rng {a b c : Int} (ha : 0 ≤ a ∧ a ≤ 16) (hb : 0 ≤ b ∧ b ≤ 16) (hc : 0 ≤ c ∧ c ≤ 16) : 0 ≤ maxI a b c ∧ maxI a b c ≤ 16 := by
  unfold maxI
  omega
theorem sign_fin : ∀ b0 b1 b2 b3 : Fin 2, ∃ x y z u : Fin 2, x.val + y.val + z.val + u.val ≤ 1 ∧
    unN b0.val b1.val 1 + unN b2.val b3.val 1 = (u.val : Int) + 2 * ((y.val : Int) + z.val) ∧ unN b0.val b2.val 1 + unN b1.val b3.val 1 = (u.val : Int) + 2 * ((x.val : Int) + z.val) ∧ unN b0.val b3.val 1 + unN b1.val b2.val 1 = (u.val : Int) + 2 * ((x.val : Int) + y.val) ∧
    (if ((true == true) && ((((b1.val : Int) == (b0.val : Int)) == true) && ((((b2.val : Int) == (b0.val : Int)) == false) && (((b3.val : Int) == (b0.val : Int)) == false)))) = true then (1 : Nat) else 0) = x.val ∧
    (if ((true == true) && ((((b1.val : Int) == (b0.val : Int)) == false) && ((((b2.val : Int) == (b0.val : Int)) == true) && (((b3.val : Int) == (b0.val : Int)) == false)))) = true then (1 : Nat) else 0) = y.val ∧
    (if ((true == true) && ((((b1.val : Int) == (b0.val : Int)) == false) && ((((b2.val : Int) == (b0.val : Int)) == false) && (((b3.val : Int) == (b0.val : Int)) == true)))) = true then (1 : Nat) else 0) = z.val := by decide +kernel
theorem un_mul (a b p : Nat) : unN a b (p : Int) = (p : Int) * unN a b 1 := by
  unfold unN
  split
  · exact (Int.mul_zero _).symm
  · exact (Int.mul_one _).symm
theorem if_mul {c : Bool} {p x : Nat} (h : (if c = true then (1 : Nat) else 0) = x) : (if c = true then (p : Int) else 0) = ((p * x : Nat) : Int) := by
  subst h
  split
  · rw [Nat.mul_one]
  · rw [Nat.mul_zero]; rfl
theorem way_mul {p a b : Int} {u y z : Nat} {q : Nat} (hp : p = (q : Int)) (h : a + b = (u : Int) + 2 * ((y : Int) + z)) : p * a + p * b = ((q * u : Nat) : Int) + 2 * (((q * y : Nat) : Int) + ((q * z : Nat) : Int)) := by
  subst hp
  rw [← Int.mul_add, h, Int.mul_add, Int.natCast_mul, Int.natCast_mul, Int.natCast_mul, ← Int.mul_add (q : Int) (y : Int), Int.mul_left_comm]
/-- one sign's share -/
theorem sign_one (p : Nat) {b0 b1 b2 b3 : Int} (h0 : ∃ b : Fin 2, b0 = (b.val : Int)) (h1 : ∃ b : Fin 2, b1 = (b.val : Int)) (h2 : ∃ b : Fin 2, b2 = (b.val : Int)) (h3 : ∃ b : Fin 2, b3 = (b.val : Int)) : ∃ x y z u : Nat, x + y + z + u ≤ p ∧
    (if b0 = b1 then 0 else (p : Int)) + (if b2 = b3 then 0 else (p : Int)) = (u : Int) + 2 * ((y : Int) + z) ∧
    (if b0 = b2 then 0 else (p : Int)) + (if b1 = b3 then 0 else (p : Int)) = (u : Int) + 2 * ((x : Int) + z) ∧
    (if b0 = b3 then 0 else (p : Int)) + (if b1 = b2 then 0 else (p : Int)) = (u : Int) + 2 * ((x : Int) + y) ∧
    (if ((true == true) && (((b1 == b0) == true) && (((b2 == b0) == false) && ((b3 == b0) == false)))) = true then (p : Int) else 0) = x ∧
    (if ((true == true) && (((b1 == b0) == false) && (((b2 == b0) == true) && ((b3 == b0) == false)))) = true then (p : Int) else 0) = y ∧
    (if ((true == true) && (((b1 == b0) == false) && (((b2 == b0) == false) && ((b3 == b0) == true)))) = true then (p : Int) else 0) = z := by
  obtain ⟨c0, e0⟩ := h0
  obtain ⟨c1, e1⟩ := h1
  obtain ⟨c2, e2⟩ := h2
  obtain ⟨c3, e3⟩ := h3
  rw [un_int e0 e1, un_int e2 e3, un_int e0 e2, un_int e1 e3, un_int e0 e3, un_int e1 e2, e0, e1, e2, e3]
  obtain ⟨x, y, z, u, hs, k1, k2, k3, k4, k5, k6⟩ := sign_fin c0 c1 c2 c3
  refine ⟨p * x.val, p * y.val, p * z.val, p * u.val, ?_, ?_, ?_, ?_, if_mul k4, if_mul k5, if_mul k6⟩
  · rw [← Nat.mul_add, ← Nat.mul_add, ← Nat.mul_add]
    exact Nat.le_trans (Nat.mul_le_mul_left p hs) (Nat.le_of_eq (Nat.mul_one p))
  · rw [un_mul, un_mul c2.val]; exact way_mul rfl k1
  · rw [un_mul, un_mul c1.val]; exact way_mul rfl k2
  · rw [un_mul, un_mul c1.val]; exact way_mul rfl k3
theorem way_add {a b c d : Int} {u y z u' y' z' : Nat} (h : a + b = (u : Int) + 2 * ((y : Int) + z)) (h' : c + d = (u' : Int) + 2 * ((y' : Int) + z')) : (a + c) + (b + d) = ((u + u' : Nat) : Int) + 2 * (((y + y' : Nat) : Int) + ((z + z' : Nat) : Int)) := by
  omega
theorem part_add {a b : Int} {x x' : Nat} (h : a = x) (h' : b = x') : a + b = ((x + x' : Nat) : Int) := by
  omega
theorem four_add {x y z u x' y' z' u' P p : Nat} (h : x + y + z + u ≤ P) (h' : x' + y' + z' + u' ≤ p) : (x + x') + (y + y') + (z + z') + (u + u') ≤ P + p := by
  omega
/-- the ways and the signs of four rows -/
structure Ways (v0 v1 v2 v3 : Int) (n : Nat) (P : Nat) : Prop where
  ex : ∃ x y z u : Nat, x + y + z + u ≤ P ∧ dueTo v0 v1 n + dueTo v2 v3 n = (u : Int) + 2 * ((y : Int) + z) ∧ dueTo v0 v2 n + dueTo v1 v3 n = (u : Int) + 2 * ((x : Int) + z) ∧ dueTo v0 v3 n + dueTo v1 v2 n = (u : Int) + 2 * ((x : Int) + y) ∧
    partTo v0 v1 v2 v3 true true false false n = x ∧ partTo v0 v1 v2 v3 true false true false n = y ∧ partTo v0 v1 v2 v3 true false false true n = z
theorem ways_step {v0 v1 v2 v3 : Int} {n P p : Nat} (h : Ways v0 v1 v2 v3 n P) (hp : price n = (p : Int)) : Ways v0 v1 v2 v3 (n + 1) (P + p) := by
  obtain ⟨x, y, z, u, h1, h2, h3, h4, h5, h6, h7⟩ := h.ex
  obtain ⟨x', y', z', u', g1, g2, g3, g4, g5, g6, g7⟩ := sign_one p (bit_fin v0 n) (bit_fin v1 n) (bit_fin v2 n) (bit_fin v3 n)
  rw [← hp] at g2 g3 g4 g5 g6 g7
  exact ⟨⟨x + x', y + y', z + z', u + u', four_add h1 g1, way_add h2 g2, way_add h3 g3, way_add h4 g4, part_add h5 g5, part_add h6 g6, part_add h7 g7⟩⟩
theorem ways_all (v0 v1 v2 v3 : Int) : Ways v0 v1 v2 v3 5 8 :=
  ways_step (n := 4) (P := 6) (p := 2) (ways_step (n := 3) (P := 4) (p := 2) (ways_step (n := 2) (P := 2) (p := 2) (ways_step (n := 1) (P := 1) (p := 1) (ways_step (n := 0) (P := 0) (p := 1) ⟨⟨0, 0, 0, 0, Nat.le_refl _, rfl, rfl, rfl, rfl, rfl, rfl⟩⟩ rfl) rfl) rfl) rfl) rfl
/-- all that law asks of its colours -/
structure ColAll (a b c x y z : Int) : Prop extends ColOk a b c x y z where
  ra : 0 ≤ a ∧ a ≤ 16
  rb : 0 ≤ b ∧ b ≤ 16
  rc : 0 ≤ c ∧ c ≤ 16
  rx : 0 ≤ x ∧ x ≤ 16
  ry : 0 ≤ y ∧ y ≤ 16
  rz : 0 ≤ z ∧ z ≤ 16
theorem col_all (v0 v1 v2 v3 : Int) : ColAll (dueI v0 v1 + dueI v2 v3) (dueI v0 v2 + dueI v1 v3) (dueI v0 v3 + dueI v1 v2) (partI v0 v1 v2 v3 true true false false) (partI v0 v1 v2 v3 true false true false) (partI v0 v1 v2 v3 true false false true) := by
  obtain ⟨x, y, z, u, h1, h2, h3, h4, h5, h6, h7⟩ := (ways_all v0 v1 v2 v3).ex
  rw [show dueI v0 v1 + dueI v2 v3 = _ from h2, show dueI v0 v2 + dueI v1 v3 = _ from h3, show dueI v0 v3 + dueI v1 v2 = _ from h4, show partI v0 v1 v2 v3 true true false false = _ from h5, show partI v0 v1 v2 v3 true false true false = _ from h6, show partI v0 v1 v2 v3 true false false true = _ from h7]
  exact ⟨col_ok h1, by omega, by omega, by omega, by omega, by omega, by omega⟩
end Mine
namespace Mine
noncomputable def codeF (a b : Nat) : Str := Txt.join (Str.ofString "") [codeD (a : Int) ((b : Int) + 1) 0, codeD (a : Int) ((b : Int) + 1) 1, codeD (a : Int) ((b : Int) + 1) 2]
noncomputable def bad0B (x : Str) : Bool := decide (x.length ≤ 100 ∧ ((Txt.slice x none (some 3) != Str.ofString "229") = true))
theorem bad0_fin : ∀ a : Fin 3, ∀ b : Fin 9, ∀ l : Fin 3, ∀ m : Fin 4, bad0B (codeF a.val b.val ++ Txt.slice (leadF l.val) (some 3) none ++ (Txt.mul (markF m.val) 3 ++ Str.ofString "2121" ++ markF m.val) ++ Str.ofString ")") = true := by decide +kernel
noncomputable def bad1B (x : Str) : Bool := decide (x.length ≤ 100 ∧ ((Txt.slice x none (some 3) != Str.ofString "229") = false) ∧ (Txt.find x (Str.ofString "(") < 0))
theorem bad1_fin : ∀ l : Fin 3, ∀ m : Fin 4, bad1B (Str.ofString "229 " ++ (Txt.mul (markF m.val) 3 ++ Str.ofString "2121" ++ markF m.val) ++ Str.ofString ")") = true := by decide +kernel
noncomputable def bad2B (x : Str) : Bool := decide (x.length ≤ 100 ∧ ((Txt.slice x none (some 3) != Str.ofString "229") = false) ∧ (0 ≤ Txt.find x (Str.ofString "(")) ∧ (Txt.find x (Str.ofString "(") + 1 < (x.length : Int)) ∧ (Txt.find3 x (Str.ofString ")") (Txt.find x (Str.ofString "(") + 1) < 0))
theorem bad2_fin : ∀ l : Fin 3, ∀ m : Fin 4, bad2B (leadF l.val ++ (Txt.mul (markF m.val) 3 ++ Str.ofString "2121" ++ markF m.val)) = true := by decide +kernel
noncomputable def bad3B (x : Str) : Bool := decide (x.length ≤ 100 ∧ ((Txt.slice x none (some 3) != Str.ofString "229") = false) ∧ (0 ≤ Txt.find x (Str.ofString "(")) ∧ (Txt.find x (Str.ofString "(") + 1 < (x.length : Int)) ∧ (0 < Txt.find3 x (Str.ofString ")") (Txt.find x (Str.ofString "(") + 1)) ∧ (Txt.find3 x (Str.ofString ")") (Txt.find x (Str.ofString "(") + 1) - 1 < (x.length : Int)) ∧ ((Txt.item x (Txt.find x (Str.ofString "(") + 1) != Txt.item x (Txt.find3 x (Str.ofString ")") (Txt.find x (Str.ofString "(") + 1) - 1)) = true))
theorem bad3_fin : ∀ l : Fin 3, ∀ m : Fin 4, bad3B (leadF l.val ++ (Txt.mul (markF m.val) 3 ++ Str.ofString "2121" ++ markF m.val) ++ Str.ofString "y)") = true := by decide +kernel
noncomputable def bad4B (x : Str) : Bool := decide (x.length ≤ 100 ∧ ((Txt.slice x none (some 3) != Str.ofString "229") = false) ∧ (0 ≤ Txt.find x (Str.ofString "(")) ∧ (Txt.find x (Str.ofString "(") + 1 < (x.length : Int)) ∧ (0 < Txt.find3 x (Str.ofString ")") (Txt.find x (Str.ofString "(") + 1)) ∧ (Txt.find3 x (Str.ofString ")") (Txt.find x (Str.ofString "(") + 1) - 1 < (x.length : Int)) ∧ ((Txt.item x (Txt.find x (Str.ofString "(") + 1) != Txt.item x (Txt.find3 x (Str.ofString ")") (Txt.find x (Str.ofString "(") + 1) - 1)) = false) ∧ ((Txt.split (Txt.slice x (some (Txt.find x (Str.ofString "(") + 1)) (some (Txt.find3 x (Str.ofString ")") (Txt.find x (Str.ofString "(") + 1)))) (Txt.item x (Txt.find x (Str.ofString "(") + 1))).length ≠ 5))
theorem bad4_fin : ∀ l : Fin 3, ∀ m : Fin 4, bad4B (leadF l.val ++ markF m.val ++ (Txt.mul (markF m.val) 3 ++ Str.ofString "2121" ++ markF m.val) ++ Str.ofString ")") = true := by decide +kernel
noncomputable def bad5B (x : Str) : Bool := decide (x.length ≤ 100 ∧ ((Txt.slice x none (some 3) != Str.ofString "229") = false) ∧ (0 ≤ Txt.find x (Str.ofString "(")) ∧ (Txt.find x (Str.ofString "(") + 1 < (x.length : Int)) ∧ (0 < Txt.find3 x (Str.ofString ")") (Txt.find x (Str.ofString "(") + 1)) ∧ (Txt.find3 x (Str.ofString ")") (Txt.find x (Str.ofString "(") + 1) - 1 < (x.length : Int)) ∧ ((Txt.item x (Txt.find x (Str.ofString "(") + 1) != Txt.item x (Txt.find3 x (Str.ofString ")") (Txt.find x (Str.ofString "(") + 1) - 1)) = false) ∧ ((Txt.split (Txt.slice x (some (Txt.find x (Str.ofString "(") + 1)) (some (Txt.find3 x (Str.ofString ")") (Txt.find x (Str.ofString "(") + 1)))) (Txt.item x (Txt.find x (Str.ofString "(") + 1))).length ≠ 5))
theorem bad5_fin : ∀ l : Fin 3, ∀ m : Fin 4, bad5B (leadF l.val ++ Txt.slice (Txt.mul (markF m.val) 3 ++ Str.ofString "2121" ++ markF m.val) (some 1) none ++ Str.ofString ")") = true := by decide +kernel
noncomputable def bad6B (x : Str) : Bool := decide (x.length ≤ 100 ∧ ((Txt.slice x none (some 3) != Str.ofString "229") = false) ∧ (0 ≤ Txt.find x (Str.ofString "(")) ∧ (Txt.find x (Str.ofString "(") + 1 < (x.length : Int)) ∧ (0 < Txt.find3 x (Str.ofString ")") (Txt.find x (Str.ofString "(") + 1)) ∧ (Txt.find3 x (Str.ofString ")") (Txt.find x (Str.ofString "(") + 1) - 1 < (x.length : Int)) ∧ ((Txt.item x (Txt.find x (Str.ofString "(") + 1) != Txt.item x (Txt.find3 x (Str.ofString ")") (Txt.find x (Str.ofString "(") + 1) - 1)) = true))
theorem bad6_fin : ∀ l : Fin 3, ∀ m : Fin 4, bad6B (leadF l.val ++ Str.ofString ")" ++ (Txt.mul (markF m.val) 3 ++ Str.ofString "2121" ++ markF m.val) ++ Str.ofString ")") = true := by decide +kernel
noncomputable def bad7B (x : Str) : Bool := decide (x.length ≤ 100 ∧ ((Txt.slice x none (some 3) != Str.ofString "229") = false) ∧ (0 ≤ Txt.find x (Str.ofString "(")) ∧ (Txt.find x (Str.ofString "(") + 1 < (x.length : Int)) ∧ (0 < Txt.find3 x (Str.ofString ")") (Txt.find x (Str.ofString "(") + 1)) ∧ (Txt.find3 x (Str.ofString ")") (Txt.find x (Str.ofString "(") + 1) - 1 < (x.length : Int)) ∧ ((Txt.item x (Txt.find x (Str.ofString "(") + 1) != Txt.item x (Txt.find3 x (Str.ofString ")") (Txt.find x (Str.ofString "(") + 1) - 1)) = false) ∧ ((Txt.split (Txt.slice x (some (Txt.find x (Str.ofString "(") + 1)) (some (Txt.find3 x (Str.ofString ")") (Txt.find x (Str.ofString "(") + 1)))) (Txt.item x (Txt.find x (Str.ofString "(") + 1))).length = 5) ∧ ((Txt.split (Txt.slice x (some (Txt.find x (Str.ofString "(") + 1)) (some (Txt.find3 x (Str.ofString ")") (Txt.find x (Str.ofString "(") + 1)))) (Txt.item x (Txt.find x (Str.ofString "(") + 1))).getD 3 Str.empty = Str.ofString "21z1"))
theorem bad7_fin : ∀ l : Fin 3, ∀ m : Fin 4, bad7B (leadF l.val ++ Txt.mul (markF m.val) 3 ++ Str.ofString "21z1" ++ markF m.val ++ Str.ofString ")") = true := by decide +kernel
theorem mod_fin9 (x : Int) : ∃ b : Fin 9, x.fmod 9 = (b.val : Int) := by
  rw [Int.fmod_eq_emod_of_nonneg x (by decide)]
  exact ⟨⟨(x % 9).toNat, by omega⟩, by show x % 9 = (((x % 9).toNat : Nat) : Int); omega⟩
theorem mod_fin3' (x : Int) : ∃ b : Fin 3, x.fmod 3 = (b.val : Int) := by
  rw [Int.fmod_eq_emod_of_nonneg x (by decide)]
  exact ⟨⟨(x % 3).toNat, by omega⟩, by show x % 3 = (((x % 3).toNat : Nat) : Int); omega⟩
noncomputable abbrev codeX (d : Int) : Str := Txt.join (Str.ofString "") [codeD ((d.fdiv 24).fmod 3) ((d.fdiv 72).fmod 9 + 1) 0, codeD ((d.fdiv 24).fmod 3) ((d.fdiv 72).fmod 9 + 1) 1, codeD ((d.fdiv 24).fmod 3) ((d.fdiv 72).fmod 9 + 1) 2]
theorem bad_0 (d e : Int) : BadR (sx0 d (codeX e)) := by
  obtain ⟨a, ha⟩ := mod_fin3' (e.fdiv 24)
  obtain ⟨b, hb⟩ := mod_fin9 (e.fdiv 72)
  obtain ⟨l, hl⟩ := mod_fin3 d
  obtain ⟨m, hm⟩ := mark_F d
  have e1 : sx0 d (codeX e) = Txt.join (Str.ofString "") [codeD ((e.fdiv 24).fmod 3) ((e.fdiv 72).fmod 9 + 1) 0, codeD ((e.fdiv 24).fmod 3) ((e.fdiv 72).fmod 9 + 1) 1, codeD ((e.fdiv 24).fmod 3) ((e.fdiv 72).fmod 9 + 1) 2] ++ Txt.slice (leadF (d.fmod 3).toNat) (some 3) none ++ (Txt.mul (markS d) 3 ++ Str.ofString "2121" ++ markS d) ++ Str.ofString ")" := rfl
  rw [e1, ha, hb, hl, hm]
  have z := of_decide_eq_true (bad0_fin a b l m)
  obtain ⟨z1, z2⟩ := z
  exact ⟨z1, z2⟩
theorem bad_1 (d : Int) : BadO (sx1 d) := by
  obtain ⟨l, hl⟩ := mod_fin3 d
  obtain ⟨m, hm⟩ := mark_F d
  have e1 : sx1 d = Str.ofString "229 " ++ (Txt.mul (markS d) 3 ++ Str.ofString "2121" ++ markS d) ++ Str.ofString ")" := rfl
  rw [e1, hm]
  obtain ⟨z0, z1, z2⟩ := of_decide_eq_true (bad1_fin l m)
  exact ⟨z0, z1, z2⟩
theorem bad_2 (d : Int) : BadC (sx2 d) := by
  obtain ⟨l, hl⟩ := mod_fin3 d
  obtain ⟨m, hm⟩ := mark_F d
  have e1 : sx2 d = leadF (d.fmod 3).toNat ++ (Txt.mul (markS d) 3 ++ Str.ofString "2121" ++ markS d) := rfl
  rw [e1, hl, hm]
  obtain ⟨z0, z1, z2, z3, z4⟩ := of_decide_eq_true (bad2_fin l m)
  exact ⟨z0, z1, z2, z3, z4⟩
theorem bad_3 (d : Int) : BadM (sx3 d) := by
  obtain ⟨l, hl⟩ := mod_fin3 d
  obtain ⟨m, hm⟩ := mark_F d
  have e1 : sx3 d = leadF (d.fmod 3).toNat ++ (Txt.mul (markS d) 3 ++ Str.ofString "2121" ++ markS d) ++ Str.ofString "y)" := rfl
  rw [e1, hl, hm]
  obtain ⟨z0, z1, z2, z3, z4, z5, z6⟩ := of_decide_eq_true (bad3_fin l m)
  exact ⟨z0, z1, z2, z3, z4, z5, z6⟩
theorem bad_4 (d : Int) : BadP (sx4 d) := by
  obtain ⟨l, hl⟩ := mod_fin3 d
  obtain ⟨m, hm⟩ := mark_F d
  have e1 : sx4 d = leadF (d.fmod 3).toNat ++ markS d ++ (Txt.mul (markS d) 3 ++ Str.ofString "2121" ++ markS d) ++ Str.ofString ")" := rfl
  rw [e1, hl, hm]
  obtain ⟨z0, z1, z2, z3, z4, z5, z6, z7⟩ := of_decide_eq_true (bad4_fin l m)
  exact ⟨z0, z1, z2, z3, z4, z5, z6, z7⟩
theorem bad_5 (d : Int) : BadP (sx5 d) := by
  obtain ⟨l, hl⟩ := mod_fin3 d
  obtain ⟨m, hm⟩ := mark_F d
  have e1 : sx5 d = leadF (d.fmod 3).toNat ++ Txt.slice (Txt.mul (markS d) 3 ++ Str.ofString "2121" ++ markS d) (some 1) none ++ Str.ofString ")" := rfl
  rw [e1, hl, hm]
  obtain ⟨z0, z1, z2, z3, z4, z5, z6, z7⟩ := of_decide_eq_true (bad5_fin l m)
  exact ⟨z0, z1, z2, z3, z4, z5, z6, z7⟩
theorem bad_6 (d : Int) : BadM (sx6 d) := by
  obtain ⟨l, hl⟩ := mod_fin3 d
  obtain ⟨m, hm⟩ := mark_F d
  have e1 : sx6 d = leadF (d.fmod 3).toNat ++ Str.ofString ")" ++ (Txt.mul (markS d) 3 ++ Str.ofString "2121" ++ markS d) ++ Str.ofString ")" := rfl
  rw [e1, hl, hm]
  obtain ⟨z0, z1, z2, z3, z4, z5, z6⟩ := of_decide_eq_true (bad6_fin l m)
  exact ⟨z0, z1, z2, z3, z4, z5, z6⟩
theorem bad_7 (d : Int) : BadPort (sx7 d) := by
  obtain ⟨l, hl⟩ := mod_fin3 d
  obtain ⟨m, hm⟩ := mark_F d
  have e1 : sx7 d = leadF (d.fmod 3).toNat ++ Txt.mul (markS d) 3 ++ Str.ofString "21z1" ++ markS d ++ Str.ofString ")" := rfl
  rw [e1, hl, hm]
  obtain ⟨z0, z1, z2, z3, z4, z5, z6, z7, z8⟩ := of_decide_eq_true (bad7_fin l m)
  exact ⟨z0, z1, z2, z3, z4, z5, z6, z7, z8⟩
end Mine
namespace Mine
section
variable {M : Model} {A : Around} {E : Value → Shared → Prop} {s : Shared}
theorem sub_eq {a b : Expr} {c : Value} {k j : Int} {t : Tok} {Q : Value → Shared → Prop} (e : k = j) (h : wpAny M A (subscriptTail a b c (.int j t)) Q E s) : wpAny M A (subscriptTail a b c (.int k t)) Q E s := e ▸ h
end
section
variable {prog : Program} {w : World} {A : Around} {E : Value → Shared → Prop} {s : Shared} {h₀ : Heap} {L : Addr} {news : List (Addr × Obj)}
/-- the j-th of the eight spoilt replies -/
theorem pick8 {value slice : Expr} {S T0 T1 T2 T3 T4 T5 T6 T7 TJ : Addr} {k : Int} {j : Nat} {u : Tok} {Q : Value → Shared → Prop} (N : News h₀ L s.heap news)
    (hm : (S, spO T0 T1 T2 T3 T4 T5 T6 T7) ∈ news) (hk : k = (j : Int)) (hp : [T0, T1, T2, T3, T4, T5, T6, T7][j]? = some TJ) (h : Q (.ref TJ) s)
    (hs : subscripted slice false (.ref S) (.int k u) = operate [.ref S, .int k u] (getItem (.ref S) (.int k u)) := by with_unfolding_all rfl) :
    wpAny (model prog w) A (subscriptTail value slice (.ref S) (.int k u)) Q E s := by
  subst hk
  have ht : IsTup s.heap S (([T0, T1, T2, T3, T4, T5, T6, T7].map Value.ref : List Value)).toArray := News.isTup N hm
  have h8 : j < 8 := (List.getElem?_eq_some_iff.mp hp).1
  refine item_tupleT ht (by omega) (by omega) (j := j) ?_ ?_ h hs
  · unfold seqIndex?
    have e1 : (if (j : Int) < 0 then (j : Int) + ((8 : Nat) : Int) else (j : Int)) = (j : Int) := if_neg (by omega)
    show (let i := if (j : Int) < 0 then (j : Int) + ((8 : Nat) : Int) else (j : Int); if (decide (0 ≤ i) && decide (i < ((8 : Nat) : Int))) = true then some i.toNat else none) = some j
    simp only [e1]
    have e2 : (decide (0 ≤ (j : Int)) && decide ((j : Int) < ((8 : Nat) : Int))) = true := by rw [decide_eq_true (by omega), decide_eq_true (by omega)]; rfl
    rw [if_pos e2, Int.toNat_natCast]
  · rw [List.getElem?_map, hp]
    rfl
end
section
variable {prog : Program} {w : World} {A : Around} {E : Value → Shared → Prop} {s : Shared}
theorem str_same {x y : Str} {t u : Tok} (h : x = y) : PySem.SeqAt.EqAt A s (.str x t) (.str y u) true := by
  subst h
  have z := PySem.SeqAt.EqAt.str_str (A := A) (s := s) x t x u
  rw [beq_self_eq_true] at z
  exact z
/-- two pairs of the same texts are equal -/
theorem pair_same {l b : Addr} {k x : Str} {t u t' u' : Tok} {Q : Value → Shared → Prop} (hl : s.heap.IsTuple l #[.str k t, .str x u]) (hb : s.heap.IsTuple b #[.str k t', .str x u']) (hu : A.units < cLine) (h : Q (.bool true) s) :
    wpAny (model prog w) A (compareOp .Eq (.ref l) (.ref b)) Q E s := by
  refine PySem.SeqAt.eq_tupleAt (e := fun _ => true) hl hb hu (fun j h1 h2 => ?_) h
  rcases (by have : j < 2 := h1; omega : j = 0 ∨ j = 1) with rfl | rfl
  · exact str_same rfl
  · exact str_same rfl
end
end Mine
namespace Mine
section
variable {prog : Program} {w : World} {A : Around} {E : Value → Shared → Prop} {s : Shared} {h₀ : Heap} {L : Addr} {news : List (Addr × Obj)}
/-- an item of a list of the ledger, at a place that is a letter -/
theorem pickNat {value slice : Expr} {l : Addr} {vs : List Value} {i : Nat} {u : Tok} {x : Value} {Q : Value → Shared → Prop} (N : News h₀ L s.heap news) (hm : (l, LCg.lst vs) ∈ news) (hi : i < 100) (hp : vs[i]? = some x) (h : Q x s)
    (hs : subscripted slice false (.ref l) (.int (i : Int) u) = operate [.ref l, .int (i : Int) u] (getItem (.ref l) (.int (i : Int) u)) := by with_unfolding_all rfl)
    (hg : ∀ r, letTemporaryGo value (.ref l) r = pure () := by intro _; with_unfolding_all rfl) :
    wpAny (model prog w) A (subscriptTail value slice (.ref l) (.int (i : Int) u)) Q E s :=
  item_list ⟨_, (N _ hm).1, rfl, _, rfl⟩ (by omega) (by omega) (by rw [Int.toNat_natCast, List.getElem?_toArray]; exact hp) h hs hg
/-- the last item of a list that was just lengthened -/
theorem pickLast {value slice : Expr} {l : Addr} {ws : List Value} {k : Int} {u : Tok} {v : Value} {Q : Value → Shared → Prop} (N : News h₀ L s.heap news) (hm : (l, LCg.lst (ws ++ [v])) ∈ news) (hk : k = -1) (h : Q v s)
    (hs : subscripted slice false (.ref l) (.int k u) = operate [.ref l, .int k u] (getItem (.ref l) (.int k u)) := by with_unfolding_all rfl)
    (hg : ∀ r, letTemporaryGo value (.ref l) r = pure () := by intro _; with_unfolding_all rfl) :
    wpAny (model prog w) A (subscriptTail value slice (.ref l) (.int k u)) Q E s := by
  subst hk
  have hl : s.heap.IsList l (ws ++ [v]).toArray := ⟨_, (N _ hm).1, rfl, _, rfl⟩
  have hz : (ws ++ [v]).toArray.size = ws.length + 1 := by rw [List.size_toArray, List.length_append]; rfl
  refine subscriptTail_builtin hl.typeIs slot_list_getitem.lookup (wpAny_getItem_list_neg hl (by decide) (by rw [hz]; omega) (by decide) ?_ h) hs hg
  rw [hz, show (-1 + ((ws.length + 1 : Nat) : Int)).toNat = ws.length by omega, List.getElem?_toArray, List.getElem?_append_right (Nat.le_refl _), Nat.sub_self]
  rfl
end
end Mine
namespace Mine
/-- law's body and its scope -/
noncomputable def lawDef : Option (List Stmt × Scope) :=
  match PySem.Challenge.rw_to0016_01.row.prog.theDef (Str.ofString "law") with
  | some (_, b, sc) => some (b, sc)
  | none => none
section
variable {h₀ h : Heap} {L : Addr} {M : Str → Option Value} {n1 n2 n3 n4 : Str} {v1 v2 v3 v4 : Option Value}
theorem fr1 (F : Fr h₀ L h M) (e1 : M n1 = v1) : Fr h₀ L h (fun y => if y = n1 then v1 else M y) := by
  have e : (fun y => if y = n1 then v1 else M y) = M := (setv e1).symm
  rw [e]
  exact F
theorem fr2 (F : Fr h₀ L h M) (e1 : M n1 = v1) (e2 : M n2 = v2) : Fr h₀ L h (fun y => if y = n1 then v1 else if y = n2 then v2 else M y) := by
  have e : (fun y => if y = n1 then v1 else if y = n2 then v2 else M y) = M := by
    funext y
    by_cases h1 : y = n1
    · rw [if_pos h1, h1, e1]
    rw [if_neg h1]
    by_cases h2 : y = n2
    · rw [if_pos h2, h2, e2]
    rw [if_neg h2]
  rw [e]
  exact F
theorem fr4 (F : Fr h₀ L h M) (e1 : M n1 = v1) (e2 : M n2 = v2) (e3 : M n3 = v3) (e4 : M n4 = v4) : Fr h₀ L h (fun y => if y = n1 then v1 else if y = n2 then v2 else if y = n3 then v3 else if y = n4 then v4 else M y) := by
  have e : (fun y => if y = n1 then v1 else if y = n2 then v2 else if y = n3 then v3 else if y = n4 then v4 else M y) = M := by
    funext y
    by_cases h1 : y = n1
    · rw [if_pos h1, h1, e1]
    rw [if_neg h1]
    by_cases h2 : y = n2
    · rw [if_pos h2, h2, e2]
    rw [if_neg h2]
    by_cases h3 : y = n3
    · rw [if_pos h3, h3, e3]
    rw [if_neg h3]
    by_cases h4 : y = n4
    · rw [if_pos h4, h4, e4]
    rw [if_neg h4]
  rw [e]
  exact F
end
theorem all_sub {P : Addr × Obj → Prop} {A B : List (Addr × Obj)} (h : ∀ p ∈ B, P p) (hs : ∀ p ∈ A, p ∈ B) : ∀ p ∈ A, P p := fun p hp => h p (hs p hp)
theorem sub_use {A B : List (Addr × Obj)} {p : Addr × Obj} (hp : p ∈ A) (hs : ∀ p ∈ A, p ∈ B) : p ∈ B := hs p hp
/-- the address in the middle is none of the others -/
theorem nd_mid {pre post : List (Addr × Obj)} {c : Addr} {o : Obj} (h : Nd (pre ++ (c, o) :: post)) : ∀ p ∈ pre ++ post, @Ne Nat p.1 c := by
  intro p hp e
  unfold Nd at h
  rw [List.map_append, List.map_cons] at h
  obtain ⟨h1, h2, h3⟩ := List.nodup_append.mp h
  rcases List.mem_append.mp hp with hp | hp
  · exact h3 p.1 (List.mem_map_of_mem hp) c (.head _) e
  · have z := List.mem_map_of_mem (f := Prod.fst) hp
    rw [e] at z
    exact (List.nodup_cons.mp h2).1 z
theorem nd_tail {a : Addr × Obj} {l : List (Addr × Obj)} (h : Nd (a :: l)) : Nd l := (List.nodup_cons.mp h).2
theorem nd_addr {l k : List (Addr × Obj)} (h : Nd l) (e : l.map (·.1) = k.map (·.1)) : Nd k := by
  unfold Nd at h ⊢
  rw [← e]
  exact h
theorem slack_rng (d : Int) : -1 ≤ (d.fdiv 8).fmod 3 - 1 ∧ (d.fdiv 8).fmod 3 - 1 ≤ 1 := by
  have := fmod_rng3 (d.fdiv 8)
  omega
theorem by_rng (d : Int) : 0 ≤ (d.fdiv 72).fmod 9 + 1 ∧ (d.fdiv 72).fmod 9 + 1 ≤ 100 := by
  obtain ⟨b, hb⟩ := mod_fin9 (d.fdiv 72)
  rw [hb]
  omega
theorem codeF_len : ∀ a : Fin 3, ∀ b : Fin 9, (codeF a.val b.val).length ≤ 10 := by decide +kernel
theorem codeX_len (d : Int) : (codeX d).length ≤ 10 := by
  obtain ⟨a, ha⟩ := mod_fin3' (d.fdiv 24)
  obtain ⟨b, hb⟩ := mod_fin9 (d.fdiv 72)
  show (Txt.join (Str.ofString "") [codeD ((d.fdiv 24).fmod 3) ((d.fdiv 72).fmod 9 + 1) 0, codeD ((d.fdiv 24).fmod 3) ((d.fdiv 72).fmod 9 + 1) 1, codeD ((d.fdiv 24).fmod 3) ((d.fdiv 72).fmod 9 + 1) 2]).length ≤ 10
  rw [ha, hb]
  exact codeF_len a b
theorem fmod8 (d : Int) : d.fmod 8 = 0 ∨ d.fmod 8 = 1 ∨ d.fmod 8 = 2 ∨ d.fmod 8 = 3 ∨ d.fmod 8 = 4 ∨ d.fmod 8 = 5 ∨ d.fmod 8 = 6 ∨ d.fmod 8 = 7 := by
  rw [Int.fmod_eq_emod_of_nonneg _ (by decide)]
  omega
/-- law's statements, by name -/
theorem law_at {sts : List Stmt} {sc : Scope} (h : lawDef = some (sts, sc)) (k : Nat) : lawAt k = (sts[k]?).map fun st => (st, sc) := by
  unfold lawDef at h
  unfold lawAt
  generalize PySem.Challenge.rw_to0016_01.row.prog.theDef (Str.ofString "law") = d at h ⊢
  cases d with
  | none => cases h
  | some p =>
    obtain ⟨x, b, c⟩ := p
    have e := Option.some.inj h
    injection e with e1 e2
    subst e1 e2
    rfl
theorem law_kind' : (lawDef.map fun p => p.2.kind) = some ScopeKind.function := rfl
theorem law_kind {sts : List Stmt} {sc : Scope} (h : lawDef = some (sts, sc)) : sc.kind = .function := by
  have e := law_kind'
  rw [h] at e
  exact Option.some.inj e
theorem law_len : (lawDef.map fun p => p.1.length) = some 25 := rfl
/-- law's statements, each by its place -/
inductive LawSts (sts : List Stmt) (sc : Scope) : Prop
  | mk (s0 s1 s2 s3 s4 s5 s6 s7 s8 s9 s10 s11 s12 s13 s14 s15 s16 s17 s18 s19 s20 s21 s22 s23 s24 : Stmt) (e : sts = [s0, s1, s2, s3, s4, s5, s6, s7, s8, s9, s10, s11, s12, s13, s14, s15, s16, s17, s18, s19, s20, s21, s22, s23, s24]) (h0 : lawAt 0 = some (s0, sc)) (h1 : lawAt 1 = some (s1, sc)) (h2 : lawAt 2 = some (s2, sc)) (h3 : lawAt 3 = some (s3, sc)) (h4 : lawAt 4 = some (s4, sc)) (h5 : lawAt 5 = some (s5, sc)) (h6 : lawAt 6 = some (s6, sc)) (h7 : lawAt 7 = some (s7, sc)) (h8 : lawAt 8 = some (s8, sc)) (h9 : lawAt 9 = some (s9, sc)) (h10 : lawAt 10 = some (s10, sc)) (h11 : lawAt 11 = some (s11, sc)) (h12 : lawAt 12 = some (s12, sc)) (h13 : lawAt 13 = some (s13, sc)) (h14 : lawAt 14 = some (s14, sc)) (h15 : lawAt 15 = some (s15, sc)) (h16 : lawAt 16 = some (s16, sc)) (h17 : lawAt 17 = some (s17, sc)) (h18 : lawAt 18 = some (s18, sc)) (h19 : lawAt 19 = some (s19, sc)) (h20 : lawAt 20 = some (s20, sc)) (h21 : lawAt 21 = some (s21, sc)) (h22 : lawAt 22 = some (s22, sc)) (h23 : lawAt 23 = some (s23, sc)) (h24 : lawAt 24 = some (s24, sc))
theorem law_sts {sts : List Stmt} {sc : Scope} (h : lawDef = some (sts, sc)) : LawSts sts sc := by
  have hl := law_len
  rw [h] at hl
  have hl : sts.length = 25 := Option.some.inj hl
  have ha := law_at h
  obtain ⟨f, hf⟩ : ∃ f : Fin 25 → Stmt, ∀ k : Fin 25, sts[k.val]? = some (f k) := ⟨fun k => sts[k.val]'(by rw [hl]; exact k.isLt), fun k => List.getElem?_eq_getElem (by rw [hl]; exact k.isLt)⟩
  refine ⟨f 0, f 1, f 2, f 3, f 4, f 5, f 6, f 7, f 8, f 9, f 10, f 11, f 12, f 13, f 14, f 15, f 16, f 17, f 18, f 19, f 20, f 21, f 22, f 23, f 24, ?_, ?_, ?_, ?_, ?_, ?_, ?_, ?_, ?_, ?_, ?_, ?_, ?_, ?_, ?_, ?_, ?_, ?_, ?_, ?_, ?_, ?_, ?_, ?_, ?_, ?_⟩
  · have e : sts = List.ofFn f := by
      refine List.ext_getElem? fun i => ?_
      by_cases hi : i < 25
      · rw [hf ⟨i, hi⟩, List.getElem?_ofFn, dif_pos hi]
      · rw [List.getElem?_eq_none (Nat.le_trans (Nat.le_of_eq hl) (Nat.not_lt.mp hi)), List.getElem?_ofFn, dif_neg hi]
    exact e
  · rw [ha 0, show sts[0]? = some (f 0) from hf 0]; rfl
  · rw [ha 1, show sts[1]? = some (f 1) from hf 1]; rfl
  · rw [ha 2, show sts[2]? = some (f 2) from hf 2]; rfl
  · rw [ha 3, show sts[3]? = some (f 3) from hf 3]; rfl
  · rw [ha 4, show sts[4]? = some (f 4) from hf 4]; rfl
  · rw [ha 5, show sts[5]? = some (f 5) from hf 5]; rfl
  · rw [ha 6, show sts[6]? = some (f 6) from hf 6]; rfl
  · rw [ha 7, show sts[7]? = some (f 7) from hf 7]; rfl
  · rw [ha 8, show sts[8]? = some (f 8) from hf 8]; rfl
  · rw [ha 9, show sts[9]? = some (f 9) from hf 9]; rfl
  · rw [ha 10, show sts[10]? = some (f 10) from hf 10]; rfl
  · rw [ha 11, show sts[11]? = some (f 11) from hf 11]; rfl
  · rw [ha 12, show sts[12]? = some (f 12) from hf 12]; rfl
  · rw [ha 13, show sts[13]? = some (f 13) from hf 13]; rfl
  · rw [ha 14, show sts[14]? = some (f 14) from hf 14]; rfl
  · rw [ha 15, show sts[15]? = some (f 15) from hf 15]; rfl
  · rw [ha 16, show sts[16]? = some (f 16) from hf 16]; rfl
  · rw [ha 17, show sts[17]? = some (f 17) from hf 17]; rfl
  · rw [ha 18, show sts[18]? = some (f 18) from hf 18]; rfl
  · rw [ha 19, show sts[19]? = some (f 19) from hf 19]; rfl
  · rw [ha 20, show sts[20]? = some (f 20) from hf 20]; rfl
  · rw [ha 21, show sts[21]? = some (f 21) from hf 21]; rfl
  · rw [ha 22, show sts[22]? = some (f 22) from hf 22]; rfl
  · rw [ha 23, show sts[23]? = some (f 23) from hf 23]; rfl
  · rw [ha 24, show sts[24]? = some (f 24) from hf 24]; rfl
theorem ints_len {vs : List Value} {ns : List Int} (h : IntsAre vs ns) : vs.length = ns.length := by
  induction h with
  | nil => rfl
  | cons _ _ _ ih => rw [List.length_cons, List.length_cons, ih]
end Mine
section
local macro_rules | `(tactic| walk_at "CompSrc") => `(tactic| (k_here; k_dflt (first
  | (refine LCg.CompSrc.ledger (by rfl) (by k_asm) (by k_asm) (by k_mem) (by first | size_fits | exact Nat.le_of_ble_eq_true rfl) ?_; intro g'; lcg_lit)
  | (refine LCg.CompSrc.range (by rfl) (by k_asm) (by k_asm) (by assumption) (by first | decide | rfl) (by first | rfl | decide) (by first | size_fits | exact Nat.le_of_ble_eq_true rfl) ?_; intro g'; lcg_lit))))
local macro_rules | `(tactic| walk_at "CompSrcT") => `(tactic| (k_here; k_dflt (refine LCt.CompSrcT.range (by rfl) (by k_asm) (by k_asm) (by assumption) (by first | decide | rfl) (by first | rfl | decide) (by first | size_fits | exact Nat.le_of_ble_eq_true rfl) ?_; intro g')))
local macro_rules | `(tactic| walk_at "call builtin:sum") => `(tactic| (k_here; (with_reducible show wpAny _ _ (call (Value.builtin "sum") [Value.ref _]) _ _ _); (refine' Mine.sum_slice ?k1 ?k2 ?k3 ?km ?ki ?_; (case k1 => k_asm); (case k2 => k_asm); (case k3 => with_unfolding_all rfl); (case km => k_mem); (case ki => with_reducible assumption)); intro n h' tk t' F' N'; (try k_sweep)))
local macro_rules | `(tactic| walk_at "subscriptTail Name Slice ref ref") => `(tactic| (k_here; (with_reducible show wpAny _ _ (subscriptTail _ (Expr.Slice _ _ (some _) _) _ _) _ _ _); refine Mine.slice3 (by assumption) (by assumption) (by is_list) (by first | exact .none | exact .int _ _) (by first | exact .none | exact .int _ _) (by first | exact .none | exact .int _ _) (by first | decide | (intro hz; injection hz with hz; omega)) ?_; intro D' h' F' N' l1; (try k_lt l1); (try k_sweep)))
local macro_rules | `(tactic| k_ne) => `(tactic| (refine neN ?_; (try dsimp only); first | exact Mine.Neq.out (by with_reducible assumption) | exact Ne.symm (Mine.Neq.out (by with_reducible assumption))))
local macro_rules | `(tactic| walk_at "subscriptTail") => `(tactic| (k_here; (with_reducible show wpAny _ _ (subscriptTail _ _ (Value.ref _) (Value.int _ _)) _ _ _); first
  | (refine' Mine.pick3 ?n ?m ?k ?x ?_; (case n => k_asm); (case m => k_mem); (case k => exact Mine.fmod_rng3 _); (case x => decide); intro t' lx')
  | (refine' Mine.pick4 ?n ?m ?k ?x ?_; (case n => k_asm); (case m => k_mem); (case k => exact Mine.fmod_rng4 _); (case x => decide); intro t' lx')))
local macro_rules | `(tactic| walk_at "subscriptTail") => `(tactic| (k_here; (with_reducible show wpAny _ _ (subscriptTail _ _ (Value.ref _) (Value.int _ _)) _ _ _); (refine' Mine.pick2 ?n ?m ?k ?x ?_; (case n => k_asm); (case m => k_mem); (case k => exact Mine.bitI_rng _ _); (case x => decide); intro t' lx')))
local macro_rules | `(tactic| walk_at "call builtin:list.append") => `(tactic| (k_here; (try simp only [List.cons_append, List.nil_append]); (with_reducible show wpAny _ _ (call (Value.builtin _) [Value.ref _, _]) _ _ _); k_dflt (refine' Mine.append_W ?hW ?F ?N ?sub ?hl ?_; (case hW => with_reducible assumption); (case F => k_asm); (case N => k_asm); (case sub => first | exact fun p hp => hp | exact fun p hp => .tail _ hp | exact fun p hp => .tail _ (.tail _ hp) | exact fun p hp => .tail _ (.tail _ (.tail _ hp)) | exact fun p hp => .tail _ (.tail _ (.tail _ (.tail _ hp))) | exact fun p hp => .tail _ (.tail _ (.tail _ (.tail _ (.tail _ hp)))) | exact fun p hp => .tail _ (.tail _ (.tail _ (.tail _ (.tail _ (.tail _ hp)))))); (case hl => first | with_reducible assumption | exact Nat.le_of_ble_eq_true rfl | omega)); intro h9 F9 N9; (try k_sweep)))
local macro_rules | `(tactic| walk_at "call builtin:sum") => `(tactic| (k_here; (with_reducible show wpAny _ _ (call (Value.builtin "sum") [Value.ref _]) _ _ _); k_dflt (refine' Mine.sum_lst ?k1 ?k2 ?k3 ?km ?ki ?kd ?_; (case k1 => k_asm); (case k2 => k_asm); (case k3 => with_unfolding_all rfl); (case km => k_mem); (case ki => with_reducible assumption); (case kd => assumption)); intro h' tk t' F' N'; (try k_sweep)))
theorem Mine.turn0 : ∀ (w : World) (mean : ExcName → Option Value) (mg mb : Str → Option Value) (elt : Expr) (sc csc : Scope) (st : Stmt) (hst : Mine.lawAt 0 = some (st, sc)) (hel : Mine.compAt 0 = some (elt, csc)) (fa : Addr) (cdv : Value)
   (base h₀ : Heap) (L : Addr) (m : Str → Option Value) (s : Shared) (vs : List Value) (ns : List Int) (a : Addr) (o1 o2 o3 o4 o5 o6 o7 o8 : Obj) (Q : Value → Shared → Prop) (E : Value → Shared → Prop)
   (i : Nat) (hi : i < 6) (v : Value) (I : Addr) (oI : Obj) (C : Addr) (oC : Obj) (D : Addr) (ys : List Value) (m₂ : Str → Option Value) (h : Heap) (tk : Tok)
   (B : Below callerA base [] h₀) (hv : ∃ t, v = .int (0 + (i : Int)) t) (hC : LCg.NsObj oC m₂) (hx : m₂ (Str.ofString "k") = some v) (F : Fr h₀ L h m) (X : (Mine.hd.heap_1 w.params).In h₀)
   (N : News h₀ L h [(I, oI), (C, oC), (D, LCg.lst ys), (L + 1 + 1 + 1 + 1 + 1 + 1 + 1 + 1, o8), (L + 1 + 1 + 1 + 1 + 1 + 1 + 1, o7), (L + 1 + 1 + 1 + 1 + 1 + 1, o6), (L + 1 + 1 + 1 + 1 + 1, o5), (L + 1 + 1 + 1 + 1, o4), (L + 1 + 1 + 1, o3), (L + 1 + 1, o2), (L + 1, o1)]) (T : Top Mine.hd.view_1 (looseW Mine.hd.view_1 []) mean mg mb h₀)
   (hS : o1.data = .cell (some (.ref a))) (hl : h₀.IsList a vs.toArray) (hI : IntsAre vs ns) (hlen : vs.length ≤ 63)
   (hret : ∀ y h' tk', (∃ n t, y = Value.int n t) → Fr h₀ L h' m → News h₀ L h' [(I, oI), (C, oC), (D, LCg.lst ys), (L + 1 + 1 + 1 + 1 + 1 + 1 + 1 + 1, o8), (L + 1 + 1 + 1 + 1 + 1 + 1 + 1, o7), (L + 1 + 1 + 1 + 1 + 1 + 1, o6), (L + 1 + 1 + 1 + 1 + 1, o5), (L + 1 + 1 + 1 + 1, o4), (L + 1 + 1 + 1, o3), (L + 1 + 1, o2), (L + 1, o1)] → Q y { s with heap := h', toks := tk' }),
   wpAny (model PySem.Challenge.rw_to0016_01.row.prog w) (callerA.deeper (envOfC (Str.ofString "law") sc L fa cdv)) (eval elt (compEnvC csc [(Str.ofString "script", L + 1)] C (envOfC (Str.ofString "law") sc L fa cdv))) Q E { s with heap := h, toks := tk } := by
  k_fill
  k_with_none
  intro w mean mg mb elt sc csc st hst hel fa cdv base h₀ L m s vs ns a o1 o2 o3 o4 o5 o6 o7 o8 Q E i hi v I oI C oC D ys m₂ h tk B hv hC hx F X N T hS hl hI hlen hret
  have e := Option.some.inj (hst.symm.trans (rfl : Mine.lawAt 0 = some _))
  clear hst
  cases e
  have e := Option.some.inj (hel.symm.trans (rfl : Mine.compAt 0 = some _))
  clear hel
  cases e
  obtain ⟨t, rfl⟩ := hv
  k_steps
  exact hret _ _ _ ⟨_, _, rfl⟩ (by with_reducible assumption) (fun p hp => (by with_reducible assumption : News h₀ L _ (_ :: _ :: _)) p (.tail _ (.tail _ hp)))
theorem Mine.st0 : ∀ (w : World) (mean : ExcName → Option Value) (mg mb : Str → Option Value) (st : Stmt) (sc : Scope) (hst : Mine.lawAt 0 = some (st, sc)) (fa : Addr) (cdv : Value)
   (base h₀ : Heap) (L : Addr) (m : Str → Option Value) (s : Shared) (vs : List Value) (ns : List Int) (a : Addr) (o1 o2 o3 o4 o5 o6 o7 o8 : Obj) (Q : Flow → Shared → Prop) (E : Value → Shared → Prop)
   (B : Below callerA base [] h₀) (F : Fr h₀ L s.heap m) (X : (Mine.hd.heap_1 w.params).In h₀) (N : News h₀ L s.heap [(L + 1 + 1 + 1 + 1 + 1 + 1 + 1 + 1, o8), (L + 1 + 1 + 1 + 1 + 1 + 1 + 1, o7), (L + 1 + 1 + 1 + 1 + 1 + 1, o6), (L + 1 + 1 + 1 + 1 + 1, o5), (L + 1 + 1 + 1 + 1, o4), (L + 1 + 1 + 1, o3), (L + 1 + 1, o2), (L + 1, o1)]) (T : Top Mine.hd.view_1 (looseW Mine.hd.view_1 []) mean mg mb h₀)
   (hS : o1.data = .cell (some (.ref a))) (hD : o2.data = .cell none) (hl : h₀.IsList a vs.toArray) (hI : IntsAre vs ns) (hlen : vs.length ≤ 63) (hn : Mine.Nd [(L + 1 + 1 + 1 + 1 + 1 + 1 + 1 + 1, o8), (L + 1 + 1 + 1 + 1 + 1 + 1 + 1, o7), (L + 1 + 1 + 1 + 1 + 1 + 1, o6), (L + 1 + 1 + 1 + 1 + 1, o5), (L + 1 + 1 + 1 + 1, o4), (L + 1 + 1 + 1, o3), (L + 1 + 1, o2), (L + 1, o1)])
   (hret : ∀ (D : Addr) (o2' : Obj) (d0 d1 d2 d3 d4 d5 : Int) (t0 t1 t2 t3 t4 t5 : Tok) (h' : Heap) (tk' : Tok), Fr h₀ L h' m → News h₀ L h' [(D, Mine.sixList d0 d1 d2 d3 d4 d5 t0 t1 t2 t3 t4 t5), (L + 1 + 1 + 1 + 1 + 1 + 1 + 1 + 1, o8), (L + 1 + 1 + 1 + 1 + 1 + 1 + 1, o7), (L + 1 + 1 + 1 + 1 + 1 + 1, o6), (L + 1 + 1 + 1 + 1 + 1, o5), (L + 1 + 1 + 1 + 1, o4), (L + 1 + 1 + 1, o3), (L + 1 + 1, o2'), (L + 1, o1)] →
     Mine.Nd [(D, Mine.sixList d0 d1 d2 d3 d4 d5 t0 t1 t2 t3 t4 t5), (L + 1 + 1 + 1 + 1 + 1 + 1 + 1 + 1, o8), (L + 1 + 1 + 1 + 1 + 1 + 1 + 1, o7), (L + 1 + 1 + 1 + 1 + 1 + 1, o6), (L + 1 + 1 + 1 + 1 + 1, o5), (L + 1 + 1 + 1 + 1, o4), (L + 1 + 1 + 1, o3), (L + 1 + 1, o2'), (L + 1, o1)] → o2'.data = .cell (some (.ref D)) → Q .next { s with heap := h', toks := tk' }),
   wpAny (model PySem.Challenge.rw_to0016_01.row.prog w) (callerA.deeper (envOfC (Str.ofString "law") sc L fa cdv)) (exec st (envOfC (Str.ofString "law") sc L fa cdv)) Q E s := by
  k_fill
  k_with_none
  intro w mean mg mb st sc hst fa cdv base h₀ L m s vs ns a o1 o2 o3 o4 o5 o6 o7 o8 Q E B F X N T hS hD hl hI hlen hn hret
  have hst' := hst
  have e := Option.some.inj (hst.symm.trans (rfl : Mine.lawAt 0 = some _))
  clear hst
  cases e
  (repeat' (first | ((fail_if_success (with_reducible show LCg.CompRest _ _ _ _ _ _ _ _ _ _ _ _ _ _ _ _ _ _ _)); first | (k_unfold; (try dsimp only)) | (k_end; wrow_close) | (walk1; (try dsimp only)) | (dsimp only; walk1) | (leave1; walk_say "STEP leave1"; try dsimp only)) | fail "no step"))
  refine Mine.rest_all (R := fun _ y => ∃ n t, y = Value.int n t) trivial (fun i hi v I oI C oC D ys m₂ h tk Q E' hv hC hx F N off ne hret => Mine.turn0 _ _ _ _ _ _ _ _ hst' rfl _ _ _ _ _ _ _ _ _ _ _ _ _ _ _ _ _ _ _ _ i hi v I oI C oC D ys m₂ h tk B hv hC hx F X N T hS hl hI hlen hret) ?_
  intro ys hys hyr
  obtain ⟨a, b, c, d, e, f, ta, tb, tc, td, te, tf, rfl⟩ := Mine.six_ints hys hyr
  (repeat' (first | ((fail_if_success (with_reducible show wpAny _ _ (storeName _ _ _) _ _ _)); first | (k_unfold; (try dsimp only)) | (k_end; wrow_close) | (walk1; (try dsimp only)) | (dsimp only; walk1) | (leave1; walk_say "STEP leave1"; try dsimp only)) | fail "no step"))
  with_reducible rename Fr h₀ L _ m => Fz
  with_reducible rename News h₀ L _ _ => Nz
  have o1'' := (by assumption : _ ∧ _ ∧ _ ∧ _ ∧ _ ∧ _ ∧ _ ∧ _)
  have nd1 : Mine.Nd (_ :: _) := Mine.nd_cons (o := Mine.sixList a b c d e f ta tb tc td te tf) hn (by simp only [List.forall_mem_cons]; exact ⟨o1''.1, o1''.2.1, o1''.2.2.1, o1''.2.2.2.1, o1''.2.2.2.2.1, o1''.2.2.2.2.2.1, o1''.2.2.2.2.2.2.1, o1''.2.2.2.2.2.2.2, fun _ h => nomatch h⟩)
  obtain ⟨q1, q2, q3, q4, q5, q6, q7, q8, _⟩ := Mine.nd_all (pre := [_, _, _, _, _, _, _]) (post := [_]) nd1
  clear o1''
  k_steps
  with_reducible rename Fr h₀ L _ m => Fy
  with_reducible rename News h₀ L _ _ => Ny
  exact hret _ _ _ _ _ _ _ _ _ _ _ _ _ _ _ _ Fy Ny nd1 (by with_reducible assumption)
theorem Mine.st1 : ∀ (w : World) (mean : ExcName → Option Value) (mg mb : Str → Option Value) (st : Stmt) (sc : Scope) (hst : Mine.lawAt 1 = some (st, sc)) (fa : Addr) (cdv : Value)
   (base h₀ : Heap) (L : Addr) (m : Str → Option Value) (s : Shared) (o1 o2 o3 o4 o5 o6 o7 o8 : Obj) (Q : Flow → Shared → Prop) (E : Value → Shared → Prop) (D0 : Addr) (o0 : Obj)
   (B : Below callerA base [] h₀) (F : Fr h₀ L s.heap m) (X : (Mine.hd.heap_1 w.params).In h₀) (N : News h₀ L s.heap [(D0, o0), (L + 1 + 1 + 1 + 1 + 1 + 1 + 1 + 1, o8), (L + 1 + 1 + 1 + 1 + 1 + 1 + 1, o7), (L + 1 + 1 + 1 + 1 + 1 + 1, o6), (L + 1 + 1 + 1 + 1 + 1, o5), (L + 1 + 1 + 1 + 1, o4), (L + 1 + 1 + 1, o3), (L + 1 + 1, o2), (L + 1, o1)]) (T : Top Mine.hd.view_1 (looseW Mine.hd.view_1 []) mean mg mb h₀)
   (hn : Mine.Nd [(D0, o0), (L + 1 + 1 + 1 + 1 + 1 + 1 + 1 + 1, o8), (L + 1 + 1 + 1 + 1 + 1 + 1 + 1, o7), (L + 1 + 1 + 1 + 1 + 1 + 1, o6), (L + 1 + 1 + 1 + 1 + 1, o5), (L + 1 + 1 + 1 + 1, o4), (L + 1 + 1 + 1, o3), (L + 1 + 1, o2), (L + 1, o1)]) (h3 : o3.data = .cell none)
   (hret : ∀ (P : Addr) (o3' : Obj) (t0 t1 t2 t3 t4 : Tok) (h' : Heap) (tk' : Tok), Fr h₀ L h' m → News h₀ L h' [(P, Mine.pricesObj t0 t1 t2 t3 t4), (D0, o0), (L + 1 + 1 + 1 + 1 + 1 + 1 + 1 + 1, o8), (L + 1 + 1 + 1 + 1 + 1 + 1 + 1, o7), (L + 1 + 1 + 1 + 1 + 1 + 1, o6), (L + 1 + 1 + 1 + 1 + 1, o5), (L + 1 + 1 + 1 + 1, o4), (L + 1 + 1 + 1, o3'), (L + 1 + 1, o2), (L + 1, o1)] →
     Mine.Nd [(P, Mine.pricesObj t0 t1 t2 t3 t4), (D0, o0), (L + 1 + 1 + 1 + 1 + 1 + 1 + 1 + 1, o8), (L + 1 + 1 + 1 + 1 + 1 + 1 + 1, o7), (L + 1 + 1 + 1 + 1 + 1 + 1, o6), (L + 1 + 1 + 1 + 1 + 1, o5), (L + 1 + 1 + 1 + 1, o4), (L + 1 + 1 + 1, o3'), (L + 1 + 1, o2), (L + 1, o1)] → o3'.data = .cell (some (.ref P)) → Q .next { s with heap := h', toks := tk' }),
   wpAny (model PySem.Challenge.rw_to0016_01.row.prog w) (callerA.deeper (envOfC (Str.ofString "law") sc L fa cdv)) (exec st (envOfC (Str.ofString "law") sc L fa cdv)) Q E s := by
  k_fill
  k_with_none
  intro w mean mg mb st sc hst fa cdv base h₀ L m s o1 o2 o3 o4 o5 o6 o7 o8 Q E D0 o0 B F X N T hn h3 hret
  have e := Option.some.inj (hst.symm.trans (rfl : Mine.lawAt 1 = some _))
  clear hst
  cases e
  (repeat' (first | ((fail_if_success (with_reducible show wpAny _ _ (storeName _ _ _) _ _ _)); first | (k_unfold; (try dsimp only)) | (k_end; wrow_close) | (walk1; (try dsimp only)) | (dsimp only; walk1) | (leave1; walk_say "STEP leave1"; try dsimp only)) | fail "no step"))
  with_reducible rename Fr h₀ L _ m => Fz
  with_reducible rename News h₀ L _ _ => Nz
  have l1' := (by assumption : _ ∧ _ ∧ _ ∧ _ ∧ _ ∧ _ ∧ _ ∧ _ ∧ _)
  have nd1 : Mine.Nd (_ :: _) := Mine.nd_lt (o := Mine.pricesObj 0 0 0 0 0) hn (by simp only [AllLt, and_true]; exact l1')
  obtain ⟨q1, q2, q3, q4, q5, q6, q7, q8, _⟩ := Mine.nd_all (pre := [_, _, _, _, _, _]) (post := [_, _]) hn
  k_steps
  with_reducible rename Fr h₀ L _ m => Fy
  with_reducible rename News h₀ L _ _ => Ny
  exact hret _ _ _ _ _ _ _ _ _ Fy Ny nd1 (by with_reducible assumption)
theorem Mine.turn2 : ∀ (w : World) (mean : ExcName → Option Value) (mg mb : Str → Option Value) (elt elt1 : Expr) (sc sc1 sc2 : Scope) (st : Stmt) (hst : Mine.lawAt 2 = some (st, sc)) (hel : Mine.comp2At 2 = some (elt, sc2, elt1, sc1)) (fa : Addr) (cdv : Value)
   (base h₀ : Heap) (L : Addr) (m : Str → Option Value) (s : Shared) (oD oc : Obj) (Q : Value → Shared → Prop) (E : Value → Shared → Prop)
   (k : Nat) (hk : k < 5) (i : Int) (ti : Tok) (hi : 0 ≤ i ∧ i < 4) (v : Value) (I : Addr) (oI : Obj) (C C1 c : Addr) (oC : Obj) (D D0 : Addr) (ys : List Value) (m₂ : Str → Option Value) (h : Heap) (tk : Tok) (news : List (Addr × Obj))
   (d0 d1 d2 d3 d4 d5 : Int) (t0 t1 t2 t3 t4 t5 : Tok)
   (B : Below callerA base [] h₀) (hv : ∃ t, v = .int (0 + (k : Int)) t) (hC : LCg.NsObj oC m₂) (hx : m₂ (Str.ofString "k") = some v) (F : Fr h₀ L h m) (X : (Mine.hd.heap_1 w.params).In h₀)
   (N : News h₀ L h ((I, oI) :: (C, oC) :: (D, LCg.lst ys) :: (c, oc) :: (D0, Mine.sixList d0 d1 d2 d3 d4 d5 t0 t1 t2 t3 t4 t5) :: (L + 1 + 1, oD) :: news)) (T : Top Mine.hd.view_1 (looseW Mine.hd.view_1 []) mean mg mb h₀)
   (hoc : oc.data = .cell (some (.int i ti))) (hD : oD.data = .cell (some (.ref D0)))
   (hret : ∀ t h' tk', Fr h₀ L h' m → News h₀ L h' ((I, oI) :: (C, oC) :: (D, LCg.lst ys) :: (c, oc) :: (D0, Mine.sixList d0 d1 d2 d3 d4 d5 t0 t1 t2 t3 t4 t5) :: (L + 1 + 1, oD) :: news) → Q (.int (Mine.bitI ([d0, d1, d2, d3, d4, d5].getD i.toNat 0) k) t) { s with heap := h', toks := tk' }),
   wpAny (model PySem.Challenge.rw_to0016_01.row.prog w) (callerA.deeper (envOfC (Str.ofString "law") sc L fa cdv))
     (eval elt (compEnvC sc2 [(Str.ofString "i", c), (Str.ofString "drawn", L + 1 + 1)] C (compEnvC sc1 [(Str.ofString "i", c), (Str.ofString "drawn", L + 1 + 1)] C1 (envOfC (Str.ofString "law") sc L fa cdv)))) Q E { s with heap := h, toks := tk } := by
  k_fill
  k_with_none
  intro w mean mg mb elt elt1 sc sc1 sc2 st hst hel fa cdv base h₀ L m s oD oc Q E k hk i ti hi v I oI C C1 c oC D D0 ys m₂ h tk news d0 d1 d2 d3 d4 d5 t0 t1 t2 t3 t4 t5 B hv hC hx F X N T hoc hD hret
  have e := Option.some.inj (hst.symm.trans (rfl : Mine.lawAt 2 = some _))
  clear hst
  cases e
  have e := Option.some.inj (hel.symm.trans (rfl : Mine.comp2At 2 = some _))
  clear hel
  cases e
  obtain ⟨t, rfl⟩ := hv
  k_steps
  dsimp only
  have e : (0 + (k : Int)).toNat = k := by omega
  rw [e]
  exact hret _ _ _ F N

theorem Mine.st2 : ∀ (w : World) (mean : ExcName → Option Value) (mg mb : Str → Option Value) (st : Stmt) (sc : Scope) (hst : Mine.lawAt 2 = some (st, sc)) (fa : Addr) (cdv : Value)
   (base h₀ : Heap) (L : Addr) (m : Str → Option Value) (s : Shared) (o1 o2 o3 o4 o5 o6 o7 o8 : Obj) (Q : Flow → Shared → Prop) (E : Value → Shared → Prop) (D0 P : Addr) (oP : Obj)
   (d0 d1 d2 d3 d4 d5 : Int) (t0 t1 t2 t3 t4 t5 : Tok)
   (B : Below callerA base [] h₀) (F : Fr h₀ L s.heap m) (X : (Mine.hd.heap_1 w.params).In h₀) (N : News h₀ L s.heap [(P, oP), (D0, Mine.sixList d0 d1 d2 d3 d4 d5 t0 t1 t2 t3 t4 t5), (L + 1 + 1 + 1 + 1 + 1 + 1 + 1 + 1, o8), (L + 1 + 1 + 1 + 1 + 1 + 1 + 1, o7), (L + 1 + 1 + 1 + 1 + 1 + 1, o6), (L + 1 + 1 + 1 + 1 + 1, o5), (L + 1 + 1 + 1 + 1, o4), (L + 1 + 1 + 1, o3), (L + 1 + 1, o2), (L + 1, o1)]) (T : Top Mine.hd.view_1 (looseW Mine.hd.view_1 []) mean mg mb h₀)
   (hn : Mine.Nd [(P, oP), (D0, Mine.sixList d0 d1 d2 d3 d4 d5 t0 t1 t2 t3 t4 t5), (L + 1 + 1 + 1 + 1 + 1 + 1 + 1 + 1, o8), (L + 1 + 1 + 1 + 1 + 1 + 1 + 1, o7), (L + 1 + 1 + 1 + 1 + 1 + 1, o6), (L + 1 + 1 + 1 + 1 + 1, o5), (L + 1 + 1 + 1 + 1, o4), (L + 1 + 1 + 1, o3), (L + 1 + 1, o2), (L + 1, o1)]) (h2 : o2.data = .cell (some (.ref D0))) (h5 : o5.data = .cell none)
   (hret : ∀ (D R0 R1 R2 R3 : Addr) (p0 p1 p2 p3 o5' : Obj) (h' : Heap) (tk' : Tok), Fr h₀ L h' m → News h₀ L h' [(D, Mine.rowsObj R0 R1 R2 R3), (R3, p3), (R2, p2), (R1, p1), (R0, p0), (P, oP), (D0, Mine.sixList d0 d1 d2 d3 d4 d5 t0 t1 t2 t3 t4 t5), (L + 1 + 1 + 1 + 1 + 1 + 1 + 1 + 1, o8), (L + 1 + 1 + 1 + 1 + 1 + 1 + 1, o7), (L + 1 + 1 + 1 + 1 + 1 + 1, o6), (L + 1 + 1 + 1 + 1 + 1, o5'), (L + 1 + 1 + 1 + 1, o4), (L + 1 + 1 + 1, o3), (L + 1 + 1, o2), (L + 1, o1)] →
     Mine.Nd [(D, Mine.rowsObj R0 R1 R2 R3), (R3, p3), (R2, p2), (R1, p1), (R0, p0), (P, oP), (D0, Mine.sixList d0 d1 d2 d3 d4 d5 t0 t1 t2 t3 t4 t5), (L + 1 + 1 + 1 + 1 + 1 + 1 + 1 + 1, o8), (L + 1 + 1 + 1 + 1 + 1 + 1 + 1, o7), (L + 1 + 1 + 1 + 1 + 1 + 1, o6), (L + 1 + 1 + 1 + 1 + 1, o5'), (L + 1 + 1 + 1 + 1, o4), (L + 1 + 1 + 1, o3), (L + 1 + 1, o2), (L + 1, o1)] → o5'.data = .cell (some (.ref D)) →
     Mine.IsRow d0 p0 → Mine.IsRow d1 p1 → Mine.IsRow d2 p2 → Mine.IsRow d3 p3 → Q .next { s with heap := h', toks := tk' }),
   wpAny (model PySem.Challenge.rw_to0016_01.row.prog w) (callerA.deeper (envOfC (Str.ofString "law") sc L fa cdv)) (exec st (envOfC (Str.ofString "law") sc L fa cdv)) Q E s := by
  k_fill
  k_with_none
  intro w mean mg mb st sc hst fa cdv base h₀ L m s o1 o2 o3 o4 o5 o6 o7 o8 Q E D0 P oP d0 d1 d2 d3 d4 d5 t0 t1 t2 t3 t4 t5 B F X N T hn h2 h5 hret
  have hst' := hst
  have e := Option.some.inj (hst.symm.trans (rfl : Mine.lawAt 2 = some _))
  clear hst
  cases e
  (iterate 1 (all_goals try (first | (k_unfold; (try dsimp only)) | (k_end; wrow_close) | (walk1; (try dsimp only)) | (dsimp only; walk1) | (leave1; walk_say "STEP leave1"; try dsimp only))))
  refine' Mine.comp_cell (n := 4) (h₀ := h₀) (L := L) (m := m) (Inv := Mine.RowsInv [d0, d1, d2, d3] [(P, oP), (D0, Mine.sixList d0 d1 d2 d3 d4 d5 t0 t1 t2 t3 t4 t5), (L + 1 + 1 + 1 + 1 + 1 + 1 + 1 + 1, o8), (L + 1 + 1 + 1 + 1 + 1 + 1 + 1, o7), (L + 1 + 1 + 1 + 1 + 1 + 1, o6), (L + 1 + 1 + 1 + 1 + 1, o5), (L + 1 + 1 + 1 + 1, o4), (L + 1 + 1 + 1, o3), (L + 1 + 1, o2), (L + 1, o1)]) ?a ?b ?c ?d ?e ?f ?g ?h ?_
  case a => rfl
  case b => rfl
  case c => decide
  case d => intro _; rfl
  case e => intro _; rfl
  case f => intro _ _; rfl
  case g => rfl
  case h => exact Nat.le_of_ble_eq_true rfl
  (repeat' (first | ((fail_if_success (with_reducible show Exists _)); first | (k_unfold; (try dsimp only)) | (k_end; wrow_close) | (walk1; (try dsimp only)) | (dsimp only; walk1) | (leave1; walk_say "STEP leave1"; try dsimp only)) | fail "no step"))
  with_reducible rename IsRange _ _ _ _ _ _ _ _ => hR
  with_reducible rename Fr h₀ L _ m => Fh
  with_reducible rename News h₀ L _ _ => Nh
  refine ⟨_, _, _, _, _, rfl, Fh, Nh, hR, rfl, rfl, Mine.rows_start hn, ?turn, ?fin⟩
  case turn =>
    clear hR Fh Nh
    intro i ys news' I oI C oC c oc D h tk v E' hi hinv hv hoc Ft Nt off ne
    obtain ⟨t, rfl⟩ := hv
    (repeat' (first | ((fail_if_success (with_reducible show LCg.CompRest _ _ _ _ _ _ _ _ _ _ _ _ _ _ _ _ _ _ _)); first | (k_unfold; (try dsimp only)) | (k_end; wrow_close) | (walk1; (try dsimp only)) | (dsimp only; walk1) | (leave1; walk_say "STEP leave1"; try dsimp only)) | fail "no step"))
    have mB := Mine.rows_base hinv
    refine Mine.rest_all (R := fun k y => ∃ t, y = Value.int (Mine.bitI ([d0, d1, d2, d3].getD i 0) k) t) trivial (fun k hk v I2 oI2 C2 oC2 D2 ys2 m₂ h tk Q E' hv hC hx F2 N2 off2 ne2 hret =>
      Mine.turn2 w _ _ _ _ _ _ _ _ _ hst' rfl fa cdv base h₀ L m _ o2 oc Q E' k hk (i : Int) t ⟨by omega, by omega⟩ v I2 oI2 C2 C c oC2 D2 D0 ys2 m₂ h tk _ d0 d1 d2 d3 d4 d5 t0 t1 t2 t3 t4 t5 B hv hC hx F2 X
        (Mine.news6 N2 (.tail _ (.tail _ (.head _))) (.tail _ (.tail _ (.tail _ (.tail _ (mB _ (by k_mem)))))) (.tail _ (.tail _ (.tail _ (.tail _ (mB _ (by k_mem))))))) T hoc h2
        (fun t h' tk' F' N' => hret _ _ _ ⟨t, by rw [Mine.four_six hi]⟩ F' (Mine.news3 N'))) ?_
    intro ys2 hys hyr
    (repeat' (first | ((fail_if_success (with_reducible show Exists _)); first | (k_unfold; (try dsimp only)) | (k_end; wrow_close) | (walk1; (try dsimp only)) | (dsimp only; walk1) | (leave1; walk_say "STEP leave1"; try dsimp only)) | fail "no step"))
    with_reducible rename Fr h₀ L _ m => Fi
    with_reducible rename News h₀ L _ _ => Ni
    obtain ⟨z1, z2, z3, z4, z5⟩ := (by assumption : _ ∧ _ ∧ _ ∧ _ ∧ LCg.Off1 _ _)
    exact ⟨_, _, _, rfl, Fi, Mine.news_rot Ni, Mine.offs_cons off z1 z2 z3 z4, Mine.rows_step hinv (Mine.off1_mem z5) (Mine.row_of hys hyr)⟩
  case fin =>
    intro D h tk ys news' hinv Ff Nf off
    obtain ⟨R0, R1, R2, R3, p0, p1, p2, p3, rfl, rfl, hnd, hr0, hr1, hr2, hr3⟩ := Mine.rows_four hinv
    have nd1 := Mine.nd_cons (o := LCg.lst [Value.ref R0, Value.ref R1, Value.ref R2, Value.ref R3]) hnd off
    have q := Mine.nd_all (pre := [_, _, _, _, _, _, _, _, _, _]) (post := [_, _, _, _]) nd1
    obtain ⟨q1, q2, q3, q4, q5, q6, q7, q8, q9, q10, q11, q12, q13, q14, _⟩ := q
    clear off
    k_steps
    with_reducible rename Fr h₀ L _ m => Fz
    with_reducible rename News h₀ L _ _ => Nz
    exact hret _ _ _ _ _ _ _ _ _ _ _ _ Fz Nz nd1 (by with_reducible assumption) hr0 hr1 hr2 hr3
theorem Mine.st3 : ∀ (w : World) (mean : ExcName → Option Value) (mg mb : Str → Option Value) (st : Stmt) (sc : Scope) (hst : Mine.lawAt 3 = some (st, sc)) (fa : Addr) (cdv : Value)
   (base h₀ : Heap) (L : Addr) (m : Str → Option Value) (s : Shared) (o2 : Obj) (Q : Flow → Shared → Prop) (E : Value → Shared → Prop) (D0 : Addr) (news : List (Addr × Obj)) (d0 d1 d2 d3 d4 d5 : Int) (t0 t1 t2 t3 t4 t5 : Tok)
   (B : Below callerA base [] h₀) (F : Fr h₀ L s.heap m) (X : (Mine.hd.heap_1 w.params).In h₀) (N : News h₀ L s.heap ((D0, Mine.sixList d0 d1 d2 d3 d4 d5 t0 t1 t2 t3 t4 t5) :: (L + 1 + 1, o2) :: news)) (T : Top Mine.hd.view_1 (looseW Mine.hd.view_1 []) mean mg mb h₀)
   (h2 : o2.data = .cell (some (.ref D0)))
   (hret : ∀ (t : Tok) (h' : Heap) (tk' : Tok), Fr h₀ L h' (fun y => if y = Str.ofString "lead" then some (.str (Mine.leadS d4) t) else m y) → News h₀ L h' ((D0, Mine.sixList d0 d1 d2 d3 d4 d5 t0 t1 t2 t3 t4 t5) :: (L + 1 + 1, o2) :: news) → Q .next { s with heap := h', toks := tk' }),
   wpAny (model PySem.Challenge.rw_to0016_01.row.prog w) (callerA.deeper (envOfC (Str.ofString "law") sc L fa cdv)) (exec st (envOfC (Str.ofString "law") sc L fa cdv)) Q E s := by
  k_fill
  k_with_none
  intro w mean mg mb st sc hst fa cdv base h₀ L m s o2 Q E D0 news d0 d1 d2 d3 d4 d5 t0 t1 t2 t3 t4 t5 B F X N T h2 hret
  have e := Option.some.inj (hst.symm.trans (rfl : Mine.lawAt 3 = some _))
  clear hst
  cases e
  (repeat' (first | first | (k_unfold; (try dsimp only)) | (k_end; wrow_close) | (walk1; (try dsimp only)) | (dsimp only; walk1) | (leave1; walk_say "STEP leave1"; try dsimp only) | fail "no step"))
  with_reducible rename Fr h₀ L _ _ => Fz
  with_reducible rename News h₀ L _ _ => Nz
  exact hret _ _ _ Fz (fun p hp => Nz p (.tail _ hp))

theorem Mine.st4 : ∀ (w : World) (mean : ExcName → Option Value) (mg mb : Str → Option Value) (st : Stmt) (sc : Scope) (hst : Mine.lawAt 4 = some (st, sc)) (fa : Addr) (cdv : Value)
   (base h₀ : Heap) (L : Addr) (m : Str → Option Value) (s : Shared) (o2 : Obj) (Q : Flow → Shared → Prop) (E : Value → Shared → Prop) (D0 : Addr) (news : List (Addr × Obj)) (d0 d1 d2 d3 d4 d5 : Int) (t0 t1 t2 t3 t4 t5 : Tok)
   (B : Below callerA base [] h₀) (F : Fr h₀ L s.heap m) (X : (Mine.hd.heap_1 w.params).In h₀) (N : News h₀ L s.heap ((D0, Mine.sixList d0 d1 d2 d3 d4 d5 t0 t1 t2 t3 t4 t5) :: (L + 1 + 1, o2) :: news)) (T : Top Mine.hd.view_1 (looseW Mine.hd.view_1 []) mean mg mb h₀)
   (h2 : o2.data = .cell (some (.ref D0)))
   (hret : ∀ (t : Tok) (h' : Heap) (tk' : Tok), Fr h₀ L h' (fun y => if y = Str.ofString "mark" then some (.str (Mine.markS d4) t) else m y) → News h₀ L h' ((D0, Mine.sixList d0 d1 d2 d3 d4 d5 t0 t1 t2 t3 t4 t5) :: (L + 1 + 1, o2) :: news) → Q .next { s with heap := h', toks := tk' }),
   wpAny (model PySem.Challenge.rw_to0016_01.row.prog w) (callerA.deeper (envOfC (Str.ofString "law") sc L fa cdv)) (exec st (envOfC (Str.ofString "law") sc L fa cdv)) Q E s := by
  k_fill
  k_with_none
  intro w mean mg mb st sc hst fa cdv base h₀ L m s o2 Q E D0 news d0 d1 d2 d3 d4 d5 t0 t1 t2 t3 t4 t5 B F X N T h2 hret
  have e := Option.some.inj (hst.symm.trans (rfl : Mine.lawAt 4 = some _))
  clear hst
  cases e
  (repeat' (first | first | (k_unfold; (try dsimp only)) | (k_end; wrow_close) | (walk1; (try dsimp only)) | (dsimp only; walk1) | (leave1; walk_say "STEP leave1"; try dsimp only) | fail "no step"))
  with_reducible rename Fr h₀ L _ _ => Fz
  with_reducible rename News h₀ L _ _ => Nz
  exact hret _ _ _ Fz (Nz)

theorem Mine.st5 : ∀ (w : World) (mean : ExcName → Option Value) (mg mb : Str → Option Value) (st : Stmt) (sc : Scope) (hst : Mine.lawAt 5 = some (st, sc)) (fa : Addr) (cdv : Value)
   (base h₀ : Heap) (L : Addr) (m : Str → Option Value) (s : Shared) (o2 : Obj) (Q : Flow → Shared → Prop) (E : Value → Shared → Prop) (D0 : Addr) (news : List (Addr × Obj)) (d0 d1 d2 d3 d4 d5 : Int) (t0 t1 t2 t3 t4 t5 : Tok)
   (B : Below callerA base [] h₀) (F : Fr h₀ L s.heap m) (X : (Mine.hd.heap_1 w.params).In h₀) (N : News h₀ L s.heap ((D0, Mine.sixList d0 d1 d2 d3 d4 d5 t0 t1 t2 t3 t4 t5) :: (L + 1 + 1, o2) :: news)) (T : Top Mine.hd.view_1 (looseW Mine.hd.view_1 []) mean mg mb h₀)
   (h2 : o2.data = .cell (some (.ref D0)))
   (hret : ∀ (t : Tok) (h' : Heap) (tk' : Tok), Fr h₀ L h' (fun y => if y = Str.ofString "ahead" then some (.str (Mine.aheadS d4) t) else m y) → News h₀ L h' ((D0, Mine.sixList d0 d1 d2 d3 d4 d5 t0 t1 t2 t3 t4 t5) :: (L + 1 + 1, o2) :: news) → Q .next { s with heap := h', toks := tk' }),
   wpAny (model PySem.Challenge.rw_to0016_01.row.prog w) (callerA.deeper (envOfC (Str.ofString "law") sc L fa cdv)) (exec st (envOfC (Str.ofString "law") sc L fa cdv)) Q E s := by
  k_fill
  k_with_none
  intro w mean mg mb st sc hst fa cdv base h₀ L m s o2 Q E D0 news d0 d1 d2 d3 d4 d5 t0 t1 t2 t3 t4 t5 B F X N T h2 hret
  have e := Option.some.inj (hst.symm.trans (rfl : Mine.lawAt 5 = some _))
  clear hst
  cases e
  (repeat' (first | first | (k_unfold; (try dsimp only)) | (k_end; wrow_close) | (walk1; (try dsimp only)) | (dsimp only; walk1) | (leave1; walk_say "STEP leave1"; try dsimp only) | fail "no step"))
  with_reducible rename Fr h₀ L _ _ => Fz
  with_reducible rename News h₀ L _ _ => Nz
  exact hret _ _ _ Fz (fun p hp => Nz p (.tail _ hp))

theorem Mine.st6 : ∀ (w : World) (mean : ExcName → Option Value) (mg mb : Str → Option Value) (st : Stmt) (sc : Scope) (hst : Mine.lawAt 6 = some (st, sc)) (fa : Addr) (cdv : Value)
   (base h₀ : Heap) (L : Addr) (m : Str → Option Value) (s : Shared) (o2 : Obj) (Q : Flow → Shared → Prop) (E : Value → Shared → Prop) (D0 : Addr) (news : List (Addr × Obj)) (d0 d1 d2 d3 d4 d5 : Int) (t0 t1 t2 t3 t4 t5 : Tok)
   (B : Below callerA base [] h₀) (F : Fr h₀ L s.heap m) (X : (Mine.hd.heap_1 w.params).In h₀) (N : News h₀ L s.heap ((D0, Mine.sixList d0 d1 d2 d3 d4 d5 t0 t1 t2 t3 t4 t5) :: (L + 1 + 1, o2) :: news)) (T : Top Mine.hd.view_1 (looseW Mine.hd.view_1 []) mean mg mb h₀)
   (h2 : o2.data = .cell (some (.ref D0)))
   (hret : ∀ (t : Tok) (h' : Heap) (tk' : Tok), Fr h₀ L h' (fun y => if y = Str.ofString "behind" then some (.str (Mine.behindS d4) t) else m y) → News h₀ L h' ((D0, Mine.sixList d0 d1 d2 d3 d4 d5 t0 t1 t2 t3 t4 t5) :: (L + 1 + 1, o2) :: news) → Q .next { s with heap := h', toks := tk' }),
   wpAny (model PySem.Challenge.rw_to0016_01.row.prog w) (callerA.deeper (envOfC (Str.ofString "law") sc L fa cdv)) (exec st (envOfC (Str.ofString "law") sc L fa cdv)) Q E s := by
  k_fill
  k_with_none
  intro w mean mg mb st sc hst fa cdv base h₀ L m s o2 Q E D0 news d0 d1 d2 d3 d4 d5 t0 t1 t2 t3 t4 t5 B F X N T h2 hret
  have e := Option.some.inj (hst.symm.trans (rfl : Mine.lawAt 6 = some _))
  clear hst
  cases e
  (repeat' (first | first | (k_unfold; (try dsimp only)) | (k_end; wrow_close) | (walk1; (try dsimp only)) | (dsimp only; walk1) | (leave1; walk_say "STEP leave1"; try dsimp only) | fail "no step"))
  with_reducible rename Fr h₀ L _ _ => Fz
  with_reducible rename News h₀ L _ _ => Nz
  exact hret _ _ _ Fz (fun p hp => Nz p (.tail _ hp))

theorem Mine.st7 : ∀ (w : World) (mean : ExcName → Option Value) (mg mb : Str → Option Value) (st : Stmt) (sc : Scope) (hst : Mine.lawAt 7 = some (st, sc)) (fa : Addr) (cdv : Value)
   (base h₀ : Heap) (L : Addr) (m : Str → Option Value) (s : Shared) (o2 : Obj) (Q : Flow → Shared → Prop) (E : Value → Shared → Prop) (D0 : Addr) (news : List (Addr × Obj)) (d0 d1 d2 d3 d4 d5 : Int) (t0 t1 t2 t3 t4 t5 : Tok)
   (B : Below callerA base [] h₀) (F : Fr h₀ L s.heap m) (X : (Mine.hd.heap_1 w.params).In h₀) (N : News h₀ L s.heap ((D0, Mine.sixList d0 d1 d2 d3 d4 d5 t0 t1 t2 t3 t4 t5) :: (L + 1 + 1, o2) :: news)) (T : Top Mine.hd.view_1 (looseW Mine.hd.view_1 []) mean mg mb h₀)
   (h2 : o2.data = .cell (some (.ref D0)))
   (hret : ∀ (t : Tok) (h' : Heap) (tk' : Tok), Fr h₀ L h' (fun y => if y = Str.ofString "end" then some (.str (Mine.endS d4) t) else m y) → News h₀ L h' ((D0, Mine.sixList d0 d1 d2 d3 d4 d5 t0 t1 t2 t3 t4 t5) :: (L + 1 + 1, o2) :: news) → Q .next { s with heap := h', toks := tk' }),
   wpAny (model PySem.Challenge.rw_to0016_01.row.prog w) (callerA.deeper (envOfC (Str.ofString "law") sc L fa cdv)) (exec st (envOfC (Str.ofString "law") sc L fa cdv)) Q E s := by
  k_fill
  k_with_none
  intro w mean mg mb st sc hst fa cdv base h₀ L m s o2 Q E D0 news d0 d1 d2 d3 d4 d5 t0 t1 t2 t3 t4 t5 B F X N T h2 hret
  have e := Option.some.inj (hst.symm.trans (rfl : Mine.lawAt 7 = some _))
  clear hst
  cases e
  (repeat' (first | first | (k_unfold; (try dsimp only)) | (k_end; wrow_close) | (walk1; (try dsimp only)) | (dsimp only; walk1) | (leave1; walk_say "STEP leave1"; try dsimp only) | fail "no step"))
  with_reducible rename Fr h₀ L _ _ => Fz
  with_reducible rename News h₀ L _ _ => Nz
  exact hret _ _ _ Fz (fun p hp => Nz p (.tail _ hp))
theorem Mine.st8 : ∀ (w : World) (mean : ExcName → Option Value) (mg mb : Str → Option Value) (st : Stmt) (sc : Scope) (hst : Mine.lawAt 8 = some (st, sc)) (fa : Addr) (cdv : Value)
   (base h₀ : Heap) (L : Addr) (m : Str → Option Value) (s : Shared) (Q : Flow → Shared → Prop) (E : Value → Shared → Prop) (news : List (Addr × Obj))
   (B : Below callerA base [] h₀) (F : Fr h₀ L s.heap m) (X : (Mine.hd.heap_1 w.params).In h₀) (N : News h₀ L s.heap news) (T : Top Mine.hd.view_1 (looseW Mine.hd.view_1 []) mean mg mb h₀)
   (hret : ∀ (W : Addr) (h' : Heap) (tk' : Tok), (∀ p ∈ news, @Ne Nat p.1 W) → Fr h₀ L h' (fun y => if y = Str.ofString "words" then some (.ref W) else m y) → News h₀ L h' ((W, LCg.lst []) :: news) → Q .next { s with heap := h', toks := tk' }),
   wpAny (model PySem.Challenge.rw_to0016_01.row.prog w) (callerA.deeper (envOfC (Str.ofString "law") sc L fa cdv)) (exec st (envOfC (Str.ofString "law") sc L fa cdv)) Q E s := by
  k_fill
  k_with_none
  intro w mean mg mb st sc hst fa cdv base h₀ L m s Q E news B F X N T hret
  have e := Option.some.inj (hst.symm.trans (rfl : Mine.lawAt 8 = some _))
  clear hst
  cases e
  (repeat' (first | first | (k_unfold; (try dsimp only)) | (k_end; wrow_close) | (walk1; (try dsimp only)) | (dsimp only; walk1) | (leave1; walk_say "STEP leave1"; try dsimp only) | fail "no step"))
  with_reducible rename Fr h₀ L _ _ => Fz
  with_reducible rename News h₀ L _ _ => Nz
  exact hret _ _ _ (fun p hp => Nat.ne_of_lt ((by assumption : ∀ p ∈ news, p.1 < _) p hp)) Fz Nz


theorem Mine.st10 : ∀ (w : World) (mean : ExcName → Option Value) (mg mb : Str → Option Value) (st : Stmt) (sc : Scope) (hst : Mine.lawAt 10 = some (st, sc)) (fa : Addr) (cdv : Value)
   (base h₀ : Heap) (L : Addr) (m : Str → Option Value) (s : Shared) (Q : Flow → Shared → Prop) (E : Value → Shared → Prop) (D0 : Addr) (o2 : Obj) (news : List (Addr × Obj)) (d0 d1 d2 d3 d4 d5 : Int) (t0 t1 t2 t3 t4 t5 : Tok)
   (B : Below callerA base [] h₀) (F : Fr h₀ L s.heap m) (X : (Mine.hd.heap_1 w.params).In h₀) (N : News h₀ L s.heap ((D0, Mine.sixList d0 d1 d2 d3 d4 d5 t0 t1 t2 t3 t4 t5) :: (L + 1 + 1, o2) :: news)) (T : Top Mine.hd.view_1 (looseW Mine.hd.view_1 []) mean mg mb h₀)
   (h2 : o2.data = .cell (some (.ref D0)))
   (hret : ∀ (t : Tok) (h' : Heap) (tk' : Tok), Fr h₀ L h' (fun y => if y = Str.ofString "slack" then some (.int ((d5.fdiv 8).fmod 3 - 1) t) else m y) → News h₀ L h' ((D0, Mine.sixList d0 d1 d2 d3 d4 d5 t0 t1 t2 t3 t4 t5) :: (L + 1 + 1, o2) :: news) → Q .next { s with heap := h', toks := tk' }),
   wpAny (model PySem.Challenge.rw_to0016_01.row.prog w) (callerA.deeper (envOfC (Str.ofString "law") sc L fa cdv)) (exec st (envOfC (Str.ofString "law") sc L fa cdv)) Q E s := by
  k_fill
  k_with_none
  intro w mean mg mb st sc hst fa cdv base h₀ L m s Q E D0 o2 news d0 d1 d2 d3 d4 d5 t0 t1 t2 t3 t4 t5 B F X N T h2 hret
  have e := Option.some.inj (hst.symm.trans (rfl : Mine.lawAt 10 = some _))
  clear hst
  cases e
  (repeat' (first | first | (k_unfold; (try dsimp only)) | (k_end; wrow_close) | (walk1; (try dsimp only)) | (dsimp only; walk1) | (leave1; walk_say "STEP leave1"; try dsimp only) | fail "no step"))
  with_reducible rename Fr h₀ L _ _ => Fz
  with_reducible rename News h₀ L _ _ => Nz
  exact hret _ _ _ Fz Nz


theorem Mine.st11 : ∀ (w : World) (mean : ExcName → Option Value) (mg mb : Str → Option Value) (st : Stmt) (sc : Scope) (hst : Mine.lawAt 11 = some (st, sc)) (fa : Addr) (cdv : Value)
   (base h₀ : Heap) (L : Addr) (m : Str → Option Value) (s : Shared) (Q : Flow → Shared → Prop) (E : Value → Shared → Prop) (news : List (Addr × Obj))
   (B : Below callerA base [] h₀) (F : Fr h₀ L s.heap m) (X : (Mine.hd.heap_1 w.params).In h₀) (N : News h₀ L s.heap news) (T : Top Mine.hd.view_1 (looseW Mine.hd.view_1 []) mean mg mb h₀)
   (hret : ∀ (W : Addr) (h' : Heap) (tk' : Tok), (∀ p ∈ news, @Ne Nat p.1 W) → Fr h₀ L h' (fun y => if y = Str.ofString "ways" then some (.ref W) else m y) → News h₀ L h' ((W, LCg.lst []) :: news) → Q .next { s with heap := h', toks := tk' }),
   wpAny (model PySem.Challenge.rw_to0016_01.row.prog w) (callerA.deeper (envOfC (Str.ofString "law") sc L fa cdv)) (exec st (envOfC (Str.ofString "law") sc L fa cdv)) Q E s := by
  k_fill
  k_with_none
  intro w mean mg mb st sc hst fa cdv base h₀ L m s Q E news B F X N T hret
  have e := Option.some.inj (hst.symm.trans (rfl : Mine.lawAt 11 = some _))
  clear hst
  cases e
  (repeat' (first | first | (k_unfold; (try dsimp only)) | (k_end; wrow_close) | (walk1; (try dsimp only)) | (dsimp only; walk1) | (leave1; walk_say "STEP leave1"; try dsimp only) | fail "no step"))
  with_reducible rename Fr h₀ L _ _ => Fz
  with_reducible rename News h₀ L _ _ => Nz
  exact hret _ _ _ (fun p hp => Nat.ne_of_lt ((by assumption : ∀ p ∈ news, p.1 < _) p hp)) Fz Nz


theorem Mine.st13 : ∀ (w : World) (mean : ExcName → Option Value) (mg mb : Str → Option Value) (st : Stmt) (sc : Scope) (hst : Mine.lawAt 13 = some (st, sc)) (fa : Addr) (cdv : Value)
   (base h₀ : Heap) (L : Addr) (m : Str → Option Value) (s : Shared) (Q : Flow → Shared → Prop) (E : Value → Shared → Prop) (Y : Addr) (y0 y1 y2 y3 y4 y5 : Int) (t0 t1 t2 t3 t4 t5 : Tok) (news : List (Addr × Obj))
   (B : Below callerA base [] h₀) (F : Fr h₀ L s.heap (fun y => if y = Str.ofString "ways" then some (.ref Y) else m y)) (X : (Mine.hd.heap_1 w.params).In h₀) (N : News h₀ L s.heap ((Y, Mine.sixList y0 y1 y2 y3 y4 y5 t0 t1 t2 t3 t4 t5) :: news)) (T : Top Mine.hd.view_1 (looseW Mine.hd.view_1 []) mean mg mb h₀)
   (hret : ∀ (D : Addr) (ta tb tc : Tok) (h' : Heap) (tk' : Tok), Fr h₀ L h' (fun y => if y = Str.ofString "sums" then some (.ref D) else if y = Str.ofString "ways" then some (.ref Y) else m y) → News h₀ L h' ((D, listOf #[.int (y0 + y1) ta, .int (y2 + y3) tb, .int (y4 + y5) tc] 0) :: (Y, Mine.sixList y0 y1 y2 y3 y4 y5 t0 t1 t2 t3 t4 t5) :: news) → Q .next { s with heap := h', toks := tk' }),
   wpAny (model PySem.Challenge.rw_to0016_01.row.prog w) (callerA.deeper (envOfC (Str.ofString "law") sc L fa cdv)) (exec st (envOfC (Str.ofString "law") sc L fa cdv)) Q E s := by
  k_fill
  k_with_none
  intro w mean mg mb st sc hst fa cdv base h₀ L m s Q E Y y0 y1 y2 y3 y4 y5 t0 t1 t2 t3 t4 t5 news B F X N T hret
  have e := Option.some.inj (hst.symm.trans (rfl : Mine.lawAt 13 = some _))
  clear hst
  cases e
  (repeat' (first | first | (k_unfold; (try dsimp only)) | (k_end; wrow_close) | (walk1; (try dsimp only)) | (dsimp only; walk1) | (leave1; walk_say "STEP leave1"; try dsimp only) | fail "no step"))
  with_reducible rename Fr h₀ L _ _ => Fz
  with_reducible rename News h₀ L _ _ => Nz
  exact hret _ _ _ _ _ _ Fz Nz


theorem Mine.st20 : ∀ (w : World) (mean : ExcName → Option Value) (mg mb : Str → Option Value) (st : Stmt) (sc : Scope) (hst : Mine.lawAt 20 = some (st, sc)) (fa : Addr) (cdv : Value)
   (base h₀ : Heap) (L : Addr) (m : Str → Option Value) (s : Shared) (Q : Flow → Shared → Prop) (E : Value → Shared → Prop) (d : Int) (t : Tok) (news : List (Addr × Obj))
   (B : Below callerA base [] h₀) (F : Fr h₀ L s.heap (fun y => if y = Str.ofString "mark" then some (.str (Mine.markS d) t) else m y)) (X : (Mine.hd.heap_1 w.params).In h₀) (N : News h₀ L s.heap news) (T : Top Mine.hd.view_1 (looseW Mine.hd.view_1 []) mean mg mb h₀)
   (hret : ∀ (ti : Tok) (h' : Heap) (tk' : Tok), Fr h₀ L h' (fun y => if y = Str.ofString "inner" then some (.str (Txt.mul (Mine.markS d) 3 ++ Str.ofString "2121" ++ Mine.markS d) ti) else if y = Str.ofString "mark" then some (.str (Mine.markS d) t) else m y) → News h₀ L h' news → Q .next { s with heap := h', toks := tk' }),
   wpAny (model PySem.Challenge.rw_to0016_01.row.prog w) (callerA.deeper (envOfC (Str.ofString "law") sc L fa cdv)) (exec st (envOfC (Str.ofString "law") sc L fa cdv)) Q E s := by
  k_fill
  k_with_none
  intro w mean mg mb st sc hst fa cdv base h₀ L m s Q E d t news B F X N T hret
  have e := Option.some.inj (hst.symm.trans (rfl : Mine.lawAt 20 = some _))
  clear hst
  cases e
  obtain ⟨l1, l2, l3, l4, l5⟩ := Mine.lens d
  (repeat' (first | first | (k_unfold; (try dsimp only)) | (k_end; wrow_close) | (walk1; (try dsimp only)) | (dsimp only; walk1) | (leave1; walk_say "STEP leave1"; try dsimp only) | fail "no step"))
  with_reducible rename Fr h₀ L _ _ => Fz
  with_reducible rename News h₀ L _ _ => Nz
  exact hret _ _ _ Fz Nz


theorem Mine.st21 : ∀ (w : World) (mean : ExcName → Option Value) (mg mb : Str → Option Value) (st : Stmt) (sc : Scope) (hst : Mine.lawAt 21 = some (st, sc)) (fa : Addr) (cdv : Value)
   (base h₀ : Heap) (L : Addr) (m : Str → Option Value) (s : Shared) (Q : Flow → Shared → Prop) (E : Value → Shared → Prop) (D0 : Addr) (o1 o2 o3 o4 o5 o6 o7 o8 : Obj) (d0 d1 d2 d3 d4 d5 : Int) (t0 t1 t2 t3 t4 t5 : Tok)
   (B : Below callerA base [] h₀) (F : Fr h₀ L s.heap m) (X : (Mine.hd.heap_1 w.params).In h₀) (N : News h₀ L s.heap [(D0, Mine.sixList d0 d1 d2 d3 d4 d5 t0 t1 t2 t3 t4 t5), (L + 1 + 1 + 1 + 1 + 1 + 1 + 1 + 1, o8), (L + 1 + 1 + 1 + 1 + 1 + 1 + 1, o7), (L + 1 + 1 + 1 + 1 + 1 + 1, o6), (L + 1 + 1 + 1 + 1 + 1, o5), (L + 1 + 1 + 1 + 1, o4), (L + 1 + 1 + 1, o3), (L + 1 + 1, o2), (L + 1, o1)]) (T : Top Mine.hd.view_1 (looseW Mine.hd.view_1 []) mean mg mb h₀)
   (h2 : o2.data = .cell (some (.ref D0))) (hn : Mine.Nd [(D0, Mine.sixList d0 d1 d2 d3 d4 d5 t0 t1 t2 t3 t4 t5), (L + 1 + 1 + 1 + 1 + 1 + 1 + 1 + 1, o8), (L + 1 + 1 + 1 + 1 + 1 + 1 + 1, o7), (L + 1 + 1 + 1 + 1 + 1 + 1, o6), (L + 1 + 1 + 1 + 1 + 1, o5), (L + 1 + 1 + 1 + 1, o4), (L + 1 + 1 + 1, o3), (L + 1 + 1, o2), (L + 1, o1)]) (v7 v8 : Option Value) (h7 : o7.data = .cell v7) (h8 : o8.data = .cell v8)
   (hret : ∀ (o7' o8' : Obj) (ta tb : Tok) (h' : Heap) (tk' : Tok), o7'.data = .cell (some (.int ((d5.fdiv 24).fmod 3) ta)) → o8'.data = .cell (some (.int ((d5.fdiv 72).fmod 9 + 1) tb)) → Fr h₀ L h' m → News h₀ L h' [(D0, Mine.sixList d0 d1 d2 d3 d4 d5 t0 t1 t2 t3 t4 t5), (L + 1 + 1 + 1 + 1 + 1 + 1 + 1 + 1, o8'), (L + 1 + 1 + 1 + 1 + 1 + 1 + 1, o7'), (L + 1 + 1 + 1 + 1 + 1 + 1, o6), (L + 1 + 1 + 1 + 1 + 1, o5), (L + 1 + 1 + 1 + 1, o4), (L + 1 + 1 + 1, o3), (L + 1 + 1, o2), (L + 1, o1)] → Q .next { s with heap := h', toks := tk' }),
   wpAny (model PySem.Challenge.rw_to0016_01.row.prog w) (callerA.deeper (envOfC (Str.ofString "law") sc L fa cdv)) (exec st (envOfC (Str.ofString "law") sc L fa cdv)) Q E s := by
  k_fill
  k_with_none
  intro w mean mg mb st sc hst fa cdv base h₀ L m s Q E D0 o1 o2 o3 o4 o5 o6 o7 o8 d0 d1 d2 d3 d4 d5 t0 t1 t2 t3 t4 t5 B F X N T h2 hn v7 v8 h7 h8 hret
  have e := Option.some.inj (hst.symm.trans (rfl : Mine.lawAt 21 = some _))
  clear hst
  cases e
  obtain ⟨q1, q2, q3, q4, q5, q6, q7, q8, _⟩ := Mine.nd_all (pre := [_, _]) (post := [_, _, _, _, _, _]) hn
  obtain ⟨r1, r2, r3, r4, r5, r6, r7, r8, _⟩ := Mine.nd_all (pre := [_]) (post := [_, _, _, _, _, _, _]) hn
  (repeat' (first | first | (k_unfold; (try dsimp only)) | (k_end; wrow_close) | (walk1; (try dsimp only)) | (dsimp only; walk1) | (leave1; walk_say "STEP leave1"; try dsimp only) | fail "no step"))
  with_reducible rename Fr h₀ L _ _ => Fz
  with_reducible rename News h₀ L _ _ => Nz
  exact hret _ _ _ _ _ _ (by assumption) (by assumption) Fz (fun p hp => Nz p (.tail _ hp))
theorem Mine.turn9 : ∀ (w : World) (mean : ExcName → Option Value) (mg mb : Str → Option Value) (st : Stmt) (sc : Scope) (tg it : Expr) (body : List Stmt) (hst : Mine.lawAt 9 = some (st, sc)) (hb : Mine.forAt 9 = some (tg, it, body)) (fa : Addr) (cdv : Value)
   (base h₀ : Heap) (L : Addr) (m : Str → Option Value) (s : Shared) (Q : Flow → Shared → Prop) (E : Value → Shared → Prop) (W R : Addr) (ws : List Value) (d v : Int) (rest : List (Addr × Obj)) (tl tm ta tb te t0 t1 t2 t3 t4 : Tok)
   (B : Below callerA base [] h₀) (F : Fr h₀ L s.heap (fun y => if y = Str.ofString "row" then some (.ref R) else if y = Str.ofString "lead" then some (.str (Mine.leadS d) tl) else if y = Str.ofString "mark" then some (.str (Mine.markS d) tm) else
     if y = Str.ofString "ahead" then some (.str (Mine.aheadS d) ta) else if y = Str.ofString "behind" then some (.str (Mine.behindS d) tb) else if y = Str.ofString "end" then some (.str (Mine.endS d) te) else if y = Str.ofString "words" then some (.ref W) else m y)) (X : (Mine.hd.heap_1 w.params).In h₀)
   (N : News h₀ L s.heap ((W, LCg.lst ws) :: (R, LCg.lst [.int (Mine.bitI v 0) t0, .int (Mine.bitI v 1) t1, .int (Mine.bitI v 2) t2, .int (Mine.bitI v 3) t3, .int (Mine.bitI v 4) t4]) :: rest)) (T : Top Mine.hd.view_1 (looseW Mine.hd.view_1 []) mean mg mb h₀)
   (hW : ∀ p ∈ (R, LCg.lst [.int (Mine.bitI v 0) t0, .int (Mine.bitI v 1) t1, .int (Mine.bitI v 2) t2, .int (Mine.bitI v 3) t3, .int (Mine.bitI v 4) t4]) :: rest, @Ne Nat p.1 W) (hl : ws.length ≤ 100)
   (hret : ∀ (m' : Str → Option Value) (t : Tok) (h' : Heap) (tk' : Tok), Mine.Loc d W m' → Fr h₀ L h' m' →
     News h₀ L h' ((W, LCg.lst (ws ++ [.str (Mine.wordS v) t])) :: (R, LCg.lst [.int (Mine.bitI v 0) t0, .int (Mine.bitI v 1) t1, .int (Mine.bitI v 2) t2, .int (Mine.bitI v 3) t3, .int (Mine.bitI v 4) t4]) :: rest) → Q .next { s with heap := h', toks := tk' }),
   wpAny (model PySem.Challenge.rw_to0016_01.row.prog w) (callerA.deeper (envOfC (Str.ofString "law") sc L fa cdv)) (execs body (envOfC (Str.ofString "law") sc L fa cdv)) Q E s := by
  k_fill
  k_with_none
  intro w mean mg mb st sc tg it body hst hb fa cdv base h₀ L m s Q E W R ws d v rest tl tm ta tb te t0 t1 t2 t3 t4 B F X N T hW hl hret
  have e := Option.some.inj (hst.symm.trans (rfl : Mine.lawAt 9 = some _))
  clear hst
  cases e
  have e := Option.some.inj (hb.symm.trans (rfl : Mine.forAt 9 = some _))
  clear hb
  cases e
  have b0 : 0 ≤ [Mine.bitI v 0, Mine.bitI v 1, Mine.bitI v 2, Mine.bitI v 3, Mine.bitI v 4].getD (Int.toNat 0) 0 ∧ [Mine.bitI v 0, Mine.bitI v 1, Mine.bitI v 2, Mine.bitI v 3, Mine.bitI v 4].getD (Int.toNat 0) 0 < 2 := Mine.bitI_rng v 0
  have b1 : 0 ≤ [Mine.bitI v 0, Mine.bitI v 1, Mine.bitI v 2, Mine.bitI v 3, Mine.bitI v 4].getD (Int.toNat 1) 0 ∧ [Mine.bitI v 0, Mine.bitI v 1, Mine.bitI v 2, Mine.bitI v 3, Mine.bitI v 4].getD (Int.toNat 1) 0 < 2 := Mine.bitI_rng v 1
  have b2 : 0 ≤ [Mine.bitI v 0, Mine.bitI v 1, Mine.bitI v 2, Mine.bitI v 3, Mine.bitI v 4].getD (Int.toNat 2) 0 ∧ [Mine.bitI v 0, Mine.bitI v 1, Mine.bitI v 2, Mine.bitI v 3, Mine.bitI v 4].getD (Int.toNat 2) 0 < 2 := Mine.bitI_rng v 2
  have b3 : 0 ≤ [Mine.bitI v 0, Mine.bitI v 1, Mine.bitI v 2, Mine.bitI v 3, Mine.bitI v 4].getD (Int.toNat 3) 0 ∧ [Mine.bitI v 0, Mine.bitI v 1, Mine.bitI v 2, Mine.bitI v 3, Mine.bitI v 4].getD (Int.toNat 3) 0 < 2 := Mine.bitI_rng v 3
  have b4 : 0 ≤ [Mine.bitI v 0, Mine.bitI v 1, Mine.bitI v 2, Mine.bitI v 3, Mine.bitI v 4].getD (Int.toNat 4) 0 ∧ [Mine.bitI v 0, Mine.bitI v 1, Mine.bitI v 2, Mine.bitI v 3, Mine.bitI v 4].getD (Int.toNat 4) 0 < 2 := Mine.bitI_rng v 4
  obtain ⟨l1, l2, l3, l4, l5⟩ := Mine.lens d
  have hp9 := Mine.port_rng v
  have hn9 : (Mine.nameS v).length ≤ 10 := (Mine.name_good v d).rlen
  (repeat' (first | ((fail_if_success (with_reducible show wpAny _ _ (call (Value.ref 65) _ _) _ _ _)); first | (k_unfold; (try dsimp only)) | (k_end; wrow_close) | (walk1; (try dsimp only)) | (dsimp only; walk1) | (leave1; walk_say "STEP leave1"; try dsimp only)) | fail "no step"))
  (k_dflt (refine' Mine.p257C ?B ?F ?X ?N ?T ?hk ?hdp ?hu ?H ?H0 ?H1 ?HR ?_; (case B => k_asm); (case F => k_asm); (case X => k_asm); (case N => k_asm); (case T => k_asm); (case hk => exact rfl); (case hdp => ktr_room); (case hu => ktr_units); (case H => exact (Mine.name_good _ _).len); (case H0 => exact (Mine.name_good _ _).h0); (case H1 => exact (Mine.name_good _ _).h1); (case HR => exact (Mine.name_good _ _).go)); intro t9 h9 tk9 F9 N9; (try dsimp only); (try k_sweep))
  (repeat' (first | ((fail_if_success (with_reducible show wpAny _ _ (call (Value.ref 58) _ _) _ _ _)); first | (k_unfold; (try dsimp only)) | (k_end; wrow_close) | (walk1; (try dsimp only)) | (dsimp only; walk1) | (leave1; walk_say "STEP leave1"; try dsimp only)) | fail "no step"))
  (k_dflt (refine' Mine.p229C ?B ?F ?X ?N ?T ?hk ?hdp ?hu ?G ?_; (case B => k_asm); (case F => k_asm); (case X => k_asm); (case N => k_asm); (case T => k_asm); (case hk => exact rfl); (case hdp => ktr_room); (case hu => ktr_units); (case G => exact Mine.told_good _ _)); intro D9 ta9 tb9 h9 tk9 F9 N9 l9; (try dsimp only); (try simp only [AllLt, and_true] at l9); (try k_sweep))
  (repeat' (first | first | (k_unfold; (try dsimp only)) | (k_end; wrow_close) | (walk1; (try dsimp only)) | (dsimp only; walk1) | (leave1; walk_say "STEP leave1"; try dsimp only) | fail "no step"))
  all_goals first
    | (with_reducible rename (_ != _) = true => az; exact Mine.bne_abs (x := Mine.nameS v) az)
    | (with_reducible rename Fr h₀ L _ _ => Fz
       with_reducible rename News h₀ L _ _ => Nz
       exact hret _ _ _ _ ⟨⟨_, rfl⟩, ⟨_, rfl⟩, ⟨_, rfl⟩, ⟨_, rfl⟩, ⟨_, rfl⟩, rfl⟩ Fz Nz)
theorem Mine.st9 : ∀ (w : World) (mean : ExcName → Option Value) (mg mb : Str → Option Value) (st : Stmt) (sc : Scope) (hst : Mine.lawAt 9 = some (st, sc)) (fa : Addr) (cdv : Value)
   (base h₀ : Heap) (L : Addr) (m : Str → Option Value) (s : Shared) (o5 : Obj) (Q : Flow → Shared → Prop) (E : Value → Shared → Prop) (R R0 R1 R2 R3 W : Addr) (p0 p1 p2 p3 : Obj) (d v0 v1 v2 v3 : Int) (rest : List (Addr × Obj))
   (B : Below callerA base [] h₀) (F : Fr h₀ L s.heap m) (X : (Mine.hd.heap_1 w.params).In h₀)
   (N : News h₀ L s.heap ((W, LCg.lst []) :: (L + 1 + 1 + 1 + 1 + 1, o5) :: (R, Mine.rowsObj R0 R1 R2 R3) :: (R3, p3) :: (R2, p2) :: (R1, p1) :: (R0, p0) :: rest)) (T : Top Mine.hd.view_1 (looseW Mine.hd.view_1 []) mean mg mb h₀)
   (h5 : o5.data = .cell (some (.ref R))) (hm : Mine.Loc d W m) (hW : ∀ p ∈ (L + 1 + 1 + 1 + 1 + 1, o5) :: (R, Mine.rowsObj R0 R1 R2 R3) :: (R3, p3) :: (R2, p2) :: (R1, p1) :: (R0, p0) :: rest, @Ne Nat p.1 W)
   (hr0 : Mine.IsRow v0 p0) (hr1 : Mine.IsRow v1 p1) (hr2 : Mine.IsRow v2 p2) (hr3 : Mine.IsRow v3 p3)
   (hE : PassesOwn (model PySem.Challenge.rw_to0016_01.row.prog w) (callerA.deeper (envOfC (Str.ofString "law") sc L fa cdv)) (envOfC (Str.ofString "law") sc L fa cdv) E)
   (hret : ∀ (m' : Str → Option Value) (t0 t1 t2 t3 : Tok) (h' : Heap) (tk' : Tok), Mine.Loc d W m' → Fr h₀ L h' m' →
     News h₀ L h' ((W, LCg.lst [.str (Mine.wordS v0) t0, .str (Mine.wordS v1) t1, .str (Mine.wordS v2) t2, .str (Mine.wordS v3) t3]) :: (L + 1 + 1 + 1 + 1 + 1, o5) :: (R, Mine.rowsObj R0 R1 R2 R3) :: (R3, p3) :: (R2, p2) :: (R1, p1) :: (R0, p0) :: rest) → Q .next { s with heap := h', toks := tk' }),
   wpAny (model PySem.Challenge.rw_to0016_01.row.prog w) (callerA.deeper (envOfC (Str.ofString "law") sc L fa cdv)) (exec st (envOfC (Str.ofString "law") sc L fa cdv)) Q E s := by
  k_fill
  k_with_none
  intro w mean mg mb st sc hst fa cdv base h₀ L m s o5 Q E R R0 R1 R2 R3 W p0 p1 p2 p3 d v0 v1 v2 v3 rest B F X N T h5 hm hW hr0 hr1 hr2 hr3 hE hret
  have hst' := hst
  have e := Option.some.inj (hst.symm.trans (rfl : Mine.lawAt 9 = some _))
  clear hst
  cases e
  refine For_unr h₀ ?_ (hE := hE)
  walk1
  have nR := N _ (.tail _ (.tail _ (.head _)))
  have nW := N _ (.head _)
  have hl : s.heap.IsList R #[.ref R0, .ref R1, .ref R2, .ref R3] := ⟨_, nR.1, rfl, _, rfl⟩
  have hRlt : R < s.heap.objs.size := Heap.lt_size nR.1
  have up : ∀ b o, s.heap.get? b = some o → (s.heap.push { cls := .type "list_iterator", data := .fields #[.ref R, .int 0 0] }).get? b = some o := fun b o e => Heap.get?_push_of_some _ e
  refine wpAny_pyIter_list hl ?_
  refine ⟨s.heap.objs.size, _, _, 4, _, _, m, _, rfl, Walks.list rfl s.heap.objs.size R (Nat.ne_of_lt hRlt) #[.ref R0, .ref R1, .ref R2, .ref R3], ?a, ?b, ?c, ⟨⟨_, Heap.get?_push_size _ rfl, rfl, rfl⟩, hl.push _⟩, F.keeps up, N.grown up, ?d, ?e⟩
  case a =>
    intro hmem
    rcases List.mem_cons.mp hmem with e | hmem
    · exact absurd e (Nat.ne_of_lt F.ns.lt)
    · exact nR.2.1 (List.mem_singleton.mp hmem).symm
  case b =>
    intro b hb
    rw [List.mem_singleton.mp hb]
    exact next_is_new F
  case c =>
    intro p hp hmem
    exact absurd (List.mem_singleton.mp hmem) (Nat.ne_of_lt (Heap.lt_size (N p hp).1))
  case d =>
    intro i s' v Q' a b
    exact wpAny_of_eq rfl b
  case e =>
    refine (?key : ∀ (k i : Nat) (m₁ : Str → Option Value) (ws : List Value), i + k = 4 → Mine.Loc d W m₁ → Mine.WordsInv [v0, v1, v2, v3] i ws → Unr _ _ _ _ _ _ _ _ _ _ _ _ k i m₁ ((W, LCg.lst ws) :: _)) 4 0 m [] rfl hm ⟨rfl, fun j y hj => by simp at hj⟩
    case key =>
      intro k
      induction k with
      | zero =>
        intro i m₁ ws hik hm₁ hws
        obtain rfl : i = 4 := by omega
        obtain ⟨t0, t1, t2, t3, rfl⟩ := Mine.words_four hws
        exact Unr.zero fun h' tk F N => hret _ _ _ _ _ _ _ hm₁ F N
      | succ k ih =>
        intro i m₁ ws hik hm₁ hws
        refine Unr.succ fun v h₁ tk₁ own hP hown F₁ N₁ => ?_
        obtain ⟨Ri, pi, rfl, hmem, hrow⟩ : ∃ (Ri : Addr) (pi : Obj), v = .ref Ri ∧ (Ri, pi) ∈ ((L + 1 + 1 + 1 + 1 + 1, o5) :: (R, Mine.rowsObj R0 R1 R2 R3) :: (R3, p3) :: (R2, p2) :: (R1, p1) :: (R0, p0) :: rest) ∧ Mine.IsRow ([v0, v1, v2, v3].getD i 0) pi := by
          rcases (by omega : i = 0 ∨ i = 1 ∨ i = 2 ∨ i = 3) with rfl | rfl | rfl | rfl
          · exact ⟨R0, p0, (Option.some.inj hP).symm, .tail _ (.tail _ (.tail _ (.tail _ (.tail _ (.head _))))), hr0⟩
          · exact ⟨R1, p1, (Option.some.inj hP).symm, .tail _ (.tail _ (.tail _ (.tail _ (.head _)))), hr1⟩
          · exact ⟨R2, p2, (Option.some.inj hP).symm, .tail _ (.tail _ (.tail _ (.head _))), hr2⟩
          · exact ⟨R3, p3, (Option.some.inj hP).symm, .tail _ (.tail _ (.head _)), hr3⟩
        obtain ⟨t0, t1, t2, t3, t4, rfl⟩ := hrow
        refine wpAny_assign_Name ?_
        walk1
        with_reducible rename Fr h₀ _ _ _ => Fz
        with_reducible rename News h₀ _ _ _ => Nz
        obtain ⟨tl, tm, ta, tb, te, em⟩ := Mine.loc_canon hm₁
        rw [em] at Fz
        have hown' : ∀ p ∈ own, @Ne Nat p.1 W := fun p hp e => by
          have := hown p hp
          rw [e] at this
          rcases List.mem_cons.mp this with e' | this
          · exact absurd e' (Nat.ne_of_lt (Heap.lt_size nW.1))
          · exact hW _ (.tail _ (.head _)) (List.mem_singleton.mp this).symm
        refine Mine.turn9 w _ _ _ _ _ _ _ _ hst' rfl fa cdv base h₀ L m₁ _ _ _ W Ri ws d _ (own ++ _) tl tm ta tb te t0 t1 t2 t3 t4 B Fz X (Mine.news_in Nz hmem) T ?hW ?hl (fun m' t h' tk' hlo F N => ?_)
        case hW =>
          intro p hp
          rcases List.mem_cons.mp hp with rfl | hp
          · exact hW _ hmem
          rcases List.mem_append.mp hp with hp | hp
          · exact hown' p hp
          · exact hW p hp
        case hl =>
          have := hws.1
          omega
        exact LoopStep3.next ⟨rfl, h', tk', m', _, rfl, F, Mine.news_out N, rfl, ih (i + 1) m' _ (by omega) hlo (Mine.words_step hws)⟩
theorem Mine.iter12 : ∀ (w : World) (mean : ExcName → Option Value) (mg mb : Str → Option Value) (st : Stmt) (sc : Scope) (tg it : Expr) (body : List Stmt) (hst : Mine.lawAt 12 = some (st, sc)) (hb : Mine.forAt 12 = some (tg, it, body)) (fa : Addr) (cdv : Value)
   (base h₀ : Heap) (L : Addr) (m : Str → Option Value) (s : Shared) (news : List (Addr × Obj)) (Q : Value → Shared → Prop) (E : Value → Shared → Prop)
   (B : Below callerA base [] h₀) (F : Fr h₀ L s.heap m) (X : (Mine.hd.heap_1 w.params).In h₀) (N : News h₀ L s.heap news) (T : Top Mine.hd.view_1 (looseW Mine.hd.view_1 []) mean mg mb h₀)
   (hret : ∀ (TT T0 T1 T2 T3 T4 T5 : Addr) (x0 y0 x1 y1 x2 y2 x3 y3 x4 y4 x5 y5 : Tok) (h' : Heap) (tk' : Tok), AllLt T0 news → @LT.lt Nat _ T0 T1 → @LT.lt Nat _ T1 T2 → @LT.lt Nat _ T2 T3 → @LT.lt Nat _ T3 T4 → @LT.lt Nat _ T4 T5 → @LT.lt Nat _ T5 TT → Fr h₀ L h' m → News h₀ L h' ((TT, { cls := .type "tuple", data := .seq #[.ref T0, .ref T1, .ref T2, .ref T3, .ref T4, .ref T5] }) :: (T5, { cls := .type "tuple", data := .seq #[.int 1 x5, .int 2 y5] }) :: (T4, { cls := .type "tuple", data := .seq #[.int 0 x4, .int 3 y4] }) :: (T3, { cls := .type "tuple", data := .seq #[.int 1 x3, .int 3 y3] }) :: (T2, { cls := .type "tuple", data := .seq #[.int 0 x2, .int 2 y2] }) :: (T1, { cls := .type "tuple", data := .seq #[.int 2 x1, .int 3 y1] }) :: (T0, { cls := .type "tuple", data := .seq #[.int 0 x0, .int 1 y0] }) :: news) → Q (.ref TT) { s with heap := h', toks := tk' }),
   wpAny (model PySem.Challenge.rw_to0016_01.row.prog w) (callerA.deeper (envOfC (Str.ofString "law") sc L fa cdv)) (eval it (envOfC (Str.ofString "law") sc L fa cdv)) Q E s := by
  k_fill
  k_with_none
  intro w mean mg mb st sc tg it body hst hb fa cdv base h₀ L m s news Q E B F X N T hret
  have e := Option.some.inj (hst.symm.trans (rfl : Mine.lawAt 12 = some _))
  clear hst
  cases e
  have e := Option.some.inj (hb.symm.trans (rfl : Mine.forAt 12 = some _))
  clear hb
  cases e
  (repeat' (first | first | (k_unfold; (try dsimp only)) | (k_end; wrow_close) | (walk1; (try dsimp only)) | (dsimp only; walk1) | (leave1; walk_say "STEP leave1"; try dsimp only) | fail "no step"))
  with_reducible rename Fr h₀ L _ _ => Fz
  with_reducible rename News h₀ L _ _ => Nz
  refine hret _ _ _ _ _ _ _ _ _ _ _ _ _ _ _ _ _ _ _ _ _ ?_ ?_ ?_ ?_ ?_ ?_ ?_ Fz Nz
  · first
      | exact allLt_of (by assumption)
      | assumption
  all_goals omega
theorem Mine.asg12 : ∀ (w : World) (mean : ExcName → Option Value) (mg mb : Str → Option Value) (st : Stmt) (sc : Scope) (tg it : Expr) (body : List Stmt) (hst : Mine.lawAt 12 = some (st, sc)) (hb : Mine.forAt 12 = some (tg, it, body)) (fa : Addr) (cdv : Value)
   (base h₀ : Heap) (L : Addr) (m : Str → Option Value) (s : Shared) (rest : List (Addr × Obj)) (Q : Unit → Shared → Prop) (E : Value → Shared → Prop) (Tn : Addr) (a b : Int) (ta tb : Tok) (o4 o6 : Obj) (c4 c6 : Option Value)
   (B : Below callerA base [] h₀) (F : Fr h₀ L s.heap m) (X : (Mine.hd.heap_1 w.params).In h₀) (N : News h₀ L s.heap ((Tn, { cls := .type "tuple", data := .seq #[.int a ta, .int b tb] }) :: (L + 1 + 1 + 1 + 1, o4) :: (L + 1 + 1 + 1 + 1 + 1 + 1, o6) :: rest)) (T : Top Mine.hd.view_1 (looseW Mine.hd.view_1 []) mean mg mb h₀)
   (h4 : o4.data = .cell c4) (h6 : o6.data = .cell c6) (nT4 : @Ne Nat Tn (L + 1 + 1 + 1 + 1)) (nT6 : @Ne Nat Tn (L + 1 + 1 + 1 + 1 + 1 + 1)) (n4 : ∀ p ∈ rest, @Ne Nat p.1 (L + 1 + 1 + 1 + 1)) (n6 : ∀ p ∈ rest, @Ne Nat p.1 (L + 1 + 1 + 1 + 1 + 1 + 1))
   (hret : ∀ (o4' o6' : Obj) (ta tb : Tok) (h' : Heap) (tk' : Tok), o4'.data = .cell (some (.int a ta)) → o6'.data = .cell (some (.int b tb)) → Fr h₀ L h' m → News h₀ L h' ((L + 1 + 1 + 1 + 1, o4') :: (L + 1 + 1 + 1 + 1 + 1 + 1, o6') :: rest) → Q () { s with heap := h', toks := tk' }),
   wpAny (model PySem.Challenge.rw_to0016_01.row.prog w) (callerA.deeper (envOfC (Str.ofString "law") sc L fa cdv)) (assign tg (envOfC (Str.ofString "law") sc L fa cdv) (.ref Tn)) Q E s := by
  k_fill
  k_with_none
  intro w mean mg mb st sc tg it body hst hb fa cdv base h₀ L m s rest Q E Tn a b ta tb o4 o6 c4 c6 B F X N T h4 h6 nT4 nT6 n4 n6 hret
  have e := Option.some.inj (hst.symm.trans (rfl : Mine.lawAt 12 = some _))
  clear hst
  cases e
  have e := Option.some.inj (hb.symm.trans (rfl : Mine.forAt 12 = some _))
  clear hb
  cases e
  (repeat' (first | ((fail_if_success (with_reducible show wpAny _ _ (storeName _ _ _) _ _ _)); first | (k_unfold; (try dsimp only)) | (k_end; wrow_close) | (walk1; (try dsimp only)) | (dsimp only; walk1) | (leave1; walk_say "STEP leave1"; try dsimp only)) | fail "no step"))
  with_reducible rename Fr h₀ L _ _ => F1
  with_reducible rename News h₀ L _ _ => N1
  refine Mine.store_cell (c := L + 1 + 1 + 1 + 1) F1 (Mine.news_sub N1 (Mine.sub_cons (.tail _ (.head _)) (Mine.sub_cons (.head _) (Mine.sub_cons (.tail _ (.tail _ (.head _))) (fun p hp => .tail _ (.tail _ (.tail _ hp))))))) ?_ h4 rfl rfl rfl ?_
  · intro p hp
    rcases List.mem_cons.mp hp with rfl | hp
    · exact nT4
    rcases List.mem_cons.mp hp with rfl | hp
    · show @Ne Nat (L + 1 + 1 + 1 + 1 + 1 + 1) (L + 1 + 1 + 1 + 1)
      omega
    · exact n4 p hp
  intro h1 o4' d4 F2 N2
  clear F1 N1
  (repeat' (first | ((fail_if_success (with_reducible show wpAny _ _ (storeName _ _ _) _ _ _)); first | (k_unfold; (try dsimp only)) | (k_end; wrow_close) | (walk1; (try dsimp only)) | (dsimp only; walk1) | (leave1; walk_say "STEP leave1"; try dsimp only)) | fail "no step"))
  with_reducible rename Fr h₀ L _ _ => F3
  with_reducible rename News h₀ L _ _ => N3
  refine Mine.store_cell (c := L + 1 + 1 + 1 + 1 + 1 + 1) F3 (Mine.news_sub N3 (Mine.sub_cons (.tail _ (.tail _ (.head _))) (Mine.sub_cons (.head _) (fun p hp => .tail _ (.tail _ (.tail _ hp)))))) ?_ h6 rfl rfl rfl ?_
  · intro p hp
    rcases List.mem_cons.mp hp with rfl | hp
    · show @Ne Nat (L + 1 + 1 + 1 + 1) (L + 1 + 1 + 1 + 1 + 1 + 1)
      omega
    · exact n6 p hp
  intro h2 o6' d6 F4 N4
  clear F3 N3
  (repeat' (first | first | (k_unfold; (try dsimp only)) | (k_end; wrow_close) | (walk1; (try dsimp only)) | (dsimp only; walk1) | (leave1; walk_say "STEP leave1"; try dsimp only) | fail "no step"))
  exact hret _ _ _ _ _ _ d4 d6 F4 (Mine.news_sub N4 (Mine.sub_cons (.tail _ (.head _)) (Mine.sub_cons (.head _) (fun p hp => .tail _ (.tail _ hp)))))
section
local macro_rules | `(tactic| walk_at "subscriptTail") => `(tactic| (k_here; (with_reducible show wpAny _ _ (subscriptTail _ _ (Value.ref _) (Value.int (Nat.cast _) _)) _ _ _); (refine' Mine.pickNat ?n ?m ?b ?p ?_; (case n => k_asm); (case m => k_mem); (case b => with_reducible assumption); (case p => with_reducible assumption))))
local macro_rules | `(tactic| walk_at "subscriptTail") => `(tactic| (k_here; (with_reducible show wpAny _ _ (subscriptTail _ _ (Value.ref _) (Value.int _ _)) _ _ _); (refine' Mine.pickLast ?n ?m rfl ?_; (case n => k_asm); (case m => k_mem))))
theorem Mine.test12 : ∀ (w : World) (mean : ExcName → Option Value) (mg mb : Str → Option Value) (ct elt : Expr) (sc csc : Scope) (st : Stmt) (hst : Mine.lawAt 12 = some (st, sc)) (hel : Mine.comp12 = some (ct, elt, csc)) (fa : Addr) (cdv : Value)
   (base h₀ : Heap) (L : Addr) (m : Str → Option Value) (s : Shared) (R RI RJ P : Addr) (rl : List Value) (i j : Nat) (va vb : Int) (a0 a1 a2 a3 a4 b0 b1 b2 b3 b4 q0 q1 q2 q3 q4 ti tj : Tok) (o3 o4 o5 o6 : Obj) (rest : List (Addr × Obj)) (Y W : Addr) (oY oW : Obj) (Qy : Value → Shared → Prop) (Qn : Shared → Prop) (E : Value → Shared → Prop)
   (k : Nat) (hk : k < 5) (v : Value) (I : Addr) (oI : Obj) (C : Addr) (oC : Obj) (D : Addr) (ys : List Value) (m₂ : Str → Option Value) (h : Heap) (tk : Tok)
   (B : Below callerA base [] h₀) (hv : ∃ t, v = .int (0 + (k : Int)) t) (hC : LCg.NsObj oC m₂) (hx : m₂ (Str.ofString "k") = some v) (F : Fr h₀ L h m) (X : (Mine.hd.heap_1 w.params).In h₀)
   (N : News h₀ L h ((I, oI) :: (C, oC) :: (D, LCg.lst ys) :: (Y, oY) :: (W, oW) :: (R, LCg.lst rl) :: (RI, (LCg.lst [.int (Mine.bitI va 0) a0, .int (Mine.bitI va 1) a1, .int (Mine.bitI va 2) a2, .int (Mine.bitI va 3) a3, .int (Mine.bitI va 4) a4])) :: (RJ, (LCg.lst [.int (Mine.bitI vb 0) b0, .int (Mine.bitI vb 1) b1, .int (Mine.bitI vb 2) b2, .int (Mine.bitI vb 3) b3, .int (Mine.bitI vb 4) b4])) :: (P, Mine.pricesObj q0 q1 q2 q3 q4) :: (L + 1 + 1 + 1 + 1 + 1 + 1, o6) :: (L + 1 + 1 + 1 + 1 + 1, o5) :: (L + 1 + 1 + 1 + 1, o4) :: (L + 1 + 1 + 1, o3) :: rest)) (T : Top Mine.hd.view_1 (looseW Mine.hd.view_1 []) mean mg mb h₀) (h3 : o3.data = .cell (some (.ref P))) (h4 : o4.data = .cell (some (.int (i : Int) ti))) (h5 : o5.data = .cell (some (.ref R))) (h6 : o6.data = .cell (some (.int (j : Int) tj))) (hi : i < 100) (hj : j < 100) (hri : rl[i]? = some (.ref RI)) (hrj : rl[j]? = some (.ref RJ)) (hI : Mine.DueInv va vb k ys)
   (hyes : ∀ y h' tk', Mine.DueInv va vb (k + 1) (ys ++ [y]) → Fr h₀ L h' m → News h₀ L h' ((I, oI) :: (C, oC) :: (D, LCg.lst ys) :: (Y, oY) :: (W, oW) :: (R, LCg.lst rl) :: (RI, (LCg.lst [.int (Mine.bitI va 0) a0, .int (Mine.bitI va 1) a1, .int (Mine.bitI va 2) a2, .int (Mine.bitI va 3) a3, .int (Mine.bitI va 4) a4])) :: (RJ, (LCg.lst [.int (Mine.bitI vb 0) b0, .int (Mine.bitI vb 1) b1, .int (Mine.bitI vb 2) b2, .int (Mine.bitI vb 3) b3, .int (Mine.bitI vb 4) b4])) :: (P, Mine.pricesObj q0 q1 q2 q3 q4) :: (L + 1 + 1 + 1 + 1 + 1 + 1, o6) :: (L + 1 + 1 + 1 + 1 + 1, o5) :: (L + 1 + 1 + 1 + 1, o4) :: (L + 1 + 1 + 1, o3) :: rest) → Qy y { s with heap := h', toks := tk' })
   (hno : ∀ h' tk', Mine.DueInv va vb (k + 1) ys → Fr h₀ L h' m → News h₀ L h' ((I, oI) :: (C, oC) :: (D, LCg.lst ys) :: (Y, oY) :: (W, oW) :: (R, LCg.lst rl) :: (RI, (LCg.lst [.int (Mine.bitI va 0) a0, .int (Mine.bitI va 1) a1, .int (Mine.bitI va 2) a2, .int (Mine.bitI va 3) a3, .int (Mine.bitI va 4) a4])) :: (RJ, (LCg.lst [.int (Mine.bitI vb 0) b0, .int (Mine.bitI vb 1) b1, .int (Mine.bitI vb 2) b2, .int (Mine.bitI vb 3) b3, .int (Mine.bitI vb 4) b4])) :: (P, Mine.pricesObj q0 q1 q2 q3 q4) :: (L + 1 + 1 + 1 + 1 + 1 + 1, o6) :: (L + 1 + 1 + 1 + 1 + 1, o5) :: (L + 1 + 1 + 1 + 1, o4) :: (L + 1 + 1 + 1, o3) :: rest) → Qn { s with heap := h', toks := tk' }),
   wpAny (model PySem.Challenge.rw_to0016_01.row.prog w) (callerA.deeper (envOfC (Str.ofString "law") sc L fa cdv)) (isTrue ct (compEnvC csc [(Str.ofString "rows", L + 1 + 1 + 1 + 1 + 1), (Str.ofString "i", L + 1 + 1 + 1 + 1), (Str.ofString "j", L + 1 + 1 + 1 + 1 + 1 + 1), (Str.ofString "prices", L + 1 + 1 + 1)] C (envOfC (Str.ofString "law") sc L fa cdv)) (eval ct (compEnvC csc [(Str.ofString "rows", L + 1 + 1 + 1 + 1 + 1), (Str.ofString "i", L + 1 + 1 + 1 + 1), (Str.ofString "j", L + 1 + 1 + 1 + 1 + 1 + 1), (Str.ofString "prices", L + 1 + 1 + 1)] C (envOfC (Str.ofString "law") sc L fa cdv))))
     (fun ok s' => if ok = true then wpAny (model PySem.Challenge.rw_to0016_01.row.prog w) (callerA.deeper (envOfC (Str.ofString "law") sc L fa cdv)) (eval elt (compEnvC csc [(Str.ofString "rows", L + 1 + 1 + 1 + 1 + 1), (Str.ofString "i", L + 1 + 1 + 1 + 1), (Str.ofString "j", L + 1 + 1 + 1 + 1 + 1 + 1), (Str.ofString "prices", L + 1 + 1 + 1)] C (envOfC (Str.ofString "law") sc L fa cdv))) Qy E s' else Qn s') E { s with heap := h, toks := tk } := by
  k_fill
  k_with_none
  intro w mean mg mb ct elt sc csc st hst hel fa cdv base h₀ L m s R RI RJ P rl i j va vb a0 a1 a2 a3 a4 b0 b1 b2 b3 b4 q0 q1 q2 q3 q4 ti tj o3 o4 o5 o6 rest Y W oY oW Qy Qn E k hk v I oI C oC D ys m₂ h tk B hv hC hx F X N T h3 h4 h5 h6 hi hj hri hrj hI hyes hno
  have e := Option.some.inj (hst.symm.trans (rfl : Mine.lawAt 12 = some _))
  clear hst
  cases e
  have e := Option.some.inj (hel.symm.trans (rfl : Mine.comp12 = some _))
  clear hel
  cases e
  obtain ⟨t, rfl⟩ := hv
  (repeat' (first | first | (k_unfold; (try dsimp only)) | (k_end; wrow_close) | (walk1; (try dsimp only)) | (dsimp only; walk1) | (leave1; walk_say "STEP leave1"; try dsimp only) | fail "no step"))
  all_goals first
    | (with_reducible rename _ ≠ _ => az
       rw [Mine.bits_at va hk, Mine.bits_at vb hk] at az
       exact hyes _ _ _ (by rw [Mine.price_at]; exact Mine.due_yes hI az) F N)
    | (with_reducible rename _ = _ => az
       rw [Mine.bits_at va hk, Mine.bits_at vb hk] at az
       exact hno _ _ (Mine.due_no hI az) F N)

theorem Mine.turn12 : ∀ (w : World) (mean : ExcName → Option Value) (mg mb : Str → Option Value) (st : Stmt) (sc : Scope) (tg it : Expr) (body : List Stmt) (hst : Mine.lawAt 12 = some (st, sc)) (hb : Mine.forAt 12 = some (tg, it, body)) (fa : Addr) (cdv : Value)
   (base h₀ : Heap) (L : Addr) (m : Str → Option Value) (s : Shared) (Q : Flow → Shared → Prop) (E : Value → Shared → Prop) (R RI RJ P : Addr) (rl : List Value) (i j : Nat) (va vb : Int) (a0 a1 a2 a3 a4 b0 b1 b2 b3 b4 q0 q1 q2 q3 q4 ti tj : Tok) (o3 o4 o5 o6 : Obj) (rest : List (Addr × Obj)) (W Y : Addr) (wl ws : List Value) (sl dl : Int) (ts ua ub : Tok)
   (B : Below callerA base [] h₀) (F : Fr h₀ L s.heap (fun y => if y = Str.ofString "words" then some (.ref W) else if y = Str.ofString "slack" then some (.int sl ts) else if y = Str.ofString "ways" then some (.ref Y) else m y)) (X : (Mine.hd.heap_1 w.params).In h₀)
   (N : News h₀ L s.heap ((Y, LCg.lst ws) :: (W, LCg.lst wl) :: (R, LCg.lst rl) :: (RI, (LCg.lst [.int (Mine.bitI va 0) a0, .int (Mine.bitI va 1) a1, .int (Mine.bitI va 2) a2, .int (Mine.bitI va 3) a3, .int (Mine.bitI va 4) a4])) :: (RJ, (LCg.lst [.int (Mine.bitI vb 0) b0, .int (Mine.bitI vb 1) b1, .int (Mine.bitI vb 2) b2, .int (Mine.bitI vb 3) b3, .int (Mine.bitI vb 4) b4])) :: (P, Mine.pricesObj q0 q1 q2 q3 q4) :: (L + 1 + 1 + 1 + 1 + 1 + 1, o6) :: (L + 1 + 1 + 1 + 1 + 1, o5) :: (L + 1 + 1 + 1 + 1, o4) :: (L + 1 + 1 + 1, o3) :: rest)) (T : Top Mine.hd.view_1 (looseW Mine.hd.view_1 []) mean mg mb h₀) (h3 : o3.data = .cell (some (.ref P))) (h4 : o4.data = .cell (some (.int (i : Int) ti))) (h5 : o5.data = .cell (some (.ref R))) (h6 : o6.data = .cell (some (.int (j : Int) tj))) (hi : i < 100) (hj : j < 100) (hri : rl[i]? = some (.ref RI)) (hrj : rl[j]? = some (.ref RJ))
   (hwi : wl[i]? = some (.str (Mine.wordS va) ua)) (hwj : wl[j]? = some (.str (Mine.wordS vb) ub)) (hl : ws.length ≤ 100)
   (hW : ∀ p ∈ (W, LCg.lst wl) :: (R, LCg.lst rl) :: (RI, (LCg.lst [.int (Mine.bitI va 0) a0, .int (Mine.bitI va 1) a1, .int (Mine.bitI va 2) a2, .int (Mine.bitI va 3) a3, .int (Mine.bitI va 4) a4])) :: (RJ, (LCg.lst [.int (Mine.bitI vb 0) b0, .int (Mine.bitI vb 1) b1, .int (Mine.bitI vb 2) b2, .int (Mine.bitI vb 3) b3, .int (Mine.bitI vb 4) b4])) :: (P, Mine.pricesObj q0 q1 q2 q3 q4) :: (L + 1 + 1 + 1 + 1 + 1 + 1, o6) :: (L + 1 + 1 + 1 + 1 + 1, o5) :: (L + 1 + 1 + 1 + 1, o4) :: (L + 1 + 1 + 1, o3) :: rest, @Ne Nat p.1 Y) (hsl : -1 ≤ sl ∧ sl ≤ 1) (hkp : Mine.Keep dl m)
   (hret : ∀ (m' : Str → Option Value) (t : Tok) (h' : Heap) (tk' : Tok), Mine.Loc12 W Y sl dl m' → Fr h₀ L h' m' →
     News h₀ L h' ((Y, LCg.lst (ws ++ [.int (Mine.dueI va vb) t])) :: (W, LCg.lst wl) :: (R, LCg.lst rl) :: (RI, (LCg.lst [.int (Mine.bitI va 0) a0, .int (Mine.bitI va 1) a1, .int (Mine.bitI va 2) a2, .int (Mine.bitI va 3) a3, .int (Mine.bitI va 4) a4])) :: (RJ, (LCg.lst [.int (Mine.bitI vb 0) b0, .int (Mine.bitI vb 1) b1, .int (Mine.bitI vb 2) b2, .int (Mine.bitI vb 3) b3, .int (Mine.bitI vb 4) b4])) :: (P, Mine.pricesObj q0 q1 q2 q3 q4) :: (L + 1 + 1 + 1 + 1 + 1 + 1, o6) :: (L + 1 + 1 + 1 + 1 + 1, o5) :: (L + 1 + 1 + 1 + 1, o4) :: (L + 1 + 1 + 1, o3) :: rest) → Q .next { s with heap := h', toks := tk' }),
   wpAny (model PySem.Challenge.rw_to0016_01.row.prog w) (callerA.deeper (envOfC (Str.ofString "law") sc L fa cdv)) (execs body (envOfC (Str.ofString "law") sc L fa cdv)) Q E s := by
  k_fill
  k_with_none
  intro w mean mg mb st sc tg it body hst hb fa cdv base h₀ L m s Q E R RI RJ P rl i j va vb a0 a1 a2 a3 a4 b0 b1 b2 b3 b4 q0 q1 q2 q3 q4 ti tj o3 o4 o5 o6 rest W Y wl ws sl dl ts ua ub B F X N T h3 h4 h5 h6 hi hj hri hrj hwi hwj hl hW hsl hkp hret
  have hst' := hst
  have e := Option.some.inj (hst.symm.trans (rfl : Mine.lawAt 12 = some _))
  clear hst
  cases e
  have e := Option.some.inj (hb.symm.trans (rfl : Mine.forAt 12 = some _))
  clear hb
  cases e
  (repeat' (first | ((fail_if_success (with_reducible show LCt.CompRestT _ _ _ _ _ _ _ _ _ _ _ _ _ _ _ _ _ _ _ _)); first | (k_unfold; (try dsimp only)) | (k_end; wrow_close) | (walk1; (try dsimp only)) | (dsimp only; walk1) | (leave1; walk_say "STEP leave1"; try dsimp only)) | fail "no step"))
  refine Mine.rest_test (Inv := Mine.DueInv va vb) trivial ⟨[], .nil, rfl⟩ (fun k hk ys hI v I oI C oC D m₂ h tk Qy Qn E' hv hC hx F N off ne hyes hno =>
    Mine.test12 w _ _ _ _ _ _ _ _ hst' rfl fa cdv base h₀ L _ _ R RI RJ P rl i j va vb a0 a1 a2 a3 a4 b0 b1 b2 b3 b4 q0 q1 q2 q3 q4 ti tj o3 o4 o5 o6 rest Y W _ _ Qy Qn E' k hk v I oI C oC D ys m₂ h tk B hv hC hx F X N T h3 h4 h5 h6 hi hj hri hrj hI hyes hno) ?_
  intro ys hys
  obtain ⟨ns, hns, hsum⟩ := hys
  (repeat' (first | ((fail_if_success (with_reducible show wpAny _ _ (call (Value.ref 93) _ _) _ _ _)); first | (k_unfold; (try dsimp only)) | (k_end; wrow_close) | (walk1; (try dsimp only)) | (dsimp only; walk1) | (leave1; walk_say "STEP leave1"; try dsimp only)) | fail "no step"))
  (k_dflt (refine' Mine.levW ?B ?F ?X ?N ?T ?hk ?hdp ?hu ?hsl ?_; (case B => k_asm); (case F => k_asm); (case X => k_asm); (case N => k_asm); (case T => k_asm); (case hk => exact rfl); (case hdp => ktr_room); (case hu => ktr_units); (case hsl => assumption)); intro t9 h9 tk9 F9 N9; (try dsimp only); (try k_sweep))
  (repeat' (first | first | (k_unfold; (try dsimp only)) | (k_end; wrow_close) | (walk1; (try dsimp only)) | (dsimp only; walk1) | (leave1; walk_say "STEP leave1"; try dsimp only) | fail "no step"))
  all_goals first
    | (with_reducible rename _ ≠ _ => az
       exact absurd rfl az)
    | (with_reducible rename Fr h₀ L _ _ => Fz
       with_reducible rename News h₀ L _ _ => Nz
       refine hret _ _ _ _ ?_ Fz Nz
       exact ⟨⟨hkp.lead, hkp.mark⟩, rfl, ⟨_, rfl⟩, rfl⟩)
end
theorem Mine.st12 : ∀ (w : World) (mean : ExcName → Option Value) (mg mb : Str → Option Value) (st : Stmt) (sc : Scope) (hst : Mine.lawAt 12 = some (st, sc)) (fa : Addr) (cdv : Value)
   (base h₀ : Heap) (L : Addr) (m : Str → Option Value) (s : Shared) (Q : Flow → Shared → Prop) (E : Value → Shared → Prop) (R R0 R1 R2 R3 P : Addr) (v0 v1 v2 v3 : Int) (a0 a1 a2 a3 a4 b0 b1 b2 b3 b4 c0 c1 c2 c3 c4 d0 d1 d2 d3 d4 q0 q1 q2 q3 q4 : Tok) (o3 o4 o5 o6 : Obj) (c4' c6' : Option Value) (rest : List (Addr × Obj)) (W Y : Addr) (sl dl : Int) (u0 u1 u2 u3 : Tok)
   (B : Below callerA base [] h₀) (F : Fr h₀ L s.heap m) (X : (Mine.hd.heap_1 w.params).In h₀)
   (N : News h₀ L s.heap ((L + 1 + 1 + 1 + 1, o4) :: (L + 1 + 1 + 1 + 1 + 1 + 1, o6) :: (Y, LCg.lst []) :: (W, LCg.lst [.str (Mine.wordS v0) u0, .str (Mine.wordS v1) u1, .str (Mine.wordS v2) u2, .str (Mine.wordS v3) u3]) :: (R, Mine.rowsObj R0 R1 R2 R3) :: (R3, (LCg.lst [.int (Mine.bitI v3 0) d0, .int (Mine.bitI v3 1) d1, .int (Mine.bitI v3 2) d2, .int (Mine.bitI v3 3) d3, .int (Mine.bitI v3 4) d4])) :: (R2, (LCg.lst [.int (Mine.bitI v2 0) c0, .int (Mine.bitI v2 1) c1, .int (Mine.bitI v2 2) c2, .int (Mine.bitI v2 3) c3, .int (Mine.bitI v2 4) c4])) :: (R1, (LCg.lst [.int (Mine.bitI v1 0) b0, .int (Mine.bitI v1 1) b1, .int (Mine.bitI v1 2) b2, .int (Mine.bitI v1 3) b3, .int (Mine.bitI v1 4) b4])) :: (R0, (LCg.lst [.int (Mine.bitI v0 0) a0, .int (Mine.bitI v0 1) a1, .int (Mine.bitI v0 2) a2, .int (Mine.bitI v0 3) a3, .int (Mine.bitI v0 4) a4])) :: (P, Mine.pricesObj q0 q1 q2 q3 q4) :: (L + 1 + 1 + 1 + 1 + 1, o5) :: (L + 1 + 1 + 1, o3) :: rest)) (T : Top Mine.hd.view_1 (looseW Mine.hd.view_1 []) mean mg mb h₀)
   (hm : Mine.Loc12 W Y sl dl m) (h3 : o3.data = .cell (some (.ref P))) (h4 : o4.data = .cell c4') (h5 : o5.data = .cell (some (.ref R))) (h6 : o6.data = .cell c6')
   (hn : Mine.Nd [(L + 1 + 1 + 1 + 1, o4), (L + 1 + 1 + 1 + 1 + 1 + 1, o6), (Y, LCg.lst [])]) (n4 : ∀ p ∈ (W, LCg.lst [.str (Mine.wordS v0) u0, .str (Mine.wordS v1) u1, .str (Mine.wordS v2) u2, .str (Mine.wordS v3) u3]) :: (R, Mine.rowsObj R0 R1 R2 R3) :: (R3, (LCg.lst [.int (Mine.bitI v3 0) d0, .int (Mine.bitI v3 1) d1, .int (Mine.bitI v3 2) d2, .int (Mine.bitI v3 3) d3, .int (Mine.bitI v3 4) d4])) :: (R2, (LCg.lst [.int (Mine.bitI v2 0) c0, .int (Mine.bitI v2 1) c1, .int (Mine.bitI v2 2) c2, .int (Mine.bitI v2 3) c3, .int (Mine.bitI v2 4) c4])) :: (R1, (LCg.lst [.int (Mine.bitI v1 0) b0, .int (Mine.bitI v1 1) b1, .int (Mine.bitI v1 2) b2, .int (Mine.bitI v1 3) b3, .int (Mine.bitI v1 4) b4])) :: (R0, (LCg.lst [.int (Mine.bitI v0 0) a0, .int (Mine.bitI v0 1) a1, .int (Mine.bitI v0 2) a2, .int (Mine.bitI v0 3) a3, .int (Mine.bitI v0 4) a4])) :: (P, Mine.pricesObj q0 q1 q2 q3 q4) :: (L + 1 + 1 + 1 + 1 + 1, o5) :: (L + 1 + 1 + 1, o3) :: rest, @Ne Nat p.1 (L + 1 + 1 + 1 + 1)) (n6 : ∀ p ∈ (W, LCg.lst [.str (Mine.wordS v0) u0, .str (Mine.wordS v1) u1, .str (Mine.wordS v2) u2, .str (Mine.wordS v3) u3]) :: (R, Mine.rowsObj R0 R1 R2 R3) :: (R3, (LCg.lst [.int (Mine.bitI v3 0) d0, .int (Mine.bitI v3 1) d1, .int (Mine.bitI v3 2) d2, .int (Mine.bitI v3 3) d3, .int (Mine.bitI v3 4) d4])) :: (R2, (LCg.lst [.int (Mine.bitI v2 0) c0, .int (Mine.bitI v2 1) c1, .int (Mine.bitI v2 2) c2, .int (Mine.bitI v2 3) c3, .int (Mine.bitI v2 4) c4])) :: (R1, (LCg.lst [.int (Mine.bitI v1 0) b0, .int (Mine.bitI v1 1) b1, .int (Mine.bitI v1 2) b2, .int (Mine.bitI v1 3) b3, .int (Mine.bitI v1 4) b4])) :: (R0, (LCg.lst [.int (Mine.bitI v0 0) a0, .int (Mine.bitI v0 1) a1, .int (Mine.bitI v0 2) a2, .int (Mine.bitI v0 3) a3, .int (Mine.bitI v0 4) a4])) :: (P, Mine.pricesObj q0 q1 q2 q3 q4) :: (L + 1 + 1 + 1 + 1 + 1, o5) :: (L + 1 + 1 + 1, o3) :: rest, @Ne Nat p.1 (L + 1 + 1 + 1 + 1 + 1 + 1)) (nY : ∀ p ∈ (W, LCg.lst [.str (Mine.wordS v0) u0, .str (Mine.wordS v1) u1, .str (Mine.wordS v2) u2, .str (Mine.wordS v3) u3]) :: (R, Mine.rowsObj R0 R1 R2 R3) :: (R3, (LCg.lst [.int (Mine.bitI v3 0) d0, .int (Mine.bitI v3 1) d1, .int (Mine.bitI v3 2) d2, .int (Mine.bitI v3 3) d3, .int (Mine.bitI v3 4) d4])) :: (R2, (LCg.lst [.int (Mine.bitI v2 0) c0, .int (Mine.bitI v2 1) c1, .int (Mine.bitI v2 2) c2, .int (Mine.bitI v2 3) c3, .int (Mine.bitI v2 4) c4])) :: (R1, (LCg.lst [.int (Mine.bitI v1 0) b0, .int (Mine.bitI v1 1) b1, .int (Mine.bitI v1 2) b2, .int (Mine.bitI v1 3) b3, .int (Mine.bitI v1 4) b4])) :: (R0, (LCg.lst [.int (Mine.bitI v0 0) a0, .int (Mine.bitI v0 1) a1, .int (Mine.bitI v0 2) a2, .int (Mine.bitI v0 3) a3, .int (Mine.bitI v0 4) a4])) :: (P, Mine.pricesObj q0 q1 q2 q3 q4) :: (L + 1 + 1 + 1 + 1 + 1, o5) :: (L + 1 + 1 + 1, o3) :: rest, @Ne Nat p.1 Y) (hsl : -1 ≤ sl ∧ sl ≤ 1)
   (hE : PassesOwn (model PySem.Challenge.rw_to0016_01.row.prog w) (callerA.deeper (envOfC (Str.ofString "law") sc L fa cdv)) (envOfC (Str.ofString "law") sc L fa cdv) E)
   (hret : ∀ (m' : Str → Option Value) (o4' o6' : Obj) (x0 x1 x2 x3 x4 x5 : Tok) (h' : Heap) (tk' : Tok), Mine.Loc12 W Y sl dl m' → Fr h₀ L h' m' →
     News h₀ L h' ((L + 1 + 1 + 1 + 1, o4') :: (L + 1 + 1 + 1 + 1 + 1 + 1, o6') :: (Y, Mine.sixList (Mine.dueI v0 v1) (Mine.dueI v2 v3) (Mine.dueI v0 v2) (Mine.dueI v1 v3) (Mine.dueI v0 v3) (Mine.dueI v1 v2) x0 x1 x2 x3 x4 x5) :: (W, LCg.lst [.str (Mine.wordS v0) u0, .str (Mine.wordS v1) u1, .str (Mine.wordS v2) u2, .str (Mine.wordS v3) u3]) :: (R, Mine.rowsObj R0 R1 R2 R3) :: (R3, (LCg.lst [.int (Mine.bitI v3 0) d0, .int (Mine.bitI v3 1) d1, .int (Mine.bitI v3 2) d2, .int (Mine.bitI v3 3) d3, .int (Mine.bitI v3 4) d4])) :: (R2, (LCg.lst [.int (Mine.bitI v2 0) c0, .int (Mine.bitI v2 1) c1, .int (Mine.bitI v2 2) c2, .int (Mine.bitI v2 3) c3, .int (Mine.bitI v2 4) c4])) :: (R1, (LCg.lst [.int (Mine.bitI v1 0) b0, .int (Mine.bitI v1 1) b1, .int (Mine.bitI v1 2) b2, .int (Mine.bitI v1 3) b3, .int (Mine.bitI v1 4) b4])) :: (R0, (LCg.lst [.int (Mine.bitI v0 0) a0, .int (Mine.bitI v0 1) a1, .int (Mine.bitI v0 2) a2, .int (Mine.bitI v0 3) a3, .int (Mine.bitI v0 4) a4])) :: (P, Mine.pricesObj q0 q1 q2 q3 q4) :: (L + 1 + 1 + 1 + 1 + 1, o5) :: (L + 1 + 1 + 1, o3) :: rest) → Q .next { s with heap := h', toks := tk' }),
   wpAny (model PySem.Challenge.rw_to0016_01.row.prog w) (callerA.deeper (envOfC (Str.ofString "law") sc L fa cdv)) (exec st (envOfC (Str.ofString "law") sc L fa cdv)) Q E s := by
  k_fill
  k_with_none
  intro w mean mg mb st sc hst fa cdv base h₀ L m s Q E R R0 R1 R2 R3 P v0 v1 v2 v3 a0 a1 a2 a3 a4 b0 b1 b2 b3 b4 c0 c1 c2 c3 c4 d0 d1 d2 d3 d4 q0 q1 q2 q3 q4 o3 o4 o5 o6 c4' c6' rest W Y sl dl u0 u1 u2 u3 B F X N T hm h3 h4 h5 h6 hn n4 n6 nY hsl hE hret
  have hst' := hst
  have e := Option.some.inj (hst.symm.trans (rfl : Mine.lawAt 12 = some _))
  clear hst
  cases e
  refine' @For_unr _ _ _ _ _ _ _ _ _ _ _ h₀ ?it ?hs ?hE
  case hs => intro _; rfl
  case hE => exact hE
  refine' Mine.iter12 w mean mg mb _ _ _ _ _ ?a ?hb fa cdv base h₀ L m s _ _ E ?b ?c ?d ?e ?f ?g
  case a => exact hst'
  case hb => exact rfl
  case b => exact B
  case c => exact F
  case d => exact X
  case e => exact N
  case f => exact T
  intro TT T0 T1 T2 T3 T4 T5 x0 y0 x1 y1 x2 y2 x3 y3 x4 y4 x5 y5 h' tk' hA z1 z2 z3 z4 z5 z6 F' N'
  clear F N
  have nT := N' _ (.head _)
  have hl : h'.IsTuple TT #[.ref T0, .ref T1, .ref T2, .ref T3, .ref T4, .ref T5] := ⟨_, nT.1, rfl, _, rfl⟩
  have hTlt : TT < h'.objs.size := Heap.lt_size nT.1
  have up : ∀ b o, h'.get? b = some o → (h'.push { cls := .type "tuple_iterator", data := .fields #[.ref TT, .int 0 0] }).get? b = some o := fun b o e => Heap.get?_push_of_some _ e
  have N2 : News h₀ L h' ((L + 1 + 1 + 1 + 1, o4) :: (L + 1 + 1 + 1 + 1 + 1 + 1, o6) :: (Y, LCg.lst []) :: (TT, { cls := .type "tuple", data := .seq #[.ref T0, .ref T1, .ref T2, .ref T3, .ref T4, .ref T5] }) :: (T5, { cls := .type "tuple", data := .seq #[.int 1 x5, .int 2 y5] }) :: (T4, { cls := .type "tuple", data := .seq #[.int 0 x4, .int 3 y4] }) :: (T3, { cls := .type "tuple", data := .seq #[.int 1 x3, .int 3 y3] }) :: (T2, { cls := .type "tuple", data := .seq #[.int 0 x2, .int 2 y2] }) :: (T1, { cls := .type "tuple", data := .seq #[.int 2 x1, .int 3 y1] }) :: (T0, { cls := .type "tuple", data := .seq #[.int 0 x0, .int 1 y0] }) :: (W, LCg.lst [.str (Mine.wordS v0) u0, .str (Mine.wordS v1) u1, .str (Mine.wordS v2) u2, .str (Mine.wordS v3) u3]) :: (R, Mine.rowsObj R0 R1 R2 R3) :: (R3, (LCg.lst [.int (Mine.bitI v3 0) d0, .int (Mine.bitI v3 1) d1, .int (Mine.bitI v3 2) d2, .int (Mine.bitI v3 3) d3, .int (Mine.bitI v3 4) d4])) :: (R2, (LCg.lst [.int (Mine.bitI v2 0) c0, .int (Mine.bitI v2 1) c1, .int (Mine.bitI v2 2) c2, .int (Mine.bitI v2 3) c3, .int (Mine.bitI v2 4) c4])) :: (R1, (LCg.lst [.int (Mine.bitI v1 0) b0, .int (Mine.bitI v1 1) b1, .int (Mine.bitI v1 2) b2, .int (Mine.bitI v1 3) b3, .int (Mine.bitI v1 4) b4])) :: (R0, (LCg.lst [.int (Mine.bitI v0 0) a0, .int (Mine.bitI v0 1) a1, .int (Mine.bitI v0 2) a2, .int (Mine.bitI v0 3) a3, .int (Mine.bitI v0 4) a4])) :: (P, Mine.pricesObj q0 q1 q2 q3 q4) :: (L + 1 + 1 + 1 + 1 + 1, o5) :: (L + 1 + 1 + 1, o3) :: rest) := Mine.news_sub N' (Mine.sub_cons (.tail _ (.tail _ (.tail _ (.tail _ (.tail _ (.tail _ (.tail _ (.head _)))))))) (Mine.sub_cons (.tail _ (.tail _ (.tail _ (.tail _ (.tail _ (.tail _ (.tail _ (.tail _ (.head _))))))))) (Mine.sub_cons (.tail _ (.tail _ (.tail _ (.tail _ (.tail _ (.tail _ (.tail _ (.tail _ (.tail _ (.head _)))))))))) (Mine.sub_cons (.head _) (Mine.sub_cons (.tail _ (.head _)) (Mine.sub_cons (.tail _ (.tail _ (.head _))) (Mine.sub_cons (.tail _ (.tail _ (.tail _ (.head _)))) (Mine.sub_cons (.tail _ (.tail _ (.tail _ (.tail _ (.head _))))) (Mine.sub_cons (.tail _ (.tail _ (.tail _ (.tail _ (.tail _ (.head _)))))) (Mine.sub_cons (.tail _ (.tail _ (.tail _ (.tail _ (.tail _ (.tail _ (.head _))))))) (fun p hp => .tail _ (.tail _ (.tail _ (.tail _ (.tail _ (.tail _ (.tail _ (.tail _ (.tail _ (.tail _ (hp)))))))))))))))))))))
  clear N'
  refine wpAny_pyIter_tuple hl ?_
  refine ⟨h'.objs.size, _, _, 6, _, _, m, _, rfl, Walks.tuple rfl h'.objs.size TT (Nat.ne_of_lt hTlt) #[.ref T0, .ref T1, .ref T2, .ref T3, .ref T4, .ref T5], ?a, ?b, ?c, ⟨⟨_, Heap.get?_push_size _ rfl, rfl, rfl⟩, hl.at fun o e => up _ _ e⟩, F'.keeps up, N2.grown up, ?d, ?e⟩
  case a =>
    intro hmem
    rcases List.mem_cons.mp hmem with e | hmem
    · exact absurd e (Nat.ne_of_lt F'.ns.lt)
    · exact nT.2.1 (List.mem_singleton.mp hmem).symm
  case b =>
    intro b hb
    rw [List.mem_singleton.mp hb]
    exact next_is_new F'
  case c =>
    intro p hp hmem
    exact absurd (List.mem_singleton.mp hmem) (Nat.ne_of_lt (Heap.lt_size (N2 p hp).1))
  case d =>
    intro i s' v Q' a b
    exact letGo_tupleiter a.1 b
  case e =>
    have hlt := Mine.allLt_mem hA
    have g4 : @LT.lt Nat _ (L + 1 + 1 + 1 + 1) T0 := hlt _ (.head _)
    have g6 : @LT.lt Nat _ (L + 1 + 1 + 1 + 1 + 1 + 1) T0 := hlt _ (.tail _ (.head _))
    have gY : @LT.lt Nat _ Y T0 := hlt _ (.tail _ (.tail _ (.head _)))
    have ownT : ∀ own : List (Addr × Obj), (∀ p ∈ own, p.1 ∈ [h'.objs.size, TT]) → ∀ p ∈ own, @LT.lt Nat _ T0 p.1 := by
      intro own ho p hp
      have h1 : @LT.lt Nat _ TT h'.objs.size := hTlt
      rcases List.mem_cons.mp (ho p hp) with e | e
      · rw [e]; omega
      · rw [List.mem_singleton.mp e]; omega
    have hn4 : @Ne Nat Y (L + 1 + 1 + 1 + 1) := fun e => (List.nodup_cons.mp hn).1 (by rw [← e]; exact .tail _ (.head _))
    have hn6 : @Ne Nat Y (L + 1 + 1 + 1 + 1 + 1 + 1) := fun e => (List.nodup_cons.mp (List.nodup_cons.mp hn).2).1 (by rw [← e]; exact .head _)
    have ownY : ∀ own : List (Addr × Obj), (∀ p ∈ own, p.1 ∈ [h'.objs.size, TT]) → ∀ p ∈ own, @Ne Nat p.1 Y := by
      intro own ho p hp
      have := ownT own ho p hp
      omega
    have tupsY : ∀ p ∈ ([(TT, { cls := .type "tuple", data := .seq #[.ref T0, .ref T1, .ref T2, .ref T3, .ref T4, .ref T5] }), (T5, { cls := .type "tuple", data := .seq #[.int 1 x5, .int 2 y5] }), (T4, { cls := .type "tuple", data := .seq #[.int 0 x4, .int 3 y4] }), (T3, { cls := .type "tuple", data := .seq #[.int 1 x3, .int 3 y3] }), (T2, { cls := .type "tuple", data := .seq #[.int 0 x2, .int 2 y2] }), (T1, { cls := .type "tuple", data := .seq #[.int 2 x1, .int 3 y1] }), (T0, { cls := .type "tuple", data := .seq #[.int 0 x0, .int 1 y0] })] : List (Addr × Obj)), @Ne Nat p.1 Y := by
      have y0 : @Ne Nat T0 Y := by omega
      have y1 : @Ne Nat T1 Y := by omega
      have y2 : @Ne Nat T2 Y := by omega
      have y3 : @Ne Nat T3 Y := by omega
      have y4 : @Ne Nat T4 Y := by omega
      have y5 : @Ne Nat T5 Y := by omega
      have y6 : @Ne Nat TT Y := by omega
      exact Mine.all_cons y6 (Mine.all_cons y5 (Mine.all_cons y4 (Mine.all_cons y3 (Mine.all_cons y2 (Mine.all_cons y1 (Mine.all_cons y0 (fun p hp => nomatch hp)))))))
    have rr4 : ∀ (own : List (Addr × Obj)) (ws : Obj), (∀ p ∈ own, p.1 ∈ [h'.objs.size, TT]) → ∀ p ∈ own ++ (Y, ws) :: (TT, { cls := .type "tuple", data := .seq #[.ref T0, .ref T1, .ref T2, .ref T3, .ref T4, .ref T5] }) :: (T5, { cls := .type "tuple", data := .seq #[.int 1 x5, .int 2 y5] }) :: (T4, { cls := .type "tuple", data := .seq #[.int 0 x4, .int 3 y4] }) :: (T3, { cls := .type "tuple", data := .seq #[.int 1 x3, .int 3 y3] }) :: (T2, { cls := .type "tuple", data := .seq #[.int 0 x2, .int 2 y2] }) :: (T1, { cls := .type "tuple", data := .seq #[.int 2 x1, .int 3 y1] }) :: (T0, { cls := .type "tuple", data := .seq #[.int 0 x0, .int 1 y0] }) :: (W, LCg.lst [.str (Mine.wordS v0) u0, .str (Mine.wordS v1) u1, .str (Mine.wordS v2) u2, .str (Mine.wordS v3) u3]) :: (R, Mine.rowsObj R0 R1 R2 R3) :: (R3, (LCg.lst [.int (Mine.bitI v3 0) d0, .int (Mine.bitI v3 1) d1, .int (Mine.bitI v3 2) d2, .int (Mine.bitI v3 3) d3, .int (Mine.bitI v3 4) d4])) :: (R2, (LCg.lst [.int (Mine.bitI v2 0) c0, .int (Mine.bitI v2 1) c1, .int (Mine.bitI v2 2) c2, .int (Mine.bitI v2 3) c3, .int (Mine.bitI v2 4) c4])) :: (R1, (LCg.lst [.int (Mine.bitI v1 0) b0, .int (Mine.bitI v1 1) b1, .int (Mine.bitI v1 2) b2, .int (Mine.bitI v1 3) b3, .int (Mine.bitI v1 4) b4])) :: (R0, (LCg.lst [.int (Mine.bitI v0 0) a0, .int (Mine.bitI v0 1) a1, .int (Mine.bitI v0 2) a2, .int (Mine.bitI v0 3) a3, .int (Mine.bitI v0 4) a4])) :: (P, Mine.pricesObj q0 q1 q2 q3 q4) :: (L + 1 + 1 + 1 + 1 + 1, o5) :: (L + 1 + 1 + 1, o3) :: rest, @Ne Nat p.1 (L + 1 + 1 + 1 + 1) := by
      intro own ws ho
      have y0 : @Ne Nat T0 (L + 1 + 1 + 1 + 1) := by omega
      have y1 : @Ne Nat T1 (L + 1 + 1 + 1 + 1) := by omega
      have y2 : @Ne Nat T2 (L + 1 + 1 + 1 + 1) := by omega
      have y3 : @Ne Nat T3 (L + 1 + 1 + 1 + 1) := by omega
      have y4 : @Ne Nat T4 (L + 1 + 1 + 1 + 1) := by omega
      have y5 : @Ne Nat T5 (L + 1 + 1 + 1 + 1) := by omega
      have y6 : @Ne Nat TT (L + 1 + 1 + 1 + 1) := by omega
      refine Mine.all_app (fun p hp => ?_) (Mine.all_cons hn4 (Mine.all_cons y6 (Mine.all_cons y5 (Mine.all_cons y4 (Mine.all_cons y3 (Mine.all_cons y2 (Mine.all_cons y1 (Mine.all_cons y0 n4))))))))
      have := ownT own ho p hp
      omega
    have rr6 : ∀ (own : List (Addr × Obj)) (ws : Obj), (∀ p ∈ own, p.1 ∈ [h'.objs.size, TT]) → ∀ p ∈ own ++ (Y, ws) :: (TT, { cls := .type "tuple", data := .seq #[.ref T0, .ref T1, .ref T2, .ref T3, .ref T4, .ref T5] }) :: (T5, { cls := .type "tuple", data := .seq #[.int 1 x5, .int 2 y5] }) :: (T4, { cls := .type "tuple", data := .seq #[.int 0 x4, .int 3 y4] }) :: (T3, { cls := .type "tuple", data := .seq #[.int 1 x3, .int 3 y3] }) :: (T2, { cls := .type "tuple", data := .seq #[.int 0 x2, .int 2 y2] }) :: (T1, { cls := .type "tuple", data := .seq #[.int 2 x1, .int 3 y1] }) :: (T0, { cls := .type "tuple", data := .seq #[.int 0 x0, .int 1 y0] }) :: (W, LCg.lst [.str (Mine.wordS v0) u0, .str (Mine.wordS v1) u1, .str (Mine.wordS v2) u2, .str (Mine.wordS v3) u3]) :: (R, Mine.rowsObj R0 R1 R2 R3) :: (R3, (LCg.lst [.int (Mine.bitI v3 0) d0, .int (Mine.bitI v3 1) d1, .int (Mine.bitI v3 2) d2, .int (Mine.bitI v3 3) d3, .int (Mine.bitI v3 4) d4])) :: (R2, (LCg.lst [.int (Mine.bitI v2 0) c0, .int (Mine.bitI v2 1) c1, .int (Mine.bitI v2 2) c2, .int (Mine.bitI v2 3) c3, .int (Mine.bitI v2 4) c4])) :: (R1, (LCg.lst [.int (Mine.bitI v1 0) b0, .int (Mine.bitI v1 1) b1, .int (Mine.bitI v1 2) b2, .int (Mine.bitI v1 3) b3, .int (Mine.bitI v1 4) b4])) :: (R0, (LCg.lst [.int (Mine.bitI v0 0) a0, .int (Mine.bitI v0 1) a1, .int (Mine.bitI v0 2) a2, .int (Mine.bitI v0 3) a3, .int (Mine.bitI v0 4) a4])) :: (P, Mine.pricesObj q0 q1 q2 q3 q4) :: (L + 1 + 1 + 1 + 1 + 1, o5) :: (L + 1 + 1 + 1, o3) :: rest, @Ne Nat p.1 (L + 1 + 1 + 1 + 1 + 1 + 1) := by
      intro own ws ho
      have y0 : @Ne Nat T0 (L + 1 + 1 + 1 + 1 + 1 + 1) := by omega
      have y1 : @Ne Nat T1 (L + 1 + 1 + 1 + 1 + 1 + 1) := by omega
      have y2 : @Ne Nat T2 (L + 1 + 1 + 1 + 1 + 1 + 1) := by omega
      have y3 : @Ne Nat T3 (L + 1 + 1 + 1 + 1 + 1 + 1) := by omega
      have y4 : @Ne Nat T4 (L + 1 + 1 + 1 + 1 + 1 + 1) := by omega
      have y5 : @Ne Nat T5 (L + 1 + 1 + 1 + 1 + 1 + 1) := by omega
      have y6 : @Ne Nat TT (L + 1 + 1 + 1 + 1 + 1 + 1) := by omega
      refine Mine.all_app (fun p hp => ?_) (Mine.all_cons hn6 (Mine.all_cons y6 (Mine.all_cons y5 (Mine.all_cons y4 (Mine.all_cons y3 (Mine.all_cons y2 (Mine.all_cons y1 (Mine.all_cons y0 n6))))))))
      have := ownT own ho p hp
      omega
    refine Unr.succ fun v h₁ tk₁ own hP hown F₁ N₁ => ?_
    obtain rfl : v = .ref T0 := (Option.some.inj hP).symm
    refine' Mine.asg12 w mean mg mb _ _ _ _ _ ?a ?hb fa cdv base h₀ L _ _ (own ++ (Y, LCg.lst []) :: (TT, { cls := .type "tuple", data := .seq #[.ref T0, .ref T1, .ref T2, .ref T3, .ref T4, .ref T5] }) :: (T5, { cls := .type "tuple", data := .seq #[.int 1 x5, .int 2 y5] }) :: (T4, { cls := .type "tuple", data := .seq #[.int 0 x4, .int 3 y4] }) :: (T3, { cls := .type "tuple", data := .seq #[.int 1 x3, .int 3 y3] }) :: (T2, { cls := .type "tuple", data := .seq #[.int 0 x2, .int 2 y2] }) :: (T1, { cls := .type "tuple", data := .seq #[.int 2 x1, .int 3 y1] }) :: (T0, { cls := .type "tuple", data := .seq #[.int 0 x0, .int 1 y0] }) :: (W, LCg.lst [.str (Mine.wordS v0) u0, .str (Mine.wordS v1) u1, .str (Mine.wordS v2) u2, .str (Mine.wordS v3) u3]) :: (R, Mine.rowsObj R0 R1 R2 R3) :: (R3, (LCg.lst [.int (Mine.bitI v3 0) d0, .int (Mine.bitI v3 1) d1, .int (Mine.bitI v3 2) d2, .int (Mine.bitI v3 3) d3, .int (Mine.bitI v3 4) d4])) :: (R2, (LCg.lst [.int (Mine.bitI v2 0) c0, .int (Mine.bitI v2 1) c1, .int (Mine.bitI v2 2) c2, .int (Mine.bitI v2 3) c3, .int (Mine.bitI v2 4) c4])) :: (R1, (LCg.lst [.int (Mine.bitI v1 0) b0, .int (Mine.bitI v1 1) b1, .int (Mine.bitI v1 2) b2, .int (Mine.bitI v1 3) b3, .int (Mine.bitI v1 4) b4])) :: (R0, (LCg.lst [.int (Mine.bitI v0 0) a0, .int (Mine.bitI v0 1) a1, .int (Mine.bitI v0 2) a2, .int (Mine.bitI v0 3) a3, .int (Mine.bitI v0 4) a4])) :: (P, Mine.pricesObj q0 q1 q2 q3 q4) :: (L + 1 + 1 + 1 + 1 + 1, o5) :: (L + 1 + 1 + 1, o3) :: rest) _ E T0 0 1 x0 y0 o4 o6 c4' c6' ?B ?F ?X ?N ?T ?h4 ?h6 ?n1 ?n2 ?n3 ?n4 ?r10
    case a => exact hst'
    case hb => exact rfl
    case B => exact B
    case F => exact F₁
    case X => exact X
    case N => exact (Mine.news_app (Mine.news_pick (Mine.news_r N₁) [9, 0, 1]) (Mine.news_app (Mine.news_l N₁) (Mine.news_drop (Mine.news_r N₁) 2)))
    case T => exact T
    case h4 => exact h4
    case h6 => exact h6
    case n1 =>
      show @Ne Nat T0 (L + 1 + 1 + 1 + 1)
      omega
    case n2 =>
      show @Ne Nat T0 (L + 1 + 1 + 1 + 1 + 1 + 1)
      omega
    case n3 => exact rr4 own _ hown
    case n4 => exact rr6 own _ hown
    intro o4x0 o6x0 ta0 tb0 h2 tk2 e4x0 e6x0 F2 N3
    obtain ⟨ts0, em0⟩ := Mine.loc12_canon hm
    rw [em0] at F2
    refine' Mine.turn12 w mean mg mb _ _ _ _ _ ?a ?hb fa cdv base h₀ L _ _ _ E R R0 R1 P [.ref R0, .ref R1, .ref R2, .ref R3] 0 1 v0 v1 a0 a1 a2 a3 a4 b0 b1 b2 b3 b4 q0 q1 q2 q3 q4 ta0 tb0 o3 o4x0 o5 o6x0 (own ++ (TT, { cls := .type "tuple", data := .seq #[.ref T0, .ref T1, .ref T2, .ref T3, .ref T4, .ref T5] }) :: (T5, { cls := .type "tuple", data := .seq #[.int 1 x5, .int 2 y5] }) :: (T4, { cls := .type "tuple", data := .seq #[.int 0 x4, .int 3 y4] }) :: (T3, { cls := .type "tuple", data := .seq #[.int 1 x3, .int 3 y3] }) :: (T2, { cls := .type "tuple", data := .seq #[.int 0 x2, .int 2 y2] }) :: (T1, { cls := .type "tuple", data := .seq #[.int 2 x1, .int 3 y1] }) :: (T0, { cls := .type "tuple", data := .seq #[.int 0 x0, .int 1 y0] }) :: (R3, (LCg.lst [.int (Mine.bitI v3 0) d0, .int (Mine.bitI v3 1) d1, .int (Mine.bitI v3 2) d2, .int (Mine.bitI v3 3) d3, .int (Mine.bitI v3 4) d4])) :: (R2, (LCg.lst [.int (Mine.bitI v2 0) c0, .int (Mine.bitI v2 1) c1, .int (Mine.bitI v2 2) c2, .int (Mine.bitI v2 3) c3, .int (Mine.bitI v2 4) c4])) :: (R1, (LCg.lst [.int (Mine.bitI v1 0) b0, .int (Mine.bitI v1 1) b1, .int (Mine.bitI v1 2) b2, .int (Mine.bitI v1 3) b3, .int (Mine.bitI v1 4) b4])) :: (R0, (LCg.lst [.int (Mine.bitI v0 0) a0, .int (Mine.bitI v0 1) a1, .int (Mine.bitI v0 2) a2, .int (Mine.bitI v0 3) a3, .int (Mine.bitI v0 4) a4])) :: rest) W Y [.str (Mine.wordS v0) u0, .str (Mine.wordS v1) u1, .str (Mine.wordS v2) u2, .str (Mine.wordS v3) u3] [] sl dl ts0 u0 u1 ?B ?F ?X ?N ?T ?h3 ?h4 ?h5 ?h6 ?hi ?hj ?hri ?hrj ?hwi ?hwj ?hl ?hW ?hsl ?hkp ?r20
    case hi => exact Nat.le_of_ble_eq_true rfl
    case hj => exact Nat.le_of_ble_eq_true rfl
    case hri => exact rfl
    case hrj => exact rfl
    case hwi => exact rfl
    case hwj => exact rfl
    case hl => exact Nat.le_of_ble_eq_true rfl
    case a => exact hst'
    case hb => exact rfl
    case B => exact B
    case F => exact F2
    case X => exact X
    case N => exact (Mine.news_app (Mine.news_pick (Mine.news_r (Mine.news_tl (Mine.news_tl N3))) [0, 8, 9, 13, 12, 14]) (Mine.news_app (Mine.news_pick N3 [1]) (Mine.news_app (Mine.news_pick (Mine.news_r (Mine.news_tl (Mine.news_tl N3))) [15]) (Mine.news_app (Mine.news_pick N3 [0]) (Mine.news_app (Mine.news_pick (Mine.news_r (Mine.news_tl (Mine.news_tl N3))) [16]) (Mine.news_app (Mine.news_l (Mine.news_tl (Mine.news_tl N3))) (Mine.news_app (Mine.news_pick (Mine.news_r (Mine.news_tl (Mine.news_tl N3))) [1, 2, 3, 4, 5, 6, 7, 10, 11, 12, 13]) (Mine.news_drop (Mine.news_r (Mine.news_tl (Mine.news_tl N3))) 17))))))))
    case T => exact T
    case h3 => exact h3
    case h4 => exact e4x0
    case h5 => exact h5
    case h6 => exact e6x0
    case hsl => exact hsl
    case hkp => exact hm.keep
    case hW => exact Mine.all_app (Mine.all_pick nY [0, 1, 5, 4, 6]) (Mine.all_cons (fun e => hn6 e.symm) (Mine.all_app (Mine.all_pick nY [7]) (Mine.all_cons (fun e => hn4 e.symm) (Mine.all_app (Mine.all_pick nY [8]) (Mine.all_app (ownY own hown) (Mine.all_app tupsY (Mine.all_app (Mine.all_pick nY [2, 3, 4, 5]) (Mine.all_drop nY 9))))))))
    intro m0 tt0 h3' tk3 hm0 F5 N5
    refine LoopStep3.next ⟨rfl, h3', tk3, m0, (L + 1 + 1 + 1 + 1, o4x0) :: (L + 1 + 1 + 1 + 1 + 1 + 1, o6x0) :: (Y, LCg.lst [.int (Mine.dueI v0 v1) tt0]) :: (TT, { cls := .type "tuple", data := .seq #[.ref T0, .ref T1, .ref T2, .ref T3, .ref T4, .ref T5] }) :: (T5, { cls := .type "tuple", data := .seq #[.int 1 x5, .int 2 y5] }) :: (T4, { cls := .type "tuple", data := .seq #[.int 0 x4, .int 3 y4] }) :: (T3, { cls := .type "tuple", data := .seq #[.int 1 x3, .int 3 y3] }) :: (T2, { cls := .type "tuple", data := .seq #[.int 0 x2, .int 2 y2] }) :: (T1, { cls := .type "tuple", data := .seq #[.int 2 x1, .int 3 y1] }) :: (T0, { cls := .type "tuple", data := .seq #[.int 0 x0, .int 1 y0] }) :: (W, LCg.lst [.str (Mine.wordS v0) u0, .str (Mine.wordS v1) u1, .str (Mine.wordS v2) u2, .str (Mine.wordS v3) u3]) :: (R, Mine.rowsObj R0 R1 R2 R3) :: (R3, (LCg.lst [.int (Mine.bitI v3 0) d0, .int (Mine.bitI v3 1) d1, .int (Mine.bitI v3 2) d2, .int (Mine.bitI v3 3) d3, .int (Mine.bitI v3 4) d4])) :: (R2, (LCg.lst [.int (Mine.bitI v2 0) c0, .int (Mine.bitI v2 1) c1, .int (Mine.bitI v2 2) c2, .int (Mine.bitI v2 3) c3, .int (Mine.bitI v2 4) c4])) :: (R1, (LCg.lst [.int (Mine.bitI v1 0) b0, .int (Mine.bitI v1 1) b1, .int (Mine.bitI v1 2) b2, .int (Mine.bitI v1 3) b3, .int (Mine.bitI v1 4) b4])) :: (R0, (LCg.lst [.int (Mine.bitI v0 0) a0, .int (Mine.bitI v0 1) a1, .int (Mine.bitI v0 2) a2, .int (Mine.bitI v0 3) a3, .int (Mine.bitI v0 4) a4])) :: (P, Mine.pricesObj q0 q1 q2 q3 q4) :: (L + 1 + 1 + 1 + 1 + 1, o5) :: (L + 1 + 1 + 1, o3) :: rest, rfl, F5, (Mine.news_app (Mine.news_l (Mine.news_tl (Mine.news_tl (Mine.news_tl (Mine.news_tl (Mine.news_tl (Mine.news_tl (Mine.news_tl (Mine.news_tl (Mine.news_tl (Mine.news_tl N5))))))))))) (Mine.news_app (Mine.news_pick N5 [8, 6, 0]) (Mine.news_app (Mine.news_pick (Mine.news_r (Mine.news_tl (Mine.news_tl (Mine.news_tl (Mine.news_tl (Mine.news_tl (Mine.news_tl (Mine.news_tl (Mine.news_tl (Mine.news_tl (Mine.news_tl N5))))))))))) [0, 1, 2, 3, 4, 5, 6]) (Mine.news_app (Mine.news_pick N5 [1, 2]) (Mine.news_app (Mine.news_pick (Mine.news_r (Mine.news_tl (Mine.news_tl (Mine.news_tl (Mine.news_tl (Mine.news_tl (Mine.news_tl (Mine.news_tl (Mine.news_tl (Mine.news_tl (Mine.news_tl N5))))))))))) [7, 8, 9, 10]) (Mine.news_app (Mine.news_pick N5 [5, 7, 9]) (Mine.news_drop (Mine.news_r (Mine.news_tl (Mine.news_tl (Mine.news_tl (Mine.news_tl (Mine.news_tl (Mine.news_tl (Mine.news_tl (Mine.news_tl (Mine.news_tl (Mine.news_tl N5))))))))))) 11))))))), rfl, ?_⟩
    clear F₁ N₁ F2 N3 F5 N5 hown hP own
    refine Unr.succ fun v h₁ tk₁ own hP hown F₁ N₁ => ?_
    obtain rfl : v = .ref T1 := (Option.some.inj hP).symm
    refine' Mine.asg12 w mean mg mb _ _ _ _ _ ?a ?hb fa cdv base h₀ L _ _ (own ++ (Y, LCg.lst [.int (Mine.dueI v0 v1) tt0]) :: (TT, { cls := .type "tuple", data := .seq #[.ref T0, .ref T1, .ref T2, .ref T3, .ref T4, .ref T5] }) :: (T5, { cls := .type "tuple", data := .seq #[.int 1 x5, .int 2 y5] }) :: (T4, { cls := .type "tuple", data := .seq #[.int 0 x4, .int 3 y4] }) :: (T3, { cls := .type "tuple", data := .seq #[.int 1 x3, .int 3 y3] }) :: (T2, { cls := .type "tuple", data := .seq #[.int 0 x2, .int 2 y2] }) :: (T1, { cls := .type "tuple", data := .seq #[.int 2 x1, .int 3 y1] }) :: (T0, { cls := .type "tuple", data := .seq #[.int 0 x0, .int 1 y0] }) :: (W, LCg.lst [.str (Mine.wordS v0) u0, .str (Mine.wordS v1) u1, .str (Mine.wordS v2) u2, .str (Mine.wordS v3) u3]) :: (R, Mine.rowsObj R0 R1 R2 R3) :: (R3, (LCg.lst [.int (Mine.bitI v3 0) d0, .int (Mine.bitI v3 1) d1, .int (Mine.bitI v3 2) d2, .int (Mine.bitI v3 3) d3, .int (Mine.bitI v3 4) d4])) :: (R2, (LCg.lst [.int (Mine.bitI v2 0) c0, .int (Mine.bitI v2 1) c1, .int (Mine.bitI v2 2) c2, .int (Mine.bitI v2 3) c3, .int (Mine.bitI v2 4) c4])) :: (R1, (LCg.lst [.int (Mine.bitI v1 0) b0, .int (Mine.bitI v1 1) b1, .int (Mine.bitI v1 2) b2, .int (Mine.bitI v1 3) b3, .int (Mine.bitI v1 4) b4])) :: (R0, (LCg.lst [.int (Mine.bitI v0 0) a0, .int (Mine.bitI v0 1) a1, .int (Mine.bitI v0 2) a2, .int (Mine.bitI v0 3) a3, .int (Mine.bitI v0 4) a4])) :: (P, Mine.pricesObj q0 q1 q2 q3 q4) :: (L + 1 + 1 + 1 + 1 + 1, o5) :: (L + 1 + 1 + 1, o3) :: rest) _ E T1 2 3 x1 y1 o4x0 o6x0 (some (.int 0 ta0)) (some (.int 1 tb0)) ?B ?F ?X ?N ?T ?h4 ?h6 ?n1 ?n2 ?n3 ?n4 ?r11
    case a => exact hst'
    case hb => exact rfl
    case B => exact B
    case F => exact F₁
    case X => exact X
    case N => exact (Mine.news_app (Mine.news_pick (Mine.news_r N₁) [8, 0, 1]) (Mine.news_app (Mine.news_l N₁) (Mine.news_drop (Mine.news_r N₁) 2)))
    case T => exact T
    case h4 => exact e4x0
    case h6 => exact e6x0
    case n1 =>
      show @Ne Nat T1 (L + 1 + 1 + 1 + 1)
      omega
    case n2 =>
      show @Ne Nat T1 (L + 1 + 1 + 1 + 1 + 1 + 1)
      omega
    case n3 => exact rr4 own _ hown
    case n4 => exact rr6 own _ hown
    intro o4x1 o6x1 ta1 tb1 h2 tk2 e4x1 e6x1 F2 N3
    obtain ⟨ts1, em1⟩ := Mine.loc12_canon hm0
    rw [em1] at F2
    refine' Mine.turn12 w mean mg mb _ _ _ _ _ ?a ?hb fa cdv base h₀ L _ _ _ E R R2 R3 P [.ref R0, .ref R1, .ref R2, .ref R3] 2 3 v2 v3 c0 c1 c2 c3 c4 d0 d1 d2 d3 d4 q0 q1 q2 q3 q4 ta1 tb1 o3 o4x1 o5 o6x1 (own ++ (TT, { cls := .type "tuple", data := .seq #[.ref T0, .ref T1, .ref T2, .ref T3, .ref T4, .ref T5] }) :: (T5, { cls := .type "tuple", data := .seq #[.int 1 x5, .int 2 y5] }) :: (T4, { cls := .type "tuple", data := .seq #[.int 0 x4, .int 3 y4] }) :: (T3, { cls := .type "tuple", data := .seq #[.int 1 x3, .int 3 y3] }) :: (T2, { cls := .type "tuple", data := .seq #[.int 0 x2, .int 2 y2] }) :: (T1, { cls := .type "tuple", data := .seq #[.int 2 x1, .int 3 y1] }) :: (T0, { cls := .type "tuple", data := .seq #[.int 0 x0, .int 1 y0] }) :: (R3, (LCg.lst [.int (Mine.bitI v3 0) d0, .int (Mine.bitI v3 1) d1, .int (Mine.bitI v3 2) d2, .int (Mine.bitI v3 3) d3, .int (Mine.bitI v3 4) d4])) :: (R2, (LCg.lst [.int (Mine.bitI v2 0) c0, .int (Mine.bitI v2 1) c1, .int (Mine.bitI v2 2) c2, .int (Mine.bitI v2 3) c3, .int (Mine.bitI v2 4) c4])) :: (R1, (LCg.lst [.int (Mine.bitI v1 0) b0, .int (Mine.bitI v1 1) b1, .int (Mine.bitI v1 2) b2, .int (Mine.bitI v1 3) b3, .int (Mine.bitI v1 4) b4])) :: (R0, (LCg.lst [.int (Mine.bitI v0 0) a0, .int (Mine.bitI v0 1) a1, .int (Mine.bitI v0 2) a2, .int (Mine.bitI v0 3) a3, .int (Mine.bitI v0 4) a4])) :: rest) W Y [.str (Mine.wordS v0) u0, .str (Mine.wordS v1) u1, .str (Mine.wordS v2) u2, .str (Mine.wordS v3) u3] [.int (Mine.dueI v0 v1) tt0] sl dl ts1 u2 u3 ?B ?F ?X ?N ?T ?h3 ?h4 ?h5 ?h6 ?hi ?hj ?hri ?hrj ?hwi ?hwj ?hl ?hW ?hsl ?hkp ?r21
    case hi => exact Nat.le_of_ble_eq_true rfl
    case hj => exact Nat.le_of_ble_eq_true rfl
    case hri => exact rfl
    case hrj => exact rfl
    case hwi => exact rfl
    case hwj => exact rfl
    case hl => exact Nat.le_of_ble_eq_true rfl
    case a => exact hst'
    case hb => exact rfl
    case B => exact B
    case F => exact F2
    case X => exact X
    case N => exact (Mine.news_app (Mine.news_pick (Mine.news_r (Mine.news_tl (Mine.news_tl N3))) [0, 8, 9, 11, 10, 14]) (Mine.news_app (Mine.news_pick N3 [1]) (Mine.news_app (Mine.news_pick (Mine.news_r (Mine.news_tl (Mine.news_tl N3))) [15]) (Mine.news_app (Mine.news_pick N3 [0]) (Mine.news_app (Mine.news_pick (Mine.news_r (Mine.news_tl (Mine.news_tl N3))) [16]) (Mine.news_app (Mine.news_l (Mine.news_tl (Mine.news_tl N3))) (Mine.news_app (Mine.news_pick (Mine.news_r (Mine.news_tl (Mine.news_tl N3))) [1, 2, 3, 4, 5, 6, 7, 10, 11, 12, 13]) (Mine.news_drop (Mine.news_r (Mine.news_tl (Mine.news_tl N3))) 17))))))))
    case T => exact T
    case h3 => exact h3
    case h4 => exact e4x1
    case h5 => exact h5
    case h6 => exact e6x1
    case hsl => exact hsl
    case hkp => exact hm0.keep
    case hW => exact Mine.all_app (Mine.all_pick nY [0, 1, 3, 2, 6]) (Mine.all_cons (fun e => hn6 e.symm) (Mine.all_app (Mine.all_pick nY [7]) (Mine.all_cons (fun e => hn4 e.symm) (Mine.all_app (Mine.all_pick nY [8]) (Mine.all_app (ownY own hown) (Mine.all_app tupsY (Mine.all_app (Mine.all_pick nY [2, 3, 4, 5]) (Mine.all_drop nY 9))))))))
    intro m1 tt1 h3' tk3 hm1 F5 N5
    refine LoopStep3.next ⟨rfl, h3', tk3, m1, (L + 1 + 1 + 1 + 1, o4x1) :: (L + 1 + 1 + 1 + 1 + 1 + 1, o6x1) :: (Y, LCg.lst [.int (Mine.dueI v0 v1) tt0, .int (Mine.dueI v2 v3) tt1]) :: (TT, { cls := .type "tuple", data := .seq #[.ref T0, .ref T1, .ref T2, .ref T3, .ref T4, .ref T5] }) :: (T5, { cls := .type "tuple", data := .seq #[.int 1 x5, .int 2 y5] }) :: (T4, { cls := .type "tuple", data := .seq #[.int 0 x4, .int 3 y4] }) :: (T3, { cls := .type "tuple", data := .seq #[.int 1 x3, .int 3 y3] }) :: (T2, { cls := .type "tuple", data := .seq #[.int 0 x2, .int 2 y2] }) :: (T1, { cls := .type "tuple", data := .seq #[.int 2 x1, .int 3 y1] }) :: (T0, { cls := .type "tuple", data := .seq #[.int 0 x0, .int 1 y0] }) :: (W, LCg.lst [.str (Mine.wordS v0) u0, .str (Mine.wordS v1) u1, .str (Mine.wordS v2) u2, .str (Mine.wordS v3) u3]) :: (R, Mine.rowsObj R0 R1 R2 R3) :: (R3, (LCg.lst [.int (Mine.bitI v3 0) d0, .int (Mine.bitI v3 1) d1, .int (Mine.bitI v3 2) d2, .int (Mine.bitI v3 3) d3, .int (Mine.bitI v3 4) d4])) :: (R2, (LCg.lst [.int (Mine.bitI v2 0) c0, .int (Mine.bitI v2 1) c1, .int (Mine.bitI v2 2) c2, .int (Mine.bitI v2 3) c3, .int (Mine.bitI v2 4) c4])) :: (R1, (LCg.lst [.int (Mine.bitI v1 0) b0, .int (Mine.bitI v1 1) b1, .int (Mine.bitI v1 2) b2, .int (Mine.bitI v1 3) b3, .int (Mine.bitI v1 4) b4])) :: (R0, (LCg.lst [.int (Mine.bitI v0 0) a0, .int (Mine.bitI v0 1) a1, .int (Mine.bitI v0 2) a2, .int (Mine.bitI v0 3) a3, .int (Mine.bitI v0 4) a4])) :: (P, Mine.pricesObj q0 q1 q2 q3 q4) :: (L + 1 + 1 + 1 + 1 + 1, o5) :: (L + 1 + 1 + 1, o3) :: rest, rfl, F5, (Mine.news_app (Mine.news_l (Mine.news_tl (Mine.news_tl (Mine.news_tl (Mine.news_tl (Mine.news_tl (Mine.news_tl (Mine.news_tl (Mine.news_tl (Mine.news_tl (Mine.news_tl N5))))))))))) (Mine.news_app (Mine.news_pick N5 [8, 6, 0]) (Mine.news_app (Mine.news_pick (Mine.news_r (Mine.news_tl (Mine.news_tl (Mine.news_tl (Mine.news_tl (Mine.news_tl (Mine.news_tl (Mine.news_tl (Mine.news_tl (Mine.news_tl (Mine.news_tl N5))))))))))) [0, 1, 2, 3, 4, 5, 6]) (Mine.news_app (Mine.news_pick N5 [1, 2]) (Mine.news_app (Mine.news_pick (Mine.news_r (Mine.news_tl (Mine.news_tl (Mine.news_tl (Mine.news_tl (Mine.news_tl (Mine.news_tl (Mine.news_tl (Mine.news_tl (Mine.news_tl (Mine.news_tl N5))))))))))) [7, 8, 9, 10]) (Mine.news_app (Mine.news_pick N5 [5, 7, 9]) (Mine.news_drop (Mine.news_r (Mine.news_tl (Mine.news_tl (Mine.news_tl (Mine.news_tl (Mine.news_tl (Mine.news_tl (Mine.news_tl (Mine.news_tl (Mine.news_tl (Mine.news_tl N5))))))))))) 11))))))), rfl, ?_⟩
    clear F₁ N₁ F2 N3 F5 N5 hown hP own
    refine Unr.succ fun v h₁ tk₁ own hP hown F₁ N₁ => ?_
    obtain rfl : v = .ref T2 := (Option.some.inj hP).symm
    refine' Mine.asg12 w mean mg mb _ _ _ _ _ ?a ?hb fa cdv base h₀ L _ _ (own ++ (Y, LCg.lst [.int (Mine.dueI v0 v1) tt0, .int (Mine.dueI v2 v3) tt1]) :: (TT, { cls := .type "tuple", data := .seq #[.ref T0, .ref T1, .ref T2, .ref T3, .ref T4, .ref T5] }) :: (T5, { cls := .type "tuple", data := .seq #[.int 1 x5, .int 2 y5] }) :: (T4, { cls := .type "tuple", data := .seq #[.int 0 x4, .int 3 y4] }) :: (T3, { cls := .type "tuple", data := .seq #[.int 1 x3, .int 3 y3] }) :: (T2, { cls := .type "tuple", data := .seq #[.int 0 x2, .int 2 y2] }) :: (T1, { cls := .type "tuple", data := .seq #[.int 2 x1, .int 3 y1] }) :: (T0, { cls := .type "tuple", data := .seq #[.int 0 x0, .int 1 y0] }) :: (W, LCg.lst [.str (Mine.wordS v0) u0, .str (Mine.wordS v1) u1, .str (Mine.wordS v2) u2, .str (Mine.wordS v3) u3]) :: (R, Mine.rowsObj R0 R1 R2 R3) :: (R3, (LCg.lst [.int (Mine.bitI v3 0) d0, .int (Mine.bitI v3 1) d1, .int (Mine.bitI v3 2) d2, .int (Mine.bitI v3 3) d3, .int (Mine.bitI v3 4) d4])) :: (R2, (LCg.lst [.int (Mine.bitI v2 0) c0, .int (Mine.bitI v2 1) c1, .int (Mine.bitI v2 2) c2, .int (Mine.bitI v2 3) c3, .int (Mine.bitI v2 4) c4])) :: (R1, (LCg.lst [.int (Mine.bitI v1 0) b0, .int (Mine.bitI v1 1) b1, .int (Mine.bitI v1 2) b2, .int (Mine.bitI v1 3) b3, .int (Mine.bitI v1 4) b4])) :: (R0, (LCg.lst [.int (Mine.bitI v0 0) a0, .int (Mine.bitI v0 1) a1, .int (Mine.bitI v0 2) a2, .int (Mine.bitI v0 3) a3, .int (Mine.bitI v0 4) a4])) :: (P, Mine.pricesObj q0 q1 q2 q3 q4) :: (L + 1 + 1 + 1 + 1 + 1, o5) :: (L + 1 + 1 + 1, o3) :: rest) _ E T2 0 2 x2 y2 o4x1 o6x1 (some (.int 2 ta1)) (some (.int 3 tb1)) ?B ?F ?X ?N ?T ?h4 ?h6 ?n1 ?n2 ?n3 ?n4 ?r12
    case a => exact hst'
    case hb => exact rfl
    case B => exact B
    case F => exact F₁
    case X => exact X
    case N => exact (Mine.news_app (Mine.news_pick (Mine.news_r N₁) [7, 0, 1]) (Mine.news_app (Mine.news_l N₁) (Mine.news_drop (Mine.news_r N₁) 2)))
    case T => exact T
    case h4 => exact e4x1
    case h6 => exact e6x1
    case n1 =>
      show @Ne Nat T2 (L + 1 + 1 + 1 + 1)
      omega
    case n2 =>
      show @Ne Nat T2 (L + 1 + 1 + 1 + 1 + 1 + 1)
      omega
    case n3 => exact rr4 own _ hown
    case n4 => exact rr6 own _ hown
    intro o4x2 o6x2 ta2 tb2 h2 tk2 e4x2 e6x2 F2 N3
    obtain ⟨ts2, em2⟩ := Mine.loc12_canon hm1
    rw [em2] at F2
    refine' Mine.turn12 w mean mg mb _ _ _ _ _ ?a ?hb fa cdv base h₀ L _ _ _ E R R0 R2 P [.ref R0, .ref R1, .ref R2, .ref R3] 0 2 v0 v2 a0 a1 a2 a3 a4 c0 c1 c2 c3 c4 q0 q1 q2 q3 q4 ta2 tb2 o3 o4x2 o5 o6x2 (own ++ (TT, { cls := .type "tuple", data := .seq #[.ref T0, .ref T1, .ref T2, .ref T3, .ref T4, .ref T5] }) :: (T5, { cls := .type "tuple", data := .seq #[.int 1 x5, .int 2 y5] }) :: (T4, { cls := .type "tuple", data := .seq #[.int 0 x4, .int 3 y4] }) :: (T3, { cls := .type "tuple", data := .seq #[.int 1 x3, .int 3 y3] }) :: (T2, { cls := .type "tuple", data := .seq #[.int 0 x2, .int 2 y2] }) :: (T1, { cls := .type "tuple", data := .seq #[.int 2 x1, .int 3 y1] }) :: (T0, { cls := .type "tuple", data := .seq #[.int 0 x0, .int 1 y0] }) :: (R3, (LCg.lst [.int (Mine.bitI v3 0) d0, .int (Mine.bitI v3 1) d1, .int (Mine.bitI v3 2) d2, .int (Mine.bitI v3 3) d3, .int (Mine.bitI v3 4) d4])) :: (R2, (LCg.lst [.int (Mine.bitI v2 0) c0, .int (Mine.bitI v2 1) c1, .int (Mine.bitI v2 2) c2, .int (Mine.bitI v2 3) c3, .int (Mine.bitI v2 4) c4])) :: (R1, (LCg.lst [.int (Mine.bitI v1 0) b0, .int (Mine.bitI v1 1) b1, .int (Mine.bitI v1 2) b2, .int (Mine.bitI v1 3) b3, .int (Mine.bitI v1 4) b4])) :: (R0, (LCg.lst [.int (Mine.bitI v0 0) a0, .int (Mine.bitI v0 1) a1, .int (Mine.bitI v0 2) a2, .int (Mine.bitI v0 3) a3, .int (Mine.bitI v0 4) a4])) :: rest) W Y [.str (Mine.wordS v0) u0, .str (Mine.wordS v1) u1, .str (Mine.wordS v2) u2, .str (Mine.wordS v3) u3] [.int (Mine.dueI v0 v1) tt0, .int (Mine.dueI v2 v3) tt1] sl dl ts2 u0 u2 ?B ?F ?X ?N ?T ?h3 ?h4 ?h5 ?h6 ?hi ?hj ?hri ?hrj ?hwi ?hwj ?hl ?hW ?hsl ?hkp ?r22
    case hi => exact Nat.le_of_ble_eq_true rfl
    case hj => exact Nat.le_of_ble_eq_true rfl
    case hri => exact rfl
    case hrj => exact rfl
    case hwi => exact rfl
    case hwj => exact rfl
    case hl => exact Nat.le_of_ble_eq_true rfl
    case a => exact hst'
    case hb => exact rfl
    case B => exact B
    case F => exact F2
    case X => exact X
    case N => exact (Mine.news_app (Mine.news_pick (Mine.news_r (Mine.news_tl (Mine.news_tl N3))) [0, 8, 9, 13, 11, 14]) (Mine.news_app (Mine.news_pick N3 [1]) (Mine.news_app (Mine.news_pick (Mine.news_r (Mine.news_tl (Mine.news_tl N3))) [15]) (Mine.news_app (Mine.news_pick N3 [0]) (Mine.news_app (Mine.news_pick (Mine.news_r (Mine.news_tl (Mine.news_tl N3))) [16]) (Mine.news_app (Mine.news_l (Mine.news_tl (Mine.news_tl N3))) (Mine.news_app (Mine.news_pick (Mine.news_r (Mine.news_tl (Mine.news_tl N3))) [1, 2, 3, 4, 5, 6, 7, 10, 11, 12, 13]) (Mine.news_drop (Mine.news_r (Mine.news_tl (Mine.news_tl N3))) 17))))))))
    case T => exact T
    case h3 => exact h3
    case h4 => exact e4x2
    case h5 => exact h5
    case h6 => exact e6x2
    case hsl => exact hsl
    case hkp => exact hm1.keep
    case hW => exact Mine.all_app (Mine.all_pick nY [0, 1, 5, 3, 6]) (Mine.all_cons (fun e => hn6 e.symm) (Mine.all_app (Mine.all_pick nY [7]) (Mine.all_cons (fun e => hn4 e.symm) (Mine.all_app (Mine.all_pick nY [8]) (Mine.all_app (ownY own hown) (Mine.all_app tupsY (Mine.all_app (Mine.all_pick nY [2, 3, 4, 5]) (Mine.all_drop nY 9))))))))
    intro m2 tt2 h3' tk3 hm2 F5 N5
    refine LoopStep3.next ⟨rfl, h3', tk3, m2, (L + 1 + 1 + 1 + 1, o4x2) :: (L + 1 + 1 + 1 + 1 + 1 + 1, o6x2) :: (Y, LCg.lst [.int (Mine.dueI v0 v1) tt0, .int (Mine.dueI v2 v3) tt1, .int (Mine.dueI v0 v2) tt2]) :: (TT, { cls := .type "tuple", data := .seq #[.ref T0, .ref T1, .ref T2, .ref T3, .ref T4, .ref T5] }) :: (T5, { cls := .type "tuple", data := .seq #[.int 1 x5, .int 2 y5] }) :: (T4, { cls := .type "tuple", data := .seq #[.int 0 x4, .int 3 y4] }) :: (T3, { cls := .type "tuple", data := .seq #[.int 1 x3, .int 3 y3] }) :: (T2, { cls := .type "tuple", data := .seq #[.int 0 x2, .int 2 y2] }) :: (T1, { cls := .type "tuple", data := .seq #[.int 2 x1, .int 3 y1] }) :: (T0, { cls := .type "tuple", data := .seq #[.int 0 x0, .int 1 y0] }) :: (W, LCg.lst [.str (Mine.wordS v0) u0, .str (Mine.wordS v1) u1, .str (Mine.wordS v2) u2, .str (Mine.wordS v3) u3]) :: (R, Mine.rowsObj R0 R1 R2 R3) :: (R3, (LCg.lst [.int (Mine.bitI v3 0) d0, .int (Mine.bitI v3 1) d1, .int (Mine.bitI v3 2) d2, .int (Mine.bitI v3 3) d3, .int (Mine.bitI v3 4) d4])) :: (R2, (LCg.lst [.int (Mine.bitI v2 0) c0, .int (Mine.bitI v2 1) c1, .int (Mine.bitI v2 2) c2, .int (Mine.bitI v2 3) c3, .int (Mine.bitI v2 4) c4])) :: (R1, (LCg.lst [.int (Mine.bitI v1 0) b0, .int (Mine.bitI v1 1) b1, .int (Mine.bitI v1 2) b2, .int (Mine.bitI v1 3) b3, .int (Mine.bitI v1 4) b4])) :: (R0, (LCg.lst [.int (Mine.bitI v0 0) a0, .int (Mine.bitI v0 1) a1, .int (Mine.bitI v0 2) a2, .int (Mine.bitI v0 3) a3, .int (Mine.bitI v0 4) a4])) :: (P, Mine.pricesObj q0 q1 q2 q3 q4) :: (L + 1 + 1 + 1 + 1 + 1, o5) :: (L + 1 + 1 + 1, o3) :: rest, rfl, F5, (Mine.news_app (Mine.news_l (Mine.news_tl (Mine.news_tl (Mine.news_tl (Mine.news_tl (Mine.news_tl (Mine.news_tl (Mine.news_tl (Mine.news_tl (Mine.news_tl (Mine.news_tl N5))))))))))) (Mine.news_app (Mine.news_pick N5 [8, 6, 0]) (Mine.news_app (Mine.news_pick (Mine.news_r (Mine.news_tl (Mine.news_tl (Mine.news_tl (Mine.news_tl (Mine.news_tl (Mine.news_tl (Mine.news_tl (Mine.news_tl (Mine.news_tl (Mine.news_tl N5))))))))))) [0, 1, 2, 3, 4, 5, 6]) (Mine.news_app (Mine.news_pick N5 [1, 2]) (Mine.news_app (Mine.news_pick (Mine.news_r (Mine.news_tl (Mine.news_tl (Mine.news_tl (Mine.news_tl (Mine.news_tl (Mine.news_tl (Mine.news_tl (Mine.news_tl (Mine.news_tl (Mine.news_tl N5))))))))))) [7, 8, 9, 10]) (Mine.news_app (Mine.news_pick N5 [5, 7, 9]) (Mine.news_drop (Mine.news_r (Mine.news_tl (Mine.news_tl (Mine.news_tl (Mine.news_tl (Mine.news_tl (Mine.news_tl (Mine.news_tl (Mine.news_tl (Mine.news_tl (Mine.news_tl N5))))))))))) 11))))))), rfl, ?_⟩
    clear F₁ N₁ F2 N3 F5 N5 hown hP own
    refine Unr.succ fun v h₁ tk₁ own hP hown F₁ N₁ => ?_
    obtain rfl : v = .ref T3 := (Option.some.inj hP).symm
    refine' Mine.asg12 w mean mg mb _ _ _ _ _ ?a ?hb fa cdv base h₀ L _ _ (own ++ (Y, LCg.lst [.int (Mine.dueI v0 v1) tt0, .int (Mine.dueI v2 v3) tt1, .int (Mine.dueI v0 v2) tt2]) :: (TT, { cls := .type "tuple", data := .seq #[.ref T0, .ref T1, .ref T2, .ref T3, .ref T4, .ref T5] }) :: (T5, { cls := .type "tuple", data := .seq #[.int 1 x5, .int 2 y5] }) :: (T4, { cls := .type "tuple", data := .seq #[.int 0 x4, .int 3 y4] }) :: (T3, { cls := .type "tuple", data := .seq #[.int 1 x3, .int 3 y3] }) :: (T2, { cls := .type "tuple", data := .seq #[.int 0 x2, .int 2 y2] }) :: (T1, { cls := .type "tuple", data := .seq #[.int 2 x1, .int 3 y1] }) :: (T0, { cls := .type "tuple", data := .seq #[.int 0 x0, .int 1 y0] }) :: (W, LCg.lst [.str (Mine.wordS v0) u0, .str (Mine.wordS v1) u1, .str (Mine.wordS v2) u2, .str (Mine.wordS v3) u3]) :: (R, Mine.rowsObj R0 R1 R2 R3) :: (R3, (LCg.lst [.int (Mine.bitI v3 0) d0, .int (Mine.bitI v3 1) d1, .int (Mine.bitI v3 2) d2, .int (Mine.bitI v3 3) d3, .int (Mine.bitI v3 4) d4])) :: (R2, (LCg.lst [.int (Mine.bitI v2 0) c0, .int (Mine.bitI v2 1) c1, .int (Mine.bitI v2 2) c2, .int (Mine.bitI v2 3) c3, .int (Mine.bitI v2 4) c4])) :: (R1, (LCg.lst [.int (Mine.bitI v1 0) b0, .int (Mine.bitI v1 1) b1, .int (Mine.bitI v1 2) b2, .int (Mine.bitI v1 3) b3, .int (Mine.bitI v1 4) b4])) :: (R0, (LCg.lst [.int (Mine.bitI v0 0) a0, .int (Mine.bitI v0 1) a1, .int (Mine.bitI v0 2) a2, .int (Mine.bitI v0 3) a3, .int (Mine.bitI v0 4) a4])) :: (P, Mine.pricesObj q0 q1 q2 q3 q4) :: (L + 1 + 1 + 1 + 1 + 1, o5) :: (L + 1 + 1 + 1, o3) :: rest) _ E T3 1 3 x3 y3 o4x2 o6x2 (some (.int 0 ta2)) (some (.int 2 tb2)) ?B ?F ?X ?N ?T ?h4 ?h6 ?n1 ?n2 ?n3 ?n4 ?r13
    case a => exact hst'
    case hb => exact rfl
    case B => exact B
    case F => exact F₁
    case X => exact X
    case N => exact (Mine.news_app (Mine.news_pick (Mine.news_r N₁) [6, 0, 1]) (Mine.news_app (Mine.news_l N₁) (Mine.news_drop (Mine.news_r N₁) 2)))
    case T => exact T
    case h4 => exact e4x2
    case h6 => exact e6x2
    case n1 =>
      show @Ne Nat T3 (L + 1 + 1 + 1 + 1)
      omega
    case n2 =>
      show @Ne Nat T3 (L + 1 + 1 + 1 + 1 + 1 + 1)
      omega
    case n3 => exact rr4 own _ hown
    case n4 => exact rr6 own _ hown
    intro o4x3 o6x3 ta3 tb3 h2 tk2 e4x3 e6x3 F2 N3
    obtain ⟨ts3, em3⟩ := Mine.loc12_canon hm2
    rw [em3] at F2
    refine' Mine.turn12 w mean mg mb _ _ _ _ _ ?a ?hb fa cdv base h₀ L _ _ _ E R R1 R3 P [.ref R0, .ref R1, .ref R2, .ref R3] 1 3 v1 v3 b0 b1 b2 b3 b4 d0 d1 d2 d3 d4 q0 q1 q2 q3 q4 ta3 tb3 o3 o4x3 o5 o6x3 (own ++ (TT, { cls := .type "tuple", data := .seq #[.ref T0, .ref T1, .ref T2, .ref T3, .ref T4, .ref T5] }) :: (T5, { cls := .type "tuple", data := .seq #[.int 1 x5, .int 2 y5] }) :: (T4, { cls := .type "tuple", data := .seq #[.int 0 x4, .int 3 y4] }) :: (T3, { cls := .type "tuple", data := .seq #[.int 1 x3, .int 3 y3] }) :: (T2, { cls := .type "tuple", data := .seq #[.int 0 x2, .int 2 y2] }) :: (T1, { cls := .type "tuple", data := .seq #[.int 2 x1, .int 3 y1] }) :: (T0, { cls := .type "tuple", data := .seq #[.int 0 x0, .int 1 y0] }) :: (R3, (LCg.lst [.int (Mine.bitI v3 0) d0, .int (Mine.bitI v3 1) d1, .int (Mine.bitI v3 2) d2, .int (Mine.bitI v3 3) d3, .int (Mine.bitI v3 4) d4])) :: (R2, (LCg.lst [.int (Mine.bitI v2 0) c0, .int (Mine.bitI v2 1) c1, .int (Mine.bitI v2 2) c2, .int (Mine.bitI v2 3) c3, .int (Mine.bitI v2 4) c4])) :: (R1, (LCg.lst [.int (Mine.bitI v1 0) b0, .int (Mine.bitI v1 1) b1, .int (Mine.bitI v1 2) b2, .int (Mine.bitI v1 3) b3, .int (Mine.bitI v1 4) b4])) :: (R0, (LCg.lst [.int (Mine.bitI v0 0) a0, .int (Mine.bitI v0 1) a1, .int (Mine.bitI v0 2) a2, .int (Mine.bitI v0 3) a3, .int (Mine.bitI v0 4) a4])) :: rest) W Y [.str (Mine.wordS v0) u0, .str (Mine.wordS v1) u1, .str (Mine.wordS v2) u2, .str (Mine.wordS v3) u3] [.int (Mine.dueI v0 v1) tt0, .int (Mine.dueI v2 v3) tt1, .int (Mine.dueI v0 v2) tt2] sl dl ts3 u1 u3 ?B ?F ?X ?N ?T ?h3 ?h4 ?h5 ?h6 ?hi ?hj ?hri ?hrj ?hwi ?hwj ?hl ?hW ?hsl ?hkp ?r23
    case hi => exact Nat.le_of_ble_eq_true rfl
    case hj => exact Nat.le_of_ble_eq_true rfl
    case hri => exact rfl
    case hrj => exact rfl
    case hwi => exact rfl
    case hwj => exact rfl
    case hl => exact Nat.le_of_ble_eq_true rfl
    case a => exact hst'
    case hb => exact rfl
    case B => exact B
    case F => exact F2
    case X => exact X
    case N => exact (Mine.news_app (Mine.news_pick (Mine.news_r (Mine.news_tl (Mine.news_tl N3))) [0, 8, 9, 12, 10, 14]) (Mine.news_app (Mine.news_pick N3 [1]) (Mine.news_app (Mine.news_pick (Mine.news_r (Mine.news_tl (Mine.news_tl N3))) [15]) (Mine.news_app (Mine.news_pick N3 [0]) (Mine.news_app (Mine.news_pick (Mine.news_r (Mine.news_tl (Mine.news_tl N3))) [16]) (Mine.news_app (Mine.news_l (Mine.news_tl (Mine.news_tl N3))) (Mine.news_app (Mine.news_pick (Mine.news_r (Mine.news_tl (Mine.news_tl N3))) [1, 2, 3, 4, 5, 6, 7, 10, 11, 12, 13]) (Mine.news_drop (Mine.news_r (Mine.news_tl (Mine.news_tl N3))) 17))))))))
    case T => exact T
    case h3 => exact h3
    case h4 => exact e4x3
    case h5 => exact h5
    case h6 => exact e6x3
    case hsl => exact hsl
    case hkp => exact hm2.keep
    case hW => exact Mine.all_app (Mine.all_pick nY [0, 1, 4, 2, 6]) (Mine.all_cons (fun e => hn6 e.symm) (Mine.all_app (Mine.all_pick nY [7]) (Mine.all_cons (fun e => hn4 e.symm) (Mine.all_app (Mine.all_pick nY [8]) (Mine.all_app (ownY own hown) (Mine.all_app tupsY (Mine.all_app (Mine.all_pick nY [2, 3, 4, 5]) (Mine.all_drop nY 9))))))))
    intro m3 tt3 h3' tk3 hm3 F5 N5
    refine LoopStep3.next ⟨rfl, h3', tk3, m3, (L + 1 + 1 + 1 + 1, o4x3) :: (L + 1 + 1 + 1 + 1 + 1 + 1, o6x3) :: (Y, LCg.lst [.int (Mine.dueI v0 v1) tt0, .int (Mine.dueI v2 v3) tt1, .int (Mine.dueI v0 v2) tt2, .int (Mine.dueI v1 v3) tt3]) :: (TT, { cls := .type "tuple", data := .seq #[.ref T0, .ref T1, .ref T2, .ref T3, .ref T4, .ref T5] }) :: (T5, { cls := .type "tuple", data := .seq #[.int 1 x5, .int 2 y5] }) :: (T4, { cls := .type "tuple", data := .seq #[.int 0 x4, .int 3 y4] }) :: (T3, { cls := .type "tuple", data := .seq #[.int 1 x3, .int 3 y3] }) :: (T2, { cls := .type "tuple", data := .seq #[.int 0 x2, .int 2 y2] }) :: (T1, { cls := .type "tuple", data := .seq #[.int 2 x1, .int 3 y1] }) :: (T0, { cls := .type "tuple", data := .seq #[.int 0 x0, .int 1 y0] }) :: (W, LCg.lst [.str (Mine.wordS v0) u0, .str (Mine.wordS v1) u1, .str (Mine.wordS v2) u2, .str (Mine.wordS v3) u3]) :: (R, Mine.rowsObj R0 R1 R2 R3) :: (R3, (LCg.lst [.int (Mine.bitI v3 0) d0, .int (Mine.bitI v3 1) d1, .int (Mine.bitI v3 2) d2, .int (Mine.bitI v3 3) d3, .int (Mine.bitI v3 4) d4])) :: (R2, (LCg.lst [.int (Mine.bitI v2 0) c0, .int (Mine.bitI v2 1) c1, .int (Mine.bitI v2 2) c2, .int (Mine.bitI v2 3) c3, .int (Mine.bitI v2 4) c4])) :: (R1, (LCg.lst [.int (Mine.bitI v1 0) b0, .int (Mine.bitI v1 1) b1, .int (Mine.bitI v1 2) b2, .int (Mine.bitI v1 3) b3, .int (Mine.bitI v1 4) b4])) :: (R0, (LCg.lst [.int (Mine.bitI v0 0) a0, .int (Mine.bitI v0 1) a1, .int (Mine.bitI v0 2) a2, .int (Mine.bitI v0 3) a3, .int (Mine.bitI v0 4) a4])) :: (P, Mine.pricesObj q0 q1 q2 q3 q4) :: (L + 1 + 1 + 1 + 1 + 1, o5) :: (L + 1 + 1 + 1, o3) :: rest, rfl, F5, (Mine.news_app (Mine.news_l (Mine.news_tl (Mine.news_tl (Mine.news_tl (Mine.news_tl (Mine.news_tl (Mine.news_tl (Mine.news_tl (Mine.news_tl (Mine.news_tl (Mine.news_tl N5))))))))))) (Mine.news_app (Mine.news_pick N5 [8, 6, 0]) (Mine.news_app (Mine.news_pick (Mine.news_r (Mine.news_tl (Mine.news_tl (Mine.news_tl (Mine.news_tl (Mine.news_tl (Mine.news_tl (Mine.news_tl (Mine.news_tl (Mine.news_tl (Mine.news_tl N5))))))))))) [0, 1, 2, 3, 4, 5, 6]) (Mine.news_app (Mine.news_pick N5 [1, 2]) (Mine.news_app (Mine.news_pick (Mine.news_r (Mine.news_tl (Mine.news_tl (Mine.news_tl (Mine.news_tl (Mine.news_tl (Mine.news_tl (Mine.news_tl (Mine.news_tl (Mine.news_tl (Mine.news_tl N5))))))))))) [7, 8, 9, 10]) (Mine.news_app (Mine.news_pick N5 [5, 7, 9]) (Mine.news_drop (Mine.news_r (Mine.news_tl (Mine.news_tl (Mine.news_tl (Mine.news_tl (Mine.news_tl (Mine.news_tl (Mine.news_tl (Mine.news_tl (Mine.news_tl (Mine.news_tl N5))))))))))) 11))))))), rfl, ?_⟩
    clear F₁ N₁ F2 N3 F5 N5 hown hP own
    refine Unr.succ fun v h₁ tk₁ own hP hown F₁ N₁ => ?_
    obtain rfl : v = .ref T4 := (Option.some.inj hP).symm
    refine' Mine.asg12 w mean mg mb _ _ _ _ _ ?a ?hb fa cdv base h₀ L _ _ (own ++ (Y, LCg.lst [.int (Mine.dueI v0 v1) tt0, .int (Mine.dueI v2 v3) tt1, .int (Mine.dueI v0 v2) tt2, .int (Mine.dueI v1 v3) tt3]) :: (TT, { cls := .type "tuple", data := .seq #[.ref T0, .ref T1, .ref T2, .ref T3, .ref T4, .ref T5] }) :: (T5, { cls := .type "tuple", data := .seq #[.int 1 x5, .int 2 y5] }) :: (T4, { cls := .type "tuple", data := .seq #[.int 0 x4, .int 3 y4] }) :: (T3, { cls := .type "tuple", data := .seq #[.int 1 x3, .int 3 y3] }) :: (T2, { cls := .type "tuple", data := .seq #[.int 0 x2, .int 2 y2] }) :: (T1, { cls := .type "tuple", data := .seq #[.int 2 x1, .int 3 y1] }) :: (T0, { cls := .type "tuple", data := .seq #[.int 0 x0, .int 1 y0] }) :: (W, LCg.lst [.str (Mine.wordS v0) u0, .str (Mine.wordS v1) u1, .str (Mine.wordS v2) u2, .str (Mine.wordS v3) u3]) :: (R, Mine.rowsObj R0 R1 R2 R3) :: (R3, (LCg.lst [.int (Mine.bitI v3 0) d0, .int (Mine.bitI v3 1) d1, .int (Mine.bitI v3 2) d2, .int (Mine.bitI v3 3) d3, .int (Mine.bitI v3 4) d4])) :: (R2, (LCg.lst [.int (Mine.bitI v2 0) c0, .int (Mine.bitI v2 1) c1, .int (Mine.bitI v2 2) c2, .int (Mine.bitI v2 3) c3, .int (Mine.bitI v2 4) c4])) :: (R1, (LCg.lst [.int (Mine.bitI v1 0) b0, .int (Mine.bitI v1 1) b1, .int (Mine.bitI v1 2) b2, .int (Mine.bitI v1 3) b3, .int (Mine.bitI v1 4) b4])) :: (R0, (LCg.lst [.int (Mine.bitI v0 0) a0, .int (Mine.bitI v0 1) a1, .int (Mine.bitI v0 2) a2, .int (Mine.bitI v0 3) a3, .int (Mine.bitI v0 4) a4])) :: (P, Mine.pricesObj q0 q1 q2 q3 q4) :: (L + 1 + 1 + 1 + 1 + 1, o5) :: (L + 1 + 1 + 1, o3) :: rest) _ E T4 0 3 x4 y4 o4x3 o6x3 (some (.int 1 ta3)) (some (.int 3 tb3)) ?B ?F ?X ?N ?T ?h4 ?h6 ?n1 ?n2 ?n3 ?n4 ?r14
    case a => exact hst'
    case hb => exact rfl
    case B => exact B
    case F => exact F₁
    case X => exact X
    case N => exact (Mine.news_app (Mine.news_pick (Mine.news_r N₁) [5, 0, 1]) (Mine.news_app (Mine.news_l N₁) (Mine.news_drop (Mine.news_r N₁) 2)))
    case T => exact T
    case h4 => exact e4x3
    case h6 => exact e6x3
    case n1 =>
      show @Ne Nat T4 (L + 1 + 1 + 1 + 1)
      omega
    case n2 =>
      show @Ne Nat T4 (L + 1 + 1 + 1 + 1 + 1 + 1)
      omega
    case n3 => exact rr4 own _ hown
    case n4 => exact rr6 own _ hown
    intro o4x4 o6x4 ta4 tb4 h2 tk2 e4x4 e6x4 F2 N3
    obtain ⟨ts4, em4⟩ := Mine.loc12_canon hm3
    rw [em4] at F2
    refine' Mine.turn12 w mean mg mb _ _ _ _ _ ?a ?hb fa cdv base h₀ L _ _ _ E R R0 R3 P [.ref R0, .ref R1, .ref R2, .ref R3] 0 3 v0 v3 a0 a1 a2 a3 a4 d0 d1 d2 d3 d4 q0 q1 q2 q3 q4 ta4 tb4 o3 o4x4 o5 o6x4 (own ++ (TT, { cls := .type "tuple", data := .seq #[.ref T0, .ref T1, .ref T2, .ref T3, .ref T4, .ref T5] }) :: (T5, { cls := .type "tuple", data := .seq #[.int 1 x5, .int 2 y5] }) :: (T4, { cls := .type "tuple", data := .seq #[.int 0 x4, .int 3 y4] }) :: (T3, { cls := .type "tuple", data := .seq #[.int 1 x3, .int 3 y3] }) :: (T2, { cls := .type "tuple", data := .seq #[.int 0 x2, .int 2 y2] }) :: (T1, { cls := .type "tuple", data := .seq #[.int 2 x1, .int 3 y1] }) :: (T0, { cls := .type "tuple", data := .seq #[.int 0 x0, .int 1 y0] }) :: (R3, (LCg.lst [.int (Mine.bitI v3 0) d0, .int (Mine.bitI v3 1) d1, .int (Mine.bitI v3 2) d2, .int (Mine.bitI v3 3) d3, .int (Mine.bitI v3 4) d4])) :: (R2, (LCg.lst [.int (Mine.bitI v2 0) c0, .int (Mine.bitI v2 1) c1, .int (Mine.bitI v2 2) c2, .int (Mine.bitI v2 3) c3, .int (Mine.bitI v2 4) c4])) :: (R1, (LCg.lst [.int (Mine.bitI v1 0) b0, .int (Mine.bitI v1 1) b1, .int (Mine.bitI v1 2) b2, .int (Mine.bitI v1 3) b3, .int (Mine.bitI v1 4) b4])) :: (R0, (LCg.lst [.int (Mine.bitI v0 0) a0, .int (Mine.bitI v0 1) a1, .int (Mine.bitI v0 2) a2, .int (Mine.bitI v0 3) a3, .int (Mine.bitI v0 4) a4])) :: rest) W Y [.str (Mine.wordS v0) u0, .str (Mine.wordS v1) u1, .str (Mine.wordS v2) u2, .str (Mine.wordS v3) u3] [.int (Mine.dueI v0 v1) tt0, .int (Mine.dueI v2 v3) tt1, .int (Mine.dueI v0 v2) tt2, .int (Mine.dueI v1 v3) tt3] sl dl ts4 u0 u3 ?B ?F ?X ?N ?T ?h3 ?h4 ?h5 ?h6 ?hi ?hj ?hri ?hrj ?hwi ?hwj ?hl ?hW ?hsl ?hkp ?r24
    case hi => exact Nat.le_of_ble_eq_true rfl
    case hj => exact Nat.le_of_ble_eq_true rfl
    case hri => exact rfl
    case hrj => exact rfl
    case hwi => exact rfl
    case hwj => exact rfl
    case hl => exact Nat.le_of_ble_eq_true rfl
    case a => exact hst'
    case hb => exact rfl
    case B => exact B
    case F => exact F2
    case X => exact X
    case N => exact (Mine.news_app (Mine.news_pick (Mine.news_r (Mine.news_tl (Mine.news_tl N3))) [0, 8, 9, 13, 10, 14]) (Mine.news_app (Mine.news_pick N3 [1]) (Mine.news_app (Mine.news_pick (Mine.news_r (Mine.news_tl (Mine.news_tl N3))) [15]) (Mine.news_app (Mine.news_pick N3 [0]) (Mine.news_app (Mine.news_pick (Mine.news_r (Mine.news_tl (Mine.news_tl N3))) [16]) (Mine.news_app (Mine.news_l (Mine.news_tl (Mine.news_tl N3))) (Mine.news_app (Mine.news_pick (Mine.news_r (Mine.news_tl (Mine.news_tl N3))) [1, 2, 3, 4, 5, 6, 7, 10, 11, 12, 13]) (Mine.news_drop (Mine.news_r (Mine.news_tl (Mine.news_tl N3))) 17))))))))
    case T => exact T
    case h3 => exact h3
    case h4 => exact e4x4
    case h5 => exact h5
    case h6 => exact e6x4
    case hsl => exact hsl
    case hkp => exact hm3.keep
    case hW => exact Mine.all_app (Mine.all_pick nY [0, 1, 5, 2, 6]) (Mine.all_cons (fun e => hn6 e.symm) (Mine.all_app (Mine.all_pick nY [7]) (Mine.all_cons (fun e => hn4 e.symm) (Mine.all_app (Mine.all_pick nY [8]) (Mine.all_app (ownY own hown) (Mine.all_app tupsY (Mine.all_app (Mine.all_pick nY [2, 3, 4, 5]) (Mine.all_drop nY 9))))))))
    intro m4 tt4 h3' tk3 hm4 F5 N5
    refine LoopStep3.next ⟨rfl, h3', tk3, m4, (L + 1 + 1 + 1 + 1, o4x4) :: (L + 1 + 1 + 1 + 1 + 1 + 1, o6x4) :: (Y, LCg.lst [.int (Mine.dueI v0 v1) tt0, .int (Mine.dueI v2 v3) tt1, .int (Mine.dueI v0 v2) tt2, .int (Mine.dueI v1 v3) tt3, .int (Mine.dueI v0 v3) tt4]) :: (TT, { cls := .type "tuple", data := .seq #[.ref T0, .ref T1, .ref T2, .ref T3, .ref T4, .ref T5] }) :: (T5, { cls := .type "tuple", data := .seq #[.int 1 x5, .int 2 y5] }) :: (T4, { cls := .type "tuple", data := .seq #[.int 0 x4, .int 3 y4] }) :: (T3, { cls := .type "tuple", data := .seq #[.int 1 x3, .int 3 y3] }) :: (T2, { cls := .type "tuple", data := .seq #[.int 0 x2, .int 2 y2] }) :: (T1, { cls := .type "tuple", data := .seq #[.int 2 x1, .int 3 y1] }) :: (T0, { cls := .type "tuple", data := .seq #[.int 0 x0, .int 1 y0] }) :: (W, LCg.lst [.str (Mine.wordS v0) u0, .str (Mine.wordS v1) u1, .str (Mine.wordS v2) u2, .str (Mine.wordS v3) u3]) :: (R, Mine.rowsObj R0 R1 R2 R3) :: (R3, (LCg.lst [.int (Mine.bitI v3 0) d0, .int (Mine.bitI v3 1) d1, .int (Mine.bitI v3 2) d2, .int (Mine.bitI v3 3) d3, .int (Mine.bitI v3 4) d4])) :: (R2, (LCg.lst [.int (Mine.bitI v2 0) c0, .int (Mine.bitI v2 1) c1, .int (Mine.bitI v2 2) c2, .int (Mine.bitI v2 3) c3, .int (Mine.bitI v2 4) c4])) :: (R1, (LCg.lst [.int (Mine.bitI v1 0) b0, .int (Mine.bitI v1 1) b1, .int (Mine.bitI v1 2) b2, .int (Mine.bitI v1 3) b3, .int (Mine.bitI v1 4) b4])) :: (R0, (LCg.lst [.int (Mine.bitI v0 0) a0, .int (Mine.bitI v0 1) a1, .int (Mine.bitI v0 2) a2, .int (Mine.bitI v0 3) a3, .int (Mine.bitI v0 4) a4])) :: (P, Mine.pricesObj q0 q1 q2 q3 q4) :: (L + 1 + 1 + 1 + 1 + 1, o5) :: (L + 1 + 1 + 1, o3) :: rest, rfl, F5, (Mine.news_app (Mine.news_l (Mine.news_tl (Mine.news_tl (Mine.news_tl (Mine.news_tl (Mine.news_tl (Mine.news_tl (Mine.news_tl (Mine.news_tl (Mine.news_tl (Mine.news_tl N5))))))))))) (Mine.news_app (Mine.news_pick N5 [8, 6, 0]) (Mine.news_app (Mine.news_pick (Mine.news_r (Mine.news_tl (Mine.news_tl (Mine.news_tl (Mine.news_tl (Mine.news_tl (Mine.news_tl (Mine.news_tl (Mine.news_tl (Mine.news_tl (Mine.news_tl N5))))))))))) [0, 1, 2, 3, 4, 5, 6]) (Mine.news_app (Mine.news_pick N5 [1, 2]) (Mine.news_app (Mine.news_pick (Mine.news_r (Mine.news_tl (Mine.news_tl (Mine.news_tl (Mine.news_tl (Mine.news_tl (Mine.news_tl (Mine.news_tl (Mine.news_tl (Mine.news_tl (Mine.news_tl N5))))))))))) [7, 8, 9, 10]) (Mine.news_app (Mine.news_pick N5 [5, 7, 9]) (Mine.news_drop (Mine.news_r (Mine.news_tl (Mine.news_tl (Mine.news_tl (Mine.news_tl (Mine.news_tl (Mine.news_tl (Mine.news_tl (Mine.news_tl (Mine.news_tl (Mine.news_tl N5))))))))))) 11))))))), rfl, ?_⟩
    clear F₁ N₁ F2 N3 F5 N5 hown hP own
    refine Unr.succ fun v h₁ tk₁ own hP hown F₁ N₁ => ?_
    obtain rfl : v = .ref T5 := (Option.some.inj hP).symm
    refine' Mine.asg12 w mean mg mb _ _ _ _ _ ?a ?hb fa cdv base h₀ L _ _ (own ++ (Y, LCg.lst [.int (Mine.dueI v0 v1) tt0, .int (Mine.dueI v2 v3) tt1, .int (Mine.dueI v0 v2) tt2, .int (Mine.dueI v1 v3) tt3, .int (Mine.dueI v0 v3) tt4]) :: (TT, { cls := .type "tuple", data := .seq #[.ref T0, .ref T1, .ref T2, .ref T3, .ref T4, .ref T5] }) :: (T5, { cls := .type "tuple", data := .seq #[.int 1 x5, .int 2 y5] }) :: (T4, { cls := .type "tuple", data := .seq #[.int 0 x4, .int 3 y4] }) :: (T3, { cls := .type "tuple", data := .seq #[.int 1 x3, .int 3 y3] }) :: (T2, { cls := .type "tuple", data := .seq #[.int 0 x2, .int 2 y2] }) :: (T1, { cls := .type "tuple", data := .seq #[.int 2 x1, .int 3 y1] }) :: (T0, { cls := .type "tuple", data := .seq #[.int 0 x0, .int 1 y0] }) :: (W, LCg.lst [.str (Mine.wordS v0) u0, .str (Mine.wordS v1) u1, .str (Mine.wordS v2) u2, .str (Mine.wordS v3) u3]) :: (R, Mine.rowsObj R0 R1 R2 R3) :: (R3, (LCg.lst [.int (Mine.bitI v3 0) d0, .int (Mine.bitI v3 1) d1, .int (Mine.bitI v3 2) d2, .int (Mine.bitI v3 3) d3, .int (Mine.bitI v3 4) d4])) :: (R2, (LCg.lst [.int (Mine.bitI v2 0) c0, .int (Mine.bitI v2 1) c1, .int (Mine.bitI v2 2) c2, .int (Mine.bitI v2 3) c3, .int (Mine.bitI v2 4) c4])) :: (R1, (LCg.lst [.int (Mine.bitI v1 0) b0, .int (Mine.bitI v1 1) b1, .int (Mine.bitI v1 2) b2, .int (Mine.bitI v1 3) b3, .int (Mine.bitI v1 4) b4])) :: (R0, (LCg.lst [.int (Mine.bitI v0 0) a0, .int (Mine.bitI v0 1) a1, .int (Mine.bitI v0 2) a2, .int (Mine.bitI v0 3) a3, .int (Mine.bitI v0 4) a4])) :: (P, Mine.pricesObj q0 q1 q2 q3 q4) :: (L + 1 + 1 + 1 + 1 + 1, o5) :: (L + 1 + 1 + 1, o3) :: rest) _ E T5 1 2 x5 y5 o4x4 o6x4 (some (.int 0 ta4)) (some (.int 3 tb4)) ?B ?F ?X ?N ?T ?h4 ?h6 ?n1 ?n2 ?n3 ?n4 ?r15
    case a => exact hst'
    case hb => exact rfl
    case B => exact B
    case F => exact F₁
    case X => exact X
    case N => exact (Mine.news_app (Mine.news_pick (Mine.news_r N₁) [4, 0, 1]) (Mine.news_app (Mine.news_l N₁) (Mine.news_drop (Mine.news_r N₁) 2)))
    case T => exact T
    case h4 => exact e4x4
    case h6 => exact e6x4
    case n1 =>
      show @Ne Nat T5 (L + 1 + 1 + 1 + 1)
      omega
    case n2 =>
      show @Ne Nat T5 (L + 1 + 1 + 1 + 1 + 1 + 1)
      omega
    case n3 => exact rr4 own _ hown
    case n4 => exact rr6 own _ hown
    intro o4x5 o6x5 ta5 tb5 h2 tk2 e4x5 e6x5 F2 N3
    obtain ⟨ts5, em5⟩ := Mine.loc12_canon hm4
    rw [em5] at F2
    refine' Mine.turn12 w mean mg mb _ _ _ _ _ ?a ?hb fa cdv base h₀ L _ _ _ E R R1 R2 P [.ref R0, .ref R1, .ref R2, .ref R3] 1 2 v1 v2 b0 b1 b2 b3 b4 c0 c1 c2 c3 c4 q0 q1 q2 q3 q4 ta5 tb5 o3 o4x5 o5 o6x5 (own ++ (TT, { cls := .type "tuple", data := .seq #[.ref T0, .ref T1, .ref T2, .ref T3, .ref T4, .ref T5] }) :: (T5, { cls := .type "tuple", data := .seq #[.int 1 x5, .int 2 y5] }) :: (T4, { cls := .type "tuple", data := .seq #[.int 0 x4, .int 3 y4] }) :: (T3, { cls := .type "tuple", data := .seq #[.int 1 x3, .int 3 y3] }) :: (T2, { cls := .type "tuple", data := .seq #[.int 0 x2, .int 2 y2] }) :: (T1, { cls := .type "tuple", data := .seq #[.int 2 x1, .int 3 y1] }) :: (T0, { cls := .type "tuple", data := .seq #[.int 0 x0, .int 1 y0] }) :: (R3, (LCg.lst [.int (Mine.bitI v3 0) d0, .int (Mine.bitI v3 1) d1, .int (Mine.bitI v3 2) d2, .int (Mine.bitI v3 3) d3, .int (Mine.bitI v3 4) d4])) :: (R2, (LCg.lst [.int (Mine.bitI v2 0) c0, .int (Mine.bitI v2 1) c1, .int (Mine.bitI v2 2) c2, .int (Mine.bitI v2 3) c3, .int (Mine.bitI v2 4) c4])) :: (R1, (LCg.lst [.int (Mine.bitI v1 0) b0, .int (Mine.bitI v1 1) b1, .int (Mine.bitI v1 2) b2, .int (Mine.bitI v1 3) b3, .int (Mine.bitI v1 4) b4])) :: (R0, (LCg.lst [.int (Mine.bitI v0 0) a0, .int (Mine.bitI v0 1) a1, .int (Mine.bitI v0 2) a2, .int (Mine.bitI v0 3) a3, .int (Mine.bitI v0 4) a4])) :: rest) W Y [.str (Mine.wordS v0) u0, .str (Mine.wordS v1) u1, .str (Mine.wordS v2) u2, .str (Mine.wordS v3) u3] [.int (Mine.dueI v0 v1) tt0, .int (Mine.dueI v2 v3) tt1, .int (Mine.dueI v0 v2) tt2, .int (Mine.dueI v1 v3) tt3, .int (Mine.dueI v0 v3) tt4] sl dl ts5 u1 u2 ?B ?F ?X ?N ?T ?h3 ?h4 ?h5 ?h6 ?hi ?hj ?hri ?hrj ?hwi ?hwj ?hl ?hW ?hsl ?hkp ?r25
    case hi => exact Nat.le_of_ble_eq_true rfl
    case hj => exact Nat.le_of_ble_eq_true rfl
    case hri => exact rfl
    case hrj => exact rfl
    case hwi => exact rfl
    case hwj => exact rfl
    case hl => exact Nat.le_of_ble_eq_true rfl
    case a => exact hst'
    case hb => exact rfl
    case B => exact B
    case F => exact F2
    case X => exact X
    case N => exact (Mine.news_app (Mine.news_pick (Mine.news_r (Mine.news_tl (Mine.news_tl N3))) [0, 8, 9, 12, 11, 14]) (Mine.news_app (Mine.news_pick N3 [1]) (Mine.news_app (Mine.news_pick (Mine.news_r (Mine.news_tl (Mine.news_tl N3))) [15]) (Mine.news_app (Mine.news_pick N3 [0]) (Mine.news_app (Mine.news_pick (Mine.news_r (Mine.news_tl (Mine.news_tl N3))) [16]) (Mine.news_app (Mine.news_l (Mine.news_tl (Mine.news_tl N3))) (Mine.news_app (Mine.news_pick (Mine.news_r (Mine.news_tl (Mine.news_tl N3))) [1, 2, 3, 4, 5, 6, 7, 10, 11, 12, 13]) (Mine.news_drop (Mine.news_r (Mine.news_tl (Mine.news_tl N3))) 17))))))))
    case T => exact T
    case h3 => exact h3
    case h4 => exact e4x5
    case h5 => exact h5
    case h6 => exact e6x5
    case hsl => exact hsl
    case hkp => exact hm4.keep
    case hW => exact Mine.all_app (Mine.all_pick nY [0, 1, 4, 3, 6]) (Mine.all_cons (fun e => hn6 e.symm) (Mine.all_app (Mine.all_pick nY [7]) (Mine.all_cons (fun e => hn4 e.symm) (Mine.all_app (Mine.all_pick nY [8]) (Mine.all_app (ownY own hown) (Mine.all_app tupsY (Mine.all_app (Mine.all_pick nY [2, 3, 4, 5]) (Mine.all_drop nY 9))))))))
    intro m5 tt5 h3' tk3 hm5 F5 N5
    refine LoopStep3.next ⟨rfl, h3', tk3, m5, (L + 1 + 1 + 1 + 1, o4x5) :: (L + 1 + 1 + 1 + 1 + 1 + 1, o6x5) :: (Y, LCg.lst [.int (Mine.dueI v0 v1) tt0, .int (Mine.dueI v2 v3) tt1, .int (Mine.dueI v0 v2) tt2, .int (Mine.dueI v1 v3) tt3, .int (Mine.dueI v0 v3) tt4, .int (Mine.dueI v1 v2) tt5]) :: (TT, { cls := .type "tuple", data := .seq #[.ref T0, .ref T1, .ref T2, .ref T3, .ref T4, .ref T5] }) :: (T5, { cls := .type "tuple", data := .seq #[.int 1 x5, .int 2 y5] }) :: (T4, { cls := .type "tuple", data := .seq #[.int 0 x4, .int 3 y4] }) :: (T3, { cls := .type "tuple", data := .seq #[.int 1 x3, .int 3 y3] }) :: (T2, { cls := .type "tuple", data := .seq #[.int 0 x2, .int 2 y2] }) :: (T1, { cls := .type "tuple", data := .seq #[.int 2 x1, .int 3 y1] }) :: (T0, { cls := .type "tuple", data := .seq #[.int 0 x0, .int 1 y0] }) :: (W, LCg.lst [.str (Mine.wordS v0) u0, .str (Mine.wordS v1) u1, .str (Mine.wordS v2) u2, .str (Mine.wordS v3) u3]) :: (R, Mine.rowsObj R0 R1 R2 R3) :: (R3, (LCg.lst [.int (Mine.bitI v3 0) d0, .int (Mine.bitI v3 1) d1, .int (Mine.bitI v3 2) d2, .int (Mine.bitI v3 3) d3, .int (Mine.bitI v3 4) d4])) :: (R2, (LCg.lst [.int (Mine.bitI v2 0) c0, .int (Mine.bitI v2 1) c1, .int (Mine.bitI v2 2) c2, .int (Mine.bitI v2 3) c3, .int (Mine.bitI v2 4) c4])) :: (R1, (LCg.lst [.int (Mine.bitI v1 0) b0, .int (Mine.bitI v1 1) b1, .int (Mine.bitI v1 2) b2, .int (Mine.bitI v1 3) b3, .int (Mine.bitI v1 4) b4])) :: (R0, (LCg.lst [.int (Mine.bitI v0 0) a0, .int (Mine.bitI v0 1) a1, .int (Mine.bitI v0 2) a2, .int (Mine.bitI v0 3) a3, .int (Mine.bitI v0 4) a4])) :: (P, Mine.pricesObj q0 q1 q2 q3 q4) :: (L + 1 + 1 + 1 + 1 + 1, o5) :: (L + 1 + 1 + 1, o3) :: rest, rfl, F5, (Mine.news_app (Mine.news_l (Mine.news_tl (Mine.news_tl (Mine.news_tl (Mine.news_tl (Mine.news_tl (Mine.news_tl (Mine.news_tl (Mine.news_tl (Mine.news_tl (Mine.news_tl N5))))))))))) (Mine.news_app (Mine.news_pick N5 [8, 6, 0]) (Mine.news_app (Mine.news_pick (Mine.news_r (Mine.news_tl (Mine.news_tl (Mine.news_tl (Mine.news_tl (Mine.news_tl (Mine.news_tl (Mine.news_tl (Mine.news_tl (Mine.news_tl (Mine.news_tl N5))))))))))) [0, 1, 2, 3, 4, 5, 6]) (Mine.news_app (Mine.news_pick N5 [1, 2]) (Mine.news_app (Mine.news_pick (Mine.news_r (Mine.news_tl (Mine.news_tl (Mine.news_tl (Mine.news_tl (Mine.news_tl (Mine.news_tl (Mine.news_tl (Mine.news_tl (Mine.news_tl (Mine.news_tl N5))))))))))) [7, 8, 9, 10]) (Mine.news_app (Mine.news_pick N5 [5, 7, 9]) (Mine.news_drop (Mine.news_r (Mine.news_tl (Mine.news_tl (Mine.news_tl (Mine.news_tl (Mine.news_tl (Mine.news_tl (Mine.news_tl (Mine.news_tl (Mine.news_tl (Mine.news_tl N5))))))))))) 11))))))), rfl, ?_⟩
    clear F₁ N₁ F2 N3 F5 N5 hown hP own
    exact Unr.zero fun h' tk F N => hret _ _ _ _ _ _ _ _ _ _ _ hm5 F (Mine.news_sub N (Mine.sub_cons (.head _) (Mine.sub_cons (.tail _ (.head _)) (Mine.sub_cons (.tail _ (.tail _ (.head _))) (fun p hp => (.tail _ (.tail _ (.tail _ (.tail _ (.tail _ (.tail _ (.tail _ (.tail _ (.tail _ (.tail _ (hp))))))))))))))))
theorem Mine.eltP : ∀ (w : World) (mean : ExcName → Option Value) (mg mb : Str → Option Value) (psc : Scope) (body : List Stmt) (hst : Mine.partDef = some (body, psc)) (e2 ct elt : Expr) (sc2 sc1 : Scope) (hel : Mine.partComp = some (e2, sc2, ct, elt, sc1)) (cn : Str) (cs : Scope) (a : Addr) (ccd : Value) (cl : List (Str × Addr))
   (base h₀ : Heap) (L' L f : Addr) (cdv : Value) (env0 : List Env) (m : Str → Option Value) (s : Shared) (R R0 R1 R2 R3 Ri : Addr) (k : Nat) (hk : k < 5) (tk0 : Tok) (v0 vi : Int) (a0 a1 a2 a3 a4 b0 b1 b2 b3 b4 : Tok) (c o1 : Obj) (C1 cc : Addr) (Q : Value → Shared → Prop) (E : Value → Shared → Prop)
   (I : Addr) (oI : Obj) (C : Addr) (oC : Obj) (D : Addr) (ys : List Value) (m₂ : Str → Option Value) (h : Heap) (tk : Tok) (news : List (Addr × Obj))
   (B : Below (callerA.deeper (envX cn cs L a ccd cl)) base [envX cn cs L a ccd cl] h₀) (hC : LCg.NsObj oC m₂) (hx : m₂ (Str.ofString "row") = some (.ref Ri)) (F : Fr h₀ L' h m) (X : (Mine.hd.heap_1 w.params).In h₀)
   (N : News h₀ L' h ((I, oI) :: (C, oC) :: (D, LCg.lst ys) :: (Ri, LCg.lst [.int (Mine.bitI vi 0) b0, .int (Mine.bitI vi 1) b1, .int (Mine.bitI vi 2) b2, .int (Mine.bitI vi 3) b3, .int (Mine.bitI vi 4) b4]) :: (R0, LCg.lst [.int (Mine.bitI v0 0) a0, .int (Mine.bitI v0 1) a1, .int (Mine.bitI v0 2) a2, .int (Mine.bitI v0 3) a3, .int (Mine.bitI v0 4) a4]) :: (R, Mine.rowsObj R0 R1 R2 R3) :: (cc, c) :: (L' + 1, o1) :: news)) (T : Top Mine.hd.view_1 (looseW Mine.hd.view_1 []) mean mg mb h₀)
   (hc : c.data = .cell (some (.int k tk0))) (h1 : o1.data = .cell (some (.ref R)))
   (hret : ∀ y h' tk', y = Value.bool (Mine.bitI vi k == Mine.bitI v0 k) → Fr h₀ L' h' m → News h₀ L' h' ((I, oI) :: (C, oC) :: (D, LCg.lst ys) :: (Ri, LCg.lst [.int (Mine.bitI vi 0) b0, .int (Mine.bitI vi 1) b1, .int (Mine.bitI vi 2) b2, .int (Mine.bitI vi 3) b3, .int (Mine.bitI vi 4) b4]) :: (R0, LCg.lst [.int (Mine.bitI v0 0) a0, .int (Mine.bitI v0 1) a1, .int (Mine.bitI v0 2) a2, .int (Mine.bitI v0 3) a3, .int (Mine.bitI v0 4) a4]) :: (R, Mine.rowsObj R0 R1 R2 R3) :: (cc, c) :: (L' + 1, o1) :: news) → Q y { s with heap := h', toks := tk' }),
   wpAny (model PySem.Challenge.rw_to0016_01.row.prog w) ((callerA.deeper (envX cn cs L a ccd cl)).deeper (envOfC (Str.ofString "_law_parted") psc L' f cdv))
     (eval e2 (compEnvC sc2 [(Str.ofString "rows", L' + 1), (Str.ofString "k", cc)] C (compEnvC sc1 [(Str.ofString "k", cc), (Str.ofString "rows", L' + 1), (Str.ofString "like", L' + 1 + 1 + 1)] C1 (envOfC (Str.ofString "_law_parted") psc L' f cdv)))) Q E { s with heap := h, toks := tk } := by
  k_fill
  k_with_none
  intro w mean mg mb psc body hst e2 ct elt sc2 sc1 hel cn cs a ccd cl base h₀ L' L f cdv env0 m s R R0 R1 R2 R3 Ri k hk tk0 v0 vi a0 a1 a2 a3 a4 b0 b1 b2 b3 b4 c o1 C1 cc Q E I oI C oC D ys m₂ h tk news B hC hx F X N T hc h1 hret
  have e := Option.some.inj (hst.symm.trans (rfl : Mine.partDef = some _))
  clear hst
  cases e
  have e := Option.some.inj (hel.symm.trans (rfl : Mine.partComp = some _))
  clear hel
  cases e
  (repeat' (first | first | (k_unfold; (try dsimp only)) | (k_end; wrow_close) | (walk1; (try dsimp only)) | (dsimp only; walk1) | (leave1; walk_say "STEP leave1"; try dsimp only) | fail "no step"))
  rw [Mine.bits_at' vi hk, Mine.bits_at' v0 hk]
  exact hret _ _ _ rfl F N
theorem Mine.testP : ∀ (w : World) (mean : ExcName → Option Value) (mg mb : Str → Option Value) (psc : Scope) (body : List Stmt) (hst : Mine.partDef = some (body, psc)) (e2 ct elt : Expr) (sc2 sc1 : Scope) (hel : Mine.partComp = some (e2, sc2, ct, elt, sc1)) (cn : Str) (cs : Scope) (a : Addr) (ccd : Value) (cl : List (Str × Addr))
   (base h₀ : Heap) (L' L f : Addr) (cdv : Value) (m : Str → Option Value) (s : Shared) (R R0 R1 R2 R3 Lk : Addr) (l0 l1 l2 l3 : Bool) (k : Nat) (hk : k < 5) (tk0 : Tok) (v0 v1 v2 v3 : Int) (a0 a1 a2 a3 a4 b0 b1 b2 b3 b4 e0 e1 e2' e3 e4 d0 d1 d2 d3 d4 : Tok) (c o1 o2 : Obj) (cc : Addr) (Q : Bool → Shared → Prop) (E : Value → Shared → Prop)
   (I : Addr) (oI : Obj) (C : Addr) (oC : Obj) (D : Addr) (ys : List Value) (h : Heap) (tk : Tok) (news : List (Addr × Obj))
   (B : Below (callerA.deeper (envX cn cs L a ccd cl)) base [envX cn cs L a ccd cl] h₀) (F : Fr h₀ L' h m) (X : (Mine.hd.heap_1 w.params).In h₀)
   (N : News h₀ L' h ((I, oI) :: (C, oC) :: (cc, c) :: (D, LCg.lst ys) :: (Lk, listOf #[.bool l0, .bool l1, .bool l2, .bool l3] 0) :: (R, Mine.rowsObj R0 R1 R2 R3) :: (R3, (LCg.lst [.int (Mine.bitI v3 0) d0, .int (Mine.bitI v3 1) d1, .int (Mine.bitI v3 2) d2, .int (Mine.bitI v3 3) d3, .int (Mine.bitI v3 4) d4])) :: (R2, (LCg.lst [.int (Mine.bitI v2 0) e0, .int (Mine.bitI v2 1) e1, .int (Mine.bitI v2 2) e2', .int (Mine.bitI v2 3) e3, .int (Mine.bitI v2 4) e4])) :: (R1, (LCg.lst [.int (Mine.bitI v1 0) b0, .int (Mine.bitI v1 1) b1, .int (Mine.bitI v1 2) b2, .int (Mine.bitI v1 3) b3, .int (Mine.bitI v1 4) b4])) :: (R0, (LCg.lst [.int (Mine.bitI v0 0) a0, .int (Mine.bitI v0 1) a1, .int (Mine.bitI v0 2) a2, .int (Mine.bitI v0 3) a3, .int (Mine.bitI v0 4) a4])) :: (L' + 1 + 1 + 1, o2) :: (L' + 1, o1) :: news)) (T : Top Mine.hd.view_1 (looseW Mine.hd.view_1 []) mean mg mb h₀)
   (hc : c.data = .cell (some (.int k tk0))) (h1 : o1.data = .cell (some (.ref R))) (h2 : o2.data = .cell (some (.ref Lk)))
   (hret : ∀ b h' tk', b = ((true == l0) && (((Mine.bitI v1 k == Mine.bitI v0 k) == l1) && (((Mine.bitI v2 k == Mine.bitI v0 k) == l2) && ((Mine.bitI v3 k == Mine.bitI v0 k) == l3)))) → Fr h₀ L' h' m → News h₀ L' h' ((I, oI) :: (C, oC) :: (cc, c) :: (D, LCg.lst ys) :: (Lk, listOf #[.bool l0, .bool l1, .bool l2, .bool l3] 0) :: (R, Mine.rowsObj R0 R1 R2 R3) :: (R3, (LCg.lst [.int (Mine.bitI v3 0) d0, .int (Mine.bitI v3 1) d1, .int (Mine.bitI v3 2) d2, .int (Mine.bitI v3 3) d3, .int (Mine.bitI v3 4) d4])) :: (R2, (LCg.lst [.int (Mine.bitI v2 0) e0, .int (Mine.bitI v2 1) e1, .int (Mine.bitI v2 2) e2', .int (Mine.bitI v2 3) e3, .int (Mine.bitI v2 4) e4])) :: (R1, (LCg.lst [.int (Mine.bitI v1 0) b0, .int (Mine.bitI v1 1) b1, .int (Mine.bitI v1 2) b2, .int (Mine.bitI v1 3) b3, .int (Mine.bitI v1 4) b4])) :: (R0, (LCg.lst [.int (Mine.bitI v0 0) a0, .int (Mine.bitI v0 1) a1, .int (Mine.bitI v0 2) a2, .int (Mine.bitI v0 3) a3, .int (Mine.bitI v0 4) a4])) :: (L' + 1 + 1 + 1, o2) :: (L' + 1, o1) :: news) → Q b { s with heap := h', toks := tk' }),
   wpAny (model PySem.Challenge.rw_to0016_01.row.prog w) ((callerA.deeper (envX cn cs L a ccd cl)).deeper (envOfC (Str.ofString "_law_parted") psc L' f cdv))
     (isTrue ct (compEnvC sc1 [(Str.ofString "k", cc), (Str.ofString "rows", L' + 1), (Str.ofString "like", L' + 1 + 1 + 1)] C (envOfC (Str.ofString "_law_parted") psc L' f cdv)) (eval ct (compEnvC sc1 [(Str.ofString "k", cc), (Str.ofString "rows", L' + 1), (Str.ofString "like", L' + 1 + 1 + 1)] C (envOfC (Str.ofString "_law_parted") psc L' f cdv)))) Q E { s with heap := h, toks := tk } := by
  k_fill
  k_with_none
  intro w mean mg mb psc body hst e2 ct elt sc2 sc1 hel cn cs a ccd cl base h₀ L' L f cdv m s R R0 R1 R2 R3 Lk l0 l1 l2 l3 k hk tk0 v0 v1 v2 v3 a0 a1 a2 a3 a4 b0 b1 b2 b3 b4 e0 e1 e2' e3 e4 d0 d1 d2 d3 d4 c o1 o2 cc Q E I oI C oC D ys h tk news B F X N T hc h1 h2 hret
  have hst' := hst
  have e := Option.some.inj (hst.symm.trans (rfl : Mine.partDef = some _))
  clear hst
  cases e
  have hel' := hel
  have e := Option.some.inj (hel.symm.trans (rfl : Mine.partComp = some _))
  clear hel
  cases e
  (repeat' (first | ((fail_if_success (with_reducible show LCg.CompRest _ _ _ _ _ _ _ _ _ _ _ _ _ _ _ _ _ _ _)); first | (k_unfold; (try dsimp only)) | (k_end; wrow_close) | (walk1; (try dsimp only)) | (dsimp only; walk1) | (leave1; walk_say "STEP leave1"; try dsimp only)) | fail "no step"))
  refine Mine.rest_all (R := fun i y => y = Value.bool ([Mine.bitI v0 k == Mine.bitI v0 k, Mine.bitI v1 k == Mine.bitI v0 k, Mine.bitI v2 k == Mine.bitI v0 k, Mine.bitI v3 k == Mine.bitI v0 k].getD i false)) (.inr ⟨_, by k_mem, rfl, _, rfl⟩) ?t ?_
  case t =>
    intro i hi v' I2 oI2 C2 oC2 D2 ys2 m₂ h2' tk2 Q' E' hv' hC2 hx2 F2 N2 off2 ne2 hret2
    rcases (by have : i < 4 := hi; omega : i = 0 ∨ i = 1 ∨ i = 2 ∨ i = 3) with rfl | rfl | rfl | rfl
    · have e := Option.some.inj hv'
      subst e
      refine' Mine.eltP w mean mg mb _ _ ?a _ _ _ _ _ ?b cn cs a ccd cl base h₀ L' L f cdv [] m _ R R0 R1 R2 R3 R0 k hk tk0 v0 v0 a0 a1 a2 a3 a4 a0 a1 a2 a3 a4 c o1 C cc Q' E' I2 oI2 C2 oC2 D2 ys2 m₂ h2' tk2 _ ?B ?hC ?hx ?F ?X ?N ?T ?hc ?h1 (fun y h' tk' hy F' N' => hret2 y h' tk' hy F' (Mine.news_app (Mine.news_pick N' [0, 1, 2]) (Mine.news_drop N' 8)))
      case N => exact Mine.news_app (Mine.news_pick N2 [0, 1, 2, 12, 12, 8, 5, 14]) (Mine.news_drop N2 3)
      case a => exact hst'
      case b => exact hel'
      case B => exact B
      case hC => exact hC2
      case hx => exact hx2
      case F => exact F2
      case X => exact X
      case T => exact T
      case hc => exact hc
      case h1 => exact h1
    · have e := Option.some.inj hv'
      subst e
      refine' Mine.eltP w mean mg mb _ _ ?a _ _ _ _ _ ?b cn cs a ccd cl base h₀ L' L f cdv [] m _ R R0 R1 R2 R3 R1 k hk tk0 v0 v1 a0 a1 a2 a3 a4 b0 b1 b2 b3 b4 c o1 C cc Q' E' I2 oI2 C2 oC2 D2 ys2 m₂ h2' tk2 _ ?B ?hC ?hx ?F ?X ?N ?T ?hc ?h1 (fun y h' tk' hy F' N' => hret2 y h' tk' hy F' (Mine.news_app (Mine.news_pick N' [0, 1, 2]) (Mine.news_drop N' 8)))
      case N => exact Mine.news_app (Mine.news_pick N2 [0, 1, 2, 11, 12, 8, 5, 14]) (Mine.news_drop N2 3)
      case a => exact hst'
      case b => exact hel'
      case B => exact B
      case hC => exact hC2
      case hx => exact hx2
      case F => exact F2
      case X => exact X
      case T => exact T
      case hc => exact hc
      case h1 => exact h1
    · have e := Option.some.inj hv'
      subst e
      refine' Mine.eltP w mean mg mb _ _ ?a _ _ _ _ _ ?b cn cs a ccd cl base h₀ L' L f cdv [] m _ R R0 R1 R2 R3 R2 k hk tk0 v0 v2 a0 a1 a2 a3 a4 e0 e1 e2' e3 e4 c o1 C cc Q' E' I2 oI2 C2 oC2 D2 ys2 m₂ h2' tk2 _ ?B ?hC ?hx ?F ?X ?N ?T ?hc ?h1 (fun y h' tk' hy F' N' => hret2 y h' tk' hy F' (Mine.news_app (Mine.news_pick N' [0, 1, 2]) (Mine.news_drop N' 8)))
      case N => exact Mine.news_app (Mine.news_pick N2 [0, 1, 2, 10, 12, 8, 5, 14]) (Mine.news_drop N2 3)
      case a => exact hst'
      case b => exact hel'
      case B => exact B
      case hC => exact hC2
      case hx => exact hx2
      case F => exact F2
      case X => exact X
      case T => exact T
      case hc => exact hc
      case h1 => exact h1
    · have e := Option.some.inj hv'
      subst e
      refine' Mine.eltP w mean mg mb _ _ ?a _ _ _ _ _ ?b cn cs a ccd cl base h₀ L' L f cdv [] m _ R R0 R1 R2 R3 R3 k hk tk0 v0 v3 a0 a1 a2 a3 a4 d0 d1 d2 d3 d4 c o1 C cc Q' E' I2 oI2 C2 oC2 D2 ys2 m₂ h2' tk2 _ ?B ?hC ?hx ?F ?X ?N ?T ?hc ?h1 (fun y h' tk' hy F' N' => hret2 y h' tk' hy F' (Mine.news_app (Mine.news_pick N' [0, 1, 2]) (Mine.news_drop N' 8)))
      case N => exact Mine.news_app (Mine.news_pick N2 [0, 1, 2, 9, 12, 8, 5, 14]) (Mine.news_drop N2 3)
      case a => exact hst'
      case b => exact hel'
      case B => exact B
      case hC => exact hC2
      case hx => exact hx2
      case F => exact F2
      case X => exact X
      case T => exact T
      case hc => exact hc
      case h1 => exact h1
  intro ys2 hys hyr
  obtain rfl := Mine.four_bools hys hyr
  (repeat' (first | first | (k_unfold; (try dsimp only)) | (k_end; wrow_close) | (walk1; (try dsimp only)) | (dsimp only; walk1) | (leave1; walk_say "STEP leave1"; try dsimp only) | fail "no step"))
  with_reducible rename Fr h₀ L' _ m => Fz
  with_reducible rename News h₀ L' _ _ => Nz
  exact hret _ _ _ rfl Fz (fun p hp => Nz p (.tail _ hp))
theorem Mine.turnP : ∀ (w : World) (mean : ExcName → Option Value) (mg mb : Str → Option Value) (psc : Scope) (pb body : List Stmt) (tg it : Expr) (hst : Mine.partDef = some (pb, psc)) (hb : Mine.partFor = some (tg, it, body)) (cn : Str) (cs : Scope) (a : Addr) (ccd : Value) (cl : List (Str × Addr))
   (base h₀ : Heap) (L' L f : Addr) (cdv : Value) (m : Str → Option Value) (s : Shared) (R R0 R1 R2 R3 Lk P Y : Addr) (l0 l1 l2 l3 : Bool) (ys : List Value) (v0 v1 v2 v3 : Int) (a0 a1 a2 a3 a4 b0 b1 b2 b3 b4 c0 c1 c2 c3 c4 d0 d1 d2 d3 d4 q0 q1 q2 q3 q4 : Tok) (o1 o2 o3 : Obj) (rest : List (Addr × Obj)) (Q : Flow → Shared → Prop) (E : Value → Shared → Prop)
   (B : Below (callerA.deeper (envX cn cs L a ccd cl)) base [envX cn cs L a ccd cl] h₀) (F : Fr h₀ L' s.heap m) (X : (Mine.hd.heap_1 w.params).In h₀)
   (N : News h₀ L' s.heap ((Y, LCg.lst ys) :: (Lk, listOf #[.bool l0, .bool l1, .bool l2, .bool l3] 0) :: (R, Mine.rowsObj R0 R1 R2 R3) :: (R3, (LCg.lst [.int (Mine.bitI v3 0) d0, .int (Mine.bitI v3 1) d1, .int (Mine.bitI v3 2) d2, .int (Mine.bitI v3 3) d3, .int (Mine.bitI v3 4) d4])) :: (R2, (LCg.lst [.int (Mine.bitI v2 0) c0, .int (Mine.bitI v2 1) c1, .int (Mine.bitI v2 2) c2, .int (Mine.bitI v2 3) c3, .int (Mine.bitI v2 4) c4])) :: (R1, (LCg.lst [.int (Mine.bitI v1 0) b0, .int (Mine.bitI v1 1) b1, .int (Mine.bitI v1 2) b2, .int (Mine.bitI v1 3) b3, .int (Mine.bitI v1 4) b4])) :: (R0, (LCg.lst [.int (Mine.bitI v0 0) a0, .int (Mine.bitI v0 1) a1, .int (Mine.bitI v0 2) a2, .int (Mine.bitI v0 3) a3, .int (Mine.bitI v0 4) a4])) :: (L' + 1 + 1 + 1, o2) :: (L' + 1, o1) :: (L' + 1 + 1, o3) :: (P, Mine.pricesObj q0 q1 q2 q3 q4) :: rest)) (T : Top Mine.hd.view_1 (looseW Mine.hd.view_1 []) mean mg mb h₀)
   (h1 : o1.data = .cell (some (.ref R))) (h2 : o2.data = .cell (some (.ref Lk))) (h3 : o3.data = .cell (some (.ref P))) (hm : m (Str.ofString "parted") = some (.ref Y)) (hW : ∀ p ∈ (Lk, listOf #[.bool l0, .bool l1, .bool l2, .bool l3] 0) :: (R, Mine.rowsObj R0 R1 R2 R3) :: (R3, (LCg.lst [.int (Mine.bitI v3 0) d0, .int (Mine.bitI v3 1) d1, .int (Mine.bitI v3 2) d2, .int (Mine.bitI v3 3) d3, .int (Mine.bitI v3 4) d4])) :: (R2, (LCg.lst [.int (Mine.bitI v2 0) c0, .int (Mine.bitI v2 1) c1, .int (Mine.bitI v2 2) c2, .int (Mine.bitI v2 3) c3, .int (Mine.bitI v2 4) c4])) :: (R1, (LCg.lst [.int (Mine.bitI v1 0) b0, .int (Mine.bitI v1 1) b1, .int (Mine.bitI v1 2) b2, .int (Mine.bitI v1 3) b3, .int (Mine.bitI v1 4) b4])) :: (R0, (LCg.lst [.int (Mine.bitI v0 0) a0, .int (Mine.bitI v0 1) a1, .int (Mine.bitI v0 2) a2, .int (Mine.bitI v0 3) a3, .int (Mine.bitI v0 4) a4])) :: (L' + 1 + 1 + 1, o2) :: (L' + 1, o1) :: (L' + 1 + 1, o3) :: (P, Mine.pricesObj q0 q1 q2 q3 q4) :: rest, @Ne Nat p.1 Y) (hyl : ys.length ≤ 100)
   (hret : ∀ (m' : Str → Option Value) (t : Tok) (h' : Heap) (tk' : Tok), m' (Str.ofString "parted") = some (.ref Y) → Fr h₀ L' h' m' → News h₀ L' h' ((Y, LCg.lst (ys ++ [.int (Mine.partI v0 v1 v2 v3 l0 l1 l2 l3) t])) :: (Lk, listOf #[.bool l0, .bool l1, .bool l2, .bool l3] 0) :: (R, Mine.rowsObj R0 R1 R2 R3) :: (R3, (LCg.lst [.int (Mine.bitI v3 0) d0, .int (Mine.bitI v3 1) d1, .int (Mine.bitI v3 2) d2, .int (Mine.bitI v3 3) d3, .int (Mine.bitI v3 4) d4])) :: (R2, (LCg.lst [.int (Mine.bitI v2 0) c0, .int (Mine.bitI v2 1) c1, .int (Mine.bitI v2 2) c2, .int (Mine.bitI v2 3) c3, .int (Mine.bitI v2 4) c4])) :: (R1, (LCg.lst [.int (Mine.bitI v1 0) b0, .int (Mine.bitI v1 1) b1, .int (Mine.bitI v1 2) b2, .int (Mine.bitI v1 3) b3, .int (Mine.bitI v1 4) b4])) :: (R0, (LCg.lst [.int (Mine.bitI v0 0) a0, .int (Mine.bitI v0 1) a1, .int (Mine.bitI v0 2) a2, .int (Mine.bitI v0 3) a3, .int (Mine.bitI v0 4) a4])) :: (L' + 1 + 1 + 1, o2) :: (L' + 1, o1) :: (L' + 1 + 1, o3) :: (P, Mine.pricesObj q0 q1 q2 q3 q4) :: rest) → Q .next { s with heap := h', toks := tk' }),
   wpAny (model PySem.Challenge.rw_to0016_01.row.prog w) ((callerA.deeper (envX cn cs L a ccd cl)).deeper (envOfC (Str.ofString "_law_parted") psc L' f cdv)) (execs body (envOfC (Str.ofString "_law_parted") psc L' f cdv)) Q E s := by
  k_fill
  k_with_none
  intro w mean mg mb psc pb body tg it hst hb cn cs a ccd cl base h₀ L' L f cdv m s R R0 R1 R2 R3 Lk P Y l0 l1 l2 l3 ys v0 v1 v2 v3 a0 a1 a2 a3 a4 b0 b1 b2 b3 b4 c0 c1 c2 c3 c4 d0 d1 d2 d3 d4 q0 q1 q2 q3 q4 o1 o2 o3 rest Q E B F X N T h1 h2 h3 hm hW hyl hret
  have hst' := hst
  have e := Option.some.inj (hst.symm.trans (rfl : Mine.partDef = some _))
  clear hst
  cases e
  have e := Option.some.inj (hb.symm.trans (rfl : Mine.partFor = some _))
  clear hb
  cases e
  rw [Mine.setv hm] at F
  (repeat' (first | ((fail_if_success (with_reducible show wpAny _ _ (exec (Stmt.Assign [Expr.Name (Str.ofString "signs") _] _ _) _) _ _ _)); first | (k_unfold; (try dsimp only)) | (k_end; wrow_close) | (walk1; (try dsimp only)) | (dsimp only; walk1) | (leave1; walk_say "STEP leave1"; try dsimp only)) | fail "no step"))
  refine' Mine.comp_cellT (n := 5) (h₀ := h₀) (L := L') (m := fun y => if y = Str.ofString "parted" then some (.ref Y) else m y) (Inv := Mine.PInv v0 v1 v2 v3 l0 l1 l2 l3) ?i1 ?i2 ?i3 ?i4 ?a ?b ?c ?d ?e ?f ?g ?h ?_ ?hs
  case hs => intro _; rfl
  case i1 => rfl
  case i2 => rfl
  case i3 => rfl
  case i4 => rfl
  case a => rfl
  case b => rfl
  case c => decide
  case d => intro _; rfl
  case e => intro _; rfl
  case f => intro _ _; rfl
  case g => rfl
  case h => exact Nat.le_of_ble_eq_true rfl
  (repeat' (first | ((fail_if_success (with_reducible show Exists _)); first | (k_unfold; (try dsimp only)) | (k_end; wrow_close) | (walk1; (try dsimp only)) | (dsimp only; walk1) | (leave1; walk_say "STEP leave1"; try dsimp only)) | fail "no step"))
  with_reducible rename IsRange _ _ _ _ _ _ _ _ => hR
  with_reducible rename Fr h₀ L' _ _ => Fh
  with_reducible rename News h₀ L' _ _ => Nh
  refine ⟨_, _, _, _, _, rfl, Fh, Nh, hR, rfl, rfl, Mine.part_zero, ?turn, ?fin⟩
  case turn =>
    clear hR Fh Nh
    intro i ys2 I oI C oC c oc D h tk v Qy Qn E' hi hinv hv hoc Ft Nt off ne hyes hno
    obtain ⟨t, rfl⟩ := hv
    refine' Mine.testP w mean mg mb _ _ ?a _ _ _ _ _ ?b cn cs a ccd cl base h₀ L' L f cdv _ _ R R0 R1 R2 R3 Lk l0 l1 l2 l3 i hi t v0 v1 v2 v3 a0 a1 a2 a3 a4 b0 b1 b2 b3 b4 c0 c1 c2 c3 c4 d0 d1 d2 d3 d4 oc o1 o2 c _ _ I oI C oC D ys2 h tk ((Y, LCg.lst ys) :: (L' + 1 + 1, o3) :: (P, Mine.pricesObj q0 q1 q2 q3 q4) :: rest) ?B ?F ?X ?N ?T ?hc ?h1 ?h2 ?r
    case a => exact hst'
    case b => rfl
    case B => exact B
    case F => exact Ft
    case N => exact (Mine.news_app (Mine.news_pick Nt [0, 1, 2, 3, 5, 6, 7, 8, 9, 10, 11, 12]) (Mine.news_app (Mine.news_pick Nt [4]) (Mine.news_drop Nt 13)))
    case X => exact X
    case T => exact T
    case hc => exact hoc
    case h1 => exact h1
    case h2 => exact h2
    case r =>
      intro b h' tk' hbb F' N'
      have N2 : News h₀ L' h' ((I, oI) :: (C, oC) :: (c, oc) :: (D, LCg.lst ys2) :: (Y, LCg.lst ys) :: (Lk, listOf #[.bool l0, .bool l1, .bool l2, .bool l3] 0) :: (R, Mine.rowsObj R0 R1 R2 R3) :: (R3, (LCg.lst [.int (Mine.bitI v3 0) d0, .int (Mine.bitI v3 1) d1, .int (Mine.bitI v3 2) d2, .int (Mine.bitI v3 3) d3, .int (Mine.bitI v3 4) d4])) :: (R2, (LCg.lst [.int (Mine.bitI v2 0) c0, .int (Mine.bitI v2 1) c1, .int (Mine.bitI v2 2) c2, .int (Mine.bitI v2 3) c3, .int (Mine.bitI v2 4) c4])) :: (R1, (LCg.lst [.int (Mine.bitI v1 0) b0, .int (Mine.bitI v1 1) b1, .int (Mine.bitI v1 2) b2, .int (Mine.bitI v1 3) b3, .int (Mine.bitI v1 4) b4])) :: (R0, (LCg.lst [.int (Mine.bitI v0 0) a0, .int (Mine.bitI v0 1) a1, .int (Mine.bitI v0 2) a2, .int (Mine.bitI v0 3) a3, .int (Mine.bitI v0 4) a4])) :: (L' + 1 + 1 + 1, o2) :: (L' + 1, o1) :: (L' + 1 + 1, o3) :: (P, Mine.pricesObj q0 q1 q2 q3 q4) :: rest) := (Mine.news_app (Mine.news_pick N' [0, 1, 2, 3, 12, 4, 5, 6, 7, 8, 9, 10, 11]) (Mine.news_drop N' 13))
      have hbb' : b = Mine.partB v0 v1 v2 v3 l0 l1 l2 l3 i := hbb
      by_cases hc : b = true
      · rw [if_pos hc]
        clear N' Nt Ft
        (repeat' (first | first | (k_unfold; (try dsimp only)) | (k_end; wrow_close) | (walk1; (try dsimp only)) | (dsimp only; walk1) | (leave1; walk_say "STEP leave1"; try dsimp only) | fail "no step"))
        with_reducible rename Fr h₀ L' _ _ => Fz
        with_reducible rename News h₀ L' _ _ => Nz
        exact hyes _ _ _ (Mine.part_yes hi hinv (hbb'.symm.trans hc)) Fz Nz
      · rw [if_neg hc]
        exact hno _ _ (Mine.part_no hinv (fun e => hc (hbb'.trans e))) F' N2
  case fin =>
    intro D h tk zs hinv Ff Nf off
    clear Fh Nh hR
    obtain ⟨ks, hkl, hk5, hzl, hzv, hsum⟩ := hinv
    (repeat' (first | ((fail_if_success (with_reducible show LCg.CompSrc _ _ _ _ _ _ _ _ _ _ _ _ _)); first | (k_unfold; (try dsimp only)) | (k_end; wrow_close) | (walk1; (try dsimp only)) | (dsimp only; walk1) | (leave1; walk_say "STEP leave1"; try dsimp only)) | fail "no step"))
    with_reducible rename Fr h₀ L' _ _ => Fh
    with_reducible rename News h₀ L' _ _ => Nh
    refine LCg.CompSrc.ledger (by rfl) Fh Nh (.head _) ?sz ?_
    case sz =>
      show zs.toArray.size ≤ sizeLine
      rw [List.size_toArray]
      exact Nat.le_trans (by omega : zs.length ≤ 5) (by decide +kernel)
    intro g'
    refine Mine.rest_all (R := fun j y => ∃ t, y = Value.int (Mine.price (ks.getD j 0)) t) (.inr ⟨_, .head _, rfl, _, rfl⟩) ?t ?_
    case t =>
      clear Fh Nh
      intro j hj v' I2 oI2 C2 oC2 D2 us m₂ h2 tk2 Q' E' hv' hC2 hx2 F2 N2 off2 ne2 hret2
      have hv2 : zs[j]? = some v' := by rw [← List.getElem?_toArray]; exact hv'
      obtain ⟨t2, rfl⟩ := hzv j v' hv2
      have hk2 := hk5 j
      generalize hgk : ks.getD j 0 = k at *
      (repeat' (first | first | (k_unfold; (try dsimp only)) | (k_end; wrow_close) | (walk1; (try dsimp only)) | (dsimp only; walk1) | (leave1; walk_say "STEP leave1"; try dsimp only) | fail "no step"))
      exact hret2 _ _ _ ⟨_, by rw [Int.toNat_natCast]; rfl⟩ F2 N2
    intro us hul hur
    have hints := Mine.part_ints (ks := ks) (hul.trans (by show zs.toArray.size = _; rw [List.size_toArray, hzl])) hur
    clear Fh Nh
    (repeat' (first | first | (k_unfold; (try dsimp only)) | (k_end; wrow_close) | (walk1; (try dsimp only)) | (dsimp only; walk1) | (leave1; walk_say "STEP leave1"; try dsimp only) | fail "no step"))
    with_reducible rename Fr h₀ L' _ _ => Fz
    with_reducible rename News h₀ L' _ _ => Nz
    exact hret _ _ _ _ rfl Fz Nz
theorem Mine.loopP : ∀ (w : World) (mean : ExcName → Option Value) (mg mb : Str → Option Value) (psc : Scope) (pb body : List Stmt) (tg it : Expr) (hst : Mine.partDef = some (pb, psc)) (hb : Mine.partFor = some (tg, it, body)) (pos : Pos) (cn : Str) (cs : Scope) (a : Addr) (ccd : Value) (cl : List (Str × Addr))
   (base h₀ : Heap) (L' L f : Addr) (cdv : Value) (m : Str → Option Value) (s : Shared) (R R0 R1 R2 R3 P Y TT T0 T1 T2 : Addr) (v0 v1 v2 v3 : Int) (a0 a1 a2 a3 a4 b0 b1 b2 b3 b4 c0 c1 c2 c3 c4 d0 d1 d2 d3 d4 q0 q1 q2 q3 q4 : Tok) (o1 o2 o3 : Obj) (c2' : Option Value) (rest : List (Addr × Obj)) (Q : Flow → Shared → Prop) (E : Value → Shared → Prop)
   (B : Below (callerA.deeper (envX cn cs L a ccd cl)) base [envX cn cs L a ccd cl] h₀) (F : Fr h₀ L' s.heap (fun y => if y = Str.ofString "parted" then some (.ref Y) else if y = Str.ofString "likes" then some (.ref TT) else m y)) (X : (Mine.hd.heap_1 w.params).In h₀)
   (N : News h₀ L' s.heap ((L' + 1 + 1 + 1, o2) :: (Y, LCg.lst []) :: (TT, { cls := .type "tuple", data := .seq #[.ref T0, .ref T1, .ref T2] }) :: (T2, listOf #[.bool true, .bool false, .bool false, .bool true] 0) :: (T1, listOf #[.bool true, .bool false, .bool true, .bool false] 0) :: (T0, listOf #[.bool true, .bool true, .bool false, .bool false] 0) :: (L' + 1 + 1, o3) :: (L' + 1, o1) :: (R, Mine.rowsObj R0 R1 R2 R3) :: (R3, (LCg.lst [.int (Mine.bitI v3 0) d0, .int (Mine.bitI v3 1) d1, .int (Mine.bitI v3 2) d2, .int (Mine.bitI v3 3) d3, .int (Mine.bitI v3 4) d4])) :: (R2, (LCg.lst [.int (Mine.bitI v2 0) c0, .int (Mine.bitI v2 1) c1, .int (Mine.bitI v2 2) c2, .int (Mine.bitI v2 3) c3, .int (Mine.bitI v2 4) c4])) :: (R1, (LCg.lst [.int (Mine.bitI v1 0) b0, .int (Mine.bitI v1 1) b1, .int (Mine.bitI v1 2) b2, .int (Mine.bitI v1 3) b3, .int (Mine.bitI v1 4) b4])) :: (R0, (LCg.lst [.int (Mine.bitI v0 0) a0, .int (Mine.bitI v0 1) a1, .int (Mine.bitI v0 2) a2, .int (Mine.bitI v0 3) a3, .int (Mine.bitI v0 4) a4])) :: (P, Mine.pricesObj q0 q1 q2 q3 q4) :: rest)) (T : Top Mine.hd.view_1 (looseW Mine.hd.view_1 []) mean mg mb h₀)
   (h1 : o1.data = .cell (some (.ref R))) (h2 : o2.data = .cell c2') (h3 : o3.data = .cell (some (.ref P))) (nY : ∀ p ∈ (TT, { cls := .type "tuple", data := .seq #[.ref T0, .ref T1, .ref T2] }) :: (T2, listOf #[.bool true, .bool false, .bool false, .bool true] 0) :: (T1, listOf #[.bool true, .bool false, .bool true, .bool false] 0) :: (T0, listOf #[.bool true, .bool true, .bool false, .bool false] 0) :: (L' + 1 + 1, o3) :: (L' + 1, o1) :: (R, Mine.rowsObj R0 R1 R2 R3) :: (R3, (LCg.lst [.int (Mine.bitI v3 0) d0, .int (Mine.bitI v3 1) d1, .int (Mine.bitI v3 2) d2, .int (Mine.bitI v3 3) d3, .int (Mine.bitI v3 4) d4])) :: (R2, (LCg.lst [.int (Mine.bitI v2 0) c0, .int (Mine.bitI v2 1) c1, .int (Mine.bitI v2 2) c2, .int (Mine.bitI v2 3) c3, .int (Mine.bitI v2 4) c4])) :: (R1, (LCg.lst [.int (Mine.bitI v1 0) b0, .int (Mine.bitI v1 1) b1, .int (Mine.bitI v1 2) b2, .int (Mine.bitI v1 3) b3, .int (Mine.bitI v1 4) b4])) :: (R0, (LCg.lst [.int (Mine.bitI v0 0) a0, .int (Mine.bitI v0 1) a1, .int (Mine.bitI v0 2) a2, .int (Mine.bitI v0 3) a3, .int (Mine.bitI v0 4) a4])) :: (P, Mine.pricesObj q0 q1 q2 q3 q4) :: rest, @Ne Nat p.1 Y) (n3 : ∀ p ∈ (TT, { cls := .type "tuple", data := .seq #[.ref T0, .ref T1, .ref T2] }) :: (T2, listOf #[.bool true, .bool false, .bool false, .bool true] 0) :: (T1, listOf #[.bool true, .bool false, .bool true, .bool false] 0) :: (T0, listOf #[.bool true, .bool true, .bool false, .bool false] 0) :: (L' + 1 + 1, o3) :: (L' + 1, o1) :: (R, Mine.rowsObj R0 R1 R2 R3) :: (R3, (LCg.lst [.int (Mine.bitI v3 0) d0, .int (Mine.bitI v3 1) d1, .int (Mine.bitI v3 2) d2, .int (Mine.bitI v3 3) d3, .int (Mine.bitI v3 4) d4])) :: (R2, (LCg.lst [.int (Mine.bitI v2 0) c0, .int (Mine.bitI v2 1) c1, .int (Mine.bitI v2 2) c2, .int (Mine.bitI v2 3) c3, .int (Mine.bitI v2 4) c4])) :: (R1, (LCg.lst [.int (Mine.bitI v1 0) b0, .int (Mine.bitI v1 1) b1, .int (Mine.bitI v1 2) b2, .int (Mine.bitI v1 3) b3, .int (Mine.bitI v1 4) b4])) :: (R0, (LCg.lst [.int (Mine.bitI v0 0) a0, .int (Mine.bitI v0 1) a1, .int (Mine.bitI v0 2) a2, .int (Mine.bitI v0 3) a3, .int (Mine.bitI v0 4) a4])) :: (P, Mine.pricesObj q0 q1 q2 q3 q4) :: rest, @Ne Nat p.1 (L' + 1 + 1 + 1)) (nY3 : @Ne Nat Y (L' + 1 + 1 + 1))
   (hE : PassesOwn (model PySem.Challenge.rw_to0016_01.row.prog w) ((callerA.deeper (envX cn cs L a ccd cl)).deeper (envOfC (Str.ofString "_law_parted") psc L' f cdv)) (envOfC (Str.ofString "_law_parted") psc L' f cdv) E)
   (hret : ∀ (m' : Str → Option Value) (x0 x1 x2 : Tok) (h' : Heap) (tk' : Tok), m' (Str.ofString "parted") = some (.ref Y) → Fr h₀ L' h' m' → News h₀ L' h' ((Y, LCg.lst [.int (Mine.partI v0 v1 v2 v3 true true false false) x0, .int (Mine.partI v0 v1 v2 v3 true false true false) x1, .int (Mine.partI v0 v1 v2 v3 true false false true) x2]) :: (TT, { cls := .type "tuple", data := .seq #[.ref T0, .ref T1, .ref T2] }) :: (T2, listOf #[.bool true, .bool false, .bool false, .bool true] 0) :: (T1, listOf #[.bool true, .bool false, .bool true, .bool false] 0) :: (T0, listOf #[.bool true, .bool true, .bool false, .bool false] 0) :: (L' + 1 + 1, o3) :: (L' + 1, o1) :: (R, Mine.rowsObj R0 R1 R2 R3) :: (R3, (LCg.lst [.int (Mine.bitI v3 0) d0, .int (Mine.bitI v3 1) d1, .int (Mine.bitI v3 2) d2, .int (Mine.bitI v3 3) d3, .int (Mine.bitI v3 4) d4])) :: (R2, (LCg.lst [.int (Mine.bitI v2 0) c0, .int (Mine.bitI v2 1) c1, .int (Mine.bitI v2 2) c2, .int (Mine.bitI v2 3) c3, .int (Mine.bitI v2 4) c4])) :: (R1, (LCg.lst [.int (Mine.bitI v1 0) b0, .int (Mine.bitI v1 1) b1, .int (Mine.bitI v1 2) b2, .int (Mine.bitI v1 3) b3, .int (Mine.bitI v1 4) b4])) :: (R0, (LCg.lst [.int (Mine.bitI v0 0) a0, .int (Mine.bitI v0 1) a1, .int (Mine.bitI v0 2) a2, .int (Mine.bitI v0 3) a3, .int (Mine.bitI v0 4) a4])) :: (P, Mine.pricesObj q0 q1 q2 q3 q4) :: rest) → Q .next { s with heap := h', toks := tk' }),
   wpAny (model PySem.Challenge.rw_to0016_01.row.prog w) ((callerA.deeper (envX cn cs L a ccd cl)).deeper (envOfC (Str.ofString "_law_parted") psc L' f cdv)) (exec (.For tg it body [] pos) (envOfC (Str.ofString "_law_parted") psc L' f cdv)) Q E s := by
  k_fill
  k_with_none
  intro w mean mg mb psc pb body tg it hst hb pos cn cs a ccd cl base h₀ L' L f cdv m s R R0 R1 R2 R3 P Y TT T0 T1 T2 v0 v1 v2 v3 a0 a1 a2 a3 a4 b0 b1 b2 b3 b4 c0 c1 c2 c3 c4 d0 d1 d2 d3 d4 q0 q1 q2 q3 q4 o1 o2 o3 c2' rest Q E B F X N T h1 h2 h3 nY n3 nY3 hE hret
  have hst' := hst
  have e := Option.some.inj (hst.symm.trans (rfl : Mine.partDef = some _))
  clear hst
  cases e
  have e := Option.some.inj (hb.symm.trans (rfl : Mine.partFor = some _))
  clear hb
  cases e
  refine' @For_unr _ _ _ _ _ _ _ _ _ _ _ h₀ ?it ?hs ?hE
  case hs => intro _; rfl
  case hE => exact hE
  (repeat' (first | ((fail_if_success (with_reducible show wpAny _ _ (pyIter _) _ _ _)); first | (k_unfold; (try dsimp only)) | (k_end; wrow_close) | (walk1; (try dsimp only)) | (dsimp only; walk1) | (leave1; walk_say "STEP leave1"; try dsimp only)) | fail "no step"))
  with_reducible rename Fr h₀ L' _ _ => F'
  with_reducible rename News h₀ L' _ _ => N'
  have hm : (fun y => if y = Str.ofString "parted" then some (Value.ref Y) else if y = Str.ofString "likes" then some (.ref TT) else m y) (Str.ofString "parted") = some (.ref Y) := rfl
  have nT := N' _ (.tail _ (.tail _ (.head _)))
  have zY := (N' _ (.tail _ (.head _))).1
  have hl : s.heap.IsTuple TT #[.ref T0, .ref T1, .ref T2] := ⟨_, nT.1, rfl, _, rfl⟩
  have hTlt : TT < s.heap.objs.size := Heap.lt_size nT.1
  have hYlt : @LT.lt Nat _ Y s.heap.objs.size := Heap.lt_size zY
  have up : ∀ b o, s.heap.get? b = some o → (s.heap.push { cls := .type "tuple_iterator", data := .fields #[.ref TT, .int 0 0] }).get? b = some o := fun b o e => Heap.get?_push_of_some _ e
  refine wpAny_pyIter_tuple hl ?_
  refine ⟨s.heap.objs.size, _, _, 3, _, _, _, _, rfl, Walks.tuple rfl s.heap.objs.size TT (Nat.ne_of_lt hTlt) #[.ref T0, .ref T1, .ref T2], ?a, ?b, ?c, ⟨⟨_, Heap.get?_push_size _ rfl, rfl, rfl⟩, hl.at fun o e => up _ _ e⟩, F'.keeps up, N'.grown up, ?d, ?e⟩
  case a =>
    intro hmem
    rcases List.mem_cons.mp hmem with e | hmem
    · exact absurd e (Nat.ne_of_lt F'.ns.lt)
    · exact nT.2.1 (List.mem_singleton.mp hmem).symm
  case b =>
    intro b hb
    rw [List.mem_singleton.mp hb]
    exact next_is_new F'
  case c =>
    intro p hp hmem
    exact absurd (List.mem_singleton.mp hmem) (Nat.ne_of_lt (Heap.lt_size (N' p hp).1))
  case d =>
    intro i s' v Q' a b
    exact letGo_tupleiter a.1 b
  case e =>
    have hL3 : @LT.lt Nat _ (L' + 1 + 1 + 1) s.heap.objs.size := Heap.lt_size (N' _ (.head _)).1
    have ownY : ∀ own : List (Addr × Obj), (∀ p ∈ own, p.1 ∈ [s.heap.objs.size, TT]) → ∀ p ∈ own, @Ne Nat p.1 Y := by
      intro own ho p hp
      rcases List.mem_cons.mp (ho p hp) with e | e
      · rw [e]; exact Ne.symm (Nat.ne_of_lt hYlt)
      · rw [List.mem_singleton.mp e]; exact nY _ (.head _)
    have rr3 : ∀ (own : List (Addr × Obj)) (ws : Obj), (∀ p ∈ own, p.1 ∈ [s.heap.objs.size, TT]) → ∀ p ∈ own ++ (Y, ws) :: (TT, { cls := .type "tuple", data := .seq #[.ref T0, .ref T1, .ref T2] }) :: (T2, listOf #[.bool true, .bool false, .bool false, .bool true] 0) :: (T1, listOf #[.bool true, .bool false, .bool true, .bool false] 0) :: (T0, listOf #[.bool true, .bool true, .bool false, .bool false] 0) :: (L' + 1 + 1, o3) :: (L' + 1, o1) :: (R, Mine.rowsObj R0 R1 R2 R3) :: (R3, (LCg.lst [.int (Mine.bitI v3 0) d0, .int (Mine.bitI v3 1) d1, .int (Mine.bitI v3 2) d2, .int (Mine.bitI v3 3) d3, .int (Mine.bitI v3 4) d4])) :: (R2, (LCg.lst [.int (Mine.bitI v2 0) c0, .int (Mine.bitI v2 1) c1, .int (Mine.bitI v2 2) c2, .int (Mine.bitI v2 3) c3, .int (Mine.bitI v2 4) c4])) :: (R1, (LCg.lst [.int (Mine.bitI v1 0) b0, .int (Mine.bitI v1 1) b1, .int (Mine.bitI v1 2) b2, .int (Mine.bitI v1 3) b3, .int (Mine.bitI v1 4) b4])) :: (R0, (LCg.lst [.int (Mine.bitI v0 0) a0, .int (Mine.bitI v0 1) a1, .int (Mine.bitI v0 2) a2, .int (Mine.bitI v0 3) a3, .int (Mine.bitI v0 4) a4])) :: (P, Mine.pricesObj q0 q1 q2 q3 q4) :: rest, @Ne Nat p.1 (L' + 1 + 1 + 1) := by
      intro own ws ho p hp
      rcases List.mem_append.mp hp with hp | hp
      · rcases List.mem_cons.mp (ho p hp) with e | e
        · rw [e]; exact Ne.symm (Nat.ne_of_lt hL3)
        · rw [List.mem_singleton.mp e]; exact n3 _ (.head _)
      rcases List.mem_cons.mp hp with rfl | hp
      · exact nY3
      · exact n3 p hp
    clear F' N' nT zY up hl
    refine Unr.succ fun v h₁ tk₁ own hP hown F₁ N₁ => ?_
    obtain rfl : v = .ref T0 := (Option.some.inj hP).symm
    refine wpAny_assign_Name ?_
    have Ns : News h₀ L' h₁ ((L' + 1 + 1 + 1, o2) :: (own ++ (Y, LCg.lst []) :: (TT, { cls := .type "tuple", data := .seq #[.ref T0, .ref T1, .ref T2] }) :: (T2, listOf #[.bool true, .bool false, .bool false, .bool true] 0) :: (T1, listOf #[.bool true, .bool false, .bool true, .bool false] 0) :: (T0, listOf #[.bool true, .bool true, .bool false, .bool false] 0) :: (L' + 1 + 1, o3) :: (L' + 1, o1) :: (R, Mine.rowsObj R0 R1 R2 R3) :: (R3, (LCg.lst [.int (Mine.bitI v3 0) d0, .int (Mine.bitI v3 1) d1, .int (Mine.bitI v3 2) d2, .int (Mine.bitI v3 3) d3, .int (Mine.bitI v3 4) d4])) :: (R2, (LCg.lst [.int (Mine.bitI v2 0) c0, .int (Mine.bitI v2 1) c1, .int (Mine.bitI v2 2) c2, .int (Mine.bitI v2 3) c3, .int (Mine.bitI v2 4) c4])) :: (R1, (LCg.lst [.int (Mine.bitI v1 0) b0, .int (Mine.bitI v1 1) b1, .int (Mine.bitI v1 2) b2, .int (Mine.bitI v1 3) b3, .int (Mine.bitI v1 4) b4])) :: (R0, (LCg.lst [.int (Mine.bitI v0 0) a0, .int (Mine.bitI v0 1) a1, .int (Mine.bitI v0 2) a2, .int (Mine.bitI v0 3) a3, .int (Mine.bitI v0 4) a4])) :: (P, Mine.pricesObj q0 q1 q2 q3 q4) :: rest)) := (Mine.news_app (Mine.news_pick (Mine.news_r N₁) [0]) (Mine.news_app (Mine.news_l N₁) (Mine.news_drop (Mine.news_r N₁) 1)))
    refine Mine.store_cell (c := L' + 1 + 1 + 1) F₁ Ns (rr3 own _ hown) h2 rfl rfl rfl ?_
    intro h2' o2n0 e2n0 F2 N3
    refine' Mine.turnP w mean mg mb _ _ _ _ _ ?a ?hb cn cs a ccd cl base h₀ L' L f cdv _ _ R R0 R1 R2 R3 T0 P Y true true false false [] v0 v1 v2 v3 a0 a1 a2 a3 a4 b0 b1 b2 b3 b4 c0 c1 c2 c3 c4 d0 d1 d2 d3 d4 q0 q1 q2 q3 q4 o1 o2n0 o3 (own ++ (TT, { cls := .type "tuple", data := .seq #[.ref T0, .ref T1, .ref T2] }) :: (T2, listOf #[.bool true, .bool false, .bool false, .bool true] 0) :: (T1, listOf #[.bool true, .bool false, .bool true, .bool false] 0) :: (T0, listOf #[.bool true, .bool true, .bool false, .bool false] 0) :: rest) _ E ?B ?F ?X ?N ?T ?h1 ?h2 ?h3 ?hm ?hW ?hyl ?r20
    case a => exact hst'
    case hb => exact rfl
    case B => exact B
    case F => exact F2
    case X => exact X
    case N => exact (Mine.news_app (Mine.news_pick (Mine.news_r (Mine.news_tl N3)) [0, 4, 7, 8, 9, 10, 11]) (Mine.news_app (Mine.news_pick N3 [0]) (Mine.news_app (Mine.news_pick (Mine.news_r (Mine.news_tl N3)) [6, 5, 12]) (Mine.news_app (Mine.news_l (Mine.news_tl N3)) (Mine.news_app (Mine.news_pick (Mine.news_r (Mine.news_tl N3)) [1, 2, 3, 4]) (Mine.news_drop (Mine.news_r (Mine.news_tl N3)) 13))))))
    case T => exact T
    case h1 => exact h1
    case h2 => exact e2n0
    case h3 => exact h3
    case hm => exact hm
    case hyl => exact Nat.le_of_ble_eq_true rfl
    case hW => exact Mine.all_app (Mine.all_pick nY [3, 6, 7, 8, 9, 10]) (Mine.all_cons (Ne.symm nY3) (Mine.all_app (Mine.all_pick nY [5, 4, 11]) (Mine.all_app (ownY own hown) (Mine.all_app (Mine.all_pick nY [0, 1, 2, 3]) (Mine.all_drop nY 12)))))
    intro m0 tt0 h3' tk3 hm0 F5 N5
    refine LoopStep3.next ⟨rfl, h3', tk3, m0, (L' + 1 + 1 + 1, o2n0) :: (Y, LCg.lst [.int (Mine.partI v0 v1 v2 v3 true true false false) tt0]) :: (TT, { cls := .type "tuple", data := .seq #[.ref T0, .ref T1, .ref T2] }) :: (T2, listOf #[.bool true, .bool false, .bool false, .bool true] 0) :: (T1, listOf #[.bool true, .bool false, .bool true, .bool false] 0) :: (T0, listOf #[.bool true, .bool true, .bool false, .bool false] 0) :: (L' + 1 + 1, o3) :: (L' + 1, o1) :: (R, Mine.rowsObj R0 R1 R2 R3) :: (R3, (LCg.lst [.int (Mine.bitI v3 0) d0, .int (Mine.bitI v3 1) d1, .int (Mine.bitI v3 2) d2, .int (Mine.bitI v3 3) d3, .int (Mine.bitI v3 4) d4])) :: (R2, (LCg.lst [.int (Mine.bitI v2 0) c0, .int (Mine.bitI v2 1) c1, .int (Mine.bitI v2 2) c2, .int (Mine.bitI v2 3) c3, .int (Mine.bitI v2 4) c4])) :: (R1, (LCg.lst [.int (Mine.bitI v1 0) b0, .int (Mine.bitI v1 1) b1, .int (Mine.bitI v1 2) b2, .int (Mine.bitI v1 3) b3, .int (Mine.bitI v1 4) b4])) :: (R0, (LCg.lst [.int (Mine.bitI v0 0) a0, .int (Mine.bitI v0 1) a1, .int (Mine.bitI v0 2) a2, .int (Mine.bitI v0 3) a3, .int (Mine.bitI v0 4) a4])) :: (P, Mine.pricesObj q0 q1 q2 q3 q4) :: rest, rfl, F5, (Mine.news_app (Mine.news_l (Mine.news_tl (Mine.news_tl (Mine.news_tl (Mine.news_tl (Mine.news_tl (Mine.news_tl (Mine.news_tl (Mine.news_tl (Mine.news_tl (Mine.news_tl (Mine.news_tl N5)))))))))))) (Mine.news_app (Mine.news_pick N5 [7, 0]) (Mine.news_app (Mine.news_pick (Mine.news_r (Mine.news_tl (Mine.news_tl (Mine.news_tl (Mine.news_tl (Mine.news_tl (Mine.news_tl (Mine.news_tl (Mine.news_tl (Mine.news_tl (Mine.news_tl (Mine.news_tl N5)))))))))))) [0, 1, 2, 3]) (Mine.news_app (Mine.news_pick N5 [9, 8, 2, 3, 4, 5, 6, 10]) (Mine.news_drop (Mine.news_r (Mine.news_tl (Mine.news_tl (Mine.news_tl (Mine.news_tl (Mine.news_tl (Mine.news_tl (Mine.news_tl (Mine.news_tl (Mine.news_tl (Mine.news_tl (Mine.news_tl N5)))))))))))) 4))))), rfl, ?_⟩
    clear F₁ N₁ Ns F2 N3 F5 N5 hown hP own
    refine Unr.succ fun v h₁ tk₁ own hP hown F₁ N₁ => ?_
    obtain rfl : v = .ref T1 := (Option.some.inj hP).symm
    refine wpAny_assign_Name ?_
    have Ns : News h₀ L' h₁ ((L' + 1 + 1 + 1, o2n0) :: (own ++ (Y, LCg.lst [.int (Mine.partI v0 v1 v2 v3 true true false false) tt0]) :: (TT, { cls := .type "tuple", data := .seq #[.ref T0, .ref T1, .ref T2] }) :: (T2, listOf #[.bool true, .bool false, .bool false, .bool true] 0) :: (T1, listOf #[.bool true, .bool false, .bool true, .bool false] 0) :: (T0, listOf #[.bool true, .bool true, .bool false, .bool false] 0) :: (L' + 1 + 1, o3) :: (L' + 1, o1) :: (R, Mine.rowsObj R0 R1 R2 R3) :: (R3, (LCg.lst [.int (Mine.bitI v3 0) d0, .int (Mine.bitI v3 1) d1, .int (Mine.bitI v3 2) d2, .int (Mine.bitI v3 3) d3, .int (Mine.bitI v3 4) d4])) :: (R2, (LCg.lst [.int (Mine.bitI v2 0) c0, .int (Mine.bitI v2 1) c1, .int (Mine.bitI v2 2) c2, .int (Mine.bitI v2 3) c3, .int (Mine.bitI v2 4) c4])) :: (R1, (LCg.lst [.int (Mine.bitI v1 0) b0, .int (Mine.bitI v1 1) b1, .int (Mine.bitI v1 2) b2, .int (Mine.bitI v1 3) b3, .int (Mine.bitI v1 4) b4])) :: (R0, (LCg.lst [.int (Mine.bitI v0 0) a0, .int (Mine.bitI v0 1) a1, .int (Mine.bitI v0 2) a2, .int (Mine.bitI v0 3) a3, .int (Mine.bitI v0 4) a4])) :: (P, Mine.pricesObj q0 q1 q2 q3 q4) :: rest)) := (Mine.news_app (Mine.news_pick (Mine.news_r N₁) [0]) (Mine.news_app (Mine.news_l N₁) (Mine.news_drop (Mine.news_r N₁) 1)))
    refine Mine.store_cell (c := L' + 1 + 1 + 1) F₁ Ns (rr3 own _ hown) e2n0 rfl rfl rfl ?_
    intro h2' o2n1 e2n1 F2 N3
    refine' Mine.turnP w mean mg mb _ _ _ _ _ ?a ?hb cn cs a ccd cl base h₀ L' L f cdv _ _ R R0 R1 R2 R3 T1 P Y true false true false [.int (Mine.partI v0 v1 v2 v3 true true false false) tt0] v0 v1 v2 v3 a0 a1 a2 a3 a4 b0 b1 b2 b3 b4 c0 c1 c2 c3 c4 d0 d1 d2 d3 d4 q0 q1 q2 q3 q4 o1 o2n1 o3 (own ++ (TT, { cls := .type "tuple", data := .seq #[.ref T0, .ref T1, .ref T2] }) :: (T2, listOf #[.bool true, .bool false, .bool false, .bool true] 0) :: (T1, listOf #[.bool true, .bool false, .bool true, .bool false] 0) :: (T0, listOf #[.bool true, .bool true, .bool false, .bool false] 0) :: rest) _ E ?B ?F ?X ?N ?T ?h1 ?h2 ?h3 ?hm ?hW ?hyl ?r21
    case a => exact hst'
    case hb => exact rfl
    case B => exact B
    case F => exact F2
    case X => exact X
    case N => exact (Mine.news_app (Mine.news_pick (Mine.news_r (Mine.news_tl N3)) [0, 3, 7, 8, 9, 10, 11]) (Mine.news_app (Mine.news_pick N3 [0]) (Mine.news_app (Mine.news_pick (Mine.news_r (Mine.news_tl N3)) [6, 5, 12]) (Mine.news_app (Mine.news_l (Mine.news_tl N3)) (Mine.news_app (Mine.news_pick (Mine.news_r (Mine.news_tl N3)) [1, 2, 3, 4]) (Mine.news_drop (Mine.news_r (Mine.news_tl N3)) 13))))))
    case T => exact T
    case h1 => exact h1
    case h2 => exact e2n1
    case h3 => exact h3
    case hm => exact hm0
    case hyl => exact Nat.le_of_ble_eq_true rfl
    case hW => exact Mine.all_app (Mine.all_pick nY [2, 6, 7, 8, 9, 10]) (Mine.all_cons (Ne.symm nY3) (Mine.all_app (Mine.all_pick nY [5, 4, 11]) (Mine.all_app (ownY own hown) (Mine.all_app (Mine.all_pick nY [0, 1, 2, 3]) (Mine.all_drop nY 12)))))
    intro m1 tt1 h3' tk3 hm1 F5 N5
    refine LoopStep3.next ⟨rfl, h3', tk3, m1, (L' + 1 + 1 + 1, o2n1) :: (Y, LCg.lst [.int (Mine.partI v0 v1 v2 v3 true true false false) tt0, .int (Mine.partI v0 v1 v2 v3 true false true false) tt1]) :: (TT, { cls := .type "tuple", data := .seq #[.ref T0, .ref T1, .ref T2] }) :: (T2, listOf #[.bool true, .bool false, .bool false, .bool true] 0) :: (T1, listOf #[.bool true, .bool false, .bool true, .bool false] 0) :: (T0, listOf #[.bool true, .bool true, .bool false, .bool false] 0) :: (L' + 1 + 1, o3) :: (L' + 1, o1) :: (R, Mine.rowsObj R0 R1 R2 R3) :: (R3, (LCg.lst [.int (Mine.bitI v3 0) d0, .int (Mine.bitI v3 1) d1, .int (Mine.bitI v3 2) d2, .int (Mine.bitI v3 3) d3, .int (Mine.bitI v3 4) d4])) :: (R2, (LCg.lst [.int (Mine.bitI v2 0) c0, .int (Mine.bitI v2 1) c1, .int (Mine.bitI v2 2) c2, .int (Mine.bitI v2 3) c3, .int (Mine.bitI v2 4) c4])) :: (R1, (LCg.lst [.int (Mine.bitI v1 0) b0, .int (Mine.bitI v1 1) b1, .int (Mine.bitI v1 2) b2, .int (Mine.bitI v1 3) b3, .int (Mine.bitI v1 4) b4])) :: (R0, (LCg.lst [.int (Mine.bitI v0 0) a0, .int (Mine.bitI v0 1) a1, .int (Mine.bitI v0 2) a2, .int (Mine.bitI v0 3) a3, .int (Mine.bitI v0 4) a4])) :: (P, Mine.pricesObj q0 q1 q2 q3 q4) :: rest, rfl, F5, (Mine.news_app (Mine.news_l (Mine.news_tl (Mine.news_tl (Mine.news_tl (Mine.news_tl (Mine.news_tl (Mine.news_tl (Mine.news_tl (Mine.news_tl (Mine.news_tl (Mine.news_tl (Mine.news_tl N5)))))))))))) (Mine.news_app (Mine.news_pick N5 [7, 0]) (Mine.news_app (Mine.news_pick (Mine.news_r (Mine.news_tl (Mine.news_tl (Mine.news_tl (Mine.news_tl (Mine.news_tl (Mine.news_tl (Mine.news_tl (Mine.news_tl (Mine.news_tl (Mine.news_tl (Mine.news_tl N5)))))))))))) [0, 1, 2, 3]) (Mine.news_app (Mine.news_pick N5 [9, 8, 2, 3, 4, 5, 6, 10]) (Mine.news_drop (Mine.news_r (Mine.news_tl (Mine.news_tl (Mine.news_tl (Mine.news_tl (Mine.news_tl (Mine.news_tl (Mine.news_tl (Mine.news_tl (Mine.news_tl (Mine.news_tl (Mine.news_tl N5)))))))))))) 4))))), rfl, ?_⟩
    clear F₁ N₁ Ns F2 N3 F5 N5 hown hP own
    refine Unr.succ fun v h₁ tk₁ own hP hown F₁ N₁ => ?_
    obtain rfl : v = .ref T2 := (Option.some.inj hP).symm
    refine wpAny_assign_Name ?_
    have Ns : News h₀ L' h₁ ((L' + 1 + 1 + 1, o2n1) :: (own ++ (Y, LCg.lst [.int (Mine.partI v0 v1 v2 v3 true true false false) tt0, .int (Mine.partI v0 v1 v2 v3 true false true false) tt1]) :: (TT, { cls := .type "tuple", data := .seq #[.ref T0, .ref T1, .ref T2] }) :: (T2, listOf #[.bool true, .bool false, .bool false, .bool true] 0) :: (T1, listOf #[.bool true, .bool false, .bool true, .bool false] 0) :: (T0, listOf #[.bool true, .bool true, .bool false, .bool false] 0) :: (L' + 1 + 1, o3) :: (L' + 1, o1) :: (R, Mine.rowsObj R0 R1 R2 R3) :: (R3, (LCg.lst [.int (Mine.bitI v3 0) d0, .int (Mine.bitI v3 1) d1, .int (Mine.bitI v3 2) d2, .int (Mine.bitI v3 3) d3, .int (Mine.bitI v3 4) d4])) :: (R2, (LCg.lst [.int (Mine.bitI v2 0) c0, .int (Mine.bitI v2 1) c1, .int (Mine.bitI v2 2) c2, .int (Mine.bitI v2 3) c3, .int (Mine.bitI v2 4) c4])) :: (R1, (LCg.lst [.int (Mine.bitI v1 0) b0, .int (Mine.bitI v1 1) b1, .int (Mine.bitI v1 2) b2, .int (Mine.bitI v1 3) b3, .int (Mine.bitI v1 4) b4])) :: (R0, (LCg.lst [.int (Mine.bitI v0 0) a0, .int (Mine.bitI v0 1) a1, .int (Mine.bitI v0 2) a2, .int (Mine.bitI v0 3) a3, .int (Mine.bitI v0 4) a4])) :: (P, Mine.pricesObj q0 q1 q2 q3 q4) :: rest)) := (Mine.news_app (Mine.news_pick (Mine.news_r N₁) [0]) (Mine.news_app (Mine.news_l N₁) (Mine.news_drop (Mine.news_r N₁) 1)))
    refine Mine.store_cell (c := L' + 1 + 1 + 1) F₁ Ns (rr3 own _ hown) e2n1 rfl rfl rfl ?_
    intro h2' o2n2 e2n2 F2 N3
    refine' Mine.turnP w mean mg mb _ _ _ _ _ ?a ?hb cn cs a ccd cl base h₀ L' L f cdv _ _ R R0 R1 R2 R3 T2 P Y true false false true [.int (Mine.partI v0 v1 v2 v3 true true false false) tt0, .int (Mine.partI v0 v1 v2 v3 true false true false) tt1] v0 v1 v2 v3 a0 a1 a2 a3 a4 b0 b1 b2 b3 b4 c0 c1 c2 c3 c4 d0 d1 d2 d3 d4 q0 q1 q2 q3 q4 o1 o2n2 o3 (own ++ (TT, { cls := .type "tuple", data := .seq #[.ref T0, .ref T1, .ref T2] }) :: (T2, listOf #[.bool true, .bool false, .bool false, .bool true] 0) :: (T1, listOf #[.bool true, .bool false, .bool true, .bool false] 0) :: (T0, listOf #[.bool true, .bool true, .bool false, .bool false] 0) :: rest) _ E ?B ?F ?X ?N ?T ?h1 ?h2 ?h3 ?hm ?hW ?hyl ?r22
    case a => exact hst'
    case hb => exact rfl
    case B => exact B
    case F => exact F2
    case X => exact X
    case N => exact (Mine.news_app (Mine.news_pick (Mine.news_r (Mine.news_tl N3)) [0, 2, 7, 8, 9, 10, 11]) (Mine.news_app (Mine.news_pick N3 [0]) (Mine.news_app (Mine.news_pick (Mine.news_r (Mine.news_tl N3)) [6, 5, 12]) (Mine.news_app (Mine.news_l (Mine.news_tl N3)) (Mine.news_app (Mine.news_pick (Mine.news_r (Mine.news_tl N3)) [1, 2, 3, 4]) (Mine.news_drop (Mine.news_r (Mine.news_tl N3)) 13))))))
    case T => exact T
    case h1 => exact h1
    case h2 => exact e2n2
    case h3 => exact h3
    case hm => exact hm1
    case hyl => exact Nat.le_of_ble_eq_true rfl
    case hW => exact Mine.all_app (Mine.all_pick nY [1, 6, 7, 8, 9, 10]) (Mine.all_cons (Ne.symm nY3) (Mine.all_app (Mine.all_pick nY [5, 4, 11]) (Mine.all_app (ownY own hown) (Mine.all_app (Mine.all_pick nY [0, 1, 2, 3]) (Mine.all_drop nY 12)))))
    intro m2 tt2 h3' tk3 hm2 F5 N5
    refine LoopStep3.next ⟨rfl, h3', tk3, m2, (L' + 1 + 1 + 1, o2n2) :: (Y, LCg.lst [.int (Mine.partI v0 v1 v2 v3 true true false false) tt0, .int (Mine.partI v0 v1 v2 v3 true false true false) tt1, .int (Mine.partI v0 v1 v2 v3 true false false true) tt2]) :: (TT, { cls := .type "tuple", data := .seq #[.ref T0, .ref T1, .ref T2] }) :: (T2, listOf #[.bool true, .bool false, .bool false, .bool true] 0) :: (T1, listOf #[.bool true, .bool false, .bool true, .bool false] 0) :: (T0, listOf #[.bool true, .bool true, .bool false, .bool false] 0) :: (L' + 1 + 1, o3) :: (L' + 1, o1) :: (R, Mine.rowsObj R0 R1 R2 R3) :: (R3, (LCg.lst [.int (Mine.bitI v3 0) d0, .int (Mine.bitI v3 1) d1, .int (Mine.bitI v3 2) d2, .int (Mine.bitI v3 3) d3, .int (Mine.bitI v3 4) d4])) :: (R2, (LCg.lst [.int (Mine.bitI v2 0) c0, .int (Mine.bitI v2 1) c1, .int (Mine.bitI v2 2) c2, .int (Mine.bitI v2 3) c3, .int (Mine.bitI v2 4) c4])) :: (R1, (LCg.lst [.int (Mine.bitI v1 0) b0, .int (Mine.bitI v1 1) b1, .int (Mine.bitI v1 2) b2, .int (Mine.bitI v1 3) b3, .int (Mine.bitI v1 4) b4])) :: (R0, (LCg.lst [.int (Mine.bitI v0 0) a0, .int (Mine.bitI v0 1) a1, .int (Mine.bitI v0 2) a2, .int (Mine.bitI v0 3) a3, .int (Mine.bitI v0 4) a4])) :: (P, Mine.pricesObj q0 q1 q2 q3 q4) :: rest, rfl, F5, (Mine.news_app (Mine.news_l (Mine.news_tl (Mine.news_tl (Mine.news_tl (Mine.news_tl (Mine.news_tl (Mine.news_tl (Mine.news_tl (Mine.news_tl (Mine.news_tl (Mine.news_tl (Mine.news_tl N5)))))))))))) (Mine.news_app (Mine.news_pick N5 [7, 0]) (Mine.news_app (Mine.news_pick (Mine.news_r (Mine.news_tl (Mine.news_tl (Mine.news_tl (Mine.news_tl (Mine.news_tl (Mine.news_tl (Mine.news_tl (Mine.news_tl (Mine.news_tl (Mine.news_tl (Mine.news_tl N5)))))))))))) [0, 1, 2, 3]) (Mine.news_app (Mine.news_pick N5 [9, 8, 2, 3, 4, 5, 6, 10]) (Mine.news_drop (Mine.news_r (Mine.news_tl (Mine.news_tl (Mine.news_tl (Mine.news_tl (Mine.news_tl (Mine.news_tl (Mine.news_tl (Mine.news_tl (Mine.news_tl (Mine.news_tl (Mine.news_tl N5)))))))))))) 4))))), rfl, ?_⟩
    clear F₁ N₁ Ns F2 N3 F5 N5 hown hP own
    exact Unr.zero fun h' tk F N => hret _ _ _ _ _ _ hm2 F (Mine.news_tl N)
theorem Mine.partC : ∀ (w : World) (mean : ExcName → Option Value) (mg mb : Str → Option Value) (R R0 R1 R2 R3 P : Addr) (v0 v1 v2 v3 : Int) (a0 a1 a2 a3 a4 b0 b1 b2 b3 b4 c0 c1 c2 c3 c4 d0 d1 d2 d3 d4 q0 q1 q2 q3 q4 : Tok)
   (cn : Str) (cs : Scope) (a : Addr) (ccd : Value) (cl : List (Str × Addr)) (base h₀ : Heap) (L : Addr) (m : Str → Option Value) (s : Shared) (news : List (Addr × Obj)) (Q E : Value → Shared → Prop)
   (B : Below callerA base [] h₀) (F : Fr h₀ L s.heap m) (X : (Mine.hd.heap_1 w.params).In h₀)
   (N : News h₀ L s.heap ((R, Mine.rowsObj R0 R1 R2 R3) :: (R3, (LCg.lst [.int (Mine.bitI v3 0) d0, .int (Mine.bitI v3 1) d1, .int (Mine.bitI v3 2) d2, .int (Mine.bitI v3 3) d3, .int (Mine.bitI v3 4) d4])) :: (R2, (LCg.lst [.int (Mine.bitI v2 0) c0, .int (Mine.bitI v2 1) c1, .int (Mine.bitI v2 2) c2, .int (Mine.bitI v2 3) c3, .int (Mine.bitI v2 4) c4])) :: (R1, (LCg.lst [.int (Mine.bitI v1 0) b0, .int (Mine.bitI v1 1) b1, .int (Mine.bitI v1 2) b2, .int (Mine.bitI v1 3) b3, .int (Mine.bitI v1 4) b4])) :: (R0, (LCg.lst [.int (Mine.bitI v0 0) a0, .int (Mine.bitI v0 1) a1, .int (Mine.bitI v0 2) a2, .int (Mine.bitI v0 3) a3, .int (Mine.bitI v0 4) a4])) :: (P, Mine.pricesObj q0 q1 q2 q3 q4) :: news)) (T : Top Mine.hd.view_1 (looseW Mine.hd.view_1 []) mean mg mb h₀) (hk : cs.kind = .function)
   (hret : ∀ (Y : Addr) (x0 x1 x2 : Tok) (h' : Heap) (tk' : Tok), Fr h₀ L h' m → News h₀ L h' ((Y, LCg.lst [.int (Mine.partI v0 v1 v2 v3 true true false false) x0, .int (Mine.partI v0 v1 v2 v3 true false true false) x1, .int (Mine.partI v0 v1 v2 v3 true false false true) x2]) :: (R, Mine.rowsObj R0 R1 R2 R3) :: (R3, (LCg.lst [.int (Mine.bitI v3 0) d0, .int (Mine.bitI v3 1) d1, .int (Mine.bitI v3 2) d2, .int (Mine.bitI v3 3) d3, .int (Mine.bitI v3 4) d4])) :: (R2, (LCg.lst [.int (Mine.bitI v2 0) c0, .int (Mine.bitI v2 1) c1, .int (Mine.bitI v2 2) c2, .int (Mine.bitI v2 3) c3, .int (Mine.bitI v2 4) c4])) :: (R1, (LCg.lst [.int (Mine.bitI v1 0) b0, .int (Mine.bitI v1 1) b1, .int (Mine.bitI v1 2) b2, .int (Mine.bitI v1 3) b3, .int (Mine.bitI v1 4) b4])) :: (R0, (LCg.lst [.int (Mine.bitI v0 0) a0, .int (Mine.bitI v0 1) a1, .int (Mine.bitI v0 2) a2, .int (Mine.bitI v0 3) a3, .int (Mine.bitI v0 4) a4])) :: (P, Mine.pricesObj q0 q1 q2 q3 q4) :: news) → AllLt Y ((R, Mine.rowsObj R0 R1 R2 R3) :: (R3, (LCg.lst [.int (Mine.bitI v3 0) d0, .int (Mine.bitI v3 1) d1, .int (Mine.bitI v3 2) d2, .int (Mine.bitI v3 3) d3, .int (Mine.bitI v3 4) d4])) :: (R2, (LCg.lst [.int (Mine.bitI v2 0) c0, .int (Mine.bitI v2 1) c1, .int (Mine.bitI v2 2) c2, .int (Mine.bitI v2 3) c3, .int (Mine.bitI v2 4) c4])) :: (R1, (LCg.lst [.int (Mine.bitI v1 0) b0, .int (Mine.bitI v1 1) b1, .int (Mine.bitI v1 2) b2, .int (Mine.bitI v1 3) b3, .int (Mine.bitI v1 4) b4])) :: (R0, (LCg.lst [.int (Mine.bitI v0 0) a0, .int (Mine.bitI v0 1) a1, .int (Mine.bitI v0 2) a2, .int (Mine.bitI v0 3) a3, .int (Mine.bitI v0 4) a4])) :: (P, Mine.pricesObj q0 q1 q2 q3 q4) :: news) → Q (.ref Y) { s with heap := h', toks := tk' }),
   wpAny (model PySem.Challenge.rw_to0016_01.row.prog w) (callerA.deeper (envX cn cs L a ccd cl)) (call (.ref 105) [.ref R, .ref P]) Q E s := by
  k_fill
  k_with_none
  intro w mean mg mb R R0 R1 R2 R3 P v0 v1 v2 v3 a0 a1 a2 a3 a4 b0 b1 b2 b3 b4 c0 c1 c2 c3 c4 d0 d1 d2 d3 d4 q0 q1 q2 q3 q4 cn cs a ccd cl base h₀ L m s news Q E B F X N T hk hret
  refine wpAny_call ?_
  k_dflt (refine' code_defC ?k1 ?k2 ?k3 ?k4 ?k5 ?kA ?kF ?kK ?k6 ?k7 ?k8 ?k9 ?kB ?kD ?_ ?c2 ?c3 ?c4; (case kA => exact rfl); (case kF => exact rfl); (case kK => exact hk); (case k1 => k_asm); (case k2 => k_asm); (case k3 => k_asm); (case k4 => k_asm); (case k5 => k_asm); (case k6 => k_is); (case k7 => k_is); (case k8 => first | k_room | ktr_room); (case k9 => exact BindsTo.of_eq rfl); (case kB => exact rfl); (case kD => decide +kernel); (case c2 => exact rfl); (case c3 => exact rfl); (case c4 => exact rfl); k_whole)
  intro g' L' h' tk' cells' FG' F' N' Y' B' X' T' l1
  have hL := l1
  k_lt l1
  k_cells Y'
  (try simp only [List.cons_append, List.nil_append] at N')
  (try dsimp only)
  (try k_lift B')
  (try k_fold)
  (repeat' (first | ((fail_if_success (with_reducible show wpAny _ _ (exec (Stmt.For _ _ _ _ _) _) _ _ _)); first | (k_unfold; (try dsimp only)) | (k_end; wrow_close) | (walk1; (try dsimp only)) | (dsimp only; walk1) | (leave1; walk_say "STEP leave1"; try dsimp only)) | fail "no step"))
  with_reducible rename Fr g' L' _ _ => Fh
  with_reducible rename News g' L' _ _ => Nh
  with_reducible rename _ ∧ _ => lY
  obtain ⟨y0, y1, y2, y3, y4, y5, y6, y7, y8, y9, y10, y11, y12, hA⟩ := lY
  have hAll : AllLt _ ((R, Mine.rowsObj R0 R1 R2 R3) :: (R3, (LCg.lst [.int (Mine.bitI v3 0) d0, .int (Mine.bitI v3 1) d1, .int (Mine.bitI v3 2) d2, .int (Mine.bitI v3 3) d3, .int (Mine.bitI v3 4) d4])) :: (R2, (LCg.lst [.int (Mine.bitI v2 0) c0, .int (Mine.bitI v2 1) c1, .int (Mine.bitI v2 2) c2, .int (Mine.bitI v2 3) c3, .int (Mine.bitI v2 4) c4])) :: (R1, (LCg.lst [.int (Mine.bitI v1 0) b0, .int (Mine.bitI v1 1) b1, .int (Mine.bitI v1 2) b2, .int (Mine.bitI v1 3) b3, .int (Mine.bitI v1 4) b4])) :: (R0, (LCg.lst [.int (Mine.bitI v0 0) a0, .int (Mine.bitI v0 1) a1, .int (Mine.bitI v0 2) a2, .int (Mine.bitI v0 3) a3, .int (Mine.bitI v0 4) a4])) :: (P, Mine.pricesObj q0 q1 q2 q3 q4) :: news) := ⟨y7, y8, y9, y10, y11, y12, hA⟩
  refine' Mine.loopP w mean mg mb _ _ _ _ _ ?hst ?hb _ cn cs a ccd cl base g' L' L 105 (.ref 104) _ _ R R0 R1 R2 R3 P _ _ _ _ _ v0 v1 v2 v3 a0 a1 a2 a3 a4 b0 b1 b2 b3 b4 c0 c1 c2 c3 c4 d0 d1 d2 d3 d4 q0 q1 q2 q3 q4 _ _ _ none news _ _ ?B ?F ?X ?N ?T ?h1 ?h2 ?h3 ?nY ?n3 ?nY3 ?hE ?ret
  case hst => rfl
  case hb => rfl
  case B => assumption
  case F => exact Fh
  case N => exact (Mine.news_app (Mine.news_pick Nh [5, 0, 1, 2, 3, 4, 6, 7, 8, 9, 10, 11, 12, 13]) (Mine.news_drop Nh 14))
  case X => assumption
  case T => assumption
  case h1 => k_asm
  case h2 => k_asm
  case h3 => k_asm
  case nY => exact Mine.all_cons (Nat.ne_of_lt y0) (Mine.all_cons (Nat.ne_of_lt y1) (Mine.all_cons (Nat.ne_of_lt y2) (Mine.all_cons (Nat.ne_of_lt y3) (Mine.all_cons (Nat.ne_of_lt y5) (Mine.all_cons (Nat.ne_of_lt y6) (Mine.all_cons (Nat.ne_of_lt y7) (Mine.all_cons (Nat.ne_of_lt y8) (Mine.all_cons (Nat.ne_of_lt y9) (Mine.all_cons (Nat.ne_of_lt y10) (Mine.all_cons (Nat.ne_of_lt y11) (Mine.all_cons (Nat.ne_of_lt y12) fun p hp => Nat.ne_of_lt (Mine.allLt_mem hA p hp))))))))))))
  case n3 =>
    refine Mine.all_cons ?_ (Mine.all_cons ?_ (Mine.all_cons ?_ (Mine.all_cons ?_ (Mine.all_cons (Nat.ne_of_lt (Nat.lt_succ_self _)) (Mine.all_cons (Nat.ne_of_lt (Nat.lt_succ_of_lt (Nat.lt_succ_self _))) fun p hp => Mine.lt3 (hL p hp))))))
    all_goals
      show @Ne Nat _ _
      omega
  case nY3 =>
    show @Ne Nat _ _
    omega
  case hE => passes_own
  case ret =>
    intro m' x0 x1 x2 h2 tk2 hm' F2 N2
    clear Fh Nh
    rw [Mine.setv hm'] at F2
    (repeat' (first | first | (k_unfold; (try dsimp only)) | (k_end; wrow_close) | (walk1; (try dsimp only)) | (dsimp only; walk1) | (leave1; walk_say "STEP leave1"; try dsimp only) | fail "no step"))
    with_reducible rename Fr h₀ L _ m => Fz
    with_reducible rename News h₀ L _ _ => Nz
    exact hret _ _ _ _ _ _ Fz (Mine.news_app (Mine.news_pick Nz [0]) (Mine.news_drop Nz 7)) hAll
theorem Mine.st14 : ∀ (w : World) (mean : ExcName → Option Value) (mg mb : Str → Option Value) (st : Stmt) (sc : Scope) (hst : Mine.lawAt 14 = some (st, sc)) (fa : Addr) (cdv : Value)
   (base h₀ : Heap) (L : Addr) (m : Str → Option Value) (s : Shared) (Q : Flow → Shared → Prop) (E : Value → Shared → Prop) (R R0 R1 R2 R3 P : Addr) (o3 o5 : Obj) (v0 v1 v2 v3 : Int) (a0 a1 a2 a3 a4 b0 b1 b2 b3 b4 c0 c1 c2 c3 c4 d0 d1 d2 d3 d4 q0 q1 q2 q3 q4 : Tok) (news : List (Addr × Obj))
   (B : Below callerA base [] h₀) (F : Fr h₀ L s.heap m) (X : (Mine.hd.heap_1 w.params).In h₀) (N : News h₀ L s.heap ((R, Mine.rowsObj R0 R1 R2 R3) :: (R3, (LCg.lst [.int (Mine.bitI v3 0) d0, .int (Mine.bitI v3 1) d1, .int (Mine.bitI v3 2) d2, .int (Mine.bitI v3 3) d3, .int (Mine.bitI v3 4) d4])) :: (R2, (LCg.lst [.int (Mine.bitI v2 0) c0, .int (Mine.bitI v2 1) c1, .int (Mine.bitI v2 2) c2, .int (Mine.bitI v2 3) c3, .int (Mine.bitI v2 4) c4])) :: (R1, (LCg.lst [.int (Mine.bitI v1 0) b0, .int (Mine.bitI v1 1) b1, .int (Mine.bitI v1 2) b2, .int (Mine.bitI v1 3) b3, .int (Mine.bitI v1 4) b4])) :: (R0, (LCg.lst [.int (Mine.bitI v0 0) a0, .int (Mine.bitI v0 1) a1, .int (Mine.bitI v0 2) a2, .int (Mine.bitI v0 3) a3, .int (Mine.bitI v0 4) a4])) :: (P, Mine.pricesObj q0 q1 q2 q3 q4) :: (L + 1 + 1 + 1 + 1 + 1, o5) :: (L + 1 + 1 + 1, o3) :: news)) (T : Top Mine.hd.view_1 (looseW Mine.hd.view_1 []) mean mg mb h₀) (h3 : o3.data = .cell (some (.ref P))) (h5 : o5.data = .cell (some (.ref R)))
   (hret : ∀ (Y : Addr) (x0 x1 x2 : Tok) (h' : Heap) (tk' : Tok), AllLt Y ((R, Mine.rowsObj R0 R1 R2 R3) :: (R3, (LCg.lst [.int (Mine.bitI v3 0) d0, .int (Mine.bitI v3 1) d1, .int (Mine.bitI v3 2) d2, .int (Mine.bitI v3 3) d3, .int (Mine.bitI v3 4) d4])) :: (R2, (LCg.lst [.int (Mine.bitI v2 0) c0, .int (Mine.bitI v2 1) c1, .int (Mine.bitI v2 2) c2, .int (Mine.bitI v2 3) c3, .int (Mine.bitI v2 4) c4])) :: (R1, (LCg.lst [.int (Mine.bitI v1 0) b0, .int (Mine.bitI v1 1) b1, .int (Mine.bitI v1 2) b2, .int (Mine.bitI v1 3) b3, .int (Mine.bitI v1 4) b4])) :: (R0, (LCg.lst [.int (Mine.bitI v0 0) a0, .int (Mine.bitI v0 1) a1, .int (Mine.bitI v0 2) a2, .int (Mine.bitI v0 3) a3, .int (Mine.bitI v0 4) a4])) :: (P, Mine.pricesObj q0 q1 q2 q3 q4) :: (L + 1 + 1 + 1 + 1 + 1, o5) :: (L + 1 + 1 + 1, o3) :: news) → Fr h₀ L h' (fun y => if y = Str.ofString "parted" then some (.ref Y) else m y) → News h₀ L h' ((Y, LCg.lst [.int (Mine.partI v0 v1 v2 v3 true true false false) x0, .int (Mine.partI v0 v1 v2 v3 true false true false) x1, .int (Mine.partI v0 v1 v2 v3 true false false true) x2]) :: (R, Mine.rowsObj R0 R1 R2 R3) :: (R3, (LCg.lst [.int (Mine.bitI v3 0) d0, .int (Mine.bitI v3 1) d1, .int (Mine.bitI v3 2) d2, .int (Mine.bitI v3 3) d3, .int (Mine.bitI v3 4) d4])) :: (R2, (LCg.lst [.int (Mine.bitI v2 0) c0, .int (Mine.bitI v2 1) c1, .int (Mine.bitI v2 2) c2, .int (Mine.bitI v2 3) c3, .int (Mine.bitI v2 4) c4])) :: (R1, (LCg.lst [.int (Mine.bitI v1 0) b0, .int (Mine.bitI v1 1) b1, .int (Mine.bitI v1 2) b2, .int (Mine.bitI v1 3) b3, .int (Mine.bitI v1 4) b4])) :: (R0, (LCg.lst [.int (Mine.bitI v0 0) a0, .int (Mine.bitI v0 1) a1, .int (Mine.bitI v0 2) a2, .int (Mine.bitI v0 3) a3, .int (Mine.bitI v0 4) a4])) :: (P, Mine.pricesObj q0 q1 q2 q3 q4) :: (L + 1 + 1 + 1 + 1 + 1, o5) :: (L + 1 + 1 + 1, o3) :: news) → Q .next { s with heap := h', toks := tk' }),
   wpAny (model PySem.Challenge.rw_to0016_01.row.prog w) (callerA.deeper (envOfC (Str.ofString "law") sc L fa cdv)) (exec st (envOfC (Str.ofString "law") sc L fa cdv)) Q E s := by
  k_fill
  k_with_none
  intro w mean mg mb st sc hst fa cdv base h₀ L m s Q E R R0 R1 R2 R3 P o3 o5 v0 v1 v2 v3 a0 a1 a2 a3 a4 b0 b1 b2 b3 b4 c0 c1 c2 c3 c4 d0 d1 d2 d3 d4 q0 q1 q2 q3 q4 news B F X N T h3 h5 hret
  have e := Option.some.inj (hst.symm.trans (rfl : Mine.lawAt 14 = some _))
  clear hst
  cases e
  (repeat' (first | ((fail_if_success (with_reducible show wpAny _ _ (call (Value.ref 105) _ _) _ _ _)); first | (k_unfold; (try dsimp only)) | (k_end; wrow_close) | (walk1; (try dsimp only)) | (dsimp only; walk1) | (leave1; walk_say "STEP leave1"; try dsimp only)) | fail "no step"))
  refine' Mine.partC w mean mg mb R R0 R1 R2 R3 P v0 v1 v2 v3 a0 a1 a2 a3 a4 b0 b1 b2 b3 b4 c0 c1 c2 c3 c4 d0 d1 d2 d3 d4 q0 q1 q2 q3 q4 _ _ _ _ _ base h₀ L m _ ((L + 1 + 1 + 1 + 1 + 1, o5) :: (L + 1 + 1 + 1, o3) :: news) _ _ ?B ?F ?X ?N ?T ?hk ?ret
  case B => exact B
  case F => with_reducible assumption
  case X => exact X
  case N => with_reducible assumption
  case T => exact T
  case hk => rfl
  case ret =>
    intro Y x0 x1 x2 h' tk' F' N' hlt
    (repeat' (first | first | (k_unfold; (try dsimp only)) | (k_end; wrow_close) | (walk1; (try dsimp only)) | (dsimp only; walk1) | (leave1; walk_say "STEP leave1"; try dsimp only) | fail "no step"))
    with_reducible rename Fr h₀ L _ _ => Fz
    with_reducible rename News h₀ L _ _ => Nz
    exact hret _ _ _ _ _ _ hlt Fz Nz
theorem Mine.st15 : ∀ (w : World) (mean : ExcName → Option Value) (mg mb : Str → Option Value) (st : Stmt) (sc : Scope) (hst : Mine.lawAt 15 = some (st, sc)) (fa : Addr) (cdv : Value)
   (base h₀ : Heap) (L : Addr) (m : Str → Option Value) (s : Shared) (Q : Flow → Shared → Prop) (E : Value → Shared → Prop) (D : Addr) (x y z : Int) (ta tb tc : Tok) (news : List (Addr × Obj))
   (B : Below callerA base [] h₀) (F : Fr h₀ L s.heap (fun y => if y = Str.ofString "sums" then some (.ref D) else m y)) (X : (Mine.hd.heap_1 w.params).In h₀) (N : News h₀ L s.heap ((D, listOf #[.int x ta, .int y tb, .int z tc] 0) :: news)) (T : Top Mine.hd.view_1 (looseW Mine.hd.view_1 []) mean mg mb h₀) (hx : 0 ≤ x ∧ x ≤ 16) (hy : 0 ≤ y ∧ y ≤ 16) (hz : 0 ≤ z ∧ z ≤ 16)
   (hret : ∀ (ta' tb' tc' : Tok) (h' : Heap) (tk' : Tok), Fr h₀ L h' (fun u => if u = Str.ofString "value" then some (.int (Mine.maxI x y z) tc') else if u = Str.ofString "share" then some (.float (Mine.satF x y z) tb') else if u = Str.ofString "hue" then some (.float (Mine.hueF x y z) ta') else if u = Str.ofString "sums" then some (.ref D) else m u) → News h₀ L h' ((D, listOf #[.int x ta, .int y tb, .int z tc] 0) :: news) → Q .next { s with heap := h', toks := tk' }),
   wpAny (model PySem.Challenge.rw_to0016_01.row.prog w) (callerA.deeper (envOfC (Str.ofString "law") sc L fa cdv)) (exec st (envOfC (Str.ofString "law") sc L fa cdv)) Q E s := by
  k_fill
  k_with_none
  intro w mean mg mb st sc hst fa cdv base h₀ L m s Q E D x y z ta tb tc news B F X N T hx hy hz hret
  have e := Option.some.inj (hst.symm.trans (rfl : Mine.lawAt 15 = some _))
  clear hst
  cases e
  obtain ⟨hp, gs, dr, tks, oss⟩ := s
  dsimp only at F N ⊢
  (repeat' (first | ((fail_if_success (with_reducible show wpAny _ _ (call (Value.ref 72) _ _) _ _ _)); first | (k_unfold; (try dsimp only)) | (k_end; wrow_close) | (walk1; (try dsimp only)) | (dsimp only; walk1) | (leave1; walk_say "STEP leave1"; try dsimp only)) | fail "no step"))
  (k_dflt (refine' Mine.rgbC ?B ?F ?X ?N ?T ?hk ?hdp ?hu ?r ?g ?b ?_; (case B => k_asm); (case F => k_asm); (case X => k_asm); (case N => k_asm); (case T => k_asm); (case hk => exact rfl); (case hdp => ktr_room); (case hu => ktr_units); (case r => assumption); (case g => assumption); (case b => assumption)); intro D9 ta9 tb9 tc9 h9 tk9 F9 N9 l9; (try dsimp only); (try k_lt l9); (try k_sweep))
  (repeat' (first | first | (k_unfold; (try dsimp only)) | (k_end; wrow_close) | (walk1; (try dsimp only)) | (dsimp only; walk1) | (leave1; walk_say "STEP leave1"; try dsimp only) | fail "no step"))
  with_reducible rename Fr h₀ L _ _ => Fz
  with_reducible rename News h₀ L _ _ => Nz
  exact hret _ _ _ _ _ Fz (fun p hp => Nz p (.tail _ hp))


theorem Mine.st16 : ∀ (w : World) (mean : ExcName → Option Value) (mg mb : Str → Option Value) (st : Stmt) (sc : Scope) (hst : Mine.lawAt 16 = some (st, sc)) (fa : Addr) (cdv : Value)
   (base h₀ : Heap) (L : Addr) (m : Str → Option Value) (s : Shared) (Q : Flow → Shared → Prop) (E : Value → Shared → Prop) (D : Addr) (x y z : Int) (ta tb tc : Tok) (news : List (Addr × Obj))
   (B : Below callerA base [] h₀) (F : Fr h₀ L s.heap (fun y => if y = Str.ofString "parted" then some (.ref D) else m y)) (X : (Mine.hd.heap_1 w.params).In h₀) (N : News h₀ L s.heap ((D, LCg.lst [.int x ta, .int y tb, .int z tc]) :: news)) (T : Top Mine.hd.view_1 (looseW Mine.hd.view_1 []) mean mg mb h₀) (hx : 0 ≤ x ∧ x ≤ 16) (hy : 0 ≤ y ∧ y ≤ 16) (hz : 0 ≤ z ∧ z ≤ 16)
   (hret : ∀ (ta' tb' tc' : Tok) (h' : Heap) (tk' : Tok), Fr h₀ L h' (fun u => if u = Str.ofString "light" then some (.int (Mine.maxI x y z) tc') else if u = Str.ofString "depth" then some (.float (Mine.satF x y z) tb') else if u = Str.ofString "tint" then some (.float (Mine.hueF x y z) ta') else if u = Str.ofString "parted" then some (.ref D) else m u) → News h₀ L h' ((D, LCg.lst [.int x ta, .int y tb, .int z tc]) :: news) → Q .next { s with heap := h', toks := tk' }),
   wpAny (model PySem.Challenge.rw_to0016_01.row.prog w) (callerA.deeper (envOfC (Str.ofString "law") sc L fa cdv)) (exec st (envOfC (Str.ofString "law") sc L fa cdv)) Q E s := by
  k_fill
  k_with_none
  intro w mean mg mb st sc hst fa cdv base h₀ L m s Q E D x y z ta tb tc news B F X N T hx hy hz hret
  have e := Option.some.inj (hst.symm.trans (rfl : Mine.lawAt 16 = some _))
  clear hst
  cases e
  obtain ⟨hp, gs, dr, tks, oss⟩ := s
  dsimp only at F N ⊢
  (repeat' (first | ((fail_if_success (with_reducible show wpAny _ _ (call (Value.ref 72) _ _) _ _ _)); first | (k_unfold; (try dsimp only)) | (k_end; wrow_close) | (walk1; (try dsimp only)) | (dsimp only; walk1) | (leave1; walk_say "STEP leave1"; try dsimp only)) | fail "no step"))
  (k_dflt (refine' Mine.rgbC ?B ?F ?X ?N ?T ?hk ?hdp ?hu ?r ?g ?b ?_; (case B => k_asm); (case F => k_asm); (case X => k_asm); (case N => k_asm); (case T => k_asm); (case hk => exact rfl); (case hdp => ktr_room); (case hu => ktr_units); (case r => assumption); (case g => assumption); (case b => assumption)); intro D9 ta9 tb9 tc9 h9 tk9 F9 N9 l9; (try dsimp only); (try k_lt l9); (try k_sweep))
  (repeat' (first | first | (k_unfold; (try dsimp only)) | (k_end; wrow_close) | (walk1; (try dsimp only)) | (dsimp only; walk1) | (leave1; walk_say "STEP leave1"; try dsimp only) | fail "no step"))
  with_reducible rename Fr h₀ L _ _ => Fz
  with_reducible rename News h₀ L _ _ => Nz
  exact hret _ _ _ _ _ Fz (fun p hp => Nz p (.tail _ hp))
theorem Mine.st17 : ∀ (w : World) (mean : ExcName → Option Value) (mg mb : Str → Option Value) (st : Stmt) (sc : Scope) (hst : Mine.lawAt 17 = some (st, sc)) (fa : Addr) (cdv : Value)
   (base h₀ : Heap) (L : Addr) (m : Str → Option Value) (s : Shared) (Q : Flow → Shared → Prop) (E : Value → Shared → Prop) (x y : UInt64) (ta tb : Tok) (news : List (Addr × Obj))
   (B : Below callerA base [] h₀) (F : Fr h₀ L s.heap (fun u => if u = Str.ofString "hue" then some (.float x ta) else if u = Str.ofString "tint" then some (.float y tb) else m u)) (X : (Mine.hd.heap_1 w.params).In h₀) (N : News h₀ L s.heap news) (T : Top Mine.hd.view_1 (looseW Mine.hd.view_1 []) mean mg mb h₀) (hx : Mine.HueOk x) (hy : Mine.HueOk y)
   (hret : ∀ (h' : Heap) (tk' : Tok), Fr h₀ L h' (fun u => if u = Str.ofString "hue" then some (.float x ta) else if u = Str.ofString "tint" then some (.float y tb) else m u) → News h₀ L h' news → Q .next { s with heap := h', toks := tk' }),
   wpAny (model PySem.Challenge.rw_to0016_01.row.prog w) (callerA.deeper (envOfC (Str.ofString "law") sc L fa cdv)) (exec st (envOfC (Str.ofString "law") sc L fa cdv)) Q E s := by
  k_fill
  k_with_none
  intro w mean mg mb st sc hst fa cdv base h₀ L m s Q E x y ta tb news B F X N T hx hy hret
  have e := Option.some.inj (hst.symm.trans (rfl : Mine.lawAt 17 = some _))
  clear hst
  cases e
  obtain ⟨hp, gs, dr, tks, oss⟩ := s
  dsimp only at F N ⊢
  (repeat' (first | first | (k_unfold; (try dsimp only)) | (k_end; wrow_close) | (walk1; (try dsimp only)) | (dsimp only; walk1) | (leave1; walk_say "STEP leave1"; try dsimp only) | fail "no step"))
  all_goals first
    | exact Mine.hue_lo hx hy (by with_reducible assumption)
    | exact Mine.hue_hi hx hy (by with_reducible assumption)
    | (with_reducible rename Fr h₀ L _ _ => Fz
       with_reducible rename News h₀ L _ _ => Nz
       exact hret _ _ Fz Nz)
theorem Mine.turn18i : ∀ (w : World) (mean : ExcName → Option Value) (mg mb : Str → Option Value) (elt : Expr) (sc csc : Scope) (st : Stmt) (hst : Mine.lawAt 18 = some (st, sc)) (hel : Mine.comp18 18 = some (elt, csc)) (fa : Addr) (cdv : Value)
   (base h₀ : Heap) (L : Addr) (m : Str → Option Value) (s : Shared) (pv : Int) (tv : Tok) (n : Int) (Q : Value → Shared → Prop) (E : Value → Shared → Prop)
   (I : Addr) (oI : Obj) (C : Addr) (oC : Obj) (D : Addr) (ys : List Value) (m₂ : Str → Option Value) (h : Heap) (tk : Tok) (news : List (Addr × Obj))
   (B : Below callerA base [] h₀) (hC : LCg.NsObj oC m₂) (hx : m₂ (Str.ofString "part") = some (.int pv tv)) (F : Fr h₀ L h m) (X : (Mine.hd.heap_1 w.params).In h₀)
   (N : News h₀ L h ((I, oI) :: (C, oC) :: (D, LCg.lst ys) :: news)) (T : Top Mine.hd.view_1 (looseW Mine.hd.view_1 []) mean mg mb h₀) (hR : Mine.RoundIs (.i pv) n)
   (hret : ∀ y h' tk', (∃ t, y = Value.int n t) → Fr h₀ L h' m → News h₀ L h' ((I, oI) :: (C, oC) :: (D, LCg.lst ys) :: news) → Q y { s with heap := h', toks := tk' }),
   wpAny (model PySem.Challenge.rw_to0016_01.row.prog w) (callerA.deeper (envOfC (Str.ofString "law") sc L fa cdv)) (eval elt (compEnvC csc [] C (envOfC (Str.ofString "law") sc L fa cdv))) Q E { s with heap := h, toks := tk } := by
  k_fill
  k_with_none
  intro w mean mg mb elt sc csc st hst hel fa cdv base h₀ L m s pv tv n Q E I oI C oC D ys m₂ h tk news B hC hx F X N T hR hret
  have e := Option.some.inj (hst.symm.trans (rfl : Mine.lawAt 18 = some _))
  clear hst
  cases e
  have e := Option.some.inj (hel.symm.trans (rfl : Mine.comp18 18 = some _))
  clear hel
  cases e
  (repeat' (first | first | (k_unfold; (try dsimp only)) | (k_end; wrow_close) | (walk1; (try dsimp only)) | (dsimp only; walk1) | (leave1; walk_say "STEP leave1"; try dsimp only) | fail "no step"))
  exact hret _ _ _ ⟨_, congrArg (fun x => Value.int x _) hR⟩ F N


theorem Mine.turn18f : ∀ (w : World) (mean : ExcName → Option Value) (mg mb : Str → Option Value) (elt : Expr) (sc csc : Scope) (st : Stmt) (hst : Mine.lawAt 18 = some (st, sc)) (hel : Mine.comp18 18 = some (elt, csc)) (fa : Addr) (cdv : Value)
   (base h₀ : Heap) (L : Addr) (m : Str → Option Value) (s : Shared) (pv : UInt64) (tv : Tok) (n : Int) (Q : Value → Shared → Prop) (E : Value → Shared → Prop)
   (I : Addr) (oI : Obj) (C : Addr) (oC : Obj) (D : Addr) (ys : List Value) (m₂ : Str → Option Value) (h : Heap) (tk : Tok) (news : List (Addr × Obj))
   (B : Below callerA base [] h₀) (hC : LCg.NsObj oC m₂) (hx : m₂ (Str.ofString "part") = some (.float pv tv)) (F : Fr h₀ L h m) (X : (Mine.hd.heap_1 w.params).In h₀)
   (N : News h₀ L h ((I, oI) :: (C, oC) :: (D, LCg.lst ys) :: news)) (T : Top Mine.hd.view_1 (looseW Mine.hd.view_1 []) mean mg mb h₀) (hR : Mine.RoundIs (.f pv) n)
   (hret : ∀ y h' tk', (∃ t, y = Value.int n t) → Fr h₀ L h' m → News h₀ L h' ((I, oI) :: (C, oC) :: (D, LCg.lst ys) :: news) → Q y { s with heap := h', toks := tk' }),
   wpAny (model PySem.Challenge.rw_to0016_01.row.prog w) (callerA.deeper (envOfC (Str.ofString "law") sc L fa cdv)) (eval elt (compEnvC csc [] C (envOfC (Str.ofString "law") sc L fa cdv))) Q E { s with heap := h, toks := tk } := by
  k_fill
  k_with_none
  intro w mean mg mb elt sc csc st hst hel fa cdv base h₀ L m s pv tv n Q E I oI C oC D ys m₂ h tk news B hC hx F X N T hR hret
  have e := Option.some.inj (hst.symm.trans (rfl : Mine.lawAt 18 = some _))
  clear hst
  cases e
  have e := Option.some.inj (hel.symm.trans (rfl : Mine.comp18 18 = some _))
  clear hel
  cases e
  (repeat' (first | first | (k_unfold; (try dsimp only)) | (k_end; wrow_close) | (walk1; (try dsimp only)) | (dsimp only; walk1) | (leave1; walk_say "STEP leave1"; try dsimp only) | fail "no step"))
  all_goals first
    | exact Mine.ff_no hR.1 (by with_reducible assumption)
    | exact Mine.ff_no hR.2.1 (by with_reducible assumption)
    | exact hret _ _ _ ⟨_, congrArg (fun x => Value.int x _) hR.2.2⟩ F N


theorem Mine.turn18 : ∀ (w : World) (mean : ExcName → Option Value) (mg mb : Str → Option Value) (elt : Expr) (sc csc : Scope) (st : Stmt) (hst : Mine.lawAt 18 = some (st, sc)) (hel : Mine.comp18 18 = some (elt, csc)) (fa : Addr) (cdv : Value)
   (base h₀ : Heap) (L : Addr) (m : Str → Option Value) (s : Shared) (p : Mine.PV) (v : Value) (n : Int) (Q : Value → Shared → Prop) (E : Value → Shared → Prop)
   (I : Addr) (oI : Obj) (C : Addr) (oC : Obj) (D : Addr) (ys : List Value) (m₂ : Str → Option Value) (h : Heap) (tk : Tok) (news : List (Addr × Obj))
   (B : Below callerA base [] h₀) (hC : LCg.NsObj oC m₂) (hx : m₂ (Str.ofString "part") = some v) (F : Fr h₀ L h m) (X : (Mine.hd.heap_1 w.params).In h₀)
   (N : News h₀ L h ((I, oI) :: (C, oC) :: (D, LCg.lst ys) :: news)) (T : Top Mine.hd.view_1 (looseW Mine.hd.view_1 []) mean mg mb h₀) (hk : Mine.Kin p v) (hR : Mine.RoundIs p n)
   (hret : ∀ y h' tk', (∃ t, y = Value.int n t) → Fr h₀ L h' m → News h₀ L h' ((I, oI) :: (C, oC) :: (D, LCg.lst ys) :: news) → Q y { s with heap := h', toks := tk' }),
   wpAny (model PySem.Challenge.rw_to0016_01.row.prog w) (callerA.deeper (envOfC (Str.ofString "law") sc L fa cdv)) (eval elt (compEnvC csc [] C (envOfC (Str.ofString "law") sc L fa cdv))) Q E { s with heap := h, toks := tk } := by
  intro w mean mg mb elt sc csc st hst hel fa cdv base h₀ L m s p v n Q E I oI C oC D ys m₂ h tk news B hC hx F X N T hk hR hret
  cases hk with
  | i pv tv => exact Mine.turn18i w mean mg mb elt sc csc st hst hel fa cdv base h₀ L m s pv tv n Q E I oI C oC D ys m₂ h tk news B hC hx F X N T hR hret
  | f pv tv => exact Mine.turn18f w mean mg mb elt sc csc st hst hel fa cdv base h₀ L m s pv tv n Q E I oI C oC D ys m₂ h tk news B hC hx F X N T hR hret

theorem Mine.turn18r : ∀ (w : World) (mean : ExcName → Option Value) (mg mb : Str → Option Value) (elt : Expr) (sc csc : Scope) (st : Stmt) (hst : Mine.lawAt 18 = some (st, sc)) (hel : Mine.comp18r 18 = some (elt, csc)) (fa : Addr) (cdv : Value)
   (base h₀ : Heap) (L : Addr) (m : Str → Option Value) (s : Shared) (pv : Int) (tv : Tok) (n : Int) (Q : Value → Shared → Prop) (E : Value → Shared → Prop)
   (I : Addr) (oI : Obj) (C : Addr) (oC : Obj) (D : Addr) (ys : List Value) (m₂ : Str → Option Value) (h : Heap) (tk : Tok) (news : List (Addr × Obj))
   (B : Below callerA base [] h₀) (hC : LCg.NsObj oC m₂) (hx : m₂ (Str.ofString "side") = some (.int pv tv)) (F : Fr h₀ L h m) (X : (Mine.hd.heap_1 w.params).In h₀)
   (N : News h₀ L h ((I, oI) :: (C, oC) :: (D, LCg.lst ys) :: news)) (T : Top Mine.hd.view_1 (looseW Mine.hd.view_1 []) mean mg mb h₀) (hR : Mine.RoundIs (.i pv) n)
   (hret : ∀ y h' tk', (∃ t, y = Value.int n t) → Fr h₀ L h' m → News h₀ L h' ((I, oI) :: (C, oC) :: (D, LCg.lst ys) :: news) → Q y { s with heap := h', toks := tk' }),
   wpAny (model PySem.Challenge.rw_to0016_01.row.prog w) (callerA.deeper (envOfC (Str.ofString "law") sc L fa cdv)) (eval elt (compEnvC csc [] C (envOfC (Str.ofString "law") sc L fa cdv))) Q E { s with heap := h, toks := tk } := by
  k_fill
  k_with_none
  intro w mean mg mb elt sc csc st hst hel fa cdv base h₀ L m s pv tv n Q E I oI C oC D ys m₂ h tk news B hC hx F X N T hR hret
  have e := Option.some.inj (hst.symm.trans (rfl : Mine.lawAt 18 = some _))
  clear hst
  cases e
  have e := Option.some.inj (hel.symm.trans (rfl : Mine.comp18r 18 = some _))
  clear hel
  cases e
  (repeat' (first | first | (k_unfold; (try dsimp only)) | (k_end; wrow_close) | (walk1; (try dsimp only)) | (dsimp only; walk1) | (leave1; walk_say "STEP leave1"; try dsimp only) | fail "no step"))
  exact hret _ _ _ ⟨_, congrArg (fun x => Value.int x _) hR⟩ F N


theorem Mine.st18 : ∀ (w : World) (mean : ExcName → Option Value) (mg mb : Str → Option Value) (st : Stmt) (sc : Scope) (hst : Mine.lawAt 18 = some (st, sc)) (fa : Addr) (cdv : Value)
   (base h₀ : Heap) (L : Addr) (m : Str → Option Value) (s : Shared) (Q : Flow → Shared → Prop) (E : Value → Shared → Prop) (x y : UInt64) (v a b c : Int) (D : Addr) (ta tb tc t0 t1 t2 : Tok) (news : List (Addr × Obj))
   (B : Below callerA base [] h₀) (F : Fr h₀ L s.heap (fun u => if u = Str.ofString "hue" then some (.float x ta) else if u = Str.ofString "depth" then some (.float y tb) else if u = Str.ofString "light" then some (.int v tc) else if u = Str.ofString "parted" then some (.ref D) else m u)) (X : (Mine.hd.heap_1 w.params).In h₀) (N : News h₀ L s.heap ((D, LCg.lst [.int a t0, .int b t1, .int c t2]) :: news)) (T : Top Mine.hd.view_1 (looseW Mine.hd.view_1 []) mean mg mb h₀) (hv : 0 ≤ v ∧ v ≤ 16) (hz : Mine.HsvOk (Mine.zF x)) (r0 : Mine.RoundIs (Mine.hsvL (Mine.zF x) y v).1 (1024 * a)) (r1 : Mine.RoundIs (Mine.hsvL (Mine.zF x) y v).2.1 (1024 * b)) (r2 : Mine.RoundIs (Mine.hsvL (Mine.zF x) y v).2.2 (1024 * c))
   (hret : ∀ (h' : Heap) (tk' : Tok), Fr h₀ L h' (fun u => if u = Str.ofString "hue" then some (.float x ta) else if u = Str.ofString "depth" then some (.float y tb) else if u = Str.ofString "light" then some (.int v tc) else if u = Str.ofString "parted" then some (.ref D) else m u) → News h₀ L h' ((D, LCg.lst [.int a t0, .int b t1, .int c t2]) :: news) → Q .next { s with heap := h', toks := tk' }),
   wpAny (model PySem.Challenge.rw_to0016_01.row.prog w) (callerA.deeper (envOfC (Str.ofString "law") sc L fa cdv)) (exec st (envOfC (Str.ofString "law") sc L fa cdv)) Q E s := by
  k_fill
  k_with_none
  intro w mean mg mb st sc hst fa cdv base h₀ L m s Q E x y v a b c D ta tb tc t0 t1 t2 news B F X N T hv hz r0 r1 r2 hret
  have e := Option.some.inj (hst.symm.trans (rfl : Mine.lawAt 18 = some _))
  clear hst
  cases e
  obtain ⟨hp, gs, dr, tks, oss⟩ := s
  dsimp only at F N hret ⊢
  have hst' : Mine.lawAt 18 = some _ := rfl
  (repeat' (first | ((fail_if_success (with_reducible show wpAny _ _ (eval (Expr.ListComp _ _ _ _) _) _ _ _)); first | (k_unfold; (try dsimp only)) | (k_end; wrow_close) | (walk1; (try dsimp only)) | (dsimp only; walk1) | (leave1; walk_say "STEP leave1"; try dsimp only)) | fail "no step"))
  refine' Mine.comp_tuple (h₀ := h₀) (L := L) (by k_asm) ?a ?b ?c ?d ?e ?f ?_
  case a => rfl
  case b => decide
  case c => rfl
  case d => decide
  case e => rfl
  case f => rfl
  (repeat' (first | ((fail_if_success (with_reducible show wpAny _ _ (call (Value.ref 79) _ _) _ _ _)); first | (k_unfold; (try dsimp only)) | (k_end; wrow_close) | (walk1; (try dsimp only)) | (dsimp only; walk1) | (leave1; walk_say "STEP leave1"; try dsimp only)) | fail "no step"))
  (k_dflt (refine' Mine.hsvC ?B ?F ?X ?N ?T ?hk ?hdp ?hu ?hv ?hn ?hi ?hb ?_; (case B => k_asm); (case F => k_asm); (case X => k_asm); (case N => k_asm); (case T => k_asm); (case hk => exact rfl); (case hdp => ktr_room); (case hu => ktr_units); (case hv => assumption); (case hn => exact Mine.HsvOk.hn (by assumption)); (case hi => exact Mine.HsvOk.hi (by assumption)); (case hb => exact Mine.HsvOk.hb (by assumption))); intro D9 va9 vb9 vc9 h9 tk9 ka9 kb9 kc9 F9 N9 l9; (try dsimp only); (try k_lt l9); (try k_sweep))
  (repeat' (first | ((fail_if_success (with_reducible show Exists _)); first | (k_unfold; (try dsimp only)) | (k_end; wrow_close) | (walk1; (try dsimp only)) | (dsimp only; walk1) | (leave1; walk_say "STEP leave1"; try dsimp only)) | fail "no step"))
  with_reducible rename Fr h₀ L _ _ => Fz
  with_reducible rename News h₀ L _ _ => Nz
  (with_reducible rename Mine.Kin (Prod.fst (Mine.hsvL _ _ _)) _ => ka)
  (with_reducible rename Mine.Kin (Prod.fst (Prod.snd (Mine.hsvL _ _ _))) _ => kb)
  (with_reducible rename Mine.Kin (Prod.snd (Prod.snd (Mine.hsvL _ _ _))) _ => kc)
  refine ⟨_, _, _, rfl, Fz, Nz, ⟨_, .head _, rfl, _, rfl⟩, Nat.le_of_ble_eq_true rfl, fun g => ?_⟩
  refine Mine.rest_all (R := fun i y => ∃ t, y = Value.int ([1024 * a, 1024 * b, 1024 * c].getD i 0) t) ⟨_, .head _, rfl, _, rfl⟩ ?t ?_
  case t =>
    intro i hi v' I oI C oC D' ys m₂ h tk Q' E' hv' hC hx F' N' off ne hret'
    have hk : ∃ p, Mine.Kin p v' ∧ Mine.RoundIs p ([1024 * a, 1024 * b, 1024 * c].getD i 0) := by
      rcases (by have : i < 3 := hi; omega : i = 0 ∨ i = 1 ∨ i = 2) with rfl | rfl | rfl
      · exact ⟨_, (Option.some.inj hv') ▸ ka, r0⟩
      · exact ⟨_, (Option.some.inj hv') ▸ kb, r1⟩
      · exact ⟨_, (Option.some.inj hv') ▸ kc, r2⟩
    obtain ⟨p, hk, hR⟩ := hk
    exact Mine.turn18 w _ _ _ _ _ _ _ hst' rfl fa cdv base h₀ L _ _ p v' _ Q' E' I oI C oC D' ys m₂ h tk _ B hC hx F' X N' T hk hR hret'
  intro ys hys hyr
  obtain ⟨y0, y1, y2, rfl⟩ := Mine.three_ints hys hyr
  (repeat' (first | ((fail_if_success (with_reducible show LCg.CompRest _ _ _ _ _ _ _ _ _ _ _ _ _ _ _ _ _ _ _)); first | (k_unfold; (try dsimp only)) | (k_end; wrow_close) | (walk1; (try dsimp only)) | (dsimp only; walk1) | (leave1; walk_say "STEP leave1"; try dsimp only)) | fail "no step"))
  clear ka kb kc r0 r1 r2
  refine Mine.rest_all (R := fun i y => ∃ t, y = Value.int ([1024 * a, 1024 * b, 1024 * c].getD i 0) t) (.inr ⟨_, by k_mem, rfl, _, rfl⟩) ?t ?_
  case t =>
    intro i hi v' I oI C oC D' ys m₂ h tk Q' E' hv' hC hx F' N' off ne hret'
    have hk : ∃ u t, v' = Value.int u t ∧ 1024 * u = [1024 * a, 1024 * b, 1024 * c].getD i 0 := by
      rcases (by have : i < 3 := hi; omega : i = 0 ∨ i = 1 ∨ i = 2) with rfl | rfl | rfl
      · exact ⟨_, _, (Option.some.inj hv').symm, rfl⟩
      · exact ⟨_, _, (Option.some.inj hv').symm, rfl⟩
      · exact ⟨_, _, (Option.some.inj hv').symm, rfl⟩
    obtain ⟨pv, tv, rfl, hR⟩ := hk
    exact Mine.turn18r w _ _ _ _ _ _ _ hst' rfl fa cdv base h₀ L _ _ pv tv _ Q' E' I oI C oC D' ys m₂ h tk _ B hC hx F' X N' T hR hret'
  intro ys hys hyr
  obtain ⟨z0, z1, z2, rfl⟩ := Mine.three_ints hys hyr
  (repeat' (first | first | (k_unfold; (try dsimp only)) | (k_end; wrow_close) | (walk1; (try dsimp only)) | (dsimp only; walk1) | (leave1; walk_say "STEP leave1"; try dsimp only) | fail "no step"))
  with_reducible rename Fr h₀ L _ _ => Fy
  with_reducible rename News h₀ L _ _ => Ny
  exact hret _ _ Fy (fun p hp => Ny p (.tail _ (.tail _ (.tail _ hp))))
theorem Mine.turn19i : ∀ (w : World) (mean : ExcName → Option Value) (mg mb : Str → Option Value) (elt : Expr) (sc csc : Scope) (st : Stmt) (hst : Mine.lawAt 19 = some (st, sc)) (hel : Mine.comp18 19 = some (elt, csc)) (fa : Addr) (cdv : Value)
   (base h₀ : Heap) (L : Addr) (m : Str → Option Value) (s : Shared) (pv : Int) (tv : Tok) (n : Int) (Q : Value → Shared → Prop) (E : Value → Shared → Prop)
   (I : Addr) (oI : Obj) (C : Addr) (oC : Obj) (D : Addr) (ys : List Value) (m₂ : Str → Option Value) (h : Heap) (tk : Tok) (news : List (Addr × Obj))
   (B : Below callerA base [] h₀) (hC : LCg.NsObj oC m₂) (hx : m₂ (Str.ofString "part") = some (.int pv tv)) (F : Fr h₀ L h m) (X : (Mine.hd.heap_1 w.params).In h₀)
   (N : News h₀ L h ((I, oI) :: (C, oC) :: (D, LCg.lst ys) :: news)) (T : Top Mine.hd.view_1 (looseW Mine.hd.view_1 []) mean mg mb h₀) (hR : Mine.RoundIs (.i pv) n)
   (hret : ∀ y h' tk', (∃ t, y = Value.int n t) → Fr h₀ L h' m → News h₀ L h' ((I, oI) :: (C, oC) :: (D, LCg.lst ys) :: news) → Q y { s with heap := h', toks := tk' }),
   wpAny (model PySem.Challenge.rw_to0016_01.row.prog w) (callerA.deeper (envOfC (Str.ofString "law") sc L fa cdv)) (eval elt (compEnvC csc [] C (envOfC (Str.ofString "law") sc L fa cdv))) Q E { s with heap := h, toks := tk } := by
  k_fill
  k_with_none
  intro w mean mg mb elt sc csc st hst hel fa cdv base h₀ L m s pv tv n Q E I oI C oC D ys m₂ h tk news B hC hx F X N T hR hret
  have e := Option.some.inj (hst.symm.trans (rfl : Mine.lawAt 19 = some _))
  clear hst
  cases e
  have e := Option.some.inj (hel.symm.trans (rfl : Mine.comp18 19 = some _))
  clear hel
  cases e
  (repeat' (first | first | (k_unfold; (try dsimp only)) | (k_end; wrow_close) | (walk1; (try dsimp only)) | (dsimp only; walk1) | (leave1; walk_say "STEP leave1"; try dsimp only) | fail "no step"))
  exact hret _ _ _ ⟨_, congrArg (fun x => Value.int x _) hR⟩ F N


theorem Mine.turn19f : ∀ (w : World) (mean : ExcName → Option Value) (mg mb : Str → Option Value) (elt : Expr) (sc csc : Scope) (st : Stmt) (hst : Mine.lawAt 19 = some (st, sc)) (hel : Mine.comp18 19 = some (elt, csc)) (fa : Addr) (cdv : Value)
   (base h₀ : Heap) (L : Addr) (m : Str → Option Value) (s : Shared) (pv : UInt64) (tv : Tok) (n : Int) (Q : Value → Shared → Prop) (E : Value → Shared → Prop)
   (I : Addr) (oI : Obj) (C : Addr) (oC : Obj) (D : Addr) (ys : List Value) (m₂ : Str → Option Value) (h : Heap) (tk : Tok) (news : List (Addr × Obj))
   (B : Below callerA base [] h₀) (hC : LCg.NsObj oC m₂) (hx : m₂ (Str.ofString "part") = some (.float pv tv)) (F : Fr h₀ L h m) (X : (Mine.hd.heap_1 w.params).In h₀)
   (N : News h₀ L h ((I, oI) :: (C, oC) :: (D, LCg.lst ys) :: news)) (T : Top Mine.hd.view_1 (looseW Mine.hd.view_1 []) mean mg mb h₀) (hR : Mine.RoundIs (.f pv) n)
   (hret : ∀ y h' tk', (∃ t, y = Value.int n t) → Fr h₀ L h' m → News h₀ L h' ((I, oI) :: (C, oC) :: (D, LCg.lst ys) :: news) → Q y { s with heap := h', toks := tk' }),
   wpAny (model PySem.Challenge.rw_to0016_01.row.prog w) (callerA.deeper (envOfC (Str.ofString "law") sc L fa cdv)) (eval elt (compEnvC csc [] C (envOfC (Str.ofString "law") sc L fa cdv))) Q E { s with heap := h, toks := tk } := by
  k_fill
  k_with_none
  intro w mean mg mb elt sc csc st hst hel fa cdv base h₀ L m s pv tv n Q E I oI C oC D ys m₂ h tk news B hC hx F X N T hR hret
  have e := Option.some.inj (hst.symm.trans (rfl : Mine.lawAt 19 = some _))
  clear hst
  cases e
  have e := Option.some.inj (hel.symm.trans (rfl : Mine.comp18 19 = some _))
  clear hel
  cases e
  (repeat' (first | first | (k_unfold; (try dsimp only)) | (k_end; wrow_close) | (walk1; (try dsimp only)) | (dsimp only; walk1) | (leave1; walk_say "STEP leave1"; try dsimp only) | fail "no step"))
  all_goals first
    | exact Mine.ff_no hR.1 (by with_reducible assumption)
    | exact Mine.ff_no hR.2.1 (by with_reducible assumption)
    | exact hret _ _ _ ⟨_, congrArg (fun x => Value.int x _) hR.2.2⟩ F N


theorem Mine.turn19 : ∀ (w : World) (mean : ExcName → Option Value) (mg mb : Str → Option Value) (elt : Expr) (sc csc : Scope) (st : Stmt) (hst : Mine.lawAt 19 = some (st, sc)) (hel : Mine.comp18 19 = some (elt, csc)) (fa : Addr) (cdv : Value)
   (base h₀ : Heap) (L : Addr) (m : Str → Option Value) (s : Shared) (p : Mine.PV) (v : Value) (n : Int) (Q : Value → Shared → Prop) (E : Value → Shared → Prop)
   (I : Addr) (oI : Obj) (C : Addr) (oC : Obj) (D : Addr) (ys : List Value) (m₂ : Str → Option Value) (h : Heap) (tk : Tok) (news : List (Addr × Obj))
   (B : Below callerA base [] h₀) (hC : LCg.NsObj oC m₂) (hx : m₂ (Str.ofString "part") = some v) (F : Fr h₀ L h m) (X : (Mine.hd.heap_1 w.params).In h₀)
   (N : News h₀ L h ((I, oI) :: (C, oC) :: (D, LCg.lst ys) :: news)) (T : Top Mine.hd.view_1 (looseW Mine.hd.view_1 []) mean mg mb h₀) (hk : Mine.Kin p v) (hR : Mine.RoundIs p n)
   (hret : ∀ y h' tk', (∃ t, y = Value.int n t) → Fr h₀ L h' m → News h₀ L h' ((I, oI) :: (C, oC) :: (D, LCg.lst ys) :: news) → Q y { s with heap := h', toks := tk' }),
   wpAny (model PySem.Challenge.rw_to0016_01.row.prog w) (callerA.deeper (envOfC (Str.ofString "law") sc L fa cdv)) (eval elt (compEnvC csc [] C (envOfC (Str.ofString "law") sc L fa cdv))) Q E { s with heap := h, toks := tk } := by
  intro w mean mg mb elt sc csc st hst hel fa cdv base h₀ L m s p v n Q E I oI C oC D ys m₂ h tk news B hC hx F X N T hk hR hret
  cases hk with
  | i pv tv => exact Mine.turn19i w mean mg mb elt sc csc st hst hel fa cdv base h₀ L m s pv tv n Q E I oI C oC D ys m₂ h tk news B hC hx F X N T hR hret
  | f pv tv => exact Mine.turn19f w mean mg mb elt sc csc st hst hel fa cdv base h₀ L m s pv tv n Q E I oI C oC D ys m₂ h tk news B hC hx F X N T hR hret

theorem Mine.turn19r : ∀ (w : World) (mean : ExcName → Option Value) (mg mb : Str → Option Value) (elt : Expr) (sc csc : Scope) (st : Stmt) (hst : Mine.lawAt 19 = some (st, sc)) (hel : Mine.comp18r 19 = some (elt, csc)) (fa : Addr) (cdv : Value)
   (base h₀ : Heap) (L : Addr) (m : Str → Option Value) (s : Shared) (pv : Int) (tv : Tok) (n : Int) (Q : Value → Shared → Prop) (E : Value → Shared → Prop)
   (I : Addr) (oI : Obj) (C : Addr) (oC : Obj) (D : Addr) (ys : List Value) (m₂ : Str → Option Value) (h : Heap) (tk : Tok) (news : List (Addr × Obj))
   (B : Below callerA base [] h₀) (hC : LCg.NsObj oC m₂) (hx : m₂ (Str.ofString "side") = some (.int pv tv)) (F : Fr h₀ L h m) (X : (Mine.hd.heap_1 w.params).In h₀)
   (N : News h₀ L h ((I, oI) :: (C, oC) :: (D, LCg.lst ys) :: news)) (T : Top Mine.hd.view_1 (looseW Mine.hd.view_1 []) mean mg mb h₀) (hR : Mine.RoundIs (.i pv) n)
   (hret : ∀ y h' tk', (∃ t, y = Value.int n t) → Fr h₀ L h' m → News h₀ L h' ((I, oI) :: (C, oC) :: (D, LCg.lst ys) :: news) → Q y { s with heap := h', toks := tk' }),
   wpAny (model PySem.Challenge.rw_to0016_01.row.prog w) (callerA.deeper (envOfC (Str.ofString "law") sc L fa cdv)) (eval elt (compEnvC csc [] C (envOfC (Str.ofString "law") sc L fa cdv))) Q E { s with heap := h, toks := tk } := by
  k_fill
  k_with_none
  intro w mean mg mb elt sc csc st hst hel fa cdv base h₀ L m s pv tv n Q E I oI C oC D ys m₂ h tk news B hC hx F X N T hR hret
  have e := Option.some.inj (hst.symm.trans (rfl : Mine.lawAt 19 = some _))
  clear hst
  cases e
  have e := Option.some.inj (hel.symm.trans (rfl : Mine.comp18r 19 = some _))
  clear hel
  cases e
  (repeat' (first | first | (k_unfold; (try dsimp only)) | (k_end; wrow_close) | (walk1; (try dsimp only)) | (dsimp only; walk1) | (leave1; walk_say "STEP leave1"; try dsimp only) | fail "no step"))
  exact hret _ _ _ ⟨_, congrArg (fun x => Value.int x _) hR⟩ F N


theorem Mine.st19 : ∀ (w : World) (mean : ExcName → Option Value) (mg mb : Str → Option Value) (st : Stmt) (sc : Scope) (hst : Mine.lawAt 19 = some (st, sc)) (fa : Addr) (cdv : Value)
   (base h₀ : Heap) (L : Addr) (m : Str → Option Value) (s : Shared) (Q : Flow → Shared → Prop) (E : Value → Shared → Prop) (x y : UInt64) (v a b c : Int) (D : Addr) (ta tb tc t0 t1 t2 : Tok) (news : List (Addr × Obj))
   (B : Below callerA base [] h₀) (F : Fr h₀ L s.heap (fun u => if u = Str.ofString "tint" then some (.float x ta) else if u = Str.ofString "share" then some (.float y tb) else if u = Str.ofString "value" then some (.int v tc) else if u = Str.ofString "sums" then some (.ref D) else m u)) (X : (Mine.hd.heap_1 w.params).In h₀) (N : News h₀ L s.heap ((D, listOf #[.int a t0, .int b t1, .int c t2] 0) :: news)) (T : Top Mine.hd.view_1 (looseW Mine.hd.view_1 []) mean mg mb h₀) (hv : 0 ≤ v ∧ v ≤ 16) (hz : Mine.HsvOk (Mine.zF x)) (r0 : Mine.RoundIs (Mine.hsvL (Mine.zF x) y v).1 (1024 * a)) (r1 : Mine.RoundIs (Mine.hsvL (Mine.zF x) y v).2.1 (1024 * b)) (r2 : Mine.RoundIs (Mine.hsvL (Mine.zF x) y v).2.2 (1024 * c))
   (hret : ∀ (h' : Heap) (tk' : Tok), Fr h₀ L h' (fun u => if u = Str.ofString "tint" then some (.float x ta) else if u = Str.ofString "share" then some (.float y tb) else if u = Str.ofString "value" then some (.int v tc) else if u = Str.ofString "sums" then some (.ref D) else m u) → News h₀ L h' ((D, listOf #[.int a t0, .int b t1, .int c t2] 0) :: news) → Q .next { s with heap := h', toks := tk' }),
   wpAny (model PySem.Challenge.rw_to0016_01.row.prog w) (callerA.deeper (envOfC (Str.ofString "law") sc L fa cdv)) (exec st (envOfC (Str.ofString "law") sc L fa cdv)) Q E s := by
  k_fill
  k_with_none
  intro w mean mg mb st sc hst fa cdv base h₀ L m s Q E x y v a b c D ta tb tc t0 t1 t2 news B F X N T hv hz r0 r1 r2 hret
  have e := Option.some.inj (hst.symm.trans (rfl : Mine.lawAt 19 = some _))
  clear hst
  cases e
  obtain ⟨hp, gs, dr, tks, oss⟩ := s
  dsimp only at F N hret ⊢
  have hst' : Mine.lawAt 19 = some _ := rfl
  (repeat' (first | ((fail_if_success (with_reducible show wpAny _ _ (eval (Expr.ListComp _ _ _ _) _) _ _ _)); first | (k_unfold; (try dsimp only)) | (k_end; wrow_close) | (walk1; (try dsimp only)) | (dsimp only; walk1) | (leave1; walk_say "STEP leave1"; try dsimp only)) | fail "no step"))
  refine' Mine.comp_tuple (h₀ := h₀) (L := L) (by k_asm) ?a ?b ?c ?d ?e ?f ?_
  case a => rfl
  case b => decide
  case c => rfl
  case d => decide
  case e => rfl
  case f => rfl
  (repeat' (first | ((fail_if_success (with_reducible show wpAny _ _ (call (Value.ref 79) _ _) _ _ _)); first | (k_unfold; (try dsimp only)) | (k_end; wrow_close) | (walk1; (try dsimp only)) | (dsimp only; walk1) | (leave1; walk_say "STEP leave1"; try dsimp only)) | fail "no step"))
  (k_dflt (refine' Mine.hsvC ?B ?F ?X ?N ?T ?hk ?hdp ?hu ?hv ?hn ?hi ?hb ?_; (case B => k_asm); (case F => k_asm); (case X => k_asm); (case N => k_asm); (case T => k_asm); (case hk => exact rfl); (case hdp => ktr_room); (case hu => ktr_units); (case hv => assumption); (case hn => exact Mine.HsvOk.hn (by assumption)); (case hi => exact Mine.HsvOk.hi (by assumption)); (case hb => exact Mine.HsvOk.hb (by assumption))); intro D9 va9 vb9 vc9 h9 tk9 ka9 kb9 kc9 F9 N9 l9; (try dsimp only); (try k_lt l9); (try k_sweep))
  (repeat' (first | ((fail_if_success (with_reducible show Exists _)); first | (k_unfold; (try dsimp only)) | (k_end; wrow_close) | (walk1; (try dsimp only)) | (dsimp only; walk1) | (leave1; walk_say "STEP leave1"; try dsimp only)) | fail "no step"))
  with_reducible rename Fr h₀ L _ _ => Fz
  with_reducible rename News h₀ L _ _ => Nz
  (with_reducible rename Mine.Kin (Prod.fst (Mine.hsvL _ _ _)) _ => ka)
  (with_reducible rename Mine.Kin (Prod.fst (Prod.snd (Mine.hsvL _ _ _))) _ => kb)
  (with_reducible rename Mine.Kin (Prod.snd (Prod.snd (Mine.hsvL _ _ _))) _ => kc)
  refine ⟨_, _, _, rfl, Fz, Nz, ⟨_, .head _, rfl, _, rfl⟩, Nat.le_of_ble_eq_true rfl, fun g => ?_⟩
  refine Mine.rest_all (R := fun i y => ∃ t, y = Value.int ([1024 * a, 1024 * b, 1024 * c].getD i 0) t) ⟨_, .head _, rfl, _, rfl⟩ ?t ?_
  case t =>
    intro i hi v' I oI C oC D' ys m₂ h tk Q' E' hv' hC hx F' N' off ne hret'
    have hk : ∃ p, Mine.Kin p v' ∧ Mine.RoundIs p ([1024 * a, 1024 * b, 1024 * c].getD i 0) := by
      rcases (by have : i < 3 := hi; omega : i = 0 ∨ i = 1 ∨ i = 2) with rfl | rfl | rfl
      · exact ⟨_, (Option.some.inj hv') ▸ ka, r0⟩
      · exact ⟨_, (Option.some.inj hv') ▸ kb, r1⟩
      · exact ⟨_, (Option.some.inj hv') ▸ kc, r2⟩
    obtain ⟨p, hk, hR⟩ := hk
    exact Mine.turn19 w _ _ _ _ _ _ _ hst' rfl fa cdv base h₀ L _ _ p v' _ Q' E' I oI C oC D' ys m₂ h tk _ B hC hx F' X N' T hk hR hret'
  intro ys hys hyr
  obtain ⟨y0, y1, y2, rfl⟩ := Mine.three_ints hys hyr
  (repeat' (first | ((fail_if_success (with_reducible show LCg.CompRest _ _ _ _ _ _ _ _ _ _ _ _ _ _ _ _ _ _ _)); first | (k_unfold; (try dsimp only)) | (k_end; wrow_close) | (walk1; (try dsimp only)) | (dsimp only; walk1) | (leave1; walk_say "STEP leave1"; try dsimp only)) | fail "no step"))
  clear ka kb kc r0 r1 r2
  refine Mine.rest_all (R := fun i y => ∃ t, y = Value.int ([1024 * a, 1024 * b, 1024 * c].getD i 0) t) (.inr ⟨_, by k_mem, rfl, _, rfl⟩) ?t ?_
  case t =>
    intro i hi v' I oI C oC D' ys m₂ h tk Q' E' hv' hC hx F' N' off ne hret'
    have hk : ∃ u t, v' = Value.int u t ∧ 1024 * u = [1024 * a, 1024 * b, 1024 * c].getD i 0 := by
      rcases (by have : i < 3 := hi; omega : i = 0 ∨ i = 1 ∨ i = 2) with rfl | rfl | rfl
      · exact ⟨_, _, (Option.some.inj hv').symm, rfl⟩
      · exact ⟨_, _, (Option.some.inj hv').symm, rfl⟩
      · exact ⟨_, _, (Option.some.inj hv').symm, rfl⟩
    obtain ⟨pv, tv, rfl, hR⟩ := hk
    exact Mine.turn19r w _ _ _ _ _ _ _ hst' rfl fa cdv base h₀ L _ _ pv tv _ Q' E' I oI C oC D' ys m₂ h tk _ B hC hx F' X N' T hR hret'
  intro ys hys hyr
  obtain ⟨z0, z1, z2, rfl⟩ := Mine.three_ints hys hyr
  (repeat' (first | first | (k_unfold; (try dsimp only)) | (k_end; wrow_close) | (walk1; (try dsimp only)) | (dsimp only; walk1) | (leave1; walk_say "STEP leave1"; try dsimp only) | fail "no step"))
  with_reducible rename Fr h₀ L _ _ => Fy
  with_reducible rename News h₀ L _ _ => Ny
  exact hret _ _ Fy (fun p hp => Ny p (.tail _ (.tail _ (.tail _ hp))))
theorem Mine.turn22 : ∀ (w : World) (mean : ExcName → Option Value) (mg mb : Str → Option Value) (elt : Expr) (sc csc : Scope) (st : Stmt) (hst : Mine.lawAt 22 = some (st, sc)) (hel : Mine.comp22 = some (elt, csc)) (fa : Addr) (cdv : Value)
   (base h₀ : Heap) (L : Addr) (m : Str → Option Value) (s : Shared) (a b : Int) (ta tb : Tok) (o7 o8 oDD o2 : Obj) (DD : Addr) (Q : Value → Shared → Prop) (E : Value → Shared → Prop)
   (i : Nat) (hi : i < 3) (v : Value) (I : Addr) (oI : Obj) (C : Addr) (oC : Obj) (D : Addr) (ys : List Value) (m₂ : Str → Option Value) (h : Heap) (tk : Tok)
   (B : Below callerA base [] h₀) (hv : ∃ t, v = .int (0 + (i : Int)) t) (hC : LCg.NsObj oC m₂) (hx : m₂ (Str.ofString "k") = some v) (F : Fr h₀ L h m) (X : (Mine.hd.heap_1 w.params).In h₀)
   (N : News h₀ L h [(I, oI), (C, oC), (D, LCg.lst ys), (L + 1 + 1 + 1 + 1 + 1 + 1 + 1 + 1, o8), (L + 1 + 1 + 1 + 1 + 1 + 1 + 1, o7), (DD, oDD), (L + 1 + 1, o2)]) (T : Top Mine.hd.view_1 (looseW Mine.hd.view_1 []) mean mg mb h₀)
   (h7 : o7.data = .cell (some (.int a ta))) (h8 : o8.data = .cell (some (.int b tb))) (hb : 0 ≤ b ∧ b ≤ 100)
   (hret : ∀ y h' tk', (∃ t, y = Value.str (Mine.codeD a b i) t) → Fr h₀ L h' m → News h₀ L h' [(I, oI), (C, oC), (D, LCg.lst ys), (L + 1 + 1 + 1 + 1 + 1 + 1 + 1 + 1, o8), (L + 1 + 1 + 1 + 1 + 1 + 1 + 1, o7), (DD, oDD), (L + 1 + 1, o2)] → Q y { s with heap := h', toks := tk' }),
   wpAny (model PySem.Challenge.rw_to0016_01.row.prog w) (callerA.deeper (envOfC (Str.ofString "law") sc L fa cdv)) (eval elt (compEnvC csc [(Str.ofString "by", L + 1 + 1 + 1 + 1 + 1 + 1 + 1 + 1), (Str.ofString "at", L + 1 + 1 + 1 + 1 + 1 + 1 + 1)] C (envOfC (Str.ofString "law") sc L fa cdv))) Q E { s with heap := h, toks := tk } := by
  k_fill
  k_with_none
  intro w mean mg mb elt sc csc st hst hel fa cdv base h₀ L m s a b ta tb o7 o8 oDD o2 DD Q E i hi v I oI C oC D ys m₂ h tk B hv hC hx F X N T h7 h8 hb hret
  have e := Option.some.inj (hst.symm.trans (rfl : Mine.lawAt 22 = some _))
  clear hst
  cases e
  have e := Option.some.inj (hel.symm.trans (rfl : Mine.comp22 = some _))
  clear hel
  cases e
  obtain ⟨t, rfl⟩ := hv
  (repeat' (first | first | (k_unfold; (try dsimp only)) | (k_end; wrow_close) | (walk1; (try dsimp only)) | (dsimp only; walk1) | (leave1; walk_say "STEP leave1"; try dsimp only) | fail "no step"))
  all_goals with_reducible rename Fr h₀ L _ _ => Fz
  all_goals with_reducible rename News h₀ L _ _ => Nz
  all_goals first
    | exact hret _ _ _ ⟨_, congrArg (fun x => Value.str x _) (Mine.code_hit (by with_reducible assumption))⟩ Fz (fun p hp => Nz p (.tail _ hp))
    | exact hret _ _ _ ⟨_, congrArg (fun x => Value.str x _) (Mine.code_miss (by with_reducible assumption))⟩ Fz (fun p hp => Nz p (.tail _ hp))

theorem Mine.st22 : ∀ (w : World) (mean : ExcName → Option Value) (mg mb : Str → Option Value) (st : Stmt) (sc : Scope) (hst : Mine.lawAt 22 = some (st, sc)) (fa : Addr) (cdv : Value)
   (base h₀ : Heap) (L : Addr) (m : Str → Option Value) (s : Shared) (Q : Flow → Shared → Prop) (E : Value → Shared → Prop) (o7 o8 oDD o2 : Obj) (DD : Addr) (a b : Int) (ta tb : Tok)
   (B : Below callerA base [] h₀) (F : Fr h₀ L s.heap m) (X : (Mine.hd.heap_1 w.params).In h₀) (N : News h₀ L s.heap [(L + 1 + 1 + 1 + 1 + 1 + 1 + 1 + 1, o8), (L + 1 + 1 + 1 + 1 + 1 + 1 + 1, o7), (DD, oDD), (L + 1 + 1, o2)]) (T : Top Mine.hd.view_1 (looseW Mine.hd.view_1 []) mean mg mb h₀) (h7 : o7.data = .cell (some (.int a ta))) (h8 : o8.data = .cell (some (.int b tb))) (hb : 0 ≤ b ∧ b ≤ 100)
   (hret : ∀ (t : Tok) (h' : Heap) (tk' : Tok), Fr h₀ L h' (fun y => if y = Str.ofString "code" then some (.str (Txt.join (Str.ofString "") [Mine.codeD a b 0, Mine.codeD a b 1, Mine.codeD a b 2]) t) else m y) → News h₀ L h' [(L + 1 + 1 + 1 + 1 + 1 + 1 + 1 + 1, o8), (L + 1 + 1 + 1 + 1 + 1 + 1 + 1, o7), (DD, oDD), (L + 1 + 1, o2)] → Q .next { s with heap := h', toks := tk' }),
   wpAny (model PySem.Challenge.rw_to0016_01.row.prog w) (callerA.deeper (envOfC (Str.ofString "law") sc L fa cdv)) (exec st (envOfC (Str.ofString "law") sc L fa cdv)) Q E s := by
  k_fill
  k_with_none
  intro w mean mg mb st sc hst fa cdv base h₀ L m s Q E o7 o8 oDD o2 DD a b ta tb B F X N T h7 h8 hb hret
  have e := Option.some.inj (hst.symm.trans (rfl : Mine.lawAt 22 = some _))
  clear hst
  cases e
  have hst' : Mine.lawAt 22 = some _ := rfl
  have c0 := Mine.code_len a b 0
  have c1 := Mine.code_len a b 1
  have c2 := Mine.code_len a b 2
  (repeat' (first | ((fail_if_success (with_reducible show LCg.CompRest _ _ _ _ _ _ _ _ _ _ _ _ _ _ _ _ _ _ _)); first | (k_unfold; (try dsimp only)) | (k_end; wrow_close) | (walk1; (try dsimp only)) | (dsimp only; walk1) | (leave1; walk_say "STEP leave1"; try dsimp only)) | fail "no step"))
  refine Mine.rest_all (R := fun i y => ∃ t, y = Value.str (Mine.codeD a b i) t) trivial (fun i hi v I oI C oC D ys m₂ h tk Q E' hv hC hx F N off ne hret => Mine.turn22 w _ _ _ _ _ _ _ hst' rfl fa cdv base h₀ L m _ a b ta tb o7 o8 oDD o2 DD Q E' i hi v I oI C oC D ys m₂ h tk B hv hC hx F X N T h7 h8 hb hret) ?_
  intro ys hys hyr
  obtain ⟨t0, t1, t2, rfl⟩ := Mine.three_strs hys hyr
  (repeat' (first | first | (k_unfold; (try dsimp only)) | (k_end; wrow_close) | (walk1; (try dsimp only)) | (dsimp only; walk1) | (leave1; walk_say "STEP leave1"; try dsimp only) | fail "no step"))
  with_reducible rename Fr h₀ L _ _ => Fz
  with_reducible rename News h₀ L _ _ => Nz
  exact hret _ _ _ Fz (fun p hp => Nz p (.tail _ hp))
theorem Mine.st23 : ∀ (w : World) (mean : ExcName → Option Value) (mg mb : Str → Option Value) (st : Stmt) (sc : Scope) (hst : Mine.lawAt 23 = some (st, sc)) (fa : Addr) (cdv : Value)
   (base h₀ : Heap) (L : Addr) (m : Str → Option Value) (s : Shared) (Q : Flow → Shared → Prop) (E : Value → Shared → Prop) (d : Int) (code : Str) (tc tl tm ti : Tok) (news : List (Addr × Obj))
   (B : Below callerA base [] h₀) (F : Fr h₀ L s.heap (fun y => if y = Str.ofString "code" then some (.str code tc) else if y = Str.ofString "inner" then some (.str (Mine.innerS d) ti) else if y = Str.ofString "lead" then some (.str (Mine.leadS d) tl) else if y = Str.ofString "mark" then some (.str (Mine.markS d) tm) else m y)) (X : (Mine.hd.heap_1 w.params).In h₀) (N : News h₀ L s.heap news) (T : Top Mine.hd.view_1 (looseW Mine.hd.view_1 []) mean mg mb h₀) (hc : code.length ≤ 10)
   (hret : ∀ (S T0 T1 T2 T3 T4 T5 T6 T7 : Addr) (a0 b0 a1 b1 a2 b2 a3 b3 a4 b4 a5 b5 a6 b6 a7 b7 : Tok) (h' : Heap) (tk' : Tok), Fr h₀ L h' (fun y => if y = Str.ofString "spoilt" then some (.ref S) else if y = Str.ofString "code" then some (.str code tc) else if y = Str.ofString "inner" then some (.str (Mine.innerS d) ti) else if y = Str.ofString "lead" then some (.str (Mine.leadS d) tl) else if y = Str.ofString "mark" then some (.str (Mine.markS d) tm) else m y) → News h₀ L h' ((S, Mine.spO T0 T1 T2 T3 T4 T5 T6 T7) :: (T7, Mine.pairO "value" a7 (Mine.sx7 d) b7) :: (T6, Mine.pairO "proto" a6 (Mine.sx6 d) b6) :: (T5, Mine.pairO "proto" a5 (Mine.sx5 d) b5) :: (T4, Mine.pairO "proto" a4 (Mine.sx4 d) b4) :: (T3, Mine.pairO "proto" a3 (Mine.sx3 d) b3) :: (T2, Mine.pairO "proto" a2 (Mine.sx2 d) b2) :: (T1, Mine.pairO "proto" a1 (Mine.sx1 d) b1) :: (T0, Mine.pairO "reply" a0 (Mine.sx0 d code) b0) :: news) → Q .next { s with heap := h', toks := tk' }),
   wpAny (model PySem.Challenge.rw_to0016_01.row.prog w) (callerA.deeper (envOfC (Str.ofString "law") sc L fa cdv)) (exec st (envOfC (Str.ofString "law") sc L fa cdv)) Q E s := by
  k_fill
  k_with_none
  intro w mean mg mb st sc hst fa cdv base h₀ L m s Q E d code tc tl tm ti news B F X N T hc hret
  have e := Option.some.inj (hst.symm.trans (rfl : Mine.lawAt 23 = some _))
  clear hst
  cases e
  obtain ⟨hp, gs, dr, tks, oss⟩ := s
  dsimp only at F N hret ⊢
  obtain ⟨l1, l2, l3, l4, l5⟩ := Mine.lens d
  have hi := Mine.inner_len d
  (repeat' (first | first | (k_unfold; (try dsimp only)) | (k_end; wrow_close) | (walk1; (try dsimp only)) | (dsimp only; walk1) | (leave1; walk_say "STEP leave1"; try dsimp only) | fail "no step"))
  with_reducible rename Fr h₀ L _ _ => Fz
  with_reducible rename News h₀ L _ _ => Nz
  exact hret _ _ _ _ _ _ _ _ _ _ _ _ _ _ _ _ _ _ _ _ _ _ _ _ _ _ _ Fz Nz
local macro_rules | `(tactic| walk_at "subscriptTail") => `(tactic| (k_here; (with_reducible show wpAny _ _ (subscriptTail _ _ (Value.ref _) (Value.int (Int.fmod _ 8) _)) _ _ _); (refine' Mine.pick8 ?n ?m ?k ?p ?_; (case n => k_asm); (case m => k_mem); (case k => with_reducible assumption); (case p => with_reducible assumption))))
theorem Mine.st24 : ∀ (w : World) (mean : ExcName → Option Value) (mg mb : Str → Option Value) (st : Stmt) (sc : Scope) (hst : Mine.lawAt 24 = some (st, sc)) (fa : Addr) (cdv : Value)
   (base h₀ : Heap) (L : Addr) (m : Str → Option Value) (s : Shared) (S T0 T1 T2 T3 T4 T5 T6 T7 TJ D0 : Addr) (kd x : Str) (a b t0 t1 t2 t3 t4 t5 : Tok) (d0 d1 d2 d3 d4 d5 : Int) (o2 : Obj) (j : Nat) (news : List (Addr × Obj)) (Q : Flow → Shared → Prop) (E : Value → Shared → Prop)
   (B : Below callerA base [] h₀) (F : Fr h₀ L s.heap (fun y => if y = Str.ofString "spoilt" then some (.ref S) else m y)) (X : (Mine.hd.heap_1 w.params).In h₀)
   (N : News h₀ L s.heap ((S, Mine.spO T0 T1 T2 T3 T4 T5 T6 T7) :: (TJ, { cls := .type "tuple", data := .seq #[.str kd a, .str x b] }) :: (D0, Mine.sixList d0 d1 d2 d3 d4 d5 t0 t1 t2 t3 t4 t5) :: (L + 1 + 1, o2) :: news)) (T : Top Mine.hd.view_1 (looseW Mine.hd.view_1 []) mean mg mb h₀) (h2 : o2.data = .cell (some (.ref D0))) (hj : d5.fmod 8 = (j : Int)) (hp : [T0, T1, T2, T3, T4, T5, T6, T7][j]? = some TJ) (hx : x.length ≤ 100)
   (hcall : ∀ (s' : Shared) (news' : List (Addr × Obj)) (u : Tok) (Q' : Value → Shared → Prop) (m' : Str → Option Value), Fr h₀ L s'.heap m' → News h₀ L s'.heap news' →
     (∀ (D : Addr) (ta tb : Tok) (h' : Heap) (tk' : Nat), Fr h₀ L h' m' → News h₀ L h' ((D, { cls := .type "tuple", data := .seq #[.str kd ta, .str x tb] }) :: news') → AllLt D news' → Q' (.ref D) { s' with heap := h', toks := tk' }) →
     Mine.wpC (model PySem.Challenge.rw_to0016_01.row.prog w) (callerA.deeper (envOfC (Str.ofString "law") sc L fa cdv)) (call (.ref 100) [.str x u]) Q' E s')
   (hret : ∀ (h' : Heap) (tk' : Tok), Fr h₀ L h' (fun y => if y = Str.ofString "spoilt" then some (.ref S) else m y) → Q (.ret (.bool true)) { s with heap := h', toks := tk' }),
   Mine.wpC (model PySem.Challenge.rw_to0016_01.row.prog w) (callerA.deeper (envOfC (Str.ofString "law") sc L fa cdv)) (exec st (envOfC (Str.ofString "law") sc L fa cdv)) Q E s := by
  k_fill
  k_with_none
  intro w mean mg mb st sc hst fa cdv base h₀ L m s S T0 T1 T2 T3 T4 T5 T6 T7 TJ D0 kd x a b t0 t1 t2 t3 t4 t5 d0 d1 d2 d3 d4 d5 o2 j news Q E B F X N T h2 hj hp hx hcall hret
  have e := Option.some.inj (hst.symm.trans (rfl : Mine.lawAt 24 = some _))
  clear hst
  cases e
  have hj' : ([d0, d1, d2, d3, d4, d5].getD (Int.toNat 5) 0).fmod 8 = (j : Int) := hj
  refine Mine.wpC_Return (Mine.wpC_Compare (Mine.wpC_Call_Name ?_))
  (repeat' (first | first | (k_unfold; (try dsimp only)) | (k_end; wrow_close) | (walk1; (try dsimp only)) | (dsimp only; walk1) | (leave1; walk_say "STEP leave1"; try dsimp only) | fail "no step"))
  refine Mine.wpC_callWith_fn rfl (show ¬ (1 + 2 * 0 > 30) from by decide) ?_
  refine Mine.args1b ?_
  (repeat' (first | first | (k_unfold; (try dsimp only)) | (k_end; wrow_close) | (walk1; (try dsimp only)) | (dsimp only; walk1) | (leave1; walk_say "STEP leave1"; try dsimp only) | fail "no step"))
  with_reducible rename Fr h₀ L _ _ => F1
  with_reducible rename News h₀ L _ _ => N1
  refine ⟨⟨_, _, (X.keeps F1.keep) 100 _ rfl, rfl⟩, ?_⟩
  refine hcall _ _ _ _ _ F1 N1 fun D ta tb h' tk' F2 N2 hlt => ?_
  clear F1 N1 hcall
  replace hlt := Mine.allLt_mem hlt
  k_lt hlt
  (repeat' (first | first | (k_unfold; (try dsimp only)) | (k_end; wrow_close) | (walk1; (try dsimp only)) | (dsimp only; walk1) | (leave1; walk_say "STEP leave1"; try dsimp only) | fail "no step"))
  rw [markedBehindIn_of_false (by with_unfolding_all rfl)]
  (repeat' (first | first | (k_unfold; (try dsimp only)) | (k_end; wrow_close) | (walk1; (try dsimp only)) | (dsimp only; walk1) | (leave1; walk_say "STEP leave1"; try dsimp only) | fail "no step"))
  with_reducible rename Fr h₀ L _ _ => F3
  with_reducible rename News h₀ L _ _ => N3
  refine Mine.pair_same ⟨_, (N3 _ (.head _)).1, rfl, _, rfl⟩ ⟨_, (N3 _ (.tail _ (.tail _ (.head _)))).1, rfl, _, rfl⟩ (by ktr_units) ?_
  exact hret _ _ F3
end
theorem Mine.body : ∀ (w : World) (mean : ExcName → Option Value) (mg mb : Str → Option Value) (sts : List Stmt) (sc : Scope) (hlaw : Mine.lawDef = some (sts, sc)) (fa : Addr) (cdv : Value)
   (base h₀ : Heap) (L : Addr) (m : Str → Option Value) (s : Shared) (vs : List Value) (ns : List Int) (a : Addr) (o1 o2 o3 o4 o5 o6 o7 o8 : Obj) (v4 v6 v7 v8 : Option Value) (Q : Flow → Shared → Prop) (E : Value → Shared → Prop)
   (B : Below callerA base [] h₀) (F : Fr h₀ L s.heap m) (X : (Mine.hd.heap_1 w.params).In h₀) (N : News h₀ L s.heap [(L + 1 + 1 + 1 + 1 + 1 + 1 + 1 + 1, o8), (L + 1 + 1 + 1 + 1 + 1 + 1 + 1, o7), (L + 1 + 1 + 1 + 1 + 1 + 1, o6), (L + 1 + 1 + 1 + 1 + 1, o5), (L + 1 + 1 + 1 + 1, o4), (L + 1 + 1 + 1, o3), (L + 1 + 1, o2), (L + 1, o1)]) (T : Top Mine.hd.view_1 (looseW Mine.hd.view_1 []) mean mg mb h₀)
   (XB : (Mine.hd.heap_1 w.params).In base) (TB : Top Mine.hd.view_1 (looseW Mine.hd.view_1 []) mean mg mb base)
   (h1 : o1.data = .cell (some (.ref a))) (h2 : o2.data = .cell none) (h3 : o3.data = .cell none) (h4 : o4.data = .cell v4) (h5 : o5.data = .cell none) (h6 : o6.data = .cell v6) (h7 : o7.data = .cell v7) (h8 : o8.data = .cell v8)
   (hl : h₀.IsList a vs.toArray) (hI : IntsAre vs ns) (hlen : vs.length ≤ 63)
   (hE : PassesOwn (model PySem.Challenge.rw_to0016_01.row.prog w) (callerA.deeper (envOfC (Str.ofString "law") sc L fa cdv)) (envOfC (Str.ofString "law") sc L fa cdv) E)
   (hret : ∀ (m' : Str → Option Value) (h' : Heap) (tk' : Tok), Fr h₀ L h' m' → Q (.ret (.bool true)) { s with heap := h', toks := tk' }),
   Mine.wpC (model PySem.Challenge.rw_to0016_01.row.prog w) (callerA.deeper (envOfC (Str.ofString "law") sc L fa cdv)) (execs sts (envOfC (Str.ofString "law") sc L fa cdv)) Q E s := by
  intro w mean mg mb sts sc hlaw fa cdv base h₀ L m s vs ns a o1 o2 o3 o4 o5 o6 o7 o8 v4 v6 v7 v8 Q E B F X N T XB TB h1 h2 h3 h4 h5 h6 h7 h8 hl hI hlen hE hret
  obtain ⟨sm0, sm1, sm2, sm3, sm4, sm5, sm6, sm7, sm8, sm9, sm10, sm11, sm12, sm13, sm14, sm15, sm16, sm17, sm18, sm19, sm20, sm21, sm22, sm23, sm24, rfl, hs0, hs1, hs2, hs3, hs4, hs5, hs6, hs7, hs8, hs9, hs10, hs11, hs12, hs13, hs14, hs15, hs16, hs17, hs18, hs19, hs20, hs21, hs22, hs23, hs24⟩ := Mine.law_sts hlaw
  have hsk := Mine.law_kind hlaw
  clear hlaw
  obtain ⟨hp, gs, dr, tks, oss⟩ := s
  dsimp only at F N hret ⊢
  have n0 : Mine.Nd [(L + 1 + 1 + 1 + 1 + 1 + 1 + 1 + 1, o8), (L + 1 + 1 + 1 + 1 + 1 + 1 + 1, o7), (L + 1 + 1 + 1 + 1 + 1 + 1, o6), (L + 1 + 1 + 1 + 1 + 1, o5), (L + 1 + 1 + 1 + 1, o4), (L + 1 + 1 + 1, o3), (L + 1 + 1, o2), (L + 1, o1)] := by
    unfold Mine.Nd
    simp only [List.map_cons, List.map_nil, List.nodup_cons, List.mem_cons, List.not_mem_nil, or_false, not_or, not_false_eq_true, List.nodup_nil, and_true]
    refine ⟨?_, ?_, ?_, ?_, ?_, ?_, ?_⟩ <;> (try refine ⟨?_, ?_⟩) <;> (repeat' apply And.intro) <;> (show @Ne Nat _ _; omega)
  refine Mine.wpC_execs_append (a := [sm0, sm1, sm2, sm3, sm4, sm5, sm6, sm7, sm8, sm9, sm10, sm11, sm12, sm13, sm14, sm15, sm16, sm17, sm18, sm19, sm20, sm21, sm22, sm23]) (b := [sm24]) ?_
  refine wpAny_execs_cons ?_
  refine' Mine.st0 w mean mg mb _ _ hs0 fa cdv base h₀ L m _ vs ns a o1 o2 o3 o4 o5 o6 o7 o8 _ E ?B ?F ?X ?N ?T ?hS ?hD ?hl ?hI ?hlen ?hn ?ret0
  case B => exact B
  case X => exact X
  case T => exact T
  case F => exact F
  case N => exact N
  case hS => exact h1
  case hD => exact h2
  case hl => exact hl
  case hI => exact hI
  case hlen => exact hlen
  case hn => exact n0
  intro D0 o2' d0 d1 d2 d3 d4 d5 t0 t1 t2 t3 t4 t5 g0 k0 F0 N0 n1 e2
  dsimp only
  clear F N n0 hl hI hlen h1 h2
  refine wpAny_execs_cons ?_
  refine' Mine.st1 w mean mg mb _ _ hs1 fa cdv base h₀ L m _ o1 o2' o3 o4 o5 o6 o7 o8 _ E D0 _ ?B ?F ?X ?N ?T ?hn ?h3 ?ret1
  case B => exact B
  case X => exact X
  case T => exact T
  case F => exact F0
  case N => exact N0
  case hn => exact n1
  case h3 => exact h3
  intro P o3' q0 q1 q2 q3 q4 g1 k1 F1 N1 n2 e3
  dsimp only
  clear F0 N0 n1 h3
  refine wpAny_execs_cons ?_
  refine' Mine.st2 w mean mg mb _ _ hs2 fa cdv base h₀ L m _ o1 o2' o3' o4 o5 o6 o7 o8 _ E D0 P _ d0 d1 d2 d3 d4 d5 t0 t1 t2 t3 t4 t5 ?B ?F ?X ?N ?T ?hn ?h2 ?h5 ?ret2
  case B => exact B
  case X => exact X
  case T => exact T
  case F => exact F1
  case N => exact N1
  case hn => exact n2
  case h2 => exact e2
  case h5 => exact h5
  intro R R0 R1 R2 R3 p0 p1 p2 p3 o5' g2 k2 F2 N2 n3 e5 r0 r1 r2 r3
  dsimp only
  clear F1 N1 n2 h5
  have N3 : News h₀ L _ ((D0, Mine.sixList d0 d1 d2 d3 d4 d5 t0 t1 t2 t3 t4 t5) :: (L + 1 + 1, o2') :: (R, Mine.rowsObj R0 R1 R2 R3) :: (R3, p3) :: (R2, p2) :: (R1, p1) :: (R0, p0) :: (P, Mine.pricesObj q0 q1 q2 q3 q4) :: (L + 1 + 1 + 1 + 1 + 1 + 1 + 1 + 1, o8) :: (L + 1 + 1 + 1 + 1 + 1 + 1 + 1, o7) :: (L + 1 + 1 + 1 + 1 + 1 + 1, o6) :: (L + 1 + 1 + 1 + 1 + 1, o5') :: (L + 1 + 1 + 1 + 1, o4) :: (L + 1 + 1 + 1, o3') :: (L + 1, o1) :: []) := Mine.news_pick N2 [6, 13, 0, 1, 2, 3, 4, 5, 7, 8, 9, 10, 11, 12, 14]
  clear N2
  refine wpAny_execs_cons ?_
  refine' Mine.st3 w mean mg mb _ _ hs3 fa cdv base h₀ L _ _ o2' _ E D0 _ d0 d1 d2 d3 d4 d5 t0 t1 t2 t3 t4 t5 ?B ?F ?X ?N ?T ?h2 ?ret3
  case B => exact B
  case X => exact X
  case T => exact T
  case F => exact F2
  case N => exact N3
  case h2 => exact e2
  intro u3 g3 k3 F3 N4
  dsimp only
  clear F2 N3
  refine wpAny_execs_cons ?_
  refine' Mine.st4 w mean mg mb _ _ hs4 fa cdv base h₀ L _ _ o2' _ E D0 _ d0 d1 d2 d3 d4 d5 t0 t1 t2 t3 t4 t5 ?B ?F ?X ?N ?T ?h2 ?ret4
  case B => exact B
  case X => exact X
  case T => exact T
  case F => exact F3
  case N => exact N4
  case h2 => exact e2
  intro u4 g4 k4 F4 N5
  dsimp only
  clear F3 N4
  refine wpAny_execs_cons ?_
  refine' Mine.st5 w mean mg mb _ _ hs5 fa cdv base h₀ L _ _ o2' _ E D0 _ d0 d1 d2 d3 d4 d5 t0 t1 t2 t3 t4 t5 ?B ?F ?X ?N ?T ?h2 ?ret5
  case B => exact B
  case X => exact X
  case T => exact T
  case F => exact F4
  case N => exact N5
  case h2 => exact e2
  intro u5 g5 k5 F5 N6
  dsimp only
  clear F4 N5
  refine wpAny_execs_cons ?_
  refine' Mine.st6 w mean mg mb _ _ hs6 fa cdv base h₀ L _ _ o2' _ E D0 _ d0 d1 d2 d3 d4 d5 t0 t1 t2 t3 t4 t5 ?B ?F ?X ?N ?T ?h2 ?ret6
  case B => exact B
  case X => exact X
  case T => exact T
  case F => exact F5
  case N => exact N6
  case h2 => exact e2
  intro u6 g6 k6 F6 N7
  dsimp only
  clear F5 N6
  refine wpAny_execs_cons ?_
  refine' Mine.st7 w mean mg mb _ _ hs7 fa cdv base h₀ L _ _ o2' _ E D0 _ d0 d1 d2 d3 d4 d5 t0 t1 t2 t3 t4 t5 ?B ?F ?X ?N ?T ?h2 ?ret7
  case B => exact B
  case X => exact X
  case T => exact T
  case F => exact F6
  case N => exact N7
  case h2 => exact e2
  intro u7 g7 k7 F7 N8
  dsimp only
  clear F6 N7
  refine wpAny_execs_cons ?_
  refine' Mine.st8 w mean mg mb _ _ hs8 fa cdv base h₀ L _ _ _ E _ ?B ?F ?X ?N ?T ?ret8
  case B => exact B
  case X => exact X
  case T => exact T
  case F => exact F7
  case N => exact N8
  intro W g8 k8 hW F8 N9
  dsimp only
  clear F7 N8
  refine wpAny_execs_cons ?_
  refine' Mine.st9 w mean mg mb _ _ hs9 fa cdv base h₀ L _ _ o5' _ E R R0 R1 R2 R3 W p0 p1 p2 p3 d4 d0 d1 d2 d3 ((D0, Mine.sixList d0 d1 d2 d3 d4 d5 t0 t1 t2 t3 t4 t5) :: (L + 1 + 1, o2') :: (P, Mine.pricesObj q0 q1 q2 q3 q4) :: (L + 1 + 1 + 1 + 1 + 1 + 1 + 1 + 1, o8) :: (L + 1 + 1 + 1 + 1 + 1 + 1 + 1, o7) :: (L + 1 + 1 + 1 + 1 + 1 + 1, o6) :: (L + 1 + 1 + 1 + 1, o4) :: (L + 1 + 1 + 1, o3') :: (L + 1, o1) :: []) ?B ?F ?X ?N ?T ?h5 ?hm ?hW ?hr0 ?hr1 ?hr2 ?hr3 ?hE ?ret9
  case B => exact B
  case X => exact X
  case T => exact T
  case F => exact F8
  case N => exact Mine.news_pick N9 [0, 12, 3, 4, 5, 6, 7, 1, 2, 8, 9, 10, 11, 13, 14, 15]
  case h5 => exact e5
  case hm => exact ⟨⟨_, rfl⟩, ⟨_, rfl⟩, ⟨_, rfl⟩, ⟨_, rfl⟩, ⟨_, rfl⟩, rfl⟩
  case hW => exact Mine.all_pick hW [11, 2, 3, 4, 5, 6, 0, 1, 7, 8, 9, 10, 12, 13, 14]
  case hr0 => exact r0
  case hr1 => exact r1
  case hr2 => exact r2
  case hr3 => exact r3
  case hE => exact hE
  intro m9 u0 u1 u2 u9 g9 k9 hm9 F9 N10
  dsimp only
  clear F8 N9
  obtain ⟨a0, a1, a2, a3, a4, rfl⟩ := r0
  obtain ⟨b0, b1, b2, b3, b4, rfl⟩ := r1
  obtain ⟨c0, c1, c2, c3, c4, rfl⟩ := r2
  obtain ⟨dd0, dd1, dd2, dd3, dd4, rfl⟩ := r3
  refine wpAny_execs_cons ?_
  refine' Mine.st10 w mean mg mb _ _ hs10 fa cdv base h₀ L _ _ _ E D0 o2' ((W, LCg.lst [.str (Mine.wordS d0) u0, .str (Mine.wordS d1) u1, .str (Mine.wordS d2) u2, .str (Mine.wordS d3) u9]) :: (R, Mine.rowsObj R0 R1 R2 R3) :: (R3, LCg.lst [.int (Mine.bitI d3 0) dd0, .int (Mine.bitI d3 1) dd1, .int (Mine.bitI d3 2) dd2, .int (Mine.bitI d3 3) dd3, .int (Mine.bitI d3 4) dd4]) :: (R2, LCg.lst [.int (Mine.bitI d2 0) c0, .int (Mine.bitI d2 1) c1, .int (Mine.bitI d2 2) c2, .int (Mine.bitI d2 3) c3, .int (Mine.bitI d2 4) c4]) :: (R1, LCg.lst [.int (Mine.bitI d1 0) b0, .int (Mine.bitI d1 1) b1, .int (Mine.bitI d1 2) b2, .int (Mine.bitI d1 3) b3, .int (Mine.bitI d1 4) b4]) :: (R0, LCg.lst [.int (Mine.bitI d0 0) a0, .int (Mine.bitI d0 1) a1, .int (Mine.bitI d0 2) a2, .int (Mine.bitI d0 3) a3, .int (Mine.bitI d0 4) a4]) :: (P, Mine.pricesObj q0 q1 q2 q3 q4) :: (L + 1 + 1 + 1 + 1 + 1 + 1 + 1 + 1, o8) :: (L + 1 + 1 + 1 + 1 + 1 + 1 + 1, o7) :: (L + 1 + 1 + 1 + 1 + 1 + 1, o6) :: (L + 1 + 1 + 1 + 1 + 1, o5') :: (L + 1 + 1 + 1 + 1, o4) :: (L + 1 + 1 + 1, o3') :: (L + 1, o1) :: []) d0 d1 d2 d3 d4 d5 t0 t1 t2 t3 t4 t5 ?B ?F ?X ?N ?T ?h2 ?ret10
  case B => exact B
  case X => exact X
  case T => exact T
  case F => exact F9
  case N => exact Mine.news_pick N10 [7, 8, 0, 2, 3, 4, 5, 6, 9, 10, 11, 12, 1, 13, 14, 15]
  case h2 => exact e2
  intro usl g10 k10 F10 N11
  dsimp only
  clear F9 N10
  refine wpAny_execs_cons ?_
  refine' Mine.st11 w mean mg mb _ _ hs11 fa cdv base h₀ L _ _ _ E _ ?B ?F ?X ?N ?T ?ret11
  case B => exact B
  case X => exact X
  case T => exact T
  case F => exact F10
  case N => exact N11
  intro Y g11 k11 hY F11 N12
  dsimp only
  clear F10 N11
  have nm4 := Mine.nd_mid (pre := [_, _, _, _, _, _, _, _, _, _, _]) (post := [_, _, _]) n3
  have nm6 := Mine.nd_mid (pre := [_, _, _, _, _, _, _, _, _]) (post := [_, _, _, _, _]) n3
  have n4 : ∀ p ∈ (W, LCg.lst [.str (Mine.wordS d0) u0, .str (Mine.wordS d1) u1, .str (Mine.wordS d2) u2, .str (Mine.wordS d3) u9]) :: (R, Mine.rowsObj R0 R1 R2 R3) :: (R3, LCg.lst [.int (Mine.bitI d3 0) dd0, .int (Mine.bitI d3 1) dd1, .int (Mine.bitI d3 2) dd2, .int (Mine.bitI d3 3) dd3, .int (Mine.bitI d3 4) dd4]) :: (R2, LCg.lst [.int (Mine.bitI d2 0) c0, .int (Mine.bitI d2 1) c1, .int (Mine.bitI d2 2) c2, .int (Mine.bitI d2 3) c3, .int (Mine.bitI d2 4) c4]) :: (R1, LCg.lst [.int (Mine.bitI d1 0) b0, .int (Mine.bitI d1 1) b1, .int (Mine.bitI d1 2) b2, .int (Mine.bitI d1 3) b3, .int (Mine.bitI d1 4) b4]) :: (R0, LCg.lst [.int (Mine.bitI d0 0) a0, .int (Mine.bitI d0 1) a1, .int (Mine.bitI d0 2) a2, .int (Mine.bitI d0 3) a3, .int (Mine.bitI d0 4) a4]) :: (P, Mine.pricesObj q0 q1 q2 q3 q4) :: (L + 1 + 1 + 1 + 1 + 1, o5') :: (L + 1 + 1 + 1, o3') :: (D0, Mine.sixList d0 d1 d2 d3 d4 d5 t0 t1 t2 t3 t4 t5) :: (L + 1 + 1, o2') :: (L + 1 + 1 + 1 + 1 + 1 + 1 + 1 + 1, o8) :: (L + 1 + 1 + 1 + 1 + 1 + 1 + 1, o7) :: (L + 1, o1) :: [], @Ne Nat p.1 (L + 1 + 1 + 1 + 1) := Mine.all_cons (fun e => hW _ (.tail _ (.tail _ (.tail _ (.tail _ (.tail _ (.tail _ (.tail _ (.tail _ (.tail _ (.tail _ (.tail _ (.tail _ (.head _))))))))))))) e.symm) (Mine.all_pick nm4 [0, 1, 2, 3, 4, 5, 10, 11, 6, 12, 7, 8, 13])
  have n6 : ∀ p ∈ (W, LCg.lst [.str (Mine.wordS d0) u0, .str (Mine.wordS d1) u1, .str (Mine.wordS d2) u2, .str (Mine.wordS d3) u9]) :: (R, Mine.rowsObj R0 R1 R2 R3) :: (R3, LCg.lst [.int (Mine.bitI d3 0) dd0, .int (Mine.bitI d3 1) dd1, .int (Mine.bitI d3 2) dd2, .int (Mine.bitI d3 3) dd3, .int (Mine.bitI d3 4) dd4]) :: (R2, LCg.lst [.int (Mine.bitI d2 0) c0, .int (Mine.bitI d2 1) c1, .int (Mine.bitI d2 2) c2, .int (Mine.bitI d2 3) c3, .int (Mine.bitI d2 4) c4]) :: (R1, LCg.lst [.int (Mine.bitI d1 0) b0, .int (Mine.bitI d1 1) b1, .int (Mine.bitI d1 2) b2, .int (Mine.bitI d1 3) b3, .int (Mine.bitI d1 4) b4]) :: (R0, LCg.lst [.int (Mine.bitI d0 0) a0, .int (Mine.bitI d0 1) a1, .int (Mine.bitI d0 2) a2, .int (Mine.bitI d0 3) a3, .int (Mine.bitI d0 4) a4]) :: (P, Mine.pricesObj q0 q1 q2 q3 q4) :: (L + 1 + 1 + 1 + 1 + 1, o5') :: (L + 1 + 1 + 1, o3') :: (D0, Mine.sixList d0 d1 d2 d3 d4 d5 t0 t1 t2 t3 t4 t5) :: (L + 1 + 1, o2') :: (L + 1 + 1 + 1 + 1 + 1 + 1 + 1 + 1, o8) :: (L + 1 + 1 + 1 + 1 + 1 + 1 + 1, o7) :: (L + 1, o1) :: [], @Ne Nat p.1 (L + 1 + 1 + 1 + 1 + 1 + 1) := Mine.all_cons (fun e => hW _ (.tail _ (.tail _ (.tail _ (.tail _ (.tail _ (.tail _ (.tail _ (.tail _ (.tail _ (.tail _ (.head _))))))))))) e.symm) (Mine.all_pick nm6 [0, 1, 2, 3, 4, 5, 9, 11, 6, 12, 7, 8, 13])
  have nY : ∀ p ∈ (W, LCg.lst [.str (Mine.wordS d0) u0, .str (Mine.wordS d1) u1, .str (Mine.wordS d2) u2, .str (Mine.wordS d3) u9]) :: (R, Mine.rowsObj R0 R1 R2 R3) :: (R3, LCg.lst [.int (Mine.bitI d3 0) dd0, .int (Mine.bitI d3 1) dd1, .int (Mine.bitI d3 2) dd2, .int (Mine.bitI d3 3) dd3, .int (Mine.bitI d3 4) dd4]) :: (R2, LCg.lst [.int (Mine.bitI d2 0) c0, .int (Mine.bitI d2 1) c1, .int (Mine.bitI d2 2) c2, .int (Mine.bitI d2 3) c3, .int (Mine.bitI d2 4) c4]) :: (R1, LCg.lst [.int (Mine.bitI d1 0) b0, .int (Mine.bitI d1 1) b1, .int (Mine.bitI d1 2) b2, .int (Mine.bitI d1 3) b3, .int (Mine.bitI d1 4) b4]) :: (R0, LCg.lst [.int (Mine.bitI d0 0) a0, .int (Mine.bitI d0 1) a1, .int (Mine.bitI d0 2) a2, .int (Mine.bitI d0 3) a3, .int (Mine.bitI d0 4) a4]) :: (P, Mine.pricesObj q0 q1 q2 q3 q4) :: (L + 1 + 1 + 1 + 1 + 1, o5') :: (L + 1 + 1 + 1, o3') :: (D0, Mine.sixList d0 d1 d2 d3 d4 d5 t0 t1 t2 t3 t4 t5) :: (L + 1 + 1, o2') :: (L + 1 + 1 + 1 + 1 + 1 + 1 + 1 + 1, o8) :: (L + 1 + 1 + 1 + 1 + 1 + 1 + 1, o7) :: (L + 1, o1) :: [], @Ne Nat p.1 Y := Mine.all_pick hY [2, 3, 4, 5, 6, 7, 8, 12, 14, 0, 1, 9, 10, 15]
  have nd12 : Mine.Nd [(L + 1 + 1 + 1 + 1, o4), (L + 1 + 1 + 1 + 1 + 1 + 1, o6), (Y, LCg.lst [])] := by
    have z1 : @Ne Nat (L + 1 + 1 + 1 + 1) Y := hY _ (.tail _ (.tail _ (.tail _ (.tail _ (.tail _ (.tail _ (.tail _ (.tail _ (.tail _ (.tail _ (.tail _ (.tail _ (.tail _ (.head _))))))))))))))
    have z2 : @Ne Nat (L + 1 + 1 + 1 + 1 + 1 + 1) Y := hY _ (.tail _ (.tail _ (.tail _ (.tail _ (.tail _ (.tail _ (.tail _ (.tail _ (.tail _ (.tail _ (.tail _ (.head _))))))))))))
    unfold Mine.Nd
    refine List.nodup_cons.mpr ⟨?_, List.nodup_cons.mpr ⟨?_, List.nodup_cons.mpr ⟨List.not_mem_nil, List.nodup_nil⟩⟩⟩
    · intro hm
      rcases List.mem_cons.mp hm with e | hm
      · have : @Eq Nat (L + 1 + 1 + 1 + 1) (L + 1 + 1 + 1 + 1 + 1 + 1) := e
        omega
      · exact z1 (List.mem_singleton.mp hm)
    · intro hm
      exact z2 (List.mem_singleton.mp hm)
  refine wpAny_execs_cons ?_
  refine' Mine.st12 w mean mg mb _ _ hs12 fa cdv base h₀ L _ _ _ E R R0 R1 R2 R3 P d0 d1 d2 d3 a0 a1 a2 a3 a4 b0 b1 b2 b3 b4 c0 c1 c2 c3 c4 dd0 dd1 dd2 dd3 dd4 q0 q1 q2 q3 q4 o3' o4 o5' o6 v4 v6 ((D0, Mine.sixList d0 d1 d2 d3 d4 d5 t0 t1 t2 t3 t4 t5) :: (L + 1 + 1, o2') :: (L + 1 + 1 + 1 + 1 + 1 + 1 + 1 + 1, o8) :: (L + 1 + 1 + 1 + 1 + 1 + 1 + 1, o7) :: (L + 1, o1) :: []) W Y ((d5.fdiv 8).fmod 3 - 1) d4 u0 u1 u2 u9 ?B ?F ?X ?N ?T ?hm ?h3 ?h4 ?h5 ?h6 ?hn ?n4 ?n6 ?nY ?hsl ?hE ?ret12
  case B => exact B
  case X => exact X
  case T => exact T
  case F => exact F11
  case N => exact Mine.news_pick N12 [14, 12, 0, 3, 4, 5, 6, 7, 8, 9, 13, 15, 1, 2, 10, 11, 16]
  case hm => exact ⟨⟨hm9.lead, hm9.mark⟩, hm9.words, ⟨_, rfl⟩, rfl⟩
  case h3 => exact e3
  case h4 => exact h4
  case h5 => exact e5
  case h6 => exact h6
  case hn => exact nd12
  case n4 => exact n4
  case n6 => exact n6
  case nY => exact nY
  case hsl => exact Mine.slack_rng d5
  case hE => exact hE
  intro m12 o4' o6' x0 x1 x2 x3 x4 x5 g12 k12 hm12 F12 N13
  dsimp only
  clear F11 N12 nm4 nm6 n4 n6 nY nd12 hY hW hm9
  have C := Mine.col_all d0 d1 d2 d3
  obtain ⟨ulead, elead⟩ := hm12.keep.lead
  obtain ⟨umark, emark⟩ := hm12.keep.mark
  have F12w := Mine.fr1 (n1 := Str.ofString "ways") (v1 := some (.ref Y)) F12 hm12.ways
  refine wpAny_execs_cons ?_
  refine' Mine.st13 w mean mg mb _ _ hs13 fa cdv base h₀ L _ _ _ E Y (Mine.dueI d0 d1) (Mine.dueI d2 d3) (Mine.dueI d0 d2) (Mine.dueI d1 d3) (Mine.dueI d0 d3) (Mine.dueI d1 d2) x0 x1 x2 x3 x4 x5 ((L + 1 + 1 + 1 + 1, o4') :: (L + 1 + 1 + 1 + 1 + 1 + 1, o6') :: (W, LCg.lst [.str (Mine.wordS d0) u0, .str (Mine.wordS d1) u1, .str (Mine.wordS d2) u2, .str (Mine.wordS d3) u9]) :: (R, Mine.rowsObj R0 R1 R2 R3) :: (R3, LCg.lst [.int (Mine.bitI d3 0) dd0, .int (Mine.bitI d3 1) dd1, .int (Mine.bitI d3 2) dd2, .int (Mine.bitI d3 3) dd3, .int (Mine.bitI d3 4) dd4]) :: (R2, LCg.lst [.int (Mine.bitI d2 0) c0, .int (Mine.bitI d2 1) c1, .int (Mine.bitI d2 2) c2, .int (Mine.bitI d2 3) c3, .int (Mine.bitI d2 4) c4]) :: (R1, LCg.lst [.int (Mine.bitI d1 0) b0, .int (Mine.bitI d1 1) b1, .int (Mine.bitI d1 2) b2, .int (Mine.bitI d1 3) b3, .int (Mine.bitI d1 4) b4]) :: (R0, LCg.lst [.int (Mine.bitI d0 0) a0, .int (Mine.bitI d0 1) a1, .int (Mine.bitI d0 2) a2, .int (Mine.bitI d0 3) a3, .int (Mine.bitI d0 4) a4]) :: (P, Mine.pricesObj q0 q1 q2 q3 q4) :: (L + 1 + 1 + 1 + 1 + 1, o5') :: (L + 1 + 1 + 1, o3') :: (D0, Mine.sixList d0 d1 d2 d3 d4 d5 t0 t1 t2 t3 t4 t5) :: (L + 1 + 1, o2') :: (L + 1 + 1 + 1 + 1 + 1 + 1 + 1 + 1, o8) :: (L + 1 + 1 + 1 + 1 + 1 + 1 + 1, o7) :: (L + 1, o1) :: []) ?B ?F ?X ?N ?T ?ret13
  case B => exact B
  case X => exact X
  case T => exact T
  case F => exact F12w
  case N => exact Mine.news_pick N13 [2, 0, 1, 3, 4, 5, 6, 7, 8, 9, 10, 11, 12, 13, 14, 15, 16]
  intro DS s0 s1 s2 g13 k13 F13 N14
  dsimp only
  clear F12 F12w N13
  refine wpAny_execs_cons ?_
  refine' Mine.st14 w mean mg mb _ _ hs14 fa cdv base h₀ L _ _ _ E R R0 R1 R2 R3 P o3' o5' d0 d1 d2 d3 a0 a1 a2 a3 a4 b0 b1 b2 b3 b4 c0 c1 c2 c3 c4 dd0 dd1 dd2 dd3 dd4 q0 q1 q2 q3 q4 ((DS, listOf #[.int (Mine.dueI d0 d1 + Mine.dueI d2 d3) s0, .int (Mine.dueI d0 d2 + Mine.dueI d1 d3) s1, .int (Mine.dueI d0 d3 + Mine.dueI d1 d2) s2] 0) :: (Y, Mine.sixList (Mine.dueI d0 d1) (Mine.dueI d2 d3) (Mine.dueI d0 d2) (Mine.dueI d1 d3) (Mine.dueI d0 d3) (Mine.dueI d1 d2) x0 x1 x2 x3 x4 x5) :: (L + 1 + 1 + 1 + 1, o4') :: (L + 1 + 1 + 1 + 1 + 1 + 1, o6') :: (W, LCg.lst [.str (Mine.wordS d0) u0, .str (Mine.wordS d1) u1, .str (Mine.wordS d2) u2, .str (Mine.wordS d3) u9]) :: (D0, Mine.sixList d0 d1 d2 d3 d4 d5 t0 t1 t2 t3 t4 t5) :: (L + 1 + 1, o2') :: (L + 1 + 1 + 1 + 1 + 1 + 1 + 1 + 1, o8) :: (L + 1 + 1 + 1 + 1 + 1 + 1 + 1, o7) :: (L + 1, o1) :: []) ?B ?F ?X ?N ?T ?h3 ?h5 ?ret14
  case B => exact B
  case X => exact X
  case T => exact T
  case F => exact F13
  case N => exact Mine.news_pick N14 [5, 6, 7, 8, 9, 10, 11, 12, 0, 1, 2, 3, 4, 13, 14, 15, 16, 17]
  case h3 => exact e3
  case h5 => exact e5
  intro YP y0 y1 y2 g14 k14 hlt F14 N15
  dsimp only
  clear F13 N14 hlt
  have F14w := Mine.fr1 (n1 := Str.ofString "sums") (v1 := some (.ref DS)) F14 rfl
  refine wpAny_execs_cons ?_
  refine' Mine.st15 w mean mg mb _ _ hs15 fa cdv base h₀ L _ _ _ E DS (Mine.dueI d0 d1 + Mine.dueI d2 d3) (Mine.dueI d0 d2 + Mine.dueI d1 d3) (Mine.dueI d0 d3 + Mine.dueI d1 d2) s0 s1 s2 ((YP, LCg.lst [.int (Mine.partI d0 d1 d2 d3 true true false false) y0, .int (Mine.partI d0 d1 d2 d3 true false true false) y1, .int (Mine.partI d0 d1 d2 d3 true false false true) y2]) :: (R, Mine.rowsObj R0 R1 R2 R3) :: (R3, LCg.lst [.int (Mine.bitI d3 0) dd0, .int (Mine.bitI d3 1) dd1, .int (Mine.bitI d3 2) dd2, .int (Mine.bitI d3 3) dd3, .int (Mine.bitI d3 4) dd4]) :: (R2, LCg.lst [.int (Mine.bitI d2 0) c0, .int (Mine.bitI d2 1) c1, .int (Mine.bitI d2 2) c2, .int (Mine.bitI d2 3) c3, .int (Mine.bitI d2 4) c4]) :: (R1, LCg.lst [.int (Mine.bitI d1 0) b0, .int (Mine.bitI d1 1) b1, .int (Mine.bitI d1 2) b2, .int (Mine.bitI d1 3) b3, .int (Mine.bitI d1 4) b4]) :: (R0, LCg.lst [.int (Mine.bitI d0 0) a0, .int (Mine.bitI d0 1) a1, .int (Mine.bitI d0 2) a2, .int (Mine.bitI d0 3) a3, .int (Mine.bitI d0 4) a4]) :: (P, Mine.pricesObj q0 q1 q2 q3 q4) :: (L + 1 + 1 + 1 + 1 + 1, o5') :: (L + 1 + 1 + 1, o3') :: (Y, Mine.sixList (Mine.dueI d0 d1) (Mine.dueI d2 d3) (Mine.dueI d0 d2) (Mine.dueI d1 d3) (Mine.dueI d0 d3) (Mine.dueI d1 d2) x0 x1 x2 x3 x4 x5) :: (L + 1 + 1 + 1 + 1, o4') :: (L + 1 + 1 + 1 + 1 + 1 + 1, o6') :: (W, LCg.lst [.str (Mine.wordS d0) u0, .str (Mine.wordS d1) u1, .str (Mine.wordS d2) u2, .str (Mine.wordS d3) u9]) :: (D0, Mine.sixList d0 d1 d2 d3 d4 d5 t0 t1 t2 t3 t4 t5) :: (L + 1 + 1, o2') :: (L + 1 + 1 + 1 + 1 + 1 + 1 + 1 + 1, o8) :: (L + 1 + 1 + 1 + 1 + 1 + 1 + 1, o7) :: (L + 1, o1) :: []) ?B ?F ?X ?N ?T ?hx ?hy ?hz ?ret15
  case B => exact B
  case X => exact X
  case T => exact T
  case F => exact F14w
  case N => exact Mine.news_pick N15 [9, 0, 1, 2, 3, 4, 5, 6, 7, 8, 10, 11, 12, 13, 14, 15, 16, 17, 18]
  case hx => exact C.ra
  case hy => exact C.rb
  case hz => exact C.rc
  intro z0 z1 z2 g15 k15 F15 N16
  dsimp only
  clear F14 F14w N15
  have F15w := Mine.fr1 (n1 := Str.ofString "parted") (v1 := some (.ref YP)) F15 rfl
  refine wpAny_execs_cons ?_
  refine' Mine.st16 w mean mg mb _ _ hs16 fa cdv base h₀ L _ _ _ E YP (Mine.partI d0 d1 d2 d3 true true false false) (Mine.partI d0 d1 d2 d3 true false true false) (Mine.partI d0 d1 d2 d3 true false false true) y0 y1 y2 ((DS, listOf #[.int (Mine.dueI d0 d1 + Mine.dueI d2 d3) s0, .int (Mine.dueI d0 d2 + Mine.dueI d1 d3) s1, .int (Mine.dueI d0 d3 + Mine.dueI d1 d2) s2] 0) :: (R, Mine.rowsObj R0 R1 R2 R3) :: (R3, LCg.lst [.int (Mine.bitI d3 0) dd0, .int (Mine.bitI d3 1) dd1, .int (Mine.bitI d3 2) dd2, .int (Mine.bitI d3 3) dd3, .int (Mine.bitI d3 4) dd4]) :: (R2, LCg.lst [.int (Mine.bitI d2 0) c0, .int (Mine.bitI d2 1) c1, .int (Mine.bitI d2 2) c2, .int (Mine.bitI d2 3) c3, .int (Mine.bitI d2 4) c4]) :: (R1, LCg.lst [.int (Mine.bitI d1 0) b0, .int (Mine.bitI d1 1) b1, .int (Mine.bitI d1 2) b2, .int (Mine.bitI d1 3) b3, .int (Mine.bitI d1 4) b4]) :: (R0, LCg.lst [.int (Mine.bitI d0 0) a0, .int (Mine.bitI d0 1) a1, .int (Mine.bitI d0 2) a2, .int (Mine.bitI d0 3) a3, .int (Mine.bitI d0 4) a4]) :: (P, Mine.pricesObj q0 q1 q2 q3 q4) :: (L + 1 + 1 + 1 + 1 + 1, o5') :: (L + 1 + 1 + 1, o3') :: (Y, Mine.sixList (Mine.dueI d0 d1) (Mine.dueI d2 d3) (Mine.dueI d0 d2) (Mine.dueI d1 d3) (Mine.dueI d0 d3) (Mine.dueI d1 d2) x0 x1 x2 x3 x4 x5) :: (L + 1 + 1 + 1 + 1, o4') :: (L + 1 + 1 + 1 + 1 + 1 + 1, o6') :: (W, LCg.lst [.str (Mine.wordS d0) u0, .str (Mine.wordS d1) u1, .str (Mine.wordS d2) u2, .str (Mine.wordS d3) u9]) :: (D0, Mine.sixList d0 d1 d2 d3 d4 d5 t0 t1 t2 t3 t4 t5) :: (L + 1 + 1, o2') :: (L + 1 + 1 + 1 + 1 + 1 + 1 + 1 + 1, o8) :: (L + 1 + 1 + 1 + 1 + 1 + 1 + 1, o7) :: (L + 1, o1) :: []) ?B ?F ?X ?N ?T ?hx ?hy ?hz ?ret16
  case B => exact B
  case X => exact X
  case T => exact T
  case F => exact F15w
  case N => exact Mine.news_pick N16 [1, 0, 2, 3, 4, 5, 6, 7, 8, 9, 10, 11, 12, 13, 14, 15, 16, 17, 18]
  case hx => exact C.rx
  case hy => exact C.ry
  case hz => exact C.rz
  intro z3 z4 z5 g16 k16 F16 N17
  dsimp only
  clear F15 F15w N16
  have F16w := Mine.fr2 (n1 := Str.ofString "hue") (v1 := some (.float (Mine.hueF (Mine.dueI d0 d1 + Mine.dueI d2 d3) (Mine.dueI d0 d2 + Mine.dueI d1 d3) (Mine.dueI d0 d3 + Mine.dueI d1 d2)) z0)) (n2 := Str.ofString "tint") (v2 := some (.float (Mine.hueF (Mine.partI d0 d1 d2 d3 true true false false) (Mine.partI d0 d1 d2 d3 true false true false) (Mine.partI d0 d1 d2 d3 true false false true)) z3)) F16 rfl rfl
  refine wpAny_execs_cons ?_
  refine' Mine.st17 w mean mg mb _ _ hs17 fa cdv base h₀ L _ _ _ E (Mine.hueF (Mine.dueI d0 d1 + Mine.dueI d2 d3) (Mine.dueI d0 d2 + Mine.dueI d1 d3) (Mine.dueI d0 d3 + Mine.dueI d1 d2)) (Mine.hueF (Mine.partI d0 d1 d2 d3 true true false false) (Mine.partI d0 d1 d2 d3 true false true false) (Mine.partI d0 d1 d2 d3 true false false true)) z0 z3 _ ?B ?F ?X ?N ?T ?hx ?hy ?ret17
  case B => exact B
  case X => exact X
  case T => exact T
  case F => exact F16w
  case N => exact N17
  case hx => exact C.h1
  case hy => exact C.h2
  intro g17 k17 F17 N18
  dsimp only
  clear F16 F16w N17
  have F17w := Mine.fr4 (n1 := Str.ofString "hue") (v1 := some (.float (Mine.hueF (Mine.dueI d0 d1 + Mine.dueI d2 d3) (Mine.dueI d0 d2 + Mine.dueI d1 d3) (Mine.dueI d0 d3 + Mine.dueI d1 d2)) z0)) (n2 := Str.ofString "depth") (v2 := some (.float (Mine.satF (Mine.partI d0 d1 d2 d3 true true false false) (Mine.partI d0 d1 d2 d3 true false true false) (Mine.partI d0 d1 d2 d3 true false false true)) z4)) (n3 := Str.ofString "light") (v3 := some (.int (Mine.maxI (Mine.partI d0 d1 d2 d3 true true false false) (Mine.partI d0 d1 d2 d3 true false true false) (Mine.partI d0 d1 d2 d3 true false false true)) z5)) (n4 := Str.ofString "parted") (v4 := some (.ref YP)) F17 rfl rfl rfl rfl
  refine wpAny_execs_cons ?_
  refine' Mine.st18 w mean mg mb _ _ hs18 fa cdv base h₀ L _ _ _ E (Mine.hueF (Mine.dueI d0 d1 + Mine.dueI d2 d3) (Mine.dueI d0 d2 + Mine.dueI d1 d3) (Mine.dueI d0 d3 + Mine.dueI d1 d2)) (Mine.satF (Mine.partI d0 d1 d2 d3 true true false false) (Mine.partI d0 d1 d2 d3 true false true false) (Mine.partI d0 d1 d2 d3 true false false true)) (Mine.maxI (Mine.partI d0 d1 d2 d3 true true false false) (Mine.partI d0 d1 d2 d3 true false true false) (Mine.partI d0 d1 d2 d3 true false false true)) (Mine.partI d0 d1 d2 d3 true true false false) (Mine.partI d0 d1 d2 d3 true false true false) (Mine.partI d0 d1 d2 d3 true false false true) YP z0 z4 z5 y0 y1 y2 ((DS, listOf #[.int (Mine.dueI d0 d1 + Mine.dueI d2 d3) s0, .int (Mine.dueI d0 d2 + Mine.dueI d1 d3) s1, .int (Mine.dueI d0 d3 + Mine.dueI d1 d2) s2] 0) :: (R, Mine.rowsObj R0 R1 R2 R3) :: (R3, LCg.lst [.int (Mine.bitI d3 0) dd0, .int (Mine.bitI d3 1) dd1, .int (Mine.bitI d3 2) dd2, .int (Mine.bitI d3 3) dd3, .int (Mine.bitI d3 4) dd4]) :: (R2, LCg.lst [.int (Mine.bitI d2 0) c0, .int (Mine.bitI d2 1) c1, .int (Mine.bitI d2 2) c2, .int (Mine.bitI d2 3) c3, .int (Mine.bitI d2 4) c4]) :: (R1, LCg.lst [.int (Mine.bitI d1 0) b0, .int (Mine.bitI d1 1) b1, .int (Mine.bitI d1 2) b2, .int (Mine.bitI d1 3) b3, .int (Mine.bitI d1 4) b4]) :: (R0, LCg.lst [.int (Mine.bitI d0 0) a0, .int (Mine.bitI d0 1) a1, .int (Mine.bitI d0 2) a2, .int (Mine.bitI d0 3) a3, .int (Mine.bitI d0 4) a4]) :: (P, Mine.pricesObj q0 q1 q2 q3 q4) :: (L + 1 + 1 + 1 + 1 + 1, o5') :: (L + 1 + 1 + 1, o3') :: (Y, Mine.sixList (Mine.dueI d0 d1) (Mine.dueI d2 d3) (Mine.dueI d0 d2) (Mine.dueI d1 d3) (Mine.dueI d0 d3) (Mine.dueI d1 d2) x0 x1 x2 x3 x4 x5) :: (L + 1 + 1 + 1 + 1, o4') :: (L + 1 + 1 + 1 + 1 + 1 + 1, o6') :: (W, LCg.lst [.str (Mine.wordS d0) u0, .str (Mine.wordS d1) u1, .str (Mine.wordS d2) u2, .str (Mine.wordS d3) u9]) :: (D0, Mine.sixList d0 d1 d2 d3 d4 d5 t0 t1 t2 t3 t4 t5) :: (L + 1 + 1, o2') :: (L + 1 + 1 + 1 + 1 + 1 + 1 + 1 + 1, o8) :: (L + 1 + 1 + 1 + 1 + 1 + 1 + 1, o7) :: (L + 1, o1) :: []) ?B ?F ?X ?N ?T ?hv ?hz ?r0 ?r1 ?r2 ?ret18
  case B => exact B
  case X => exact X
  case T => exact T
  case F => exact F17w
  case N => exact N18
  case hv => exact Mine.max_rng C.rx C.ry C.rz
  case hz => exact C.z1
  case r0 => exact C.p0
  case r1 => exact C.p1
  case r2 => exact C.p2
  intro g18 k18 F18 N19
  dsimp only
  clear F17 F17w N18
  have F18w := Mine.fr4 (n1 := Str.ofString "tint") (v1 := some (.float (Mine.hueF (Mine.partI d0 d1 d2 d3 true true false false) (Mine.partI d0 d1 d2 d3 true false true false) (Mine.partI d0 d1 d2 d3 true false false true)) z3)) (n2 := Str.ofString "share") (v2 := some (.float (Mine.satF (Mine.dueI d0 d1 + Mine.dueI d2 d3) (Mine.dueI d0 d2 + Mine.dueI d1 d3) (Mine.dueI d0 d3 + Mine.dueI d1 d2)) z1)) (n3 := Str.ofString "value") (v3 := some (.int (Mine.maxI (Mine.dueI d0 d1 + Mine.dueI d2 d3) (Mine.dueI d0 d2 + Mine.dueI d1 d3) (Mine.dueI d0 d3 + Mine.dueI d1 d2)) z2)) (n4 := Str.ofString "sums") (v4 := some (.ref DS)) F18 rfl rfl rfl rfl
  refine wpAny_execs_cons ?_
  refine' Mine.st19 w mean mg mb _ _ hs19 fa cdv base h₀ L _ _ _ E (Mine.hueF (Mine.partI d0 d1 d2 d3 true true false false) (Mine.partI d0 d1 d2 d3 true false true false) (Mine.partI d0 d1 d2 d3 true false false true)) (Mine.satF (Mine.dueI d0 d1 + Mine.dueI d2 d3) (Mine.dueI d0 d2 + Mine.dueI d1 d3) (Mine.dueI d0 d3 + Mine.dueI d1 d2)) (Mine.maxI (Mine.dueI d0 d1 + Mine.dueI d2 d3) (Mine.dueI d0 d2 + Mine.dueI d1 d3) (Mine.dueI d0 d3 + Mine.dueI d1 d2)) (Mine.dueI d0 d1 + Mine.dueI d2 d3) (Mine.dueI d0 d2 + Mine.dueI d1 d3) (Mine.dueI d0 d3 + Mine.dueI d1 d2) DS z3 z1 z2 s0 s1 s2 ((YP, LCg.lst [.int (Mine.partI d0 d1 d2 d3 true true false false) y0, .int (Mine.partI d0 d1 d2 d3 true false true false) y1, .int (Mine.partI d0 d1 d2 d3 true false false true) y2]) :: (R, Mine.rowsObj R0 R1 R2 R3) :: (R3, LCg.lst [.int (Mine.bitI d3 0) dd0, .int (Mine.bitI d3 1) dd1, .int (Mine.bitI d3 2) dd2, .int (Mine.bitI d3 3) dd3, .int (Mine.bitI d3 4) dd4]) :: (R2, LCg.lst [.int (Mine.bitI d2 0) c0, .int (Mine.bitI d2 1) c1, .int (Mine.bitI d2 2) c2, .int (Mine.bitI d2 3) c3, .int (Mine.bitI d2 4) c4]) :: (R1, LCg.lst [.int (Mine.bitI d1 0) b0, .int (Mine.bitI d1 1) b1, .int (Mine.bitI d1 2) b2, .int (Mine.bitI d1 3) b3, .int (Mine.bitI d1 4) b4]) :: (R0, LCg.lst [.int (Mine.bitI d0 0) a0, .int (Mine.bitI d0 1) a1, .int (Mine.bitI d0 2) a2, .int (Mine.bitI d0 3) a3, .int (Mine.bitI d0 4) a4]) :: (P, Mine.pricesObj q0 q1 q2 q3 q4) :: (L + 1 + 1 + 1 + 1 + 1, o5') :: (L + 1 + 1 + 1, o3') :: (Y, Mine.sixList (Mine.dueI d0 d1) (Mine.dueI d2 d3) (Mine.dueI d0 d2) (Mine.dueI d1 d3) (Mine.dueI d0 d3) (Mine.dueI d1 d2) x0 x1 x2 x3 x4 x5) :: (L + 1 + 1 + 1 + 1, o4') :: (L + 1 + 1 + 1 + 1 + 1 + 1, o6') :: (W, LCg.lst [.str (Mine.wordS d0) u0, .str (Mine.wordS d1) u1, .str (Mine.wordS d2) u2, .str (Mine.wordS d3) u9]) :: (D0, Mine.sixList d0 d1 d2 d3 d4 d5 t0 t1 t2 t3 t4 t5) :: (L + 1 + 1, o2') :: (L + 1 + 1 + 1 + 1 + 1 + 1 + 1 + 1, o8) :: (L + 1 + 1 + 1 + 1 + 1 + 1 + 1, o7) :: (L + 1, o1) :: []) ?B ?F ?X ?N ?T ?hv ?hz ?r0 ?r1 ?r2 ?ret19
  case B => exact B
  case X => exact X
  case T => exact T
  case F => exact F18w
  case N => exact Mine.news_pick N19 [1, 0, 2, 3, 4, 5, 6, 7, 8, 9, 10, 11, 12, 13, 14, 15, 16, 17, 18]
  case hv => exact Mine.max_rng C.ra C.rb C.rc
  case hz => exact C.z2
  case r0 => exact C.q0
  case r1 => exact C.q1
  case r2 => exact C.q2
  intro g19 k19 F19 N20
  dsimp only
  clear F18 F18w N19
  have F19w := Mine.fr1 (n1 := Str.ofString "mark") (v1 := some (.str (Mine.markS d4) umark)) F19 emark
  refine wpAny_execs_cons ?_
  refine' Mine.st20 w mean mg mb _ _ hs20 fa cdv base h₀ L _ _ _ E d4 umark _ ?B ?F ?X ?N ?T ?ret20
  case B => exact B
  case X => exact X
  case T => exact T
  case F => exact F19w
  case N => exact N20
  intro ui g20 k20 F20 N21
  dsimp only
  clear F19 F19w N20
  have n21 : Mine.Nd [(D0, Mine.sixList d0 d1 d2 d3 d4 d5 t0 t1 t2 t3 t4 t5), (L + 1 + 1 + 1 + 1 + 1 + 1 + 1 + 1, o8), (L + 1 + 1 + 1 + 1 + 1 + 1 + 1, o7), (L + 1 + 1 + 1 + 1 + 1 + 1, o6'), (L + 1 + 1 + 1 + 1 + 1, o5'), (L + 1 + 1 + 1 + 1, o4'), (L + 1 + 1 + 1, o3'), (L + 1 + 1, o2'), (L + 1, o1)] := Mine.nd_addr (Mine.nd_tail (Mine.nd_tail (Mine.nd_tail (Mine.nd_tail (Mine.nd_tail (Mine.nd_tail n3)))))) rfl
  refine wpAny_execs_cons ?_
  refine' Mine.st21 w mean mg mb _ _ hs21 fa cdv base h₀ L _ _ _ E D0 o1 o2' o3' o4' o5' o6' o7 o8 d0 d1 d2 d3 d4 d5 t0 t1 t2 t3 t4 t5 ?B ?F ?X ?N ?T ?h2 ?hn v7 v8 ?h7 ?h8 ?ret21
  case B => exact B
  case X => exact X
  case T => exact T
  case F => exact F20
  case N => exact Mine.news_pick N21 [14, 16, 17, 12, 8, 11, 9, 15, 18]
  case h2 => exact e2
  case hn => exact n21
  case h7 => exact h7
  case h8 => exact h8
  intro o7' o8' ta tb g21 k21 e7 e8 F21 N22
  dsimp only
  clear F20 N21 n21 n3
  refine wpAny_execs_cons ?_
  refine' Mine.st22 w mean mg mb _ _ hs22 fa cdv base h₀ L _ _ _ E o7' o8' (Mine.sixList d0 d1 d2 d3 d4 d5 t0 t1 t2 t3 t4 t5) o2' D0 ((d5.fdiv 24).fmod 3) ((d5.fdiv 72).fmod 9 + 1) ta tb ?B ?F ?X ?N ?T ?h7 ?h8 ?hb ?ret22
  case B => exact B
  case X => exact X
  case T => exact T
  case F => exact F21
  case N => exact Mine.news_pick N22 [1, 2, 0, 7]
  case h7 => exact e7
  case h8 => exact e8
  case hb => exact Mine.by_rng d5
  intro uc g22 k22 F22 N23
  dsimp only
  clear F21 N22
  have F22w := Mine.fr4 (n1 := Str.ofString "code") (v1 := some (.str (Mine.codeX d5) uc)) (n2 := Str.ofString "inner") (v2 := some (.str (Mine.innerS d4) ui)) (n3 := Str.ofString "lead") (v3 := some (.str (Mine.leadS d4) ulead)) (n4 := Str.ofString "mark") (v4 := some (.str (Mine.markS d4) umark)) F22 rfl rfl elead rfl
  refine wpAny_execs_cons ?_
  refine' Mine.st23 w mean mg mb _ _ hs23 fa cdv base h₀ L _ _ _ E d4 (Mine.codeX d5) uc ulead umark ui ((D0, Mine.sixList d0 d1 d2 d3 d4 d5 t0 t1 t2 t3 t4 t5) :: (L + 1 + 1, o2') :: []) ?B ?F ?X ?N ?T ?hc ?ret23
  case B => exact B
  case X => exact X
  case T => exact T
  case F => exact F22w
  case N => exact Mine.news_pick N23 [2, 3]
  case hc => exact Mine.codeX_len d5
  intro S T0 T1 T2 T3 T4 T5 T6 T7 aa0 bb0 aa1 bb1 aa2 bb2 aa3 bb3 aa4 bb4 aa5 bb5 aa6 bb6 aa7 bb7 g23 k23 F23 N24
  dsimp only
  clear F22 F22w N23
  refine wpAny_execs_nil ?_
  dsimp only
  refine Mine.wpC_execs_cons ?_
  rcases Mine.fmod8 d5 with e | e | e | e | e | e | e | e
  · refine Mine.st24 w mean mg mb _ _ hs24 fa cdv base h₀ L _ _ S T0 T1 T2 T3 T4 T5 T6 T7 T0 D0 (Str.ofString "reply") (Mine.sx0 d4 (Mine.codeX d5)) aa0 bb0 t0 t1 t2 t3 t4 t5 d0 d1 d2 d3 d4 d5 o2' 0 [] _ E B F23 X (Mine.news_pick N24 [0, 8, 9, 10]) T e2 e rfl (Mine.BadR.len (Mine.bad_0 d4 d5)) (fun s' news' u Q' m' Fc Nc hr => Mine.wpC_of_any (Mine.refuseR w mean mg mb (Mine.sx0 d4 (Mine.codeX d5)) u _ _ _ _ _ base h₀ L m' s' news' Q' E B Fc X Nc T hsk XB TB (Mine.bad_0 d4 d5) hr)) (fun h' tk' Fz => hret _ h' tk' Fz)
  · refine Mine.st24 w mean mg mb _ _ hs24 fa cdv base h₀ L _ _ S T0 T1 T2 T3 T4 T5 T6 T7 T1 D0 (Str.ofString "proto") (Mine.sx1 d4) aa1 bb1 t0 t1 t2 t3 t4 t5 d0 d1 d2 d3 d4 d5 o2' 1 [] _ E B F23 X (Mine.news_pick N24 [0, 7, 9, 10]) T e2 e rfl (Mine.BadO.len (Mine.bad_1 d4)) (fun s' news' u Q' m' Fc Nc hr => Mine.wpC_of_any (Mine.refuseO w mean mg mb (Mine.sx1 d4) u _ _ _ _ _ base h₀ L m' s' news' Q' E B Fc X Nc T hsk XB TB (Mine.bad_1 d4) hr)) (fun h' tk' Fz => hret _ h' tk' Fz)
  · refine Mine.st24 w mean mg mb _ _ hs24 fa cdv base h₀ L _ _ S T0 T1 T2 T3 T4 T5 T6 T7 T2 D0 (Str.ofString "proto") (Mine.sx2 d4) aa2 bb2 t0 t1 t2 t3 t4 t5 d0 d1 d2 d3 d4 d5 o2' 2 [] _ E B F23 X (Mine.news_pick N24 [0, 6, 9, 10]) T e2 e rfl (Mine.BadC.len (Mine.bad_2 d4)) (fun s' news' u Q' m' Fc Nc hr => Mine.wpC_of_any (Mine.refuseC w mean mg mb (Mine.sx2 d4) u _ _ _ _ _ base h₀ L m' s' news' Q' E B Fc X Nc T hsk XB TB (Mine.bad_2 d4) hr)) (fun h' tk' Fz => hret _ h' tk' Fz)
  · refine Mine.st24 w mean mg mb _ _ hs24 fa cdv base h₀ L _ _ S T0 T1 T2 T3 T4 T5 T6 T7 T3 D0 (Str.ofString "proto") (Mine.sx3 d4) aa3 bb3 t0 t1 t2 t3 t4 t5 d0 d1 d2 d3 d4 d5 o2' 3 [] _ E B F23 X (Mine.news_pick N24 [0, 5, 9, 10]) T e2 e rfl (Mine.BadM.len (Mine.bad_3 d4)) (fun s' news' u Q' m' Fc Nc hr => Mine.wpC_of_any (Mine.refuseM w mean mg mb (Mine.sx3 d4) u _ _ _ _ _ base h₀ L m' s' news' Q' E B Fc X Nc T hsk XB TB (Mine.bad_3 d4) hr)) (fun h' tk' Fz => hret _ h' tk' Fz)
  · refine Mine.st24 w mean mg mb _ _ hs24 fa cdv base h₀ L _ _ S T0 T1 T2 T3 T4 T5 T6 T7 T4 D0 (Str.ofString "proto") (Mine.sx4 d4) aa4 bb4 t0 t1 t2 t3 t4 t5 d0 d1 d2 d3 d4 d5 o2' 4 [] _ E B F23 X (Mine.news_pick N24 [0, 4, 9, 10]) T e2 e rfl (Mine.BadP.len (Mine.bad_4 d4)) (fun s' news' u Q' m' Fc Nc hr => Mine.wpC_of_any (Mine.refuseP w mean mg mb (Mine.sx4 d4) u _ _ _ _ _ base h₀ L m' s' news' Q' E B Fc X Nc T hsk XB TB (Mine.bad_4 d4) hr)) (fun h' tk' Fz => hret _ h' tk' Fz)
  · refine Mine.st24 w mean mg mb _ _ hs24 fa cdv base h₀ L _ _ S T0 T1 T2 T3 T4 T5 T6 T7 T5 D0 (Str.ofString "proto") (Mine.sx5 d4) aa5 bb5 t0 t1 t2 t3 t4 t5 d0 d1 d2 d3 d4 d5 o2' 5 [] _ E B F23 X (Mine.news_pick N24 [0, 3, 9, 10]) T e2 e rfl (Mine.BadP.len (Mine.bad_5 d4)) (fun s' news' u Q' m' Fc Nc hr => Mine.wpC_of_any (Mine.refuseP w mean mg mb (Mine.sx5 d4) u _ _ _ _ _ base h₀ L m' s' news' Q' E B Fc X Nc T hsk XB TB (Mine.bad_5 d4) hr)) (fun h' tk' Fz => hret _ h' tk' Fz)
  · refine Mine.st24 w mean mg mb _ _ hs24 fa cdv base h₀ L _ _ S T0 T1 T2 T3 T4 T5 T6 T7 T6 D0 (Str.ofString "proto") (Mine.sx6 d4) aa6 bb6 t0 t1 t2 t3 t4 t5 d0 d1 d2 d3 d4 d5 o2' 6 [] _ E B F23 X (Mine.news_pick N24 [0, 2, 9, 10]) T e2 e rfl (Mine.BadM.len (Mine.bad_6 d4)) (fun s' news' u Q' m' Fc Nc hr => Mine.wpC_of_any (Mine.refuseM w mean mg mb (Mine.sx6 d4) u _ _ _ _ _ base h₀ L m' s' news' Q' E B Fc X Nc T hsk XB TB (Mine.bad_6 d4) hr)) (fun h' tk' Fz => hret _ h' tk' Fz)
  · refine Mine.st24 w mean mg mb _ _ hs24 fa cdv base h₀ L _ _ S T0 T1 T2 T3 T4 T5 T6 T7 T7 D0 (Str.ofString "value") (Mine.sx7 d4) aa7 bb7 t0 t1 t2 t3 t4 t5 d0 d1 d2 d3 d4 d5 o2' 7 [] _ E B F23 X (Mine.news_pick N24 [0, 1, 9, 10]) T e2 e rfl (Mine.BadPort.len (Mine.bad_7 d4)) (fun s' news' u Q' m' Fc Nc hr => Mine.refuseV w mean mg mb (Mine.sx7 d4) u _ _ _ _ _ base h₀ L m' s' news' Q' E B Fc X Nc T hsk XB TB (Mine.bad_7 d4) hr) (fun h' tk' Fz => hret _ h' tk' Fz)
theorem Mine.fill : PySem.Challenge.rw_to0016_01 = PySem.Challenge.rw_to0016_01 ∧ Mine.hd.heap_1 = Mine.hd.heap_1 := by
  k_fill
  exact And.intro (Eq.refl _) (Eq.refl _)
theorem PySem.Challenge.cw_to0016_01_holds : PySem.Challenge.rw_to0016_01.Holds := by
  w_on; refine holds_law Mine.said fun said => ?_
  refine Mine.held (by rfl) (by rfl) (by rfl) (by first | assumption | decide +kernel) ⟨rfl, rfl, rfl, rfl, rfl, Mine.tw⟩ (by decide +kernel) ?hw ?hc
  (case hw => w_witness2)
  clear said
  dsimp only [Mine.WalkC, Mine.rowO]
  intro w s₀ s₁ mg mb G Y fa o pm cd doc dV kV ho hdf hcd hD hmg hg args vals as hpre hlay hrd hwl hlo
  have KX : (Mine.hd.heap_1 w.params).In s₁.heap := Y
  have X := (Ground.X G).1
  have V := (Ground.X G).2
  have GL := glob_more (Ground.glob G (by kernel_rfl) (by kernel_rfl)) V
  refine Ground.open G ?_
  intro T B D TE TW
  try (refine guard_noD D (by decide +kernel) ?_; clear D)
  obtain ⟨_, _, M⟩ := bmod_of_top T
  have TA := at_of_top T
  try (obtain ⟨_, _, he, B0⟩ := based_of_top T rfl hmg ho hdf; have he' : cd = _ := he; subst he'; clear he)
  clear hmg
  wrow_args hpre hlay hrd hwl hlo
  refine Mine.enter_callC ?_
  w_top on
  have K0 := below_caller (Top.heap T)
  (have he := Dflts.none hD rfl; subst he; have he := Dflts.noKw hD; subst he
   refine Mine.codeC_cellsN (by decide) ho (fd_plain hdf) (Top.nolimit T) hcd rfl (kinds_of (by kinds_ok)) (by decide) fun h₁ tk₁ cells F N0 X0 => ?_
   cells_open X0)
  clear hdf TA Y G
  rename_i o8 o7 o6 o5 o4 o3 o2 o1 q8 q7 q6 q5 q4 q3 q2 q1
  rename ¬ (_ < _) => hc63
  rename IntsAre _ _ => hInt
  rename Heap.IsList _ _ _ => hList
  have hlen := Mine.ints_len hInt
  refine' Mine.body w (ExcName.means s₀.heap) mg mb _ _ ?hlaw fa _ s₁.heap s₁.heap s₁.heap.objs.size _ _ _ _ _ o1 o2 o3 o4 o5 o6 o7 o8 _ _ _ _ _ _ ?B ?F ?X ?N ?T ?XB ?TB ?h1 ?h2 ?h3 ?h4 ?h5 ?h6 ?h7 ?h8 ?hl ?hI ?hlen ?hE ?hret
  case hlaw => rfl
  case B => exact K0
  case F => exact F
  case X => exact KX
  case N => exact N0
  case T => exact T
  case XB => exact KX
  case TB => exact T
  case h1 => exact q1
  case h2 => exact q2
  case h3 => exact q3
  case h4 => exact q4
  case h5 => exact q5
  case h6 => exact q6
  case h7 => exact q7
  case h8 => exact q8
  case hl => exact hList
  case hI => exact hInt
  case hlen => omega
  case hE => passes_own
  case hret =>
    intro m' h' tk' Fz
    dsimp only
    first
      | wrow_closeG
      | wrow_close
