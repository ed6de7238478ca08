import PyProof.Rows.All
import Wide.All
import OpenK.AllK
import Wide.FinOn
import PySem.Challenge.RW_mq0233_01
set_option Elab.async false
set_option maxRecDepth 100000
set_option maxHeartbeats 8000000
set_option rowWalk.seconds 0
section
open PySem PySem.W PyProof.Rows
namespace Mine
open_top hd for PySem.Challenge.rw_mq0233_01
-- the walks below are not the head: off
theorem calm : True := by
  w_top off
  trivial
end Mine
end
section
open PySem PySem.W PyProof.Rows PySem.Calls PySem.Spec
namespace Mine
def Spc (n : Nat) (w : World) (f : Addr) (vs : List Value) (Out : List (Addr × Obj) → Value → Prop) : Prop :=
  ∀ (mean : ExcName → Option Value) (mg mb : Str → Option Value) (dp un : Nat) (gd : Option (List Code)) (cn : Str) (cs : Scope) (a : Addr) (ccd : Value) (cl : List (Str × Addr)) (outer : List Env) (A₀ : Around) (base h₀ : Heap) (L : Addr) (m : Str → Option Value) (news : List (Addr × Obj)) (s : Shared) (Q E : Value → Shared → Prop),
    Below A₀ base outer h₀ → Fr h₀ L s.heap m → (hd.heap_39 w.params).In h₀ → News h₀ L s.heap news → Top hd.view_39 (looseW hd.view_39 [Str.ofString "_filemode_table"]) mean mg mb h₀ → cs.kind = .function →
    dp + n < recursionLimit → un + 8 * n < cLine →
    (∀ r tl h' tk', Fr h₀ L h' m → News h₀ L h' (tl ++ news) → (∀ q ∈ news, ∀ p ∈ tl, q.1 < p.1) → Out tl r → Q r { s with heap := h', toks := tk' }) →
    wpAny (model PySem.Challenge.rw_mq0233_01.row.prog w) (ktrTop dp un gd cn cs L a ccd cl outer) (call (.ref f) vs) Q E s

theorem Spc.use {n : Nat} {w : World} {f : Addr} {vs : List Value} {Out : List (Addr × Obj) → Value → Prop} (S : Spc n w f vs Out)
    {mean : ExcName → Option Value} {mg mb : Str → Option Value} {dp un : Nat} {gd : Option (List Code)} {cn : Str} {cs : Scope} {a : Addr} {ccd : Value} {cl : List (Str × Addr)} {outer : List Env} {A₀ : Around} {base h₀ : Heap} {L : Addr} {m : Str → Option Value} {news : List (Addr × Obj)} {s : Shared} {Q E : Value → Shared → Prop}
    (B : Below A₀ base outer h₀) (F : Fr h₀ L s.heap m) (X : (hd.heap_39 w.params).In h₀) (N : News h₀ L s.heap news) (T : Top hd.view_39 (looseW hd.view_39 [Str.ofString "_filemode_table"]) mean mg mb h₀) (hk : cs.kind = .function)
    (hdp : dp + n < recursionLimit) (hun : un + 8 * n < cLine)
    (h : ∀ r tl h' tk', Fr h₀ L h' m → News h₀ L h' (tl ++ news) → (∀ q ∈ news, ∀ p ∈ tl, q.1 < p.1) → Out tl r → Q r { s with heap := h', toks := tk' }) :
    wpAny (model PySem.Challenge.rw_mq0233_01.row.prog w) (ktrTop dp un gd cn cs L a ccd cl outer) (call (.ref f) vs) Q E s :=
  S mean mg mb dp un gd cn cs a ccd cl outer A₀ base h₀ L m news s Q E B F X N T hk hdp hun h

def mx (a b c : Int) : Int := if b > a then (if c > b then c else b) else (if c > a then c else a)
def mn (a b c : Int) : Int := if b < a then (if c < b then c else b) else (if c < a then c else a)
theorem mx_ge (a b c : Int) : a ≤ mx a b c ∧ b ≤ mx a b c ∧ c ≤ mx a b c ∧ (mx a b c = a ∨ mx a b c = b ∨ mx a b c = c) := by unfold mx; split <;> split <;> omega
theorem mn_le (a b c : Int) : mn a b c ≤ a ∧ mn a b c ≤ b ∧ mn a b c ≤ c ∧ (mn a b c = a ∨ mn a b c = b ∨ mn a b c = c) := by unfold mn; split <;> split <;> omega
section
variable {prog : Program} {w : World} {A : Around} {E : Value → Shared → Prop} {s : Shared} {h₀ : Heap} {L : Addr} {m : Str → Option Value} {news : List (Addr × Obj)}
end
end Mine
end
section
open PySem PySem.W PyProof.Rows PySem.Calls PySem.Spec
namespace Mine
def qd (a b : Int) : UInt64 := Float64.ofFrac (decide (a < 0) != decide (b < 0)) a.natAbs b.natAbs
def rise (r g b : Int) : UInt64 :=
  if r = mx r g b then Float64.sub (qd (mx r g b - b) (mx r g b - mn r g b)) (qd (mx r g b - g) (mx r g b - mn r g b))
  else if g = mx r g b then Float64.sub (Float64.add 4611686018427387904 (qd (mx r g b - r) (mx r g b - mn r g b))) (qd (mx r g b - b) (mx r g b - mn r g b))
  else Float64.sub (Float64.add 4616189618054758400 (qd (mx r g b - g) (mx r g b - mn r g b))) (qd (mx r g b - r) (mx r g b - mn r g b))
def hueF (r g b : Int) : UInt64 := if mn r g b = mx r g b then 0 else (Float64.divmod (Float64.div (rise r g b) 4618441417868443648) 4607182418800017408).snd
def satF (r g b : Int) : UInt64 := if mn r g b = mx r g b then 0 else qd (mx r g b - mn r g b) (mx r g b)
def tup3 (x y z : Value) : Obj := { cls := .type "tuple", data := .seq #[x, y, z] }

theorem ord1 {news : List (Addr × Obj)} {D : Addr} {o : Obj} (h : ∀ p ∈ news, p.1 < D) : ∀ q ∈ news, ∀ p ∈ [(D, o)], q.1 < p.1 := fun q hq p hp => by
  rw [List.mem_singleton.mp hp]; exact h q hq

end Mine
end
section
open PySem PySem.W PyProof.Rows PySem.Calls PySem.Spec
namespace Mine
inductive NV | i (n : Int) | f (x : UInt64)
inductive NV.Is : NV → Value → Prop
  | i (n : Int) (t : Tok) : NV.Is (.i n) (.int n t)
  | f (x : UInt64) (t : Tok) : NV.Is (.f x) (.float x t)
def i6 (h : UInt64) : Int := PySem.Flt.toInt Float64.truncOf (Float64.mul h 4618441417868443648)
def fF (h : UInt64) : UInt64 := Float64.sub (Float64.mul h 4618441417868443648) (Float64.ofInt (i6 h))
def pF (s : UInt64) (v : Int) : UInt64 := Float64.mul (Float64.ofInt v) (Float64.sub 4607182418800017408 s)
def qF (h s : UInt64) (v : Int) : UInt64 := Float64.mul (Float64.ofInt v) (Float64.sub 4607182418800017408 (Float64.mul s (fF h)))
def tF (h s : UInt64) (v : Int) : UInt64 := Float64.mul (Float64.ofInt v) (Float64.sub 4607182418800017408 (Float64.mul s (Float64.sub 4607182418800017408 (fF h))))
def hsvF (h s : UInt64) (v : Int) : NV × NV × NV :=
  if (Float64.cmp s 0 == some Ordering.eq) = true then (.i v, .i v, .i v)
  else if (i6 h).fmod 6 = 0 then (.i v, .f (tF h s v), .f (pF s v))
  else if (i6 h).fmod 6 = 1 then (.f (qF h s v), .i v, .f (pF s v))
  else if (i6 h).fmod 6 = 2 then (.f (pF s v), .i v, .f (tF h s v))
  else if (i6 h).fmod 6 = 3 then (.f (pF s v), .f (qF h s v), .i v)
  else if (i6 h).fmod 6 = 4 then (.f (tF h s v), .f (pF s v), .i v)
  else (.i v, .f (pF s v), .f (qF h s v))
theorem hsv_out {h s : UInt64} {v : Int} {D : Addr} {x y z : Value} {X Y Z : NV} (e : hsvF h s v = (X, Y, Z)) (hx : X.Is x) (hy : Y.Is y) (hz : Z.Is z) :
    ∃ D' x' y' z', [(D, ({ cls := .type "tuple", data := .seq #[x, y, z] } : Obj))] = [(D', tup3 x' y' z')] ∧ Value.ref D = Value.ref D' ∧ (hsvF h s v).1.Is x' ∧ (hsvF h s v).2.1.Is y' ∧ (hsvF h s v).2.2.Is z' := by
  rw [e]; exact ⟨D, x, y, z, rfl, rfl, hx, hy, hz⟩
theorem fm6 (n : Int) : 0 ≤ n.fmod 6 ∧ n.fmod 6 < 6 := ⟨Int.fmod_nonneg_of_pos _ (by omega), Int.fmod_lt_of_pos _ (by omega)⟩

theorem hsv {w : World} (h s : UInt64) (v : Int) (t1 t2 t3 : Tok) (hv : 0 ≤ v ∧ v ≤ 200) (hf : Float64.isFinite (Float64.mul h 4618441417868443648) = true)
   (hi : 0 ≤ i6 h ∧ i6 h ≤ 6) :
   Spc 2 w 124 [Value.float h t1, .float s t2, .int v t3] (fun tl r => ∃ D x y z, tl = [(D, tup3 x y z)] ∧ r = .ref D ∧ (hsvF h s v).1.Is x ∧ (hsvF h s v).2.1.Is y ∧ (hsvF h s v).2.2.Is z) := by
  unfold Spc
  k_fill
  intros
  rename_i hret
  unfold i6 at hi
  have h6 := fm6 (i6 h)
  unfold i6 at h6
  refine wpAny_call ?_
  k_dflt cell_enter
  k_steps
  all_goals (try (exfalso; omega))
  all_goals (refine hret _ [(_, _)] _ _ (by assumption) (by assumption) (ord1 (by assumption)) ?_)
  · exact hsv_out (if_pos (by assumption)) (.i _ _) (.i _ _) (.i _ _)
  all_goals (have hs0 : ¬ (Float64.cmp s 0 == some Ordering.eq) = true := (by simp only [Bool.not_eq_true]; assumption))
  · exact hsv_out ((if_neg hs0).trans (if_pos (by assumption))) (.i _ _) (.f _ _) (.f _ _)
  · exact hsv_out ((if_neg hs0).trans ((if_neg (by assumption)).trans (if_pos (by assumption)))) (.f _ _) (.i _ _) (.f _ _)
  · exact hsv_out ((if_neg hs0).trans ((if_neg (by assumption)).trans ((if_neg (by assumption)).trans (if_pos (by assumption))))) (.f _ _) (.i _ _) (.f _ _)
  · exact hsv_out ((if_neg hs0).trans ((if_neg (by assumption)).trans ((if_neg (by assumption)).trans ((if_neg (by assumption)).trans (if_pos (by assumption)))))) (.f _ _) (.f _ _) (.i _ _)
  · exact hsv_out ((if_neg hs0).trans ((if_neg (by assumption)).trans ((if_neg (by assumption)).trans ((if_neg (by assumption)).trans ((if_neg (by assumption)).trans (if_pos (by assumption))))))) (.f _ _) (.f _ _) (.i _ _)
  · exact hsv_out ((if_neg hs0).trans ((if_neg (by assumption)).trans ((if_neg (by assumption)).trans ((if_neg (by assumption)).trans ((if_neg (by assumption)).trans (if_neg (by assumption))))))) (.i _ _) (.f _ _) (.f _ _)
end Mine
end
section
open PySem PySem.W PyProof.Rows PySem.Calls PySem.Spec
namespace Mine
def kd (x : Int) : Int := x / 4096 % 16
theorem kd_lt (x : Int) : 0 ≤ kd x ∧ kd x < 16 := by unfold kd; omega
theorem and_dbl (x y : Int) : Builtin.bitAnd x (2 * y) = 2 * Builtin.bitAnd (x / 2) y := by
  rw [kbt_halves]
  have h1 : 2 * y / 2 = y := by omega
  have h2 : ¬ (x % 2 = 1 ∧ (2 * y) % 2 = 1) := by omega
  rw [h1, if_neg h2]; omega
theorem and_fmt (x : Int) : Builtin.bitAnd x 61440 = 4096 * kd x := by
  have e : (61440 : Int) = 2 * (2 * (2 * (2 * (2 * (2 * (2 * (2 * (2 * (2 * (2 * (2 * 15))))))))))) := by decide
  rw [e]
  simp only [and_dbl, bitAnd_m4]
  unfold kd
  omega
theorem kd_F (x : Int) : (x.fdiv 4096).fmod 16 = kd x := by
  rw [Int.fdiv_eq_ediv_of_nonneg _ (by omega), Int.fmod_eq_emod_of_nonneg _ (by omega)]; rfl

theorem ifmt {w : World} (x : Int) (u : Tok) : Spc 2 w 21 [Value.int x u] (fun tl r => tl = [] ∧ ∃ t, r = .int (4096 * kd x) t) := by
  unfold Spc
  k_fill
  intros
  rename_i hret
  refine wpAny_call ?_
  k_dflt cell_enter
  k_steps
  refine hret _ [] _ _ (by assumption) (by assumption) (fun _ _ _ h => nomatch h) ⟨rfl, ?_⟩
  rw [and_fmt]; exact ⟨_, rfl⟩


def lr (k : Int) : Int := k / 2 % 2 * 2 + k % 2
def lg (k : Int) : Int := k / 4 % 2 * 2 + k % 2
def lb (k : Int) : Int := k / 8 * 2 + k % 2
theorem fd (a b : Int) (h : 0 ≤ b) : a.fdiv b = a / b := Int.fdiv_eq_ediv_of_nonneg _ h
theorem fm (a b : Int) (h : 0 ≤ b) : a.fmod b = a % b := Int.fmod_eq_emod_of_nonneg _ h
theorem light_out {x a b c : Int} {D : Addr} {t1 t2 t3 : Tok} (ha : a = lr (kd x)) (hb : b = lg (kd x)) (hc : c = lb (kd x)) :
    ∃ D' u1 u2 u3, [(D, W.listOf #[Value.int a t1, .int b t2, .int c t3] 0)] = [(D', W.listOf #[Value.int (lr (kd x)) u1, .int (lg (kd x)) u2, .int (lb (kd x)) u3] 0)] ∧ Value.ref D = Value.ref D' := by
  subst ha hb hc; exact ⟨D, t1, t2, t3, rfl, rfl⟩
theorem light {w : World} (x : Int) (u : Tok) : Spc 2 w 131 [Value.int x u] (fun tl r => ∃ D u1 u2 u3, tl = [(D, W.listOf #[Value.int (lr (kd x)) u1, .int (lg (kd x)) u2, .int (lb (kd x)) u3] 0)] ∧ r = .ref D) := by
  unfold Spc
  k_fill
  intros
  rename_i hret
  refine wpAny_call ?_
  k_dflt cell_enter
  k_steps
  refine hret _ [(_, _)] _ _ (by assumption) (by assumption) (ord1 (by assumption)) (light_out ?_ ?_ ?_)
  all_goals (first | unfold lr | unfold lg | unfold lb)
  all_goals (rw [← kd_F]; simp only [fd _ 2 (by decide), fd _ 4 (by decide), fd _ 8 (by decide), fm _ 2 (by decide)])

local macro_rules | `(tactic| walk_at "call ref") => `(tactic| (k_here; (with_reducible show wpAny _ _ (call (Value.ref 21) [Value.int _ _]) _ _ _); k_dflt (refine' Spc.use (ifmt _ _) ?k1 ?k2 ?k3 ?k4 ?k5 ?kK ?kd ?ku ?_; (case k1 => k_asm); (case k2 => k_asm); (case k3 => k_asm); (case k4 => k_asm); (case k5 => k_asm); (case kK => first | exact rfl | assumption); (case kd => ktr_room); (case ku => ktr_units); intro r9 tl9 h9 tk9 F9 N9 o9 p9; obtain ⟨e9, t9, e9'⟩ := p9; subst e9 e9'; clear o9; (try simp only [List.nil_append] at N9); (try dsimp only); (try k_fold))))

theorem isdir {w : World} (x : Int) (u : Tok) : Spc 3 w 28 [Value.int x u] (fun tl r => tl = [] ∧ r = .bool (4096 * kd x == 16384)) := by
  unfold Spc
  k_fill
  intros
  rename_i hret
  refine wpAny_call ?_
  k_dflt cell_enter
  k_steps
  exact hret _ [] _ _ (by assumption) (by assumption) (fun _ _ _ h => nomatch h) ⟨rfl, rfl⟩
theorem ischr {w : World} (x : Int) (u : Tok) : Spc 3 w 35 [Value.int x u] (fun tl r => tl = [] ∧ r = .bool (4096 * kd x == 8192)) := by
  unfold Spc
  k_fill
  intros
  rename_i hret
  refine wpAny_call ?_
  k_dflt cell_enter
  k_steps
  exact hret _ [] _ _ (by assumption) (by assumption) (fun _ _ _ h => nomatch h) ⟨rfl, rfl⟩
theorem isblk {w : World} (x : Int) (u : Tok) : Spc 3 w 42 [Value.int x u] (fun tl r => tl = [] ∧ r = .bool (4096 * kd x == 24576)) := by
  unfold Spc
  k_fill
  intros
  rename_i hret
  refine wpAny_call ?_
  k_dflt cell_enter
  k_steps
  exact hret _ [] _ _ (by assumption) (by assumption) (fun _ _ _ h => nomatch h) ⟨rfl, rfl⟩
theorem isreg {w : World} (x : Int) (u : Tok) : Spc 3 w 49 [Value.int x u] (fun tl r => tl = [] ∧ r = .bool (4096 * kd x == 32768)) := by
  unfold Spc
  k_fill
  intros
  rename_i hret
  refine wpAny_call ?_
  k_dflt cell_enter
  k_steps
  exact hret _ [] _ _ (by assumption) (by assumption) (fun _ _ _ h => nomatch h) ⟨rfl, rfl⟩
theorem isfifo {w : World} (x : Int) (u : Tok) : Spc 3 w 56 [Value.int x u] (fun tl r => tl = [] ∧ r = .bool (4096 * kd x == 4096)) := by
  unfold Spc
  k_fill
  intros
  rename_i hret
  refine wpAny_call ?_
  k_dflt cell_enter
  k_steps
  exact hret _ [] _ _ (by assumption) (by assumption) (fun _ _ _ h => nomatch h) ⟨rfl, rfl⟩
theorem islnk {w : World} (x : Int) (u : Tok) : Spc 3 w 63 [Value.int x u] (fun tl r => tl = [] ∧ r = .bool (4096 * kd x == 40960)) := by
  unfold Spc
  k_fill
  intros
  rename_i hret
  refine wpAny_call ?_
  k_dflt cell_enter
  k_steps
  exact hret _ [] _ _ (by assumption) (by assumption) (fun _ _ _ h => nomatch h) ⟨rfl, rfl⟩
theorem issock {w : World} (x : Int) (u : Tok) : Spc 3 w 70 [Value.int x u] (fun tl r => tl = [] ∧ r = .bool (4096 * kd x == 49152)) := by
  unfold Spc
  k_fill
  intros
  rename_i hret
  refine wpAny_call ?_
  k_dflt cell_enter
  k_steps
  exact hret _ [] _ _ (by assumption) (by assumption) (fun _ _ _ h => nomatch h) ⟨rfl, rfl⟩
local macro_rules | `(tactic| walk_at "call ref") => `(tactic| (k_here; (with_reducible show wpAny _ _ (call (Value.ref 28) [Value.int _ _]) _ _ _); k_dflt (refine' Spc.use (isdir _ _) ?k1 ?k2 ?k3 ?k4 ?k5 ?kK ?kd ?ku ?_; (case k1 => k_asm); (case k2 => k_asm); (case k3 => k_asm); (case k4 => k_asm); (case k5 => k_asm); (case kK => first | exact rfl | assumption); (case kd => ktr_room); (case ku => ktr_units); intro r9 tl9 h9 tk9 F9 N9 o9 p9; obtain ⟨e9, e9'⟩ := p9; subst e9 e9'; clear o9; (try simp only [List.nil_append] at N9); (try dsimp only); (try k_fold))))
local macro_rules | `(tactic| walk_at "call ref") => `(tactic| (k_here; (with_reducible show wpAny _ _ (call (Value.ref 35) [Value.int _ _]) _ _ _); k_dflt (refine' Spc.use (ischr _ _) ?k1 ?k2 ?k3 ?k4 ?k5 ?kK ?kd ?ku ?_; (case k1 => k_asm); (case k2 => k_asm); (case k3 => k_asm); (case k4 => k_asm); (case k5 => k_asm); (case kK => first | exact rfl | assumption); (case kd => ktr_room); (case ku => ktr_units); intro r9 tl9 h9 tk9 F9 N9 o9 p9; obtain ⟨e9, e9'⟩ := p9; subst e9 e9'; clear o9; (try simp only [List.nil_append] at N9); (try dsimp only); (try k_fold))))
local macro_rules | `(tactic| walk_at "call ref") => `(tactic| (k_here; (with_reducible show wpAny _ _ (call (Value.ref 42) [Value.int _ _]) _ _ _); k_dflt (refine' Spc.use (isblk _ _) ?k1 ?k2 ?k3 ?k4 ?k5 ?kK ?kd ?ku ?_; (case k1 => k_asm); (case k2 => k_asm); (case k3 => k_asm); (case k4 => k_asm); (case k5 => k_asm); (case kK => first | exact rfl | assumption); (case kd => ktr_room); (case ku => ktr_units); intro r9 tl9 h9 tk9 F9 N9 o9 p9; obtain ⟨e9, e9'⟩ := p9; subst e9 e9'; clear o9; (try simp only [List.nil_append] at N9); (try dsimp only); (try k_fold))))
local macro_rules | `(tactic| walk_at "call ref") => `(tactic| (k_here; (with_reducible show wpAny _ _ (call (Value.ref 49) [Value.int _ _]) _ _ _); k_dflt (refine' Spc.use (isreg _ _) ?k1 ?k2 ?k3 ?k4 ?k5 ?kK ?kd ?ku ?_; (case k1 => k_asm); (case k2 => k_asm); (case k3 => k_asm); (case k4 => k_asm); (case k5 => k_asm); (case kK => first | exact rfl | assumption); (case kd => ktr_room); (case ku => ktr_units); intro r9 tl9 h9 tk9 F9 N9 o9 p9; obtain ⟨e9, e9'⟩ := p9; subst e9 e9'; clear o9; (try simp only [List.nil_append] at N9); (try dsimp only); (try k_fold))))
local macro_rules | `(tactic| walk_at "call ref") => `(tactic| (k_here; (with_reducible show wpAny _ _ (call (Value.ref 56) [Value.int _ _]) _ _ _); k_dflt (refine' Spc.use (isfifo _ _) ?k1 ?k2 ?k3 ?k4 ?k5 ?kK ?kd ?ku ?_; (case k1 => k_asm); (case k2 => k_asm); (case k3 => k_asm); (case k4 => k_asm); (case k5 => k_asm); (case kK => first | exact rfl | assumption); (case kd => ktr_room); (case ku => ktr_units); intro r9 tl9 h9 tk9 F9 N9 o9 p9; obtain ⟨e9, e9'⟩ := p9; subst e9 e9'; clear o9; (try simp only [List.nil_append] at N9); (try dsimp only); (try k_fold))))
local macro_rules | `(tactic| walk_at "call ref") => `(tactic| (k_here; (with_reducible show wpAny _ _ (call (Value.ref 63) [Value.int _ _]) _ _ _); k_dflt (refine' Spc.use (islnk _ _) ?k1 ?k2 ?k3 ?k4 ?k5 ?kK ?kd ?ku ?_; (case k1 => k_asm); (case k2 => k_asm); (case k3 => k_asm); (case k4 => k_asm); (case k5 => k_asm); (case kK => first | exact rfl | assumption); (case kd => ktr_room); (case ku => ktr_units); intro r9 tl9 h9 tk9 F9 N9 o9 p9; obtain ⟨e9, e9'⟩ := p9; subst e9 e9'; clear o9; (try simp only [List.nil_append] at N9); (try dsimp only); (try k_fold))))
local macro_rules | `(tactic| walk_at "call ref") => `(tactic| (k_here; (with_reducible show wpAny _ _ (call (Value.ref 70) [Value.int _ _]) _ _ _); k_dflt (refine' Spc.use (issock _ _) ?k1 ?k2 ?k3 ?k4 ?k5 ?kK ?kd ?ku ?_; (case k1 => k_asm); (case k2 => k_asm); (case k3 => k_asm); (case k4 => k_asm); (case k5 => k_asm); (case kK => first | exact rfl | assumption); (case kd => ktr_room); (case ku => ktr_units); intro r9 tl9 h9 tk9 F9 N9 o9 p9; obtain ⟨e9, e9'⟩ := p9; subst e9 e9'; clear o9; (try simp only [List.nil_append] at N9); (try dsimp only); (try k_fold))))

theorem allLt_mem {d : Nat} : ∀ {l : List (Addr × Obj)}, AllLt d l → ∀ p ∈ l, p.1 < d
  | [], _, _, h => nomatch h
  | _ :: _, x, p, h => by
    rcases List.mem_cons.mp h with rfl | h
    · exact x.1
    · exact allLt_mem x.2 p h
def ansO (k : Int) : Obj := W.listOf #[.bool (4096 * k == 8192), .bool (4096 * k == 24576), .bool (4096 * k == 16384), .bool (4096 * k == 49152), .bool (4096 * k == 32768), .bool (4096 * k == 40960), .bool (4096 * k == 4096)] 0
theorem answers {w : World} (x : Int) (u : Tok) : Spc 4 w 138 [Value.int x u] (fun tl r => ∃ D, tl = [(D, ansO (kd x))] ∧ r = .ref D) := by
  unfold Spc
  k_fill
  intros
  rename_i hret
  refine wpAny_call ?_
  k_dflt cell_enter
  k_steps
  rename _ ∧ _ ∧ AllLt _ _ => l1
  refine hret _ [(_, ansO (kd x))] _ _ (by assumption) (cb_drop (by assumption) ?_) (ord1 (allLt_mem l1.2.2)) ⟨_, rfl, rfl⟩
  intro p hp
  rcases List.mem_cons.mp hp with rfl | hp
  · exact .head _
  · exact .tail _ (.tail _ (.tail _ hp))
end Mine
end
section
open PySem PySem.W PyProof.Rows PySem.Calls PySem.Spec
open AutoSeq1 (wpAny_loadPart')
namespace Mine
abbrev titer (l : Addr) : Obj := { cls := .type "tuple_iterator", data := .fields #[.ref l, .int 0 0] }
theorem enumT_new (l : Addr) (items : Array Value) (n : Nat) (dct : Option Addr) (sl : Array (Option Value)) :
    Meets (Builtin.«enumerate.__new__» ⟨[.type "enumerate", .ref l], []⟩) (fun _ R s => s.heap.get? l = some { cls := .type "tuple", dict := dct, data := .seq items n, slots := sl } ∧
      R (.ok (.ret (.ref (s.heap.push (titer l)).objs.size)))
        { s with heap := (s.heap.push (titer l)).push { cls := .type "enumerate", data := .fields #[.none, .bool false, .ref s.heap.objs.size, rawInt 0, .none, .none] } }) :=
  .of_wp fun prog w A R s h => by
    obtain ⟨hp, g, d, tk, os⟩ := s; obtain ⟨hl, h⟩ := h
    have hsub := sub_enumerate
    have hL : Heap.IsTuple (Shared.heap ⟨hp, g, d, tk, os⟩) l items := ⟨_, hl, rfl, n, rfl⟩
    wp_walk using wpAny_loadPart' hl
    refine wpAny_stack_any fun st => wpAny_pure ?_
    split
    · rename_i c _ _ _ _ _
      cases (c == Value.type "enumerate")
      · wp_walk using wpAny_loadPart' hl, wpAny_pyIter_tuple hL
        exact ⟨_, rfl, h⟩
      · wp_walk using wpAny_loadPart' hl, wpAny_pyIter_tuple hL
        exact ⟨_, rfl, h⟩
    · wp_walk using wpAny_loadPart' hl, wpAny_pyIter_tuple hL
      exact ⟨_, rfl, h⟩
section
variable {prog : Program} {w : World} {A : Around} {E : Value → Shared → Prop} {s : Shared}
theorem call_enumT {l : Addr} {items : Array Value} {Q : Value → Shared → Prop} (hL : s.heap.IsTuple l items)
    (h : ∀ h', IsEnum h' (s.heap.objs.size + 1) s.heap.objs.size 0 .none → h'.IsTupleIter s.heap.objs.size l 0 → h'.objs.size = s.heap.objs.size + 2 →
      (∀ b o, s.heap.get? b = some o → h'.get? b = some o) → Q (.ref (s.heap.objs.size + 1)) { s with heap := h' }) :
    wpAny (model prog w) A (call (.type "enumerate") [.ref l]) Q E s := by
  obtain ⟨⟨c, dct, dt, sl⟩, hl, hc, n, hd⟩ := hL
  replace hc : c = .type "tuple" := hc
  replace hd : dt = .seq items n := hd
  subst hc hd
  refine callType_new F.called_enumerate (by decide) (F.typeCall_enumerate_1 _) (F.newCall_enumerate_1 _) (fun obj => F.args_object_init_2 obj _) F.entry_enumerate_new
    (enumT_new l items n dct sl) ⟨hl, ?_⟩
  have hz : (s.heap.push (titer l)).objs.size = s.heap.objs.size + 1 := Heap.size_push ..
  show _ ∧ _
  rw [hz]
  have he : IsEnum ((s.heap.push (titer l)).push
      { cls := .type "enumerate", data := .fields #[.none, .bool false, .ref s.heap.objs.size, rawInt 0, .none, .none] }) (s.heap.objs.size + 1) s.heap.objs.size 0 .none := by
    have q := Heap.get?_push_size (s.heap.push (titer l))
      (o := { cls := .type "enumerate", data := .fields #[.none, .bool false, .ref s.heap.objs.size, rawInt 0, .none, .none] }) rfl
    rw [hz] at q; exact q
  exact ⟨⟨_, he, rfl⟩, h _ he ⟨_, Heap.get?_push_of_some _ (Heap.get?_push_size _ rfl), rfl, rfl⟩ (by rw [Heap.size_push, hz]) fun b o x => Heap.get?_push_of_some _ (Heap.get?_push_of_some _ x)⟩

theorem nextT {it l : Addr} {i : Nat} {items : Array Value} {x : Value} {Q : Value → Shared → Prop} (hit : s.heap.IsTupleIter it l i)
    (hl : s.heap.IsTuple l items) (hx : items[i]? = some x)
    (hQ : ∀ h', h'.IsTupleIter it l (i + 1) → Heap.SameBut it s.heap h' → Q x { s with heap := h' }) :
    wpAny (model prog w) A (Builtin.SmallTypes.nextOf (.ref it)) Q E s := by
  obtain ⟨o, ho, hc, hd⟩ := id hit
  obtain ⟨ol, hol, _, nl, hdl⟩ := hl
  unfold Builtin.SmallTypes.nextOf
  refine wpAny_bind (wpAny_callSpecial?_slot (name := Str.ofString "__next__") hit.typeIs F.slot_tuple_iterator_next
    (wpAny_call_entry F.slot_tuple_iterator_next hit.typeIs F.entry_tuple_iterator_next ?_ (F.args_tuple_iterator_next_1 _)))
  show wpAny _ _ (field (.ref it) 0 >>= _) _ _ s
  refine wpAny_bind (wpAny_field ho hd (x := .ref l) rfl ?_)
  show wpAny _ _ (if (Value.ref l == Value.none) = true then _ else _) _ _ s
  rw [if_neg (show ¬ ((Value.ref l == Value.none) = true) from Bool.false_ne_true)]
  show wpAny _ _ (field (.ref it) 1 >>= _) _ _ s
  refine wpAny_bind (wpAny_field ho hd (x := .int i 0) rfl ?_)
  show wpAny _ _ (seqItems? (.ref l) >>= _) _ _ s
  refine wpAny_bind (wpAny_seqItems hol hdl ?_)
  simp only [Int.toNat_natCast, hx]
  refine wpAny_bind (wpAny_setField ho hd (by simp) (wpAny_pure ⟨x, rfl, wpAny_pure (hQ _ ?_ (Heap.SameBut.update ..))⟩))
  exact ⟨_, Heap.get?_update_self _ ho (Obj.isFreed_of_fields (Obj.data_mapFields hd _)), (Obj.cls_mapFields ..).trans hc, by
    rw [Obj.data_mapFields hd]; simp [rawInt]⟩

theorem nextT_end {it l : Addr} {i : Nat} {items : Array Value} {Q : Value → Shared → Prop} (hh : A.handled = none)
    (hit : s.heap.IsTupleIter it l i) (hl : s.heap.IsTuple l items) (hx : items[i]? = none)
    (hE : ∀ h' e, Heap.ExtBut it s.heap h' → (∃ o, h'.get? e = some o ∧ o.cls = .type "StopIteration") → E (.ref e) { s with heap := h' }) :
    wpAny (model prog w) A (Builtin.SmallTypes.nextOf (.ref it)) Q E s := by
  obtain ⟨o, ho, hc, hd⟩ := id hit
  obtain ⟨ol, hol, _, nl, hdl⟩ := hl
  unfold Builtin.SmallTypes.nextOf
  refine wpAny_bind (wpAny_callSpecial?_slot (name := Str.ofString "__next__") hit.typeIs F.slot_tuple_iterator_next
    (wpAny_call_entry F.slot_tuple_iterator_next hit.typeIs F.entry_tuple_iterator_next ?_ (F.args_tuple_iterator_next_1 _)))
  show wpAny _ _ (field (.ref it) 0 >>= _) _ _ s
  refine wpAny_bind (wpAny_field ho hd (x := .ref l) rfl ?_)
  show wpAny _ _ (if (Value.ref l == Value.none) = true then _ else _) _ _ s
  rw [if_neg (show ¬ ((Value.ref l == Value.none) = true) from Bool.false_ne_true)]
  show wpAny _ _ (field (.ref it) 1 >>= _) _ _ s
  refine wpAny_bind (wpAny_field ho hd (x := .int i 0) rfl ?_)
  show wpAny _ _ (seqItems? (.ref l) >>= _) _ _ s
  refine wpAny_bind (wpAny_seqItems hol hdl ?_)
  simp only [Int.toNat_natCast, hx]
  refine wpAny_bind (wpAny_rule (wpAny_bind (wpAny_setField ho hd (by simp) ?_)))
  show wpAny _ _ (newExc (.type "StopIteration") [] >>= _) _ _ _
  refine wpAny_bind ?_
  simp only [newExc, newTuple]
  refine wpAny_bind (wpAny_newObj_type ?_ (by size_fits))
  refine wpAny_bind (m := firstArgMember _ _) (wpAny_of_eq (a := Value.none) (by first | rfl | (simp only [firstArgMember]; rfl)) ?_)
  refine wpAny_newObj_type ?_ (by size_fits)
  simp only [raiseNew]
  refine wpAny_bind (wpAny_handled ?_)
  first | rw [show A.in1.handled = none from hh] | rw [hh]
  refine wpAny_bind (wpAny_pure (wpAny_throw ?_))
  exact hE _ _ (((Heap.SameBut.update ..).extBut.push _).push _) ⟨_, Heap.get?_push_size _ rfl, rfl⟩
end
end Mine
end
section
open PySem PySem.W PyProof.Rows PySem.Calls PySem.Spec
namespace Mine
section
variable {prog : Program} {w : World} {A : Around} {E : Value → Shared → Prop} {s : Shared}
theorem enumT_item {e it l : Addr} {i : Nat} {items : Array Value} {x old : Value} {Q : Value → Shared → Prop}
    (he : IsEnum s.heap e it i old) (hit : s.heap.IsTupleIter it l i) (hl : s.heap.IsTuple l items) (hx : items[i]? = some x) (hne : e ≠ it)
    (hQ : ∀ h', IsEnumOut h' e it ((i : Int) + 1) x s.heap.objs.size → h'.IsTupleIter it l (i + 1) →
      h'.get? s.heap.objs.size = some { cls := .type "tuple", data := .seq #[.int i s.toks, x] } →
      (∀ b o, b ≠ e → b ≠ it → s.heap.get? b = some o → h'.get? b = some o) → Q (.ref s.heap.objs.size) { s with heap := h', toks := s.toks + 1 }) :
    wpAny (model prog w) A (Builtin.«enumerate.__next__» ⟨[.ref e], []⟩) (fun fin s' => ∃ v, fin = .done (.ret v) ∧ Q v s') E s := by
  obtain ⟨hp, g, d, tk, os⟩ := s
  show wpAny _ _ (field (.ref e) 2 >>= _) _ _ _
  refine wpAny_bind (wpAny_field he rfl (x := .ref it) rfl ?_)
  refine wpAny_bind (nextT hit hl hx fun h₁ hit₁ hs₁ => ?_)
  replace hs₁ : Heap.SameBut it hp h₁ := hs₁
  have he₁ : IsEnum h₁ e it i old := (hs₁.2 e hne).trans he
  show wpAny _ _ (field (.ref e) 3 >>= _) _ _ ⟨h₁, g, d, tk, os⟩
  refine wpAny_bind (wpAny_field he₁ rfl (x := rawInt i) rfl ?_)
  show wpAny _ _ (field (.ref e) 4 >>= _) _ _ ⟨h₁, g, d, tk, os⟩
  refine wpAny_bind (wpAny_field he₁ rfl (x := .none) rfl ?_)
  show wpAny _ _ (mkInt i >>= _) _ _ ⟨h₁, g, d, tk, os⟩
  refine wpAny_bind (wpAny_mkInt ?_)
  show wpAny _ _ (setField (.ref e) 3 (rawInt ((i : Int) + 1)) >>= _) _ _ ⟨h₁, g, d, tk + 1, os⟩
  refine wpAny_bind (wpAny_setField_rec he₁ (by simp) fun h₂ he₂ hs₂ => ?_)
  replace hs₂ : Heap.SameBut e h₁ h₂ := hs₂
  replace he₂ : IsEnum h₂ e it ((i : Int) + 1) old := he₂
  show wpAny _ _ (setField (.ref e) 4 .none >>= _) _ _ ⟨h₂, g, d, tk + 1, os⟩
  refine wpAny_bind (wpAny_setField_rec he₂ (by simp) fun h₃ he₃ hs₃ => ?_)
  replace hs₃ : Heap.SameBut e h₂ h₃ := hs₃
  replace he₃ : IsEnum h₃ e it ((i : Int) + 1) old := he₃
  show wpAny _ _ (newTuple [.int i tk, x] >>= _) _ _ ⟨h₃, g, d, tk + 1, os⟩
  refine wpAny_bind (wpAny_newTuple ?_)
  have he₄ : IsEnum (h₃.push { cls := .type "tuple", data := .seq #[.int i tk, x] }) e it ((i : Int) + 1) old := Heap.get?_push_of_some _ he₃
  generalize hh₄ : h₃.push { cls := .type "tuple", data := .seq #[.int i tk, x] } = h₄ at he₄
  have hsz : h₃.objs.size = hp.objs.size := by rw [hs₃.1, hs₂.1, hs₁.1]
  have hel : e < hp.objs.size := Heap.lt_size he
  have ht₄ : h₄.get? hp.objs.size = some { cls := .type "tuple", data := .seq #[.int i tk, x] } := by rw [← hh₄, ← hsz]; exact Heap.get?_push_size _ rfl
  have hk₄ : ∀ b o, b ≠ e → b ≠ it → hp.get? b = some o → h₄.get? b = some o := fun b o hbe hbi hb => by
    rw [← hh₄]; exact Heap.get?_push_of_some _ (hs₃.extBut b o hbe (hs₂.extBut b o hbe (hs₁.extBut b o hbi hb)))
  have hit₄ : h₄.IsTupleIter it l (i + 1) := by
    rw [← hh₄]; obtain ⟨o, ho, r⟩ := (hit₁.extBut hs₂.extBut (Ne.symm hne)).extBut hs₃.extBut (Ne.symm hne); exact ⟨o, Heap.get?_push_of_some _ ho, r⟩
  show wpAny _ _ (Builtin.SmallTypes.ownedTupleIsFree (.ref e) >>= _) _ _ ⟨h₄, g, d, tk + 1, os⟩
  rw [hsz]
  clear hh₄ he₃ hs₃ he₂ hs₂ he₁ hs₁ hit₁ hsz h₃ h₂ h₁
  refine wpAny_bind ?_
  unfold Builtin.SmallTypes.ownedTupleIsFree
  refine wpAny_bind (wpAny_field he₄ rfl (x := .none) rfl (wpAny_pure ?_))
  simp only [if_true]
  refine wpAny_bind (wpAny_rule ?_)
  refine wpAny_bind (wpAny_field he₄ rfl (x := old) rfl ?_)
  refine wpAny_bind (wpAny_setField_rec he₄ (by simp) fun h₅ he₅ hs₅ => ?_)
  replace hs₅ : Heap.SameBut e h₄ h₅ := hs₅
  replace he₅ : IsEnum h₅ e it ((i : Int) + 1) x := he₅
  show wpAny _ _ (Builtin.SmallTypes.ownedTupleHandOut (.ref e) (.ref hp.objs.size) >>= _) _ _ ⟨h₅, g, d, tk + 1, os⟩
  refine wpAny_bind ?_
  unfold Builtin.SmallTypes.ownedTupleHandOut
  refine wpAny_bind (wpAny_setField_rec he₅ (by simp) fun h₆ he₆ hs₆ => ?_)
  replace hs₆ : Heap.SameBut e h₅ h₆ := hs₆
  replace he₆ : IsEnumOut h₆ e it ((i : Int) + 1) x hp.objs.size := he₆
  refine wpAny_setField_rec he₆ (by simp) fun h₇ he₇ hs₇ => ?_
  replace hs₇ : Heap.SameBut e h₆ h₇ := hs₇
  replace he₇ : IsEnumOut h₇ e it ((i : Int) + 1) x hp.objs.size := he₇
  refine wpAny_bind (wpAny_letGo (wpAny_pure ⟨_, rfl, hQ h₇ he₇ ?_ ?_ ?_⟩))
  · exact ((hit₄.extBut hs₅.extBut (Ne.symm hne)).extBut hs₆.extBut (Ne.symm hne)).extBut hs₇.extBut (Ne.symm hne)
  · exact hs₇.extBut _ _ (Nat.ne_of_gt hel) (hs₆.extBut _ _ (Nat.ne_of_gt hel) (hs₅.extBut _ _ (Nat.ne_of_gt hel) ht₄))
  · exact fun b o hbe hbi hb => hs₇.extBut b o hbe (hs₆.extBut b o hbe (hs₅.extBut b o hbe (hk₄ b o hbe hbi hb)))

theorem pyNext_enumT {e it l : Addr} {i : Nat} {items : Array Value} {x old : Value} {Q : Option Value → Shared → Prop}
    (he : IsEnum s.heap e it i old) (hit : s.heap.IsTupleIter it l i) (hl : s.heap.IsTuple l items) (hx : items[i]? = some x) (hne : e ≠ it)
    (hQ : ∀ h', IsEnumOut h' e it ((i : Int) + 1) x s.heap.objs.size → h'.IsTupleIter it l (i + 1) →
      h'.get? s.heap.objs.size = some { cls := .type "tuple", data := .seq #[.int i s.toks, x] } →
      (∀ b o, b ≠ e → b ≠ it → s.heap.get? b = some o → h'.get? b = some o) → Q (some (.ref s.heap.objs.size)) { s with heap := h', toks := s.toks + 1 }) :
    wpAny (model prog w) A (pyNext (.ref e)) Q E s := by
  have hT : s.TypeIs (.ref e) "enumerate" := ⟨_, he, rfl⟩
  unfold pyNext
  exact wpAny_bind (wpAny_attempt (wpAny_callSpecial?_slot (name := Str.ofString "__next__") hT F.slot_enumerate_next
    (wpAny_call_entry F.slot_enumerate_next hT F.entry_enumerate_next
      (enumT_item he hit hl hx hne fun h' a b c k => wpAny_pure (hQ h' a b c k)) (F.args_enumerate_next_1 _))))

theorem pyNext_enumT_end {e it l : Addr} {i : Nat} {items : Array Value} {old : Value} {Q : Option Value → Shared → Prop} (hh : A.handled = none)
    (he : IsEnum s.heap e it i old) (hit : s.heap.IsTupleIter it l i) (hl : s.heap.IsTuple l items) (hx : items[i]? = none)
    (hQ : ∀ h', Heap.ExtBut it s.heap h' → Q none { s with heap := h' }) : wpAny (model prog w) A (pyNext (.ref e)) Q E s := by
  have hT : s.TypeIs (.ref e) "enumerate" := ⟨_, he, rfl⟩
  unfold pyNext
  refine wpAny_bind (wpAny_attempt (wpAny_callSpecial?_slot (name := Str.ofString "__next__") hT F.slot_enumerate_next
    (wpAny_call_entry F.slot_enumerate_next hT F.entry_enumerate_next ?_ (F.args_enumerate_next_1 _))))
  show wpAny _ _ (field (.ref e) 2 >>= _) _ _ _
  refine wpAny_bind (wpAny_field he rfl (x := .ref it) rfl ?_)
  refine wpAny_bind (nextT_end hh hit hl hx fun h' x he' hx' => ?_)
  obtain ⟨o, ho, hc⟩ := hx'
  refine wpAny_bind (wpAny_isInstance (T := "StopIteration") (b := true) ⟨o, ho, hc⟩ isSubtype_stop ?_)
  exact wpAny_pure (hQ _ he')
end

theorem walksE {prog : Program} {w : World} {A : Around} (hh : A.handled = none) (e it l : Addr) (hei : e ≠ it) (hle : l ≠ e) (hli : l ≠ it) (items : Array Value) :
    WalksT prog w A e [e, it, l] [e, it] items.size
      (fun i vals => ∃ t x, items[i]? = some x ∧ vals = #[.int i t, x])
      (fun i h => (∃ old, IsEnum h e it i old) ∧ h.IsTupleIter it l i ∧ h.IsTuple l items)
      (fun i T h => (∃ x, IsEnumOut h e it ((i : Int) + 1) x T) ∧ h.IsTupleIter it l (i + 1) ∧ h.IsTuple l items ∧ T ≠ e ∧ T ≠ it) where
  sub := fun b hb => by
    rcases List.mem_cons.mp hb with rfl | hb
    · exact List.mem_cons_self ..
    · exact List.mem_cons_of_mem _ (by rcases List.mem_cons.mp hb with rfl | hb; exact List.mem_cons_self ..; cases hb)
  frame := fun i h h' hst hk => by
    obtain ⟨⟨old, he⟩, hit, hl⟩ := hst
    exact ⟨⟨old, hk e (by simp) _ he⟩, hit.at fun o x => hk it (by simp) o x, hl.at fun o x => hk l (by simp) o x⟩
  item := fun i s Q E hi hst hQ => by
    obtain ⟨⟨old, he⟩, hit, hl⟩ := hst
    have hx : items[i]? = some items[i] := Array.getElem?_eq_getElem hi
    refine pyNext_enumT he hit hl hx hei fun h' ho hit' hT hk => ?_
    have helt : e < s.heap.objs.size := Heap.lt_size he
    have hilt : it < s.heap.objs.size := by obtain ⟨_, x, _⟩ := hit; exact Heap.lt_size x
    exact hQ s.heap.objs.size #[.int i s.toks, items[i]] h' (s.toks + 1) ⟨_, _, hx, rfl⟩ (Nat.le_refl _) ⟨_, hT, rfl, _, rfl⟩
      ⟨⟨_, ho⟩, hit', hl.at fun o x => hk l o hle hli x, Nat.ne_of_gt helt, Nat.ne_of_gt hilt⟩
      fun b o hb x => hk b o (fun e' => hb (by simp [e'])) (fun e' => hb (by simp [e'])) x
  go := fun elts k pos i T s Q E hm hQ => by
    obtain ⟨⟨x, ho⟩, hit, hl, hTe, hTi⟩ := hm
    refine wpAny_letOwnedTupleGo_enum ho fun h' he' hs' => hQ h' ⟨⟨x, by simpa using he'⟩, hit.at fun o y => (hs'.2 it hei.symm).trans y, hl.at fun o y => (hs'.2 l hle).trans y⟩ fun b o hb y => ?_
    exact (hs'.2 b fun e' => hb (by simp [e'])).trans y
  apart := fun i T h hm hT => by
    obtain ⟨_, _, _, hTe, hTi⟩ := hm
    rcases List.mem_cons.mp hT with rfl | hT
    · exact hTe rfl
    · rcases List.mem_cons.mp hT with rfl | hT
      · exact hTi rfl
      · cases hT
  done := fun s Q E hst hQ => by
    obtain ⟨⟨old, he⟩, hit, hl⟩ := hst
    exact pyNext_enumT_end hh he hit hl (Array.getElem?_eq_none (Nat.le_refl _)) fun h' hx => hQ h' s.toks fun b o hb y => hx b o (fun e' => hb (by simp [e'])) y
  self := fun i s Q E hst hQ => by
    obtain ⟨⟨old, he⟩, _, _⟩ := hst
    exact wpAny_pyIter_enum he hQ
end Mine
end
section
open PySem PySem.W PyProof.Rows PySem.Calls PySem.Spec
namespace Mine
/-- What a turn must leave: the iterator's own objects as they were, and the word for the next turn. -/
def StepT (h₀ : Heap) (L : Addr) (wr : List Addr) (its : List (Addr × Obj)) (Jn : (Str → Option Value) → List (Addr × Obj) → Prop) (s₁ : Shared) (Q : Flow → Shared → Prop) (f : Flow) (s₂ : Shared) : Prop :=
  match f with
  | .ret v => Q (.ret v) s₂
  | .brk => Q .next s₂
  | _ => ∃ h' tk m' news', s₂ = { s₁ with heap := h', toks := tk } ∧ Fr h₀ L h' m' ∧ News h₀ L h' (its ++ news') ∧ (∀ p ∈ news', p.1 ∉ wr) ∧ Jn m' news'
section
variable {prog : Program} {w : World} {A : Around} {E : Value → Shared → Prop} {s : Shared} {env : Env} {h₀ : Heap} {target : Expr} {body orelse : List Stmt} {Q : Flow → Shared → Prop}
theorem loopE {R : Result → Shared → Prop} {I : Addr} {fp wr : List Addr} {n : Nat} {P Md : Nat → Value → Heap → Prop} {St : Nat → Heap → Prop} {m : Str → Option Value} {news : List (Addr × Obj)} (W : KTurns prog w A target I fp wr n P Md St)
    (hfp : ∀ b ∈ fp, b ∈ wr ∨ ∃ o, h₀.get? b = some o) (hLw : env.locals ∉ wr) (hwr : ∀ b ∈ wr, h₀.get? b = none) (hnw : ∀ p ∈ news, p.1 ∉ wr)
    (hobj : ∀ i h, St i h → ∃ its : List (Addr × Obj), its.map (·.1) = wr ∧ ∀ p ∈ its, h.get? p.1 = some p.2)
    (hst : St 0 s.heap) (F : Fr h₀ env.locals s.heap m) (N : News h₀ env.locals s.heap news)
    (J : Nat → (Str → Option Value) → List (Addr × Obj) → Prop) (h0 : J 0 m news)
    (step : ∀ i v m₁ news₁ h₁ tk₁ its, i < n → P i v h₁ → J i m₁ news₁ → (∀ p ∈ news₁, p.1 ∉ wr) → its.map (·.1) = wr →
      Fr h₀ env.locals h₁ m₁ → News h₀ env.locals h₁ (its ++ news₁) →
      wpAny (model prog w) A (assign target env v) (fun _ s₂ => wpAny (model prog w) A (execs body env)
        (StepT h₀ env.locals wr its (J (i + 1)) { s with heap := h₁, toks := tk₁ } (fun f s' => R (.ok f) s')) (notedBy (model prog w) A env fun e s' => R (.error e) s') s₂) (notedBy (model prog w) A env fun e s' => R (.error e) s') { s with heap := h₁, toks := tk₁ })
    (hR : ∀ h' tk m' news', Fr h₀ env.locals h' m' → News h₀ env.locals h' news' → J n m' news' →
      wpAny (model prog w) A (execs orelse env) (fun f s₃ => R (.ok f) s₃) (notedBy (model prog w) A env fun e s' => R (.error e) s') { s with heap := h', toks := tk }) :
    codeAny (model prog w) A (.forLoop target (.ref I) body orelse env) R s := by
  have old : ∀ b o, h₀.get? b = some o → b ∉ wr := fun b o e hb => by rw [hwr b hb] at e; cases e
  refine codeAny_forLoop_any
    (fun k s' => ∃ h' tk m' news' i, s' = { s with heap := h', toks := tk } ∧ St i h' ∧ Fr h₀ env.locals h' m' ∧ News h₀ env.locals h' news' ∧ (∀ p ∈ news', p.1 ∉ wr) ∧ J i m' news' ∧ i ≤ n ∧ k = n + 1 - i) ?_ (n + 1)
    ⟨s.heap, s.toks, m, news, 0, rfl, hst, F, N, hnw, h0, Nat.zero_le _, rfl⟩
  rintro k s' ⟨h', tk, m', news', i, rfl, hst', F', N', hnw', hJ, hi, rfl⟩
  have next : ∀ h₁ : Heap, (∀ b o, b ∉ wr → h'.get? b = some o → h₁.get? b = some o) → Fr h₀ env.locals h₁ m' ∧ News h₀ env.locals h₁ news' := fun h₁ hk₁ =>
    ⟨⟨F'.ns.at' fun o e => hk₁ _ o hLw e, fun b o e => hk₁ b o (old b o e) (F'.keep b o e), F'.above⟩, fun p hp => ⟨hk₁ _ _ (hnw' p hp) (N' p hp).1, (N' p hp).2⟩⟩
  by_cases hlt : i < n
  · refine W.item i _ _ _ hlt hst' fun v h₁ tk₁ hMd hk₁ => ?_
    refine W.go i v _ _ _ hMd fun h₂ hP hst₂ hk₂ => ?_
    obtain ⟨F₂, N₂⟩ := next h₂ fun b o hb x => hk₂ b o hb (hk₁ b o hb x)
    obtain ⟨its, hits, hget⟩ := hobj _ _ hst₂
    have Nits : News h₀ env.locals h₂ its := fun p hp => by
      have hpw : p.1 ∈ wr := hits ▸ List.mem_map_of_mem hp
      exact ⟨hget p hp, fun e => hLw (e ▸ hpw), hwr _ hpw⟩
    have Nall : News h₀ env.locals h₂ (its ++ news') := fun p hp => by
      rcases List.mem_append.mp hp with hp | hp
      · exact Nits p hp
      · exact N₂ p hp
    have again : ∀ f s₃, (f = .next ∨ f = .cont) → StepT h₀ env.locals wr its (J (i + 1)) { s with heap := h₂, toks := tk₁ } (fun f s' => R (.ok f) s') f s₃ →
        ∃ k', k' < n + 1 - i ∧ ∃ h' tk m' news' i, s₃ = { s with heap := h', toks := tk } ∧ St i h' ∧ Fr h₀ env.locals h' m' ∧ News h₀ env.locals h' news' ∧ (∀ p ∈ news', p.1 ∉ wr) ∧ J i m' news' ∧ i ≤ n ∧ k' = n + 1 - i := by
      intro f s₃ hf h₃
      have h₃' : ∃ h' tk m' news', s₃ = { s with heap := h', toks := tk } ∧ Fr h₀ env.locals h' m' ∧ News h₀ env.locals h' (its ++ news') ∧ (∀ p ∈ news', p.1 ∉ wr) ∧ J (i + 1) m' news' := by
        rcases hf with rfl | rfl <;> exact h₃
      obtain ⟨h₃', tk₃, m₂, news₂, rfl, F₃, N₃, ha₃, hJ₃⟩ := h₃'
      refine ⟨n + 1 - (i + 1), by omega, h₃', tk₃, m₂, news₂, i + 1, rfl, ?_, F₃, fun p hp => N₃ p (List.mem_append_right _ hp), ha₃, hJ₃, hlt, rfl⟩
      refine W.frame _ _ _ hst₂ fun b hb o e => ?_
      rcases hfp b hb with hb | ⟨o₀, e₀⟩
      · obtain ⟨p, hp, rfl⟩ := List.mem_map.mp (hits ▸ hb)
        have q := hget p hp
        rw [e] at q; cases q
        exact (N₃ p (List.mem_append_left _ hp)).1
      · have q := F₂.keep b o₀ e₀
        rw [e] at q; cases q
        exact F₃.keep b _ e₀
    refine wpAny_mono (step i v m' news' h₂ tk₁ its hlt hP hJ hnw' hits F₂ Nall) (fun _ s₂ h₂' => wpAny_mono h₂' (fun f s₃ h₃ => ?_) fun _ _ e => e) fun _ _ e => e
    cases f with
    | ret v => exact h₃
    | brk => exact h₃
    | cont => exact again _ _ (.inr rfl) h₃
    | next => exact again _ _ (.inl rfl) h₃
  · have hin : i = n := by omega
    subst hin
    refine W.done _ _ _ hst' fun h₁ tk₁ hk₁ => ?_
    obtain ⟨F₁, N₁⟩ := next h₁ hk₁
    exact hR h₁ tk₁ m' news' F₁ N₁ hJ

/-- A for over a tuple of the ground, with an else. -/
theorem forTup {iter : Expr} {pos : Pos} {t : Addr} {items : Array Value} {m : Str → Option Value} {news : List (Addr × Obj)} (hh : A.handled = none)
    (F : Fr h₀ env.locals s.heap m) (N : News h₀ env.locals s.heap news) (ht : h₀.IsTuple t items)
    (he : wpAny (model prog w) A (eval iter env) (fun xv s₁ => xv = .ref t ∧ s₁ = s) E s)
    (J : Nat → (Str → Option Value) → List (Addr × Obj) → Prop) (h0 : J 0 m news)
    (step : ∀ i v m₁ news₁ h₁ tk₁ I oI, items[i]? = some v → J i m₁ news₁ → (∀ p ∈ news₁, p.1 ∉ [I]) → (∀ p ∈ news, p.1 < I) →
      Fr h₀ env.locals h₁ m₁ → News h₀ env.locals h₁ ((I, oI) :: news₁) →
      wpAny (model prog w) A (assign target env v) (fun _ s₂ => wpAny (model prog w) A (execs body env)
        (StepT h₀ env.locals [I] [(I, oI)] (J (i + 1)) { s with heap := h₁, toks := tk₁ } Q) E s₂) E { s with heap := h₁, toks := tk₁ })
    (hR : ∀ h' tk m' news', Fr h₀ env.locals h' m' → News h₀ env.locals h' news' → J items.size m' news' →
      wpAny (model prog w) A (execs orelse env) Q E { s with heap := h', toks := tk })
    (hs : ∀ x, foldedSetIterable iter env x = pure x := by intro _; rfl)
    (hE : PassesOwn (model prog w) A env E := by passes_own) :
    wpAny (model prog w) A (exec (.For target iter body orelse pos) env) Q E s := by
  refine wpAny_For (wpAny_mono he (fun xv s₁ h₁ => ?_) fun _ _ e => e) hs
  obtain ⟨rfl, rfl⟩ := h₁
  have htt : s₁.heap.IsTuple t items := let ⟨o, e, r⟩ := ht; ⟨o, F.keep _ _ e, r⟩
  refine wpAny_pyIter_tuple htt ?_
  have hk : ∀ b o, s₁.heap.get? b = some o → (s₁.heap.push (titer t)).get? b = some o := fun b o e => Heap.get?_push_of_some _ e
  have tlt : t < s₁.heap.objs.size := by obtain ⟨o, e, _⟩ := htt; exact Heap.lt_size e
  have fresh : h₀.get? s₁.heap.objs.size = none := by
    cases e : h₀.get? s₁.heap.objs.size with
    | none => rfl
    | some o => exact absurd (Heap.lt_size (F.keep _ _ e)) (Nat.lt_irrefl _)
  refine loopE (R := fun r s' => match r with | .ok f => Q f s' | .error e => cameBackBy (model prog w) A env E e s')
    (KTurns.ofWalks (Walks.tuple hh s₁.heap.objs.size t (Nat.ne_of_lt tlt) items) (fun i v s' Q' E' hst hQ' => letGo_tupleiter hst.1 hQ'))
    ?_ ?_ ?_ ?_ ?_ ⟨⟨_, Heap.get?_push_size _ rfl, rfl, rfl⟩, htt.push _⟩ (F.keeps hk) (N.grown hk) J h0 ?_ ?_
  · intro b hb
    rcases List.mem_cons.mp hb with rfl | hb
    · exact .inl (.head _)
    · rw [List.mem_singleton.mp hb]
      obtain ⟨o, e, _⟩ := ht
      exact .inr ⟨o, e⟩
  · intro hm
    have := F.ns.lt
    rw [List.mem_singleton.mp hm] at this
    exact Nat.lt_irrefl _ this
  · intro b hb; rw [List.mem_singleton.mp hb]; exact fresh
  · intro p hp hm
    have := Heap.lt_size (N p hp).1
    rw [List.mem_singleton.mp hm] at this
    exact Nat.lt_irrefl _ this
  · rintro i h ⟨⟨o, e, _⟩, _⟩
    exact ⟨[(_, o)], rfl, fun p hp => by rw [List.mem_singleton.mp hp]; exact e⟩
  · intro i v m₁ news₁ h₁ tk₁ its hi hP hJ hn hits F₁ N₁
    obtain ⟨oI, rfl⟩ : ∃ oI, its = [(s₁.heap.objs.size, oI)] := by
      cases its with
      | nil => cases hits
      | cons p r =>
        cases r with
        | cons _ _ => simp at hits
        | nil =>
          obtain ⟨a, o⟩ := p
          have : a = s₁.heap.objs.size := by simpa using hits
          subst this; exact ⟨o, rfl⟩
    exact wpAny_mono (step i v m₁ news₁ h₁ tk₁ _ oI hP hJ hn (fun p hp => Heap.lt_size (N p hp).1) F₁ N₁) (fun _ _ x => wpAny_passesOwn hE x) hE
  · intro h' tk m' news' F' N' hJ
    exact wpAny_passesOwn hE (hR h' tk m' news' F' N' hJ)

/-- A for over enumerate(a tuple of the ground), without an else. -/
theorem forEnum {iter : Expr} {pos : Pos} {elts : List Expr} {ke : Nat} {pe : Pos} {t : Addr} {items : Array Value} {m : Str → Option Value} {news : List (Addr × Obj)} (hh : A.handled = none)
    (F : Fr h₀ env.locals s.heap m) (N : News h₀ env.locals s.heap news) (ht : h₀.IsTuple t items)
    (he : ∀ Q' : Value → Shared → Prop, wpAny (model prog w) A (call (.type "enumerate") [.ref t]) Q' E s → wpAny (model prog w) A (eval iter env) Q' E s)
    (J : Nat → (Str → Option Value) → List (Addr × Obj) → Prop) (h0 : J 0 m news)
    (step : ∀ i v u m₁ news₁ h₁ tk₁ T I oI O, items[i]? = some v → J i m₁ news₁ → (∀ p ∈ news₁, p.1 ∉ [I + 1, I]) → (∀ p ∈ news, p.1 < I) → h₁.IsTuple T #[.int i u, v] →
      Fr h₀ env.locals h₁ m₁ → News h₀ env.locals h₁ ((I + 1, O) :: (I, oI) :: news₁) →
      wpAny (model prog w) A (assign (.Tuple elts ke pe) env (.ref T)) (fun _ s₂ => wpAny (model prog w) A (execs body env)
        (StepT h₀ env.locals [I + 1, I] [(I + 1, O), (I, oI)] (J (i + 1)) { s with heap := h₁, toks := tk₁ } Q) E s₂) E { s with heap := h₁, toks := tk₁ })
    (hR : ∀ h' tk m' news', Fr h₀ env.locals h' m' → News h₀ env.locals h' news' → J items.size m' news' →
      wpAny (model prog w) A (execs orelse env) Q E { s with heap := h', toks := tk })
    (hs : ∀ x, foldedSetIterable iter env x = pure x := by intro _; rfl)
    (hE : PassesOwn (model prog w) A env E := by passes_own) :
    wpAny (model prog w) A (exec (.For (.Tuple elts ke pe) iter body orelse pos) env) Q E s := by
  have htt : s.heap.IsTuple t items := let ⟨o, e, r⟩ := ht; ⟨o, F.keep _ _ e, r⟩
  have tlt : t < s.heap.objs.size := by obtain ⟨o, e, _⟩ := htt; exact Heap.lt_size e
  refine wpAny_For (he _ (call_enumT htt fun h' hE' hI' hsz hk => wpAny_pyIter_enum hE' ?_)) hs
  have fresh : ∀ b, s.heap.objs.size ≤ b → h₀.get? b = none := fun b hb => by
    cases e : h₀.get? b with
    | none => rfl
    | some o => exact absurd (Heap.lt_size (F.keep _ _ e)) (Nat.not_lt.mpr hb)
  have two : ∀ b : Addr, b ∈ [s.heap.objs.size + 1, s.heap.objs.size] → s.heap.objs.size ≤ b := fun b hb => by
    rcases List.mem_cons.mp hb with rfl | hb
    · exact Nat.le_succ _
    · rw [List.mem_singleton.mp hb]; exact Nat.le_refl _
  refine loopE (R := fun r s' => match r with | .ok f => Q f s' | .error e => cameBackBy (model prog w) A env E e s')
    (KTurns.ofWalksU (walksE hh (s.heap.objs.size + 1) s.heap.objs.size t (Nat.succ_ne_self _) (Nat.ne_of_lt (Nat.lt_succ_of_lt tlt)) (Nat.ne_of_lt tlt) items).toU)
    ?_ ?_ ?_ ?_ ?_ ⟨⟨_, hE'⟩, hI', htt.at fun o e => hk _ o e⟩ (F.keeps hk) (N.grown hk) J h0 ?_ ?_
  · intro b hb
    rcases List.mem_cons.mp hb with rfl | hb
    · exact .inl (.head _)
    · rcases List.mem_cons.mp hb with rfl | hb
      · exact .inl (.tail _ (.head _))
      · rw [List.mem_singleton.mp hb]
        obtain ⟨o, e, _⟩ := ht
        exact .inr ⟨o, e⟩
  · intro hm
    exact absurd F.ns.lt (Nat.not_lt.mpr (two _ hm))
  · intro b hb; exact fresh b (two b hb)
  · intro p hp hm
    exact absurd (Heap.lt_size (N p hp).1) (Nat.not_lt.mpr (two _ hm))
  · rintro i h ⟨⟨old, e1⟩, ⟨o, e2, _⟩, _⟩
    exact ⟨[(_, _), (_, o)], rfl, fun p hp => by
      rcases List.mem_cons.mp hp with rfl | hp
      · exact e1
      · rw [List.mem_singleton.mp hp]; exact e2⟩
  · intro i v m₁ news₁ h₁ tk₁ its hi hP hJ hn hits F₁ N₁
    obtain ⟨T, vals, rfl, ⟨u, x, hx, rfl⟩, hT⟩ := hP
    obtain ⟨O, oI, rfl⟩ : ∃ O oI, its = [(s.heap.objs.size + 1, O), (s.heap.objs.size, oI)] := by
      cases its with
      | nil => cases hits
      | cons p r =>
        cases r with
        | nil => simp at hits
        | cons q r =>
          cases r with
          | cons _ _ => simp at hits
          | nil =>
            obtain ⟨a, o⟩ := p
            obtain ⟨b, o'⟩ := q
            have : a = s.heap.objs.size + 1 ∧ b = s.heap.objs.size := by simpa using hits
            obtain ⟨rfl, rfl⟩ := this
            exact ⟨o, o', rfl⟩
    exact wpAny_mono (step i x u m₁ news₁ h₁ tk₁ T _ oI O hx hJ hn (fun p hp => Heap.lt_size (N p hp).1) hT F₁ N₁) (fun _ _ x => wpAny_passesOwn hE x) hE
  · intro h' tk m' news' F' N' hJ
    exact wpAny_passesOwn hE (hR h' tk m' news' F' N' hJ)
end
end Mine
end
section
open PySem PySem.W PyProof.Rows PySem.Calls PySem.Spec
namespace Mine
def Hold (P : Prop) : Prop := P
theorem Hold.intro {P : Prop} (h : Hold P) : P := h
theorem tupAt {w : World} {h : Heap} (X : (hd.heap_39 w.params).In h) (a : Addr) (items : Array Value) (e : (hd.heap_39 w.params).lookup a = some { cls := .type "tuple", data := .seq items }) : h.IsTuple a items :=
  ⟨_, X a _ e, rfl, 0, rfl⟩
def tabs : Array Value := #[.ref 78, .ref 80, .ref 82, .ref 86, .ref 88, .ref 90, .ref 94, .ref 96, .ref 98, .ref 102]
theorem tab_at {w : World} {h : Heap} (X : (hd.heap_39 w.params).In h) : h.IsTuple 103 tabs := tupAt X _ _ (by kernel_rfl)
/-- The tables behind the first: each item a pair of a bit and a text of one sign. -/
def PairsIn (h : Heap) (items : Array Value) : Prop := ∀ (j : Nat) (q : Value), items[j]? = some q → ∃ b bit t1 c t2, q = Value.ref b ∧ h.IsTuple b #[.int bit t1, .str c t2] ∧ c.length = 1
theorem pairs1 {h : Heap} {b : Addr} {bit : Int} {t1 t2 : Tok} {c : Str} (hb : h.IsTuple b #[.int bit t1, .str c t2]) (hc : c.length = 1) : PairsIn h #[.ref b] := fun j q hq => by
  obtain rfl | hj : j = 0 ∨ 1 ≤ j := by omega
  · cases hq; exact ⟨_, _, _, _, _, rfl, hb, hc⟩
  · rw [Array.getElem?_eq_none (by simpa using hj)] at hq; cases hq
theorem pairs3 {h : Heap} {b b' b'' : Addr} {bit bit' bit'' : Int} {t1 t2 t1' t2' t1'' t2'' : Tok} {c c' c'' : Str} (hb : h.IsTuple b #[.int bit t1, .str c t2]) (hc : c.length = 1)
    (hb' : h.IsTuple b' #[.int bit' t1', .str c' t2']) (hc' : c'.length = 1) (hb'' : h.IsTuple b'' #[.int bit'' t1'', .str c'' t2'']) (hc'' : c''.length = 1) : PairsIn h #[.ref b, .ref b', .ref b''] := fun j q hq => by
  obtain rfl | rfl | rfl | hj : j = 0 ∨ j = 1 ∨ j = 2 ∨ 3 ≤ j := by omega
  · cases hq; exact ⟨_, _, _, _, _, rfl, hb, hc⟩
  · cases hq; exact ⟨_, _, _, _, _, rfl, hb', hc'⟩
  · cases hq; exact ⟨_, _, _, _, _, rfl, hb'', hc''⟩
  · rw [Array.getElem?_eq_none (by simpa using hj)] at hq; cases hq
theorem tab_facts {w : World} {h : Heap} (X : (hd.heap_39 w.params).In h) (i : Nat) (v : Value) (hi : 0 < i) (hv : tabs[i]? = some v) : ∃ a items, v = .ref a ∧ h.IsTuple a items ∧ PairsIn h items := by
  have hlt : i < 10 := (Array.getElem?_eq_some_iff.mp hv).1
  obtain rfl | rfl | rfl | rfl | rfl | rfl | rfl | rfl | rfl : i = 1 ∨ i = 2 ∨ i = 3 ∨ i = 4 ∨ i = 5 ∨ i = 6 ∨ i = 7 ∨ i = 8 ∨ i = 9 := by omega
  all_goals cases hv
  · exact ⟨_, _, rfl, tupAt X 80 #[.ref 79] (by kernel_rfl), pairs1 (tupAt X 79 #[.int 256 265, .str (Str.ofString "r") 290] (by kernel_rfl)) (by decide +kernel)⟩
  · exact ⟨_, _, rfl, tupAt X 82 #[.ref 81] (by kernel_rfl), pairs1 (tupAt X 81 #[.int 128 267, .str (Str.ofString "w") 291] (by kernel_rfl)) (by decide +kernel)⟩
  · exact ⟨_, _, rfl, tupAt X 86 #[.ref 83, .ref 84, .ref 85] (by kernel_rfl), pairs3 (tupAt X 83 #[.int 2112 292, .str (Str.ofString "s") 293] (by kernel_rfl)) (by decide +kernel)
      (tupAt X 84 #[.int 2048 259, .str (Str.ofString "S") 294] (by kernel_rfl)) (by decide +kernel) (tupAt X 85 #[.int 64 269, .str (Str.ofString "x") 295] (by kernel_rfl)) (by decide +kernel)⟩
  · exact ⟨_, _, rfl, tupAt X 88 #[.ref 87] (by kernel_rfl), pairs1 (tupAt X 87 #[.int 32 271, .str (Str.ofString "r") 296] (by kernel_rfl)) (by decide +kernel)⟩
  · exact ⟨_, _, rfl, tupAt X 90 #[.ref 89] (by kernel_rfl), pairs1 (tupAt X 89 #[.int 16 273, .str (Str.ofString "w") 297] (by kernel_rfl)) (by decide +kernel)⟩
  · exact ⟨_, _, rfl, tupAt X 94 #[.ref 91, .ref 92, .ref 93] (by kernel_rfl), pairs3 (tupAt X 91 #[.int 1032 298, .str (Str.ofString "s") 299] (by kernel_rfl)) (by decide +kernel)
      (tupAt X 92 #[.int 1024 261, .str (Str.ofString "S") 300] (by kernel_rfl)) (by decide +kernel) (tupAt X 93 #[.int 8 275, .str (Str.ofString "x") 301] (by kernel_rfl)) (by decide +kernel)⟩
  · exact ⟨_, _, rfl, tupAt X 96 #[.ref 95] (by kernel_rfl), pairs1 (tupAt X 95 #[.int 4 277, .str (Str.ofString "r") 302] (by kernel_rfl)) (by decide +kernel)⟩
  · exact ⟨_, _, rfl, tupAt X 98 #[.ref 97] (by kernel_rfl), pairs1 (tupAt X 97 #[.int 2 279, .str (Str.ofString "w") 303] (by kernel_rfl)) (by decide +kernel)⟩
  · exact ⟨_, _, rfl, tupAt X 102 #[.ref 99, .ref 100, .ref 101] (by kernel_rfl), pairs3 (tupAt X 99 #[.int 513 304, .str (Str.ofString "t") 305] (by kernel_rfl)) (by decide +kernel)
      (tupAt X 100 #[.int 512 263, .str (Str.ofString "T") 306] (by kernel_rfl)) (by decide +kernel) (tupAt X 101 #[.int 1 281, .str (Str.ofString "x") 307] (by kernel_rfl)) (by decide +kernel)⟩

def fch (k : Int) : Str := Str.ofString (if k = 10 then "l" else if k = 12 then "s" else if k = 8 then "-" else if k = 6 then "b" else if k = 4 then "d" else if k = 2 then "c" else if k = 1 then "p" else "?")
def bits0 : List Int := [40960, 49152, 32768, 24576, 16384, 8192, 4096]
def items0 : Array Value := #[.ref 71, .ref 72, .ref 73, .ref 74, .ref 75, .ref 76, .ref 77]
theorem tab0 {w : World} {h : Heap} (X : (hd.heap_39 w.params).In h) (j : Nat) (q : Value) (hq : items0[j]? = some q) :
    ∃ b bit t1 c t2, q = Value.ref b ∧ h.IsTuple b #[.int bit t1, .str c t2] ∧ c.length = 1 ∧ bits0[j]? = some bit ∧ ∀ k : Int, 4096 * k = bit → fch k = c := by
  have hlt : j < 7 := (Array.getElem?_eq_some_iff.mp hq).1
  obtain rfl | rfl | rfl | rfl | rfl | rfl | rfl : j = 0 ∨ j = 1 ∨ j = 2 ∨ j = 3 ∨ j = 4 ∨ j = 5 ∨ j = 6 := by omega
  all_goals cases hq
  · refine ⟨71, 40960, 206, Str.ofString "l", 283, rfl, tupAt X 71 _ (by kernel_rfl), by decide +kernel, rfl, fun k hk => ?_⟩
    obtain rfl : k = 10 := by omega
    rfl
  · refine ⟨72, 49152, 208, Str.ofString "s", 284, rfl, tupAt X 72 _ (by kernel_rfl), by decide +kernel, rfl, fun k hk => ?_⟩
    obtain rfl : k = 12 := by omega
    rfl
  · refine ⟨73, 32768, 202, Str.ofString "-", 285, rfl, tupAt X 73 _ (by kernel_rfl), by decide +kernel, rfl, fun k hk => ?_⟩
    obtain rfl : k = 8 := by omega
    rfl
  · refine ⟨74, 24576, 200, Str.ofString "b", 286, rfl, tupAt X 74 _ (by kernel_rfl), by decide +kernel, rfl, fun k hk => ?_⟩
    obtain rfl : k = 6 := by omega
    rfl
  · refine ⟨75, 16384, 196, Str.ofString "d", 287, rfl, tupAt X 75 _ (by kernel_rfl), by decide +kernel, rfl, fun k hk => ?_⟩
    obtain rfl : k = 4 := by omega
    rfl
  · refine ⟨76, 8192, 198, Str.ofString "c", 288, rfl, tupAt X 76 _ (by kernel_rfl), by decide +kernel, rfl, fun k hk => ?_⟩
    obtain rfl : k = 2 := by omega
    rfl
  · refine ⟨77, 4096, 204, Str.ofString "p", 289, rfl, tupAt X 77 _ (by kernel_rfl), by decide +kernel, rfl, fun k hk => ?_⟩
    obtain rfl : k = 1 := by omega
    rfl
theorem fch_none (k : Int) (h : ∀ (j : Nat) (b : Int), bits0[j]? = some b → 4096 * k ≠ b) : fch k = Str.ofString "?" := by
  have h0 := h 0 _ rfl
  have h1 := h 1 _ rfl
  have h2 := h 2 _ rfl
  have h3 := h 3 _ rfl
  have h4 := h 4 _ rfl
  have h5 := h 5 _ rfl
  have h6 := h 6 _ rfl
  unfold fch
  rw [if_neg (by omega), if_neg (by omega), if_neg (by omega), if_neg (by omega), if_neg (by omega), if_neg (by omega), if_neg (by omega)]
theorem strs_snoc : ∀ {vs : List Value} {ys : List Str} {c : Str} {t : Tok}, StrsAre vs ys → StrsAre (vs ++ [.str c t]) (ys ++ [c])
  | _, _, _, _, .nil => .cons _ _ .nil
  | _, _, _, _, .cons a b r => .cons a b (strs_snoc r)
def Texts (x : Int) (i : Nat) (items : Array Value) : Prop := ∃ ys : List Str, StrsAre items.toList ys ∧ ys.length = i ∧ (∀ y ∈ ys, y.length = 1) ∧ (0 < i → ys.head? = some (fch (kd x)))
theorem Texts.zero (x : Int) : Texts x 0 #[] := ⟨[], .nil, rfl, by simp, by simp⟩
theorem Texts.first {x : Int} {items : Array Value} {t : Tok} {c : Str} (h : Texts x 0 items) (hc : c.length = 1) (e : fch (kd x) = c) : Texts x 1 (items.push (.str c t)) := by
  obtain ⟨ys, hy, hl, _, _⟩ := h
  obtain rfl := List.eq_nil_of_length_eq_zero hl
  subst e
  exact ⟨[fch (kd x)], by rw [Array.toList_push]; exact strs_snoc hy, rfl, fun y hy => by rw [List.mem_singleton.mp hy]; exact hc, fun _ => rfl⟩
theorem Texts.more {x : Int} {i : Nat} {items : Array Value} {t : Tok} {c : Str} (h : Texts x i items) (hi : 0 < i) (hc : c.length = 1) : Texts x (i + 1) (items.push (.str c t)) := by
  obtain ⟨ys, hy, hl, ho, hh⟩ := h
  refine ⟨ys ++ [c], by rw [Array.toList_push]; exact strs_snoc hy, by rw [List.length_append, hl]; rfl, fun y hy => ?_, fun _ => ?_⟩
  · rcases List.mem_append.mp hy with h | h
    · exact ho y h
    · rw [List.mem_singleton.mp h]; exact hc
  · have e := hh hi
    cases ys with
    | nil => cases e
    | cons a r => exact e
end Mine
end
section
open PySem PySem.W PyProof.Rows PySem.Calls PySem.Spec
namespace Mine
def JF (x : Int) (u : Tok) (P : Addr) (news : List (Addr × Obj)) (i : Nat) (m₁ : Str → Option Value) (news₁ : List (Addr × Obj)) : Prop :=
  ∃ (m₀ : Str → Option Value) (items : Array Value) (n : Nat), m₁ = (fun y => if y = Str.ofString "perm" then some (Value.ref P) else if y = Str.ofString "mode" then some (Value.int x u) else m₀ y) ∧ news₁ = (P, W.listOf items n) :: news ∧ Texts x i items
theorem mode_in {m : Str → Option Value} {P : Addr} {x : Int} {u : Tok} (h : m (Str.ofString "mode") = some (.int x u)) :
    (fun y => if y = Str.ofString "perm" then some (Value.ref P) else m y) = (fun y => if y = Str.ofString "perm" then some (Value.ref P) else if y = Str.ofString "mode" then some (Value.int x u) else m y) := by
  funext y
  split
  · rfl
  · split
    · rename_i e; rw [e]; exact h
    · rfl
theorem StepT.brk {h₀ : Heap} {L : Addr} {wr : List Addr} {its : List (Addr × Obj)} {Jn : (Str → Option Value) → List (Addr × Obj) → Prop} {s₁ s₂ : Shared} {Q : Flow → Shared → Prop} (h : Q .next s₂) : StepT h₀ L wr its Jn s₁ Q .brk s₂ := h
theorem four {m : Str → Option Value} {a b c d : Value} (h1 : m (Str.ofString "table") = some a) (h2 : m (Str.ofString "index") = some b) (h3 : m (Str.ofString "perm") = some c) (h4 : m (Str.ofString "mode") = some d) :
    m = fun y => if y = Str.ofString "table" then some a else if y = Str.ofString "index" then some b else if y = Str.ofString "perm" then some c else if y = Str.ofString "mode" then some d else m y := by
  funext y
  split
  · rename_i e; rw [e]; exact h1
  · split
    · rename_i e; rw [e]; exact h2
    · split
      · rename_i e; rw [e]; exact h3
      · split
        · rename_i e; rw [e]; exact h4
        · rfl
theorem two {m : Str → Option Value} {c d : Value} (h3 : m (Str.ofString "perm") = some c) (h4 : m (Str.ofString "mode") = some d) :
    m = fun y => if y = Str.ofString "perm" then some c else if y = Str.ofString "mode" then some d else m y := by
  funext y
  split
  · rename_i e; rw [e]; exact h3
  · split
    · rename_i e; rw [e]; exact h4
    · rfl
theorem StepT.next {h₀ : Heap} {L : Addr} {wr : List Addr} {its : List (Addr × Obj)} {Jn : (Str → Option Value) → List (Addr × Obj) → Prop} {s₁ : Shared} {Q : Flow → Shared → Prop} {h' : Heap} {tk : Nat} {m' : Str → Option Value} {news' all : List (Addr × Obj)}
    (F : Fr h₀ L h' m') (N : News h₀ L h' all) (sub : ∀ p ∈ its ++ news', p ∈ all) (hn : ∀ p ∈ news', p.1 ∉ wr) (hJ : Jn m' news') : StepT h₀ L wr its Jn s₁ Q .next { s₁ with heap := h', toks := tk } :=
  ⟨h', tk, m', news', rfl, F, fun p hp => N p (sub p hp), hn, hJ⟩
theorem ne_all {news : List (Addr × Obj)} {d : Addr} (h : ∀ p ∈ news, p.1 < d) : ∀ p ∈ news, p.1 ≠ d := fun p hp => Nat.ne_of_lt (h p hp)
theorem off2 {news : List (Addr × Obj)} {I : Addr} (h : ∀ p ∈ news, p.1 < I) : ∀ p ∈ news, p.1 ∉ [I + 1, I] := fun p hp hm => by
  have := h p hp
  rcases List.mem_cons.mp hm with e | e
  · rw [e] at this; exact absurd this (Nat.not_lt.mpr (Nat.le_succ _))
  · rw [List.mem_singleton.mp e] at this; exact Nat.lt_irrefl _ this
theorem lt_cons {news : List (Addr × Obj)} {P I : Addr} {o o' : Obj} (h : ∀ p ∈ (P, o) :: news, p.1 < I) : ∀ p ∈ (P, o') :: news, p.1 < I := fun p hp => by
  rcases List.mem_cons.mp hp with rfl | hp
  · exact h (P, o) (.head _)
  · exact h p (.tail _ hp)
theorem size_of {x : Int} {i : Nat} {items : Array Value} (h : Texts x i items) (hi : i < 10) : items.size ≤ sizeLine := by
  obtain ⟨ys, hy, hl, _⟩ := h
  have := hy.len_eq
  rw [Array.length_toList] at this
  rw [this, hl]
  exact Nat.le_trans (Nat.le_of_lt hi) (by decide)
theorem sub_id {its news : List (Addr × Obj)} : ∀ p ∈ its ++ news, p ∈ its ++ news := fun _ h => h
theorem sub_tail {q : Addr × Obj} {its news : List (Addr × Obj)} : ∀ p ∈ its ++ news, p ∈ q :: (its ++ news) := fun _ h => .tail _ h
local macro_rules | `(tactic| k_all) => `(tactic| exact ne_all (by assumption))
local macro_rules | `(tactic| size_fits) => `(tactic| assumption)
theorem ones_sum {ys : List Str} {n : Nat} (h : ∀ y ∈ ys, y.length = 1) (hl : ys.length = n) (hn : n ≤ 1000 := by decide) : (ys.map (·.length)).sum + ys.length ≤ 1048576 := by
  have : ∀ {ys : List Str}, (∀ y ∈ ys, y.length = 1) → (ys.map (·.length)).sum = ys.length := by
    intro ys
    induction ys with
    | nil => intro _; rfl
    | cons a r ih =>
      intro h
      rw [List.map_cons, List.sum_cons, h a (.head _), ih fun y hy => h y (.tail _ hy), List.length_cons, Nat.add_comm]
  rw [this h, hl]; omega
theorem glue0 (sep : Str) (c : Nat) : ∀ (r : List Str) (x : Array Nat), x[0]? = some c → (r.foldl (fun acc (p : Str) => acc ++ sep.cps ++ p.cps) x)[0]? = some c
  | [], _, h => h
  | p :: r, x, h => glue0 sep c r _ (by
    rw [Array.getElem?_append_left, Array.getElem?_append_left]
    · exact h
    · exact (Array.getElem?_eq_some_iff.mp h).1
    · rw [Array.size_append]; exact Nat.lt_of_lt_of_le (Array.getElem?_eq_some_iff.mp h).1 (Nat.le_add_right _ _))
theorem join0 {sep y : Str} {ys : List Str} {c : Nat} (hy : ys.head? = some y) (hc : y.cps[0]? = some c) : (Txt.join sep ys).cps[0]? = some c := by
  cases ys with
  | nil => cases hy
  | cons a r =>
    cases hy
    unfold Txt.join
    rw [StrLaws.glued_eq_join, ← StrLaws.glued_cons]
    exact glue0 sep c r _ hc
def fcode (k : Int) : Nat := if k = 10 then 108 else if k = 12 then 115 else if k = 8 then 45 else if k = 6 then 98 else if k = 4 then 100 else if k = 2 then 99 else if k = 1 then 112 else 63
theorem fch_code (k : Int) : (fch k).cps[0]? = some (fcode k) := by
  unfold fch fcode
  repeat' split
  all_goals rfl
def JI (x : Int) (u : Tok) (P : Addr) (i : Int) (u' : Tok) (a : Addr) (led : List (Addr × Obj)) (C : Nat → Prop) (j : Nat) (m₁ : Str → Option Value) (news₁ : List (Addr × Obj)) : Prop :=
  (∃ m₀ : Str → Option Value, m₁ = (fun y => if y = Str.ofString "table" then some (Value.ref a) else if y = Str.ofString "index" then some (Value.int i u') else if y = Str.ofString "perm" then some (Value.ref P) else if y = Str.ofString "mode" then some (Value.int x u) else m₀ y)) ∧ news₁ = led ∧ C j
local macro_rules | `(tactic| walk_at "call ref") => `(tactic| (k_here; (with_reducible show wpAny _ _ (call (Value.ref 21) [Value.int _ _]) _ _ _); k_dflt (refine' Spc.use (ifmt _ _) ?k1 ?k2 ?k3 ?k4 ?k5 ?kK ?kd ?ku ?_; (case k1 => k_asm); (case k2 => k_asm); (case k3 => k_asm); (case k4 => k_asm); (case k5 => k_asm); (case kK => first | exact rfl | assumption); (case kd => ktr_room); (case ku => ktr_units); intro r9 tl9 h9 tk9 F9 N9 o9 p9; obtain ⟨e9, t9, e9'⟩ := p9; subst e9 e9'; clear o9; (try simp only [List.nil_append] at N9); (try dsimp only); (try k_fold))))
local macro_rules | `(tactic| walk_at "StepT") => `(tactic| (refine StepT.brk ?_; (try dsimp only)))
local macro_rules | `(tactic| walk_at "exec For Tuple Call cons nil") => `(tactic| (refine Hold.intro ?_))
local macro_rules | `(tactic| walk_at "exec For Tuple Name cons cons") => `(tactic| (refine Hold.intro ?_))
local macro_rules | `(tactic| walk_at "call type:enumerate") => `(tactic| (refine Hold.intro ?_))
theorem fmode {w : World} (x : Int) (u : Tok) :
   Spc 3 w 110 [Value.int x u] (fun tl r => tl = [] ∧ ∃ S t, r = Value.str S t ∧ S.cps[0]? = some (fcode (kd x))) := by
  unfold Spc
  k_fill
  intros
  rename_i hret
  refine wpAny_call ?_
  k_dflt cell_enter
  k_steps
  unfold Hold
  rename Fr _ _ _ _ => F1
  rename News _ _ _ _ => N1
  rename Frag.In _ _ => X1
  rename Top _ _ _ _ _ _ => T1
  rename Below _ _ _ _ => B1
  rename ∀ p ∈ _, Prod.fst p < _ => l1
  refine forEnum (J := JF x u _ _) rfl F1 N1 (tab_at X1) ?_ ⟨_, _, _, mode_in rfl, rfl, Texts.zero x⟩ ?_ ?_
  · intro Q' hQ'
    k_steps
    exact hQ'
  · intro i v u' m₁ news₁ h₁ tk₁ T I oI O hx hJ hn hlt hT F2 N2
    obtain ⟨m₀, items, n, rfl, rfl, hTx⟩ := hJ
    clear F1 N1
    have hT' : IsTup h₁ T #[.int i u', v] := hT
    have hi10 : i < 10 := (Array.getElem?_eq_some_iff.mp hx).1
    have hsz := size_of hTx hi10
    by_cases hi : 0 < i
    · obtain ⟨a, its, rfl, hta, hps⟩ := tab_facts X1 i v hi hx
      k_steps
      unfold Hold
      rename Fr _ _ _ _ => F3
      rename News _ _ _ _ => N3
      refine forTup (J := JI x u _ i u' a _ (fun _ => True)) rfl F3 N3 hta ?_ ⟨⟨m₀, rfl⟩, rfl, trivial⟩ ?_ ?_
      · k_steps
      · intro j v' m₂ news₂ h₂ tk₂ I' oI' hx' hJ' hn' hlt' F4 N4
        obtain ⟨⟨m₃, rfl⟩, rfl, -⟩ := hJ'
        obtain ⟨b, bit, t1, c, t2, rfl, hb, hc⟩ := hps j v' hx'
        have hb' : IsTup h₂ b #[.int bit t1, .str c t2] := hb.at fun o e => F4.keep _ o e
        have hi' : (i : Int) ≠ 0 := by omega
        clear F3 N3
        have q1 := ltN (hlt _ (.head _))
        have q2 := ltN (hlt' _ (.head _))
        dsimp only at q1 q2
        k_steps
        all_goals first
          | exact absurd (by assumption) hi'
          | (rename Fr _ _ _ _ => F9; rename News _ _ _ _ => N9; exact StepT.next F9 N9 sub_tail (off2 (lt_cons hlt)) ⟨_, _, _, two rfl rfl, rfl, hTx.more hi hc⟩)
          | (rename Fr _ _ _ _ => F9; rename News _ _ _ _ => N9; exact StepT.next F9 N9 sub_id hn' ⟨⟨_, four rfl rfl rfl rfl⟩, rfl, trivial⟩)
      · intro h' tk' m' news' F4 N4 hJ'
        obtain ⟨⟨m₃, rfl⟩, rfl, -⟩ := hJ'
        have hi' : (i : Int) ≠ 0 := by omega
        have q1 := ltN (hlt _ (.head _))
        dsimp only at q1
        clear F3 N3
        k_steps
        all_goals first
          | exact absurd (by assumption) hi'
          | (rename Fr _ _ _ _ => F9; rename News _ _ _ _ => N9; exact StepT.next F9 N9 sub_id (off2 (lt_cons hlt)) ⟨_, _, _, two rfl rfl, rfl, hTx.more hi (by decide +kernel)⟩)
    · obtain rfl : i = 0 := by omega
      cases hx
      have hT2 : IsTup h₁ T #[.int 0 u', .ref 78] := hT
      clear hT hT'
      have hta : _root_.PySem.Heap.IsTuple _ 78 items0 := tupAt X1 78 items0 (by kernel_rfl)
      k_steps
      unfold Hold
      rename Fr _ _ _ _ => F3
      rename News _ _ _ _ => N3
      refine forTup (J := JI x u _ 0 u' 78 _ (fun j => ∀ (j' : Nat) (b : Int), j' < j → bits0[j']? = some b → 4096 * kd x ≠ b)) rfl F3 N3 hta ?_ ⟨⟨m₀, rfl⟩, rfl, fun _ _ h => absurd h (Nat.not_lt_zero _)⟩ ?_ ?_
      · k_steps
      · intro j v' m₂ news₂ h₂ tk₂ I' oI' hx' hJ' hn' hlt' F4 N4
        obtain ⟨⟨m₃, rfl⟩, rfl, hC⟩ := hJ'
        obtain ⟨b, bit, t1, c, t2, rfl, hb, hc, hbit, hfc⟩ := tab0 X1 j v' hx'
        have hb' : IsTup h₂ b #[.int bit t1, .str c t2] := hb.at fun o e => F4.keep _ o e
        clear F3 N3
        have q1 := ltN (hlt _ (.head _))
        have q2 := ltN (hlt' _ (.head _))
        dsimp only at q1 q2
        have hC' : ¬ 4096 * kd x = bit → ∀ (j' : Nat) (b : Int), j' < j + 1 → bits0[j']? = some b → 4096 * kd x ≠ b := fun hne j' b hj hb => by
          rcases Nat.lt_succ_iff_lt_or_eq.mp hj with h | h
          · exact hC j' b h hb
          · subst h; rw [hbit] at hb; cases hb; exact hne
        k_steps
        all_goals first
          | (rename Fr _ _ _ _ => F9; rename News _ _ _ _ => N9; exact StepT.next F9 N9 sub_tail (off2 (lt_cons hlt)) ⟨_, _, _, two rfl rfl, rfl, hTx.first hc (hfc _ (by assumption))⟩)
          | (rename Fr _ _ _ _ => F9; rename News _ _ _ _ => N9; exact StepT.next F9 N9 sub_id hn' ⟨⟨_, four rfl rfl rfl rfl⟩, rfl, hC' (by assumption)⟩)
      · intro h' tk' m' news' F4 N4 hJ'
        obtain ⟨⟨m₃, rfl⟩, rfl, hC⟩ := hJ'
        have q1 := ltN (hlt _ (.head _))
        dsimp only at q1
        have hq : fch (kd x) = Str.ofString "?" := fch_none _ fun j b hb => hC j b (List.getElem?_eq_some_iff.mp hb).1 hb
        clear F3 N3
        k_steps
        all_goals first
          | (rename Fr _ _ _ _ => F9; rename News _ _ _ _ => N9; exact StepT.next F9 N9 sub_id (off2 (lt_cons hlt)) ⟨_, _, _, two rfl rfl, rfl, hTx.first (by decide +kernel) hq⟩)
  · intro h' tk' m' news' F2 N2 hJ
    obtain ⟨m₀, items, n, rfl, rfl, hTx⟩ := hJ
    obtain ⟨ys, hy, hl, ho, hh⟩ := hTx
    k_steps
    rename News _ _ _ _ => N9
    refine join_listW (News.isList N9 (.head _)) hy (by decide +kernel) ?_ ?_
    · exact ones_sum ho hl
    · intro t9 k9
      k_steps
      exact hret _ [] _ _ (by assumption) (cb_drop (by assumption) fun p hp => .tail _ hp) (fun _ _ _ h => nomatch h) ⟨rfl, _, _, rfl, join0 (hh (by decide)) (fch_code _)⟩
end Mine
end
section
open PySem PySem.W PyProof.Rows PySem.Calls PySem.Spec
namespace Mine
section
variable {prog : Program} {w : World} {A : Around} {E : Value → Shared → Prop} {s : Shared} {env : Env} {h₀ : Heap} {target : Expr} {body orelse : List Stmt} {Q : Flow → Shared → Prop}
theorem turnsWide {I : Addr} {fp wr : List Addr} {n : Nat} {P Md : Nat → Value → Heap → Prop} {St : Nat → Heap → Prop} (W : KTurns prog w A target I fp wr n P Md St) : KTurns prog w A target I fp fp n P Md St where
  sub := fun _ h => h
  frame := W.frame
  item := fun i s Q E hi st hQ => W.item i s Q E hi st fun v h' tk hm hk => hQ v h' tk hm fun b o hb e => hk b o (fun h => hb (W.sub b h)) e
  go := fun i v s Q E hm hQ => W.go i v s Q E hm fun h' hp st hk => hQ h' hp st fun b o hb e => hk b o (fun h => hb (W.sub b h)) e
  done := fun s Q E st hQ => W.done s Q E st fun h' tk hk => hQ h' tk fun b o hb e => hk b o (fun h => hb (W.sub b h)) e

end
end Mine
end
section
open PySem PySem.W PyProof.Rows PySem.Calls PySem.Spec
open Sem (wp)
namespace Mine
theorem runs_toks {M : Model} {Γ : PySem.Ctx} {p : Pos} {t : Sem Fin} {fs : List Frame} {s s' : Shared} {e : End} (h : Runs M Γ p t fs s e s') : s.toks ≤ s'.toks := by
  induction h with
  | fresh _ ih => exact Nat.le_trans (Nat.le_succ _) ih
  | done => exact Nat.le_refl _
  | raise => exact Nat.le_refl _
  | yield => exact Nat.le_refl _
  | call _ _ ih1 ih2 => exact Nat.le_trans ih1 ih2
  | resumeFresh _ _ _ _ ih1 ih2 => exact Nat.le_trans ih1 ih2
  | resumeSuspended _ _ _ _ ih1 ih2 => exact Nat.le_trans ih1 ih2
  | segRet _ _ ih1 ih2 => exact Nat.le_trans ih1 ih2
  | segGen _ _ ih1 ih2 => exact Nat.le_trans ih1 ih2
  | segSuspGen _ _ _ _ ih1 ih2 => exact Nat.le_trans ih1 ih2
  | _ => first | assumption | (rename_i ih; exact ih)
theorem wp_toks {α : Type} {M : Model} {Γ : PySem.Ctx} (n : Nat) (t : Sem α) : ∀ (Q : α → Pos → Shared → Prop) (E : Value → Pos → Shared → Prop) (p : Pos) (s : Shared), n ≤ s.toks → wp M Γ t (fun a p' s' => n ≤ s'.toks → Q a p' s') (fun e p' s' => n ≤ s'.toks → E e p' s') p s → wp M Γ t Q E p s := by
  induction t with
  | pure a => intro Q E p s h0 h; rw [Sem.wp_pure] at h ⊢; exact h h0
  | raise e => intro Q E p s h0 h; rw [Sem.wp_raise] at h ⊢; exact h h0
  | unsupported w => intro Q E p s h0 h; rw [Sem.wp_unsupported] at h; exact h.elim
  | finish e => intro Q E p s h0 h; rw [Sem.wp_finish] at h; exact h.elim
  | rule tag k ih => intro Q E p s h0 h; rw [Sem.wp_rule] at h ⊢; exact ih _ _ _ _ _ h0 h
  | «at» q k ih => intro Q E p s h0 h; rw [Sem.wp_at] at h ⊢; exact ih _ _ _ _ _ h0 h
  | load a q k ih => intro Q E p s h0 h; rw [Sem.wp_load] at h ⊢; obtain ⟨o, ho, h⟩ := h; exact ⟨o, ho, ih _ _ _ _ _ h0 h⟩
  | update a q f k ih => intro Q E p s h0 h; rw [Sem.wp_update] at h ⊢; exact ⟨h.1, ih _ _ _ _ _ h0 h.2⟩
  | alloc o k ih => intro Q E p s h0 h; rw [Sem.wp_alloc] at h ⊢; exact ih _ _ _ _ _ h0 h
  | loadIfAlive a k ih => intro Q E p s h0 h; rw [Sem.wp_loadIfAlive] at h ⊢; exact ih _ _ _ _ _ h0 h
  | point l k ih => intro Q E p s h0 h; rw [Sem.wp_point] at h ⊢; exact ih _ _ _ _ _ h0 h
  | register a k ih => intro Q E p s h0 h; rw [Sem.wp_register] at h; exact h.elim
  | fresh k ih => intro Q E p s h0 h; rw [Sem.wp_fresh] at h ⊢; exact ih _ _ _ _ _ (Nat.le_trans h0 (Nat.le_succ _)) h
  | ask k ih => intro Q E p s h0 h; rw [Sem.wp_ask] at h ⊢; exact ih _ _ _ _ _ h0 h
  | choose src m k ih => intro Q E p s h0 h; rw [Sem.wp_choose] at h ⊢; exact ⟨h.1, ih _ _ _ _ _ h0 h.2⟩
  | os q l k ih => intro Q E p s h0 h; rw [Sem.wp_os] at h ⊢; exact ih _ _ _ _ _ h0 h
  | call c hd g l k ih =>
    intro Q E p s h0 h
    rw [Sem.wp_call] at h ⊢
    obtain ⟨r, s', hr, h⟩ := h
    exact ⟨r, s', hr, ih _ _ _ _ _ (Nat.le_trans h0 (runs_toks hr)) h⟩
  | handled own k ih => intro Q E p s h0 h; rw [Sem.wp_handled] at h ⊢; exact ih _ _ _ _ _ h0 h
  | genState g k ih => intro Q E p s h0 h; rw [Sem.wp_genState] at h ⊢; obtain ⟨o, ho, h⟩ := h; exact ⟨o, ho, ih _ _ _ _ _ h0 h⟩
  | newGen c k ih => intro Q E p s h0 h; rw [Sem.wp_newGen] at h ⊢; exact ih _ _ _ _ _ h0 h
  | resume g r l k ih =>
    intro Q E p s h0 h
    rw [Sem.wp_resume] at h ⊢
    obtain ⟨res, s', hw, h⟩ := h
    refine ⟨res, s', hw, ih _ _ _ _ _ ?_ h⟩
    refine Nat.le_trans h0 ?_
    unfold Wakes at hw
    split at hw
    · exact hw.elim
    · split at hw
      · obtain ⟨_, _, hr, _, _, rfl⟩ := hw; have q := runs_toks hr; exact q
      · rw [hw.2]; exact Nat.le_refl _
      · rw [hw.2]; exact Nat.le_refl _
    · obtain ⟨_, _, hr, _, _, rfl⟩ := hw; have q := runs_toks hr; exact q
    · rw [hw.2]; exact Nat.le_refl _
    · rw [hw.2]; exact Nat.le_refl _
  | yield v g l k ih => intro Q E p s h0 h; rw [Sem.wp_yield] at h; exact h.elim
  | stack k ih => intro Q E p s h0 h; rw [Sem.wp_stack] at h ⊢; exact ih _ _ _ _ _ h0 h
  | fork c k ih => intro Q E p s h0 h; rw [Sem.wp_fork] at h; exact h.elim
  | thread k ih => intro Q E p s h0 h; rw [Sem.wp_thread] at h ⊢; exact ih _ _ _ _ _ h0 h
  | await a f d l k ih => intro Q E p s h0 h; rw [Sem.wp_await] at h; exact h.elim
theorem any_toks {α : Type} {M : Model} {A : Around} {t : Sem α} {Q : α → Shared → Prop} {E : Value → Shared → Prop} {s : Shared} (n : Nat) (h0 : n ≤ s.toks)
    (h : wpAny M A t (fun a s' => n ≤ s'.toks → Q a s') (fun e s' => n ≤ s'.toks → E e s') s) : wpAny M A t Q E s := fun Γ p hΓ => wp_toks n t _ _ p s h0 (h Γ p hΓ)
theorem code_toks {M : Model} {A : Around} {c : Code} {R : Result → Shared → Prop} {s : Shared} (n : Nat) (h0 : n ≤ s.toks) (h : codeAny M A c (fun r s' => n ≤ s'.toks → R r s') s) : codeAny M A c R s := fun Γ p hc hΓ => by
  obtain ⟨r, s', hr, hR⟩ := h Γ p hc hΓ
  exact ⟨r, s', hr, hR (Nat.le_trans h0 (runs_toks hr))⟩
theorem noneBooked {w : World} {h : Heap} (X : (hd.heap_39 w.params).In h) : NoneBooked h :=
  ⟨fun _ => none, ⟨{ cls := .none, data := .dict #[] }, #[], _, X 2 _ (by kernel_rfl), rfl, by first | exact StrKeys.nil | (intro e he; simp at he), fun _ => rfl⟩, rfl⟩
end Mine
end
section
open PySem PySem.W PyProof.Rows PySem.Calls PySem.Spec
namespace Mine
def SpcT (n : Nat) (w : World) (f : Addr) (vs : List Value) (Out : Nat → List (Addr × Obj) → Value → Prop) : Prop :=
  ∀ (mean : ExcName → Option Value) (mg mb : Str → Option Value) (dp un : Nat) (gd : Option (List Code)) (cn : Str) (cs : Scope) (a : Addr) (ccd : Value) (cl : List (Str × Addr)) (outer : List Env) (A₀ : Around) (base h₀ : Heap) (L : Addr) (m : Str → Option Value) (news : List (Addr × Obj)) (s : Shared) (Q E : Value → Shared → Prop),
    Below A₀ base outer h₀ → Fr h₀ L s.heap m → (hd.heap_39 w.params).In h₀ → News h₀ L s.heap news → Top hd.view_39 (looseW hd.view_39 [Str.ofString "_filemode_table"]) mean mg mb h₀ → cs.kind = .function →
    dp + n < recursionLimit → un + 8 * n < cLine →
    (∀ r tl h' tk', Fr h₀ L h' m → News h₀ L h' (tl ++ news) → (∀ q ∈ news, ∀ p ∈ tl, q.1 < p.1) → Out s.toks tl r → Q r { s with heap := h', toks := tk' }) →
    wpAny (model PySem.Challenge.rw_mq0233_01.row.prog w) (ktrTop dp un gd cn cs L a ccd cl outer) (call (.ref f) vs) Q E s

theorem SpcT.use {n : Nat} {w : World} {f : Addr} {vs : List Value} {Out : Nat → List (Addr × Obj) → Value → Prop} (S : SpcT n w f vs Out)
    {mean : ExcName → Option Value} {mg mb : Str → Option Value} {dp un : Nat} {gd : Option (List Code)} {cn : Str} {cs : Scope} {a : Addr} {ccd : Value} {cl : List (Str × Addr)} {outer : List Env} {A₀ : Around} {base h₀ : Heap} {L : Addr} {m : Str → Option Value} {news : List (Addr × Obj)} {s : Shared} {Q E : Value → Shared → Prop}
    (B : Below A₀ base outer h₀) (F : Fr h₀ L s.heap m) (X : (hd.heap_39 w.params).In h₀) (N : News h₀ L s.heap news) (T : Top hd.view_39 (looseW hd.view_39 [Str.ofString "_filemode_table"]) mean mg mb h₀) (hk : cs.kind = .function)
    (hdp : dp + n < recursionLimit) (hun : un + 8 * n < cLine)
    (h : ∀ r tl h' tk', Fr h₀ L h' m → News h₀ L h' (tl ++ news) → (∀ q ∈ news, ∀ p ∈ tl, q.1 < p.1) → Out s.toks tl r → Q r { s with heap := h', toks := tk' }) :
    wpAny (model PySem.Challenge.rw_mq0233_01.row.prog w) (ktrTop dp un gd cn cs L a ccd cl outer) (call (.ref f) vs) Q E s :=
  S mean mg mb dp un gd cn cs a ccd cl outer A₀ base h₀ L m news s Q E B F X N T hk hdp hun h

theorem keepA {α : Type} {M : Model} {A : Around} {t : Sem α} {Q : α → Shared → Prop} {E : Value → Shared → Prop} {h : Heap} {g d o} {a b : Nat} (hh : ∀ tk', a ≤ tk' → wpAny M A t Q E { heap := h, gens := g, drawn := d, toks := tk', os := o }) :
    wpAny M A t Q E { heap := h, gens := g, drawn := d, toks := a + b, os := o } := hh _ (Nat.le_add_right a b)
section
variable {prog : Program} {w : World} {A : Around} {E : Value → Shared → Prop} {s : Shared} {h₀ : Heap} {L : Addr} {m : Str → Option Value} {news : List (Addr × Obj)}
theorem max3T {a b c : Int} {t u x : Tok} {Q : Value → Shared → Prop} (hh : A.handled = none) (F : Fr h₀ L s.heap m) (N : News h₀ L s.heap news)
    (h : ∀ z h' tk, s.toks ≤ tk → Fr h₀ L h' m → News h₀ L h' news → (a ≤ mx a b c ∧ b ≤ mx a b c ∧ c ≤ mx a b c ∧ (mx a b c = a ∨ mx a b c = b ∨ mx a b c = c)) → Q (.int (mx a b c) z) { s with heap := h', toks := tk }) :
    wpAny (model prog w) A (call (.builtin "max") [.int a t, .int b u, .int c x]) Q E s :=
  any_toks s.toks (Nat.le_refl _) <| max_three_ints hh fun h' tk hk ht => by
    have := fun z => h z h' tk ht (F.grownK hk) (N.grown hk) (mx_ge a b c)
    unfold mx at this
    split <;> split <;> simp_all
theorem min3T {a b c : Int} {t u x : Tok} {Q : Value → Shared → Prop} (hh : A.handled = none) (F : Fr h₀ L s.heap m) (N : News h₀ L s.heap news)
    (h : ∀ z h' tk, s.toks ≤ tk → Fr h₀ L h' m → News h₀ L h' news → (mn a b c ≤ a ∧ mn a b c ≤ b ∧ mn a b c ≤ c ∧ (mn a b c = a ∨ mn a b c = b ∨ mn a b c = c)) → Q (.int (mn a b c) z) { s with heap := h', toks := tk }) :
    wpAny (model prog w) A (call (.builtin "min") [.int a t, .int b u, .int c x]) Q E s :=
  any_toks s.toks (Nat.le_refl _) <| min_three_ints hh fun h' tk hk ht => by
    have := fun z => h z h' tk ht (F.grownK hk) (N.grown hk) (mn_le a b c)
    unfold mn at this
    split <;> split <;> simp_all
end
local macro_rules | `(tactic| walk_at "call builtin:max") => `(tactic| ((with_reducible show wpAny _ _ (call (Value.builtin _) [Value.int _ _, Value.int _ _, Value.int _ _]) _ _ _); (with_unfolding_all refine' max3T ?k1 ?k2 ?k3 ?_; (case k1 => with_unfolding_all rfl); (case k2 => k_asm); (case k3 => k_asm); k_whole); intro z' h' tk' ht' F' N' q'))
local macro_rules | `(tactic| walk_at "call builtin:min") => `(tactic| ((with_reducible show wpAny _ _ (call (Value.builtin _) [Value.int _ _, Value.int _ _, Value.int _ _]) _ _ _); (with_unfolding_all refine' min3T ?k1 ?k2 ?k3 ?_; (case k1 => with_unfolding_all rfl); (case k2 => k_asm); (case k3 => k_asm); k_whole); intro z' h' tk' ht' F' N' q'))

local macro_rules | `(tactic| walk_at "execs cons") => `(tactic| (k_here; (refine keepA ?_); intro tk hk; (try dsimp only at hk)))
local macro_rules | `(tactic| walk_at "execs nil") => `(tactic| (k_here; (refine keepA ?_); intro tk hk; (try dsimp only at hk)))
theorem rgbT_out {r g b : Int} {D : Addr} {n : Nat} {a b' c : Tok} {x y : UInt64} (hx : x = hueF r g b) (hy : y = satF r g b) (ha : @LE.le Nat _ n a) (hb : @LE.le Nat _ n b') :
    ∃ D' a₁ b₁ c₁, [(D, ({ cls := .type "tuple", data := .seq #[.float x a, .float y b', .int (mx r g b) c] } : Obj))] = [(D', tup3 (.float (hueF r g b) a₁) (.float (satF r g b) b₁) (.int (mx r g b) c₁))] ∧ Value.ref D = Value.ref D' ∧ @LE.le Nat _ n a₁ ∧ @LE.le Nat _ n b₁ := by
  subst hx hy; exact ⟨D, a, b', c, rfl, rfl, ha, hb⟩
theorem rgbT {w : World} (r g b : Int) (t1 t2 t3 : Tok) (hr : 0 ≤ r ∧ r ≤ 200) (hg : 0 ≤ g ∧ g ≤ 200) (hb : 0 ≤ b ∧ b ≤ 200) :
   SpcT 2 w 117 [Value.int r t1, .int g t2, .int b t3] (fun n tl v => ∃ D a b' c, tl = [(D, tup3 (.float (hueF r g b) a) (.float (satF r g b) b') (.int (mx r g b) c))] ∧ v = .ref D ∧ @LE.le Nat _ n a ∧ @LE.le Nat _ n b') := by
  unfold SpcT
  k_fill
  intros
  rename_i hret
  refine wpAny_call ?_
  k_dflt cell_enter
  k_steps
  all_goals (dsimp only at *)
  all_goals (refine hret _ [(_, _)] _ _ (by assumption) (by assumption) (ord1 (by assumption)) (rgbT_out ?_ ?_ ?_ ?_))
  all_goals (try unfold hueF)
  all_goals (try unfold satF)
  all_goals (try unfold rise)
  all_goals (try unfold qd)
  · rw [if_pos (by assumption)]
  · rw [if_pos (by assumption)]
  · omega
  · omega
  · rw [if_neg (by assumption), if_pos (by assumption)]
  · rw [if_neg (by assumption)]
  · omega
  · omega
  · rw [if_neg (by assumption), if_neg (by assumption), if_pos (by assumption)]
  · rw [if_neg (by assumption)]
  · omega
  · omega
  · rw [if_neg (by assumption), if_neg (by assumption), if_neg (by assumption)]
  · rw [if_neg (by assumption)]
  · omega
  · omega
end Mine
end
section
open PySem PySem.W PyProof.Rows PySem.Calls PySem.Spec PyProof.Rows.LCg
namespace Mine
section
variable {prog : Program} {w : World} {A : Around} {E : Value → Shared → Prop} {s : Shared} {h₀ : Heap} {L : Addr} {m : Str → Option Value} {env : Env}
/-- A block over a range, its turns by a word that may speak of the tokens drawn so far. -/
theorem blockT {elt iter : Expr} {x : Str} {px : Pos} {scope : Scope} {cl : List (Str × Addr)} {pos : Pos} {s₂ : Shared} {I : Addr} {n : Nat} {a : Int} {news : List (Addr × Obj)}
    {T : Nat → Nat → List Value → List (Addr × Obj) → Prop} {RR : Value → Addr → Result → Shared → Prop} (hh : A.handled = none) (hsz : n ≤ sizeLine)
    (hcell : ∀ y ∈ scope.names, y.2 ≠ .cell) (hkind : scope.kind = .function) (hx : scope.names.lookup x = some .local) (hst : IsRangeIter s₂.heap I (a + (0 : Nat) * 1) ((n : Int) - (0 : Nat)) 1)
    (F : Fr h₀ L s₂.heap m) (N : News h₀ L s₂.heap news) (hIL : L ≠ I) (hI₀ : h₀.get? I = none) (off : ∀ p ∈ news, p.1 ≠ I)
    (hT0 : T 0 s₂.toks [] news)
    (turn : ∀ i b v I oI C oC D m₂ h tk ys news' (E' : Value → Shared → Prop), i < n → (∃ t, v = .int (a + (i : Int)) t) → T i b ys news' → b ≤ tk → NsObj oC m₂ → m₂ x = some v → Fr h₀ L h m → News h₀ L h ((I, oI) :: (C, oC) :: (D, lst ys) :: news') → Off3 I C D news' → ((@Ne Nat I C) ∧ (@Ne Nat I D) ∧ (@Ne Nat C D)) →
      wpAny (model prog w) A (eval elt (compEnvC scope cl C env)) (fun y s' => ∃ h' tk' nw, s' = { s₂ with heap := h', toks := tk' } ∧ Fr h₀ L h' m ∧ News h₀ L h' ((I, oI) :: (C, oC) :: (D, lst ys) :: nw) ∧ Off3 I C D nw ∧ T (i + 1) tk' (ys ++ [y]) nw) E' { s₂ with heap := h, toks := tk })
    (hRR : ∀ D C h tk m' ys news' b, Fr h₀ L h m → News h₀ L h ((D, lst ys) :: news') → Off1 D news' → h.Ns C m' → h₀.get? C = none → h₀.get? D = none → C ≠ L → D ≠ L → C ≠ D → (∀ p ∈ news', p.1 ≠ C) → T n b ys news' → b ≤ tk → RR (.ref D) C (.ok .next) { s₂ with heap := h, toks := tk }) :
    wpAny (model prog w) A (newList []) (fun acc s₃ => wpAny (model prog w) A (newFunctionEnv scope env.globals cl [] env.qual none .none (some env)) (fun cenv s₄ =>
      codeAny (model prog w) A (.compStart (.ListComp elt [⟨.Name x px, iter, [], 0⟩] scope pos) 0 (.ref I) acc { cenv with scope := relabel scope env }) (RR acc cenv.locals) s₄) E s₃) E s₂ := by
  have W := range_walks (prog := prog) (w := w) (I := I) hh a n
  have hfp : I < s₂.heap.objs.size := Heap.lt_size (show s₂.heap.get? I = some _ from hst)
  refine wpAny_newObj_type (wpAny_newFunctionEnv hcell (by intro y hy; simp at hy) (fun h₁ hns₁ hsb₁ => ?_) hkind)
  dsimp only at hns₁ hsb₁ ⊢
  generalize hH2 : s₂.heap.push { cls := .type "list", dict := none, data := .seq ([] : List Value).toArray } = H2 at hns₁ hsb₁ ⊢
  have hC : H2.objs.size = s₂.heap.objs.size + 1 := by rw [← hH2, Heap.size_push]
  have hDC : s₂.heap.objs.size ≠ H2.objs.size := by rw [hC]; exact Nat.ne_of_lt (Nat.lt_succ_self _)
  have below : ∀ b, b < s₂.heap.objs.size → b ≠ H2.objs.size ∧ b ≠ s₂.heap.objs.size := fun b hb => ⟨by rw [hC]; exact Nat.ne_of_lt (Nat.lt_succ_of_lt hb), Nat.ne_of_lt hb⟩
  have old : ∀ b o, s₂.heap.get? b = some o → h₁.get? b = some o := fun b o e => hsb₁.extBut b o (below b (Heap.lt_size e)).1 (Heap.get?_push_of_some _ (hH2 ▸ Heap.get?_push_of_some _ e))
  have hacc : h₁.get? s₂.heap.objs.size = some (lst []) := hsb₁.extBut _ _ hDC (Heap.get?_push_of_some _ (hH2 ▸ Heap.get?_push_size _ rfl))
  have hst₁ : IsRangeIter h₁ I (a + (0 : Nat) * 1) ((n : Int) - (0 : Nat)) 1 := W.frame _ _ _ hst fun b _ o e => old b o e
  have fresh : ∀ a, s₂.heap.objs.size ≤ a → s₂.heap.get? a = none := fun a ha => by
    cases e : s₂.heap.get? a with
    | none => rfl
    | some o' => exact absurd (Heap.lt_size e) (Nat.not_lt.mpr ha)
  have fresh₀ : ∀ a, s₂.heap.objs.size ≤ a → h₀.get? a = none := fun a ha => by
    cases e : h₀.get? a with
    | none => rfl
    | some o' => have := F.keep a o' e; rw [fresh a ha] at this; cases this
  have hD₀ : h₀.get? s₂.heap.objs.size = none := fresh₀ _ (Nat.le_refl _)
  have hC₀ : h₀.get? H2.objs.size = none := fresh₀ _ (by rw [hC]; exact Nat.le_succ _)
  have hLlt : L < s₂.heap.objs.size := F.ns.lt
  have hDL : s₂.heap.objs.size ≠ L := Ne.symm (below L hLlt).2
  have hCL : H2.objs.size ≠ L := Ne.symm (below L hLlt).1
  have hCI : I ≠ H2.objs.size := (below I hfp).1
  have hDI : I ≠ s₂.heap.objs.size := (below I hfp).2
  have off₀ : Off3 I H2.objs.size s₂.heap.objs.size news := Off3.of fun p hp => ⟨off p hp, (below _ (Heap.lt_size (N p hp).1)).1, (below _ (Heap.lt_size (N p hp).1)).2⟩
  have loop : ∀ s₃ : Shared, s₃ = { s₂ with heap := h₁, toks := s₂.toks + ([] : List (Str × Value)).length } →
      codeAny (model prog w) A (.compLoop (.ListComp elt [⟨.Name x px, iter, [], 0⟩] scope pos) 0 (.ref I) (.ref s₂.heap.objs.size) (compEnvC scope cl H2.objs.size env))
        (RR (.ref s₂.heap.objs.size) H2.objs.size) s₃ := by
    rintro s₃ rfl
    refine codeAny_compLoop_tests
      (fun k s' => ∃ h' tk i ys m' news' b, s' = { s₂ with heap := h', toks := tk } ∧ i ≤ n ∧ k = n + 1 - i ∧ ys.length = i ∧ IsRangeIter h' I (a + (i : Nat) * 1) ((n : Int) - (i : Nat)) 1 ∧ Fr h₀ L h' m ∧ h'.Ns H2.objs.size m' ∧ News h₀ L h' ((s₂.heap.objs.size, lst ys) :: news') ∧
        Off3 I H2.objs.size s₂.heap.objs.size news' ∧ T i b ys news' ∧ b ≤ tk) ?_ (n + 1)
      ⟨h₁, _, 0, [], _, news, s₂.toks, rfl, Nat.zero_le _, rfl, rfl, hst₁, F.keeps old, hns₁, fun p hp => ?_, off₀, hT0, Nat.le_refl _⟩
    · rintro k s' ⟨h', tk, i, ys, m', news', b, rfl, hi, rfl, hyl, hst', F', hn', N', off', hT', hb⟩
      by_cases hlt : i < n
      · refine any_toks b hb (W.item i _ _ _ hlt hst' fun v h₂ tk₂ hPv hst₂ hk₂ => ?_)
        intro hb₂
        refine wpAny_assign_Name (wpAny_storeName_local (lookup_relabel_local hx) (hn'.at' fun o e => hk₂ _ o (by simpa using Ne.symm hCI) e) (fun h₃ hn₃ hs₃ => ?_) (by simp [compEnvC, relabel, hkind]))
        refine wpAny_tests_nil ?_
        simp only [if_true]
        have hst₃ : IsRangeIter h₃ I (a + ((i + 1 : Nat)) * 1) ((n : Int) - ((i + 1 : Nat))) 1 := W.frame _ _ _ hst₂ fun b hb o e => hs₃.extBut b o (fun q => hCI (by
          have q' : b = H2.objs.size := q
          rw [← q']; exact (List.mem_singleton.mp hb).symm)) e
        obtain ⟨oC, heC, hoC⟩ := ns_obj hn₃
        have heI : ∃ oI, h₃.get? I = some oI := ⟨_, (show h₃.get? I = some _ from hst₃)⟩
        obtain ⟨oI, heI⟩ := heI
        have F₃ : Fr h₀ L h₃ m := (fr_but F' hk₂ hIL hI₀).change hs₃ hCL hC₀
        have off3 := off'.mem
        have N₂ : News h₀ L h₂ ((s₂.heap.objs.size, lst ys) :: news') := news_but N' hk₂ fun p hp => by
          rcases List.mem_cons.mp hp with rfl | hp
          · exact Ne.symm hDI
          · exact (off3 p hp).1
        have N₃ : News h₀ L h₃ ((I, oI) :: (H2.objs.size, oC) :: (s₂.heap.objs.size, lst ys) :: news') := fun p hp => by
          rcases List.mem_cons.mp hp with rfl | hp
          · exact ⟨heI, Ne.symm hIL, hI₀⟩
          · rcases List.mem_cons.mp hp with rfl | hp
            · exact ⟨heC, hCL, hC₀⟩
            · have z := N₂ p hp
              refine ⟨hs₃.extBut _ _ ?_ z.1, z.2⟩
              rcases List.mem_cons.mp hp with rfl | hp
              · exact hDC
              · exact (off3 p hp).2.1
        refine wpAny_mono (turn i b v I oI H2.objs.size oC s₂.heap.objs.size _ h₃ _ ys news' _ hlt hPv hT' (Nat.le_trans hb₂ (Nat.le_succ _)) hoC (by simp) F₃ N₃ off' ⟨hCI, hDI, Ne.symm hDC⟩) (fun y s₄ h₄ => ?_) fun _ _ e => e
        obtain ⟨h₄, tk₄, news₄, rfl, F₄, N₄, off₄, R₄⟩ := h₄
        have zI := (N₄ (I, oI) List.mem_cons_self).1
        have zC := (N₄ (H2.objs.size, oC) (List.mem_cons_of_mem _ List.mem_cons_self)).1
        have zD := (N₄ (s₂.heap.objs.size, lst ys) (List.mem_cons_of_mem _ (List.mem_cons_of_mem _ List.mem_cons_self))).1
        have N₄' : News h₀ L h₄ news₄ := fun p hp => N₄ p (List.mem_cons_of_mem _ (List.mem_cons_of_mem _ (List.mem_cons_of_mem _ hp)))
        have hst₄ : IsRangeIter h₄ I (a + ((i + 1 : Nat)) * 1) ((n : Int) - ((i + 1 : Nat))) 1 := by
          have q : h₃.get? I = some _ := hst₃
          show h₄.get? I = some _
          rw [zI, ← heI]; exact q
        refine append_at (hsz := by show ys.toArray.size ≤ sizeLine; rw [List.size_toArray, hyl]; exact Nat.le_trans hi hsz) zD fun h₅ hs₅ hD₅ => ?_
        have off4 := off₄.mem
        refine ⟨n + 1 - (i + 1), by omega, h₅, tk₄, i + 1, ys ++ [y], _, news₄, tk₄, rfl, hlt, rfl, by rw [List.length_append, List.length_singleton, hyl], W.frame _ _ _ hst₄ fun b hb o e => hs₅.extBut b o (fun q => hDI (by
            have q' : b = s₂.heap.objs.size := q
            rw [← q']; exact (List.mem_singleton.mp hb).symm)) e, F₄.change hs₅ hDL hD₀,
          (hoC.ns zC).sameBut hs₅ (Ne.symm hDC), fun p hp => ?_, off₄, R₄, Nat.le_refl _⟩
        rcases List.mem_cons.mp hp with rfl | hp
        · exact ⟨hD₅.trans (congrArg some (lst_snoc ys y)), hDL, hD₀⟩
        · exact ⟨hs₅.extBut _ _ (off4 p hp).2.2 (N₄' p hp).1, (N₄' p hp).2⟩
      · obtain rfl : i = n := Nat.le_antisymm hi (Nat.not_lt.mp hlt)
        refine any_toks b hb (W.done _ _ _ hst' fun h₂ tk₂ hk₂ => ?_)
        intro hb₂
        have off3 := off'.mem
        exact hRR _ _ h₂ tk₂ _ ys news' b (fr_but F' hk₂ hIL hI₀) (news_but N' hk₂ fun p hp => by
          rcases List.mem_cons.mp hp with rfl | hp
          · exact Ne.symm hDI
          · exact (off3 p hp).1) off'.one (hn'.at' fun o e => hk₂ _ o (by simpa using Ne.symm hCI) e) hC₀ hD₀ hCL hDL (Ne.symm hDC) (fun p hp => (off3 p hp).2.1) hT' hb₂
    · rcases List.mem_cons.mp hp with rfl | hp
      · exact ⟨hacc, hDL, hD₀⟩
      · exact ⟨old _ _ (N p hp).1, (N p hp).2⟩
  exact codeAny_compStart_list (loop _ rfl) (W.self 0 _ _ _ hst₁ (loop _ rfl))

/-- A list comprehension over a range. The range's call is left to the walk. -/
theorem listCompT {elt iter : Expr} {x : Str} {px : Pos} {scope : Scope} {cl : List (Str × Addr)} {pos : Pos} {Q : Value → Shared → Prop} {T : Nat → Nat → Nat → List Value → List (Addr × Obj) → Prop} {n : Nat} {a b : Int} {news : List (Addr × Obj)}
    (hclos : closureFor scope env = pure cl) (hcell : ∀ y ∈ scope.names, y.2 ≠ .cell) (hkind : scope.kind = .function)
    (hnames : ∀ y ∈ scope.names, y.2 = .local → scope.names.lookup y.1 = some .local) (hx : scope.names.lookup x = some .local)
    (hh : A.handled = none) (hsm : Builtin.Range.small a b 1 = true) (hn : Builtin.Range.rangeSize a b 1 = ((n : Nat) : Int)) (hsz : n ≤ sizeLine)
    (h : wpAny (model prog w) A (eval iter env) (fun xv s₁ => ∃ r t u v, xv = .ref r ∧ Fr h₀ L s₁.heap m ∧ News h₀ L s₁.heap news ∧ IsRange s₁.heap r a b 1 t u v ∧ T 0 s₁.toks 0 [] news ∧
      (∀ s₂ : Shared, (∃ h, s₂ = { s₁ with heap := h }) → ∀ i b v I oI C oC D m₂ h tk ys news' (E' : Value → Shared → Prop), i < n → (∃ t, v = .int (a + (i : Int)) t) → T 0 b i ys news' → b ≤ tk → NsObj oC m₂ → m₂ x = some v → Fr h₀ L h m → News h₀ L h ((I, oI) :: (C, oC) :: (D, lst ys) :: news') → Off3 I C D news' → ((@Ne Nat I C) ∧ (@Ne Nat I D) ∧ (@Ne Nat C D)) →
        wpAny (model prog w) A (eval elt (compEnvC scope cl C env)) (fun y s' => ∃ h' tk' nw, s' = { s₂ with heap := h', toks := tk' } ∧ Fr h₀ L h' m ∧ News h₀ L h' ((I, oI) :: (C, oC) :: (D, lst ys) :: nw) ∧ Off3 I C D nw ∧ T 0 tk' (i + 1) (ys ++ [y]) nw) E' { s₂ with heap := h, toks := tk }) ∧
      ∀ D h tk ys nw b, Fr h₀ L h m → News h₀ L h ((D, lst ys) :: nw) → Off1 D nw → T 0 b n ys nw → b ≤ tk → Q (.ref D) { s₁ with heap := h, toks := tk }) E s)
    (hs : ∀ x, foldedSetIterable iter env x = pure x := by intro _; rfl) :
    wpAny (model prog w) A (eval (.ListComp elt [⟨.Name x px, iter, [], 0⟩] scope pos) env) Q E s := by
  rw [eval_ListComp]
  refine wpAny_comprehension_free (use := none) rfl hs hclos hkind hnames (wpAny_mono h (fun xv s₁ h₁ => ?_) fun _ _ e => e)
  obtain ⟨r, t, u, v, rfl, F, N, hr, hT0, turn, fin⟩ := h₁
  refine wpAny_pyIter_range hr hsm ?_
  refine blockT (T := fun i b ys nw => T 0 b i ys nw) hh hsz hcell hkind hx (by show IsRangeIter _ _ _ _ _; rw [hn]; simpa using Heap.get?_push_size _ rfl)
    (F.keeps fun _ _ e => Heap.get?_push_of_some _ e) (N.grown fun _ _ e => Heap.get?_push_of_some _ e) (Nat.ne_of_lt F.ns.lt) (next_is_new F) (fun p hp => Nat.ne_of_lt (Heap.lt_size (N p hp).1)) hT0 (turn _ ⟨_, rfl⟩) ?_
  intro D C h tk m' ys news' b F' N' o1 hn hC₀ hD₀ hCL hDL hCD offC hT hb
  refine ⟨m', hn, fun h'' hs'' => fin D h'' tk ys news' b (F'.change hs'' hCL hC₀) (fun p hp => ?_) o1 hT hb⟩
  refine ⟨hs''.extBut _ _ ?_ (N' p hp).1, (N' p hp).2⟩
  rcases List.mem_cons.mp hp with rfl | hp
  · exact Ne.symm hCD
  · exact offC p hp
end
end Mine
end
section
open PySem PySem.W PyProof.Rows PySem.Calls PySem.Spec PySem.SeqAt
namespace Mine
abbrev feq (a b : UInt64) : Bool := Float64.cmp a b == some Ordering.eq
section
variable {prog : Program} {w : World} {A : Around} {E : Value → Shared → Prop} {s : Shared}
theorem eqAt_float {a b : UInt64} {t u : Tok} (hb : NoneBooked s.heap) (ht : t ≠ 0) (hu : u ≠ 0) (hne : t ≠ u) (hself : a = b → feq a b = true) : EqAt A s (.float a t) (.float b u) (feq a b) := fun prog w E Q hq => by
  unfold eqBool
  refine wpAny_holding ?_
  refine wpAny_ite_split (fun hab => ?_) (fun _ => ?_)
  · exact absurd (by have := eq_of_beq hab; injection this) hne
  · dsimp only
    have rich : wpAny (model prog w) A (truthOfDropped =<< richCompare .Eq (.float a t) (.float b u)) Q E s := by
      refine wpAny_bind (AutoFloatOps.eq_0 (Q := fun v s' => wpAny (model prog w) A (truthOfDropped v) Q E s') ?_)
      exact wpAny_truthy_bool hq
    refine wpAny_bind ?_
    show wpAny _ A (isSame.created (a == b && !Float64.isNaN a) t u) _ _ s
    unfold isSame.created
    refine wpAny_ite ?_
    split
    · rename_i h
      exact absurd h (by simp [ht, hu])
    refine wpAny_ite ?_
    split
    · rename_i h
      exact absurd (by simpa using h) hne
    refine wpAny_ite ?_
    split
    · exact wpAny_pure rich
    · rename_i h
      have hab : a = b := by
        have h' : (a == b && !Float64.isNaN a) = true := by simpa using h
        exact eq_of_beq (Bool.and_eq_true_iff.mp h').1
      refine wpAny_bind (wpAny_sharingNotTold_none hb ?_)
      simp only [Bool.false_eq_true, if_false]
      refine wpAny_bind (wpAny_sharingNotTold_none hb ?_)
      simp only [Bool.false_eq_true, if_false]
      refine wpAny_bind (wpAny_rule (wpAny_bind (wpAny_askSetting (wpAny_pure ?_))))
      refine wpAny_ite ?_
      split
      · rw [hself hab] at hq; exact wpAny_pure hq
      · exact rich
end
def same3 (h g : UInt64) (v : Int) (h' g' : UInt64) (v' : Int) : Bool := feq h h' && (feq g g' && v == v')
theorem eqAt_tup {A : Around} {s : Shared} {P U : Addr} {h g h' g' : UInt64} {v v' : Int} {t1 t2 t3 u1 u2 u3 : Tok} (hb : NoneBooked s.heap) (hP : s.heap.IsTuple P #[.float h t1, .float g t2, .int v t3]) (hU : s.heap.IsTuple U #[.float h' u1, .float g' u2, .int v' u3])
    (a1 : t1 ≠ 0) (a2 : t2 ≠ 0) (b1 : u1 ≠ 0) (b2 : u2 ≠ 0) (c1 : t1 ≠ u1) (c2 : t2 ≠ u2) (s1 : h = h' → feq h h' = true) (s2 : g = g' → feq g g' = true) (hu : A.units < cLine) : RcAt A s (.ref P) (.ref U) (same3 h g v h' g' v') := by
  have q := RcAt.tuples (e := fun j => if j = 0 then feq h h' else if j = 1 then feq g g' else v == v') hP hU hu (fun j h1 h2 => by
    obtain rfl | rfl | rfl : j = 0 ∨ j = 1 ∨ j = 2 := by
      have : j < 3 := h1
      omega
    · exact eqAt_float hb a1 b1 c1 s1
    · exact eqAt_float hb a2 b2 c2 s2
    · exact EqAt.int_int _ _ _ _)
  have e : ((List.range (min (#[Value.float h t1, .float g t2, .int v t3] : Array Value).size (#[Value.float h' u1, .float g' u2, .int v' u3] : Array Value).size)).all (fun j => if j = 0 then feq h h' else if j = 1 then feq g g' else v == v') &&
      (#[Value.float h t1, .float g t2, .int v t3] : Array Value).size == (#[Value.float h' u1, .float g' u2, .int v' u3] : Array Value).size) = same3 h g v h' g' v' := by
    show ((List.range 3).all (fun j => if j = 0 then feq h h' else if j = 1 then feq g g' else v == v') && (3 == 3)) = _
    simp [List.range, List.range.loop, same3]
  rw [e] at q
  exact q
/-- What an item of the directory of places says against a light's place. -/
def ob (h g : UInt64) (v : Int) (o : Obj) : Bool := match o.data with
  | .seq ⟨[.float h' _, .float g' _, .int v' _]⟩ _ => same3 h' g' v' h g v
  | _ => false
def obAt (H : Heap) (h g : UInt64) (v : Int) (y : Value) : Bool := match y with
  | .ref a => (match H.get? a with | some o => ob h g v o | none => false)
  | _ => false
end Mine
end
section
open PySem PySem.W PyProof.Rows PySem.Calls PySem.Spec
namespace Mine
section
variable {prog : Program} {w : World} {A : Around} {E : Value → Shared → Prop} {s : Shared} {env : Env} {h₀ : Heap} {target : Expr} {body orelse : List Stmt} {Q : Flow → Shared → Prop}
theorem loopT {R : Result → Shared → Prop} {I : Addr} {fp wr : List Addr} {n : Nat} {P Md : Nat → Value → Heap → Prop} {St : Nat → Heap → Prop} {m : Str → Option Value} {news : List (Addr × Obj)} (W : KTurns prog w A target I fp wr n P Md St)
    (hfp : ∀ b ∈ fp, b ∈ wr ∨ ∃ o, h₀.get? b = some o) (hLw : env.locals ∉ wr) (hwr : ∀ b ∈ wr, h₀.get? b = none) (hnw : ∀ p ∈ news, p.1 ∉ wr)
    (PO : List (Addr × Obj) → Prop) (hobj : ∀ i h, St i h → ∃ its : List (Addr × Obj), its.map (·.1) = wr ∧ (∀ p ∈ its, h.get? p.1 = some p.2) ∧ PO its)
    (hst : St 0 s.heap) (F : Fr h₀ env.locals s.heap m) (N : News h₀ env.locals s.heap news)
    (J : Nat → (Str → Option Value) → List (Addr × Obj) → Prop) (h0 : J 0 m news)
    (step : ∀ i v m₁ news₁ h₁ tk₁ its, s.toks ≤ tk₁ → i < n → P i v h₁ → J i m₁ news₁ → (∀ p ∈ news₁, p.1 ∉ wr) → its.map (·.1) = wr → PO its →
      Fr h₀ env.locals h₁ m₁ → News h₀ env.locals h₁ (its ++ news₁) →
      wpAny (model prog w) A (assign target env v) (fun _ s₂ => wpAny (model prog w) A (execs body env)
        (StepT h₀ env.locals wr its (J (i + 1)) { s with heap := h₁, toks := tk₁ } (fun f s' => R (.ok f) s')) (notedBy (model prog w) A env fun e s' => R (.error e) s') s₂) (notedBy (model prog w) A env fun e s' => R (.error e) s') { s with heap := h₁, toks := tk₁ })
    (hR : ∀ h' tk m' news', Fr h₀ env.locals h' m' → News h₀ env.locals h' news' → J n m' news' →
      wpAny (model prog w) A (execs orelse env) (fun f s₃ => R (.ok f) s₃) (notedBy (model prog w) A env fun e s' => R (.error e) s') { s with heap := h', toks := tk }) :
    codeAny (model prog w) A (.forLoop target (.ref I) body orelse env) R s := by
  have old : ∀ b o, h₀.get? b = some o → b ∉ wr := fun b o e hb => by rw [hwr b hb] at e; cases e
  refine codeAny_forLoop_any
    (fun k s' => ∃ h' tk m' news' i, s' = { s with heap := h', toks := tk } ∧ St i h' ∧ Fr h₀ env.locals h' m' ∧ News h₀ env.locals h' news' ∧ (∀ p ∈ news', p.1 ∉ wr) ∧ J i m' news' ∧ i ≤ n ∧ k = n + 1 - i ∧ s.toks ≤ tk) ?_ (n + 1)
    ⟨s.heap, s.toks, m, news, 0, rfl, hst, F, N, hnw, h0, Nat.zero_le _, rfl, Nat.le_refl _⟩
  rintro k s' ⟨h', tk, m', news', i, rfl, hst', F', N', hnw', hJ, hi, rfl, hb⟩
  have next : ∀ h₁ : Heap, (∀ b o, b ∉ wr → h'.get? b = some o → h₁.get? b = some o) → Fr h₀ env.locals h₁ m' ∧ News h₀ env.locals h₁ news' := fun h₁ hk₁ =>
    ⟨⟨F'.ns.at' fun o e => hk₁ _ o hLw e, fun b o e => hk₁ b o (old b o e) (F'.keep b o e), F'.above⟩, fun p hp => ⟨hk₁ _ _ (hnw' p hp) (N' p hp).1, (N' p hp).2⟩⟩
  by_cases hlt : i < n
  · refine any_toks s.toks hb (W.item i _ _ _ hlt hst' fun v h₁ tk₁ hMd hk₁ => ?_)
    intro hb₁
    refine W.go i v _ _ _ hMd fun h₂ hP hst₂ hk₂ => ?_
    obtain ⟨F₂, N₂⟩ := next h₂ fun b o hb x => hk₂ b o hb (hk₁ b o hb x)
    obtain ⟨its, hits, hget, hPO⟩ := hobj _ _ hst₂
    have Nits : News h₀ env.locals h₂ its := fun p hp => by
      have hpw : p.1 ∈ wr := hits ▸ List.mem_map_of_mem hp
      exact ⟨hget p hp, fun e => hLw (e ▸ hpw), hwr _ hpw⟩
    have Nall : News h₀ env.locals h₂ (its ++ news') := fun p hp => by
      rcases List.mem_append.mp hp with hp | hp
      · exact Nits p hp
      · exact N₂ p hp
    have again : ∀ f s₃, s.toks ≤ s₃.toks → (f = .next ∨ f = .cont) → StepT h₀ env.locals wr its (J (i + 1)) { s with heap := h₂, toks := tk₁ } (fun f s' => R (.ok f) s') f s₃ →
        ∃ k', k' < n + 1 - i ∧ ∃ h' tk m' news' i, s₃ = { s with heap := h', toks := tk } ∧ St i h' ∧ Fr h₀ env.locals h' m' ∧ News h₀ env.locals h' news' ∧ (∀ p ∈ news', p.1 ∉ wr) ∧ J i m' news' ∧ i ≤ n ∧ k' = n + 1 - i ∧ s.toks ≤ tk := by
      intro f s₃ hb₃ hf h₃
      have h₃' : ∃ h' tk m' news', s₃ = { s with heap := h', toks := tk } ∧ Fr h₀ env.locals h' m' ∧ News h₀ env.locals h' (its ++ news') ∧ (∀ p ∈ news', p.1 ∉ wr) ∧ J (i + 1) m' news' := by
        rcases hf with rfl | rfl <;> exact h₃
      obtain ⟨h₃', tk₃, m₂, news₂, rfl, F₃, N₃, ha₃, hJ₃⟩ := h₃'
      refine ⟨n + 1 - (i + 1), by omega, h₃', tk₃, m₂, news₂, i + 1, rfl, ?_, F₃, fun p hp => N₃ p (List.mem_append_right _ hp), ha₃, hJ₃, hlt, rfl, hb₃⟩
      refine W.frame _ _ _ hst₂ fun b hb o e => ?_
      rcases hfp b hb with hb | ⟨o₀, e₀⟩
      · obtain ⟨p, hp, rfl⟩ := List.mem_map.mp (hits ▸ hb)
        have q := hget p hp
        rw [e] at q; cases q
        exact (N₃ p (List.mem_append_left _ hp)).1
      · have q := F₂.keep b o₀ e₀
        rw [e] at q; cases q
        exact F₃.keep b _ e₀
    refine any_toks s.toks hb₁ (wpAny_mono (step i v m' news' h₂ tk₁ its hb₁ hlt hP hJ hnw' hits hPO F₂ Nall) (fun _ s₂ h₂' hb₂ => any_toks s.toks hb₂ (wpAny_mono h₂' (fun f s₃ h₃ hb₃ => ?_) fun _ _ e _ => e)) fun _ _ e _ => e)
    cases f with
    | ret v => exact h₃
    | brk => exact h₃
    | cont => exact again _ _ hb₃ (.inr rfl) h₃
    | next => exact again _ _ hb₃ (.inl rfl) h₃
  · have hin : i = n := by omega
    subst hin
    refine W.done _ _ _ hst' fun h₁ tk₁ hk₁ => ?_
    obtain ⟨F₁, N₁⟩ := next h₁ hk₁
    exact hR h₁ tk₁ m' news' F₁ N₁ hJ

/-- A for over a list of the call's own making. -/
theorem iterListT {ax : Addr} {lo : Obj} {items : Array Value} {n : Nat} {m : Str → Option Value} {news : List (Addr × Obj)} (hh : A.handled = none)
    (F : Fr h₀ env.locals s.heap m) (N : News h₀ env.locals s.heap ((ax, lo) :: news)) (hoff : ∀ p ∈ news, p.1 ≠ ax) (hc : lo.cls = .type "list") (hd : lo.data = .seq items n)
    (J : Nat → (Str → Option Value) → List (Addr × Obj) → Prop) (h0 : J 0 m news)
    (step : ∀ i v m₁ news₁ h₁ tk₁ I oI oX, s.toks ≤ tk₁ → items[i]? = some v → J i m₁ news₁ → (∀ p ∈ news₁, p.1 ∉ [I, ax]) → (∀ p ∈ (ax, lo) :: news, p.1 < I) → oI.cls = .type "list_iterator" → (∀ v, oI.data ≠ .cell v) → (∃ n', oX.cls = .type "list" ∧ oX.data = .seq items n') →
      Fr h₀ env.locals h₁ m₁ → News h₀ env.locals h₁ ((I, oI) :: (ax, oX) :: news₁) →
      wpAny (model prog w) A (assign target env v) (fun _ s₂ => wpAny (model prog w) A (execs body env)
        (StepT h₀ env.locals [I, ax] [(I, oI), (ax, oX)] (J (i + 1)) { s with heap := h₁, toks := tk₁ } Q) E s₂) E { s with heap := h₁, toks := tk₁ })
    (hR : ∀ h' tk m' news', Fr h₀ env.locals h' m' → News h₀ env.locals h' news' → J items.size m' news' →
      wpAny (model prog w) A (execs orelse env) Q E { s with heap := h', toks := tk })
    (hE : PassesOwn (model prog w) A env E := by passes_own) :
    wpAny (model prog w) A (pyIter (.ref ax)) (fun it s₂ => codeAny (model prog w) A (.forLoop target it body orelse env) (fun r s' => match r with | .ok f => Q f s' | .error e => cameBackBy (model prog w) A env E e s') s₂) E s := by
  have hax := N (ax, lo) (.head _)
  have htt : s.heap.IsList ax items := ⟨lo, hax.1, hc, n, hd⟩
  refine wpAny_pyIter_list htt ?_
  have hk : ∀ b o, s.heap.get? b = some o → (s.heap.push { cls := .type "list_iterator", data := .fields #[.ref ax, .int 0 0] }).get? b = some o := fun b o e => Heap.get?_push_of_some _ e
  have tlt : ax < s.heap.objs.size := Heap.lt_size hax.1
  have fresh : h₀.get? s.heap.objs.size = none := by
    cases e : h₀.get? s.heap.objs.size with
    | none => rfl
    | some o => exact absurd (Heap.lt_size (F.keep _ _ e)) (Nat.lt_irrefl _)
  have N' : News h₀ env.locals s.heap news := fun p hp => N p (.tail _ hp)
  refine loopT (R := fun r s' => match r with | .ok f => Q f s' | .error e => cameBackBy (model prog w) A env E e s')
    (turnsWide (KTurns.ofWalks (Walks.list hh s.heap.objs.size ax (Nat.ne_of_lt tlt) items) (fun i v s' Q' E' hst hQ' => letGo_listiter hst.1 hQ')))
    (fun b hb => .inl hb) ?_ ?_ ?_ (fun its => ∃ oI oX, its = [(s.heap.objs.size, oI), (ax, oX)] ∧ oI.cls = .type "list_iterator" ∧ (∀ v, oI.data ≠ .cell v) ∧ (∃ n', oX.cls = .type "list" ∧ oX.data = .seq items n')) ?_ ⟨⟨_, Heap.get?_push_size _ rfl, rfl, rfl⟩, htt.at fun o e => hk _ o e⟩ (F.keeps hk) (N'.grown hk) J h0 ?_ ?_
  · intro hm
    rcases List.mem_cons.mp hm with e | hm
    · have := F.ns.lt
      rw [e] at this; exact Nat.lt_irrefl _ this
    · exact hax.2.1 (List.mem_singleton.mp hm).symm
  · intro b hb
    rcases List.mem_cons.mp hb with rfl | hb
    · exact fresh
    · rw [List.mem_singleton.mp hb]; exact hax.2.2
  · intro p hp hm
    rcases List.mem_cons.mp hm with e | hm
    · have := Heap.lt_size (N' p hp).1
      rw [e] at this; exact Nat.lt_irrefl _ this
    · exact hoff p hp (List.mem_singleton.mp hm)
  · rintro i h ⟨⟨o, e, ec, ed⟩, ⟨o', e', ec', n', ed'⟩⟩
    exact ⟨[(_, o), (_, o')], rfl, fun p hp => by
      rcases List.mem_cons.mp hp with rfl | hp
      · exact e
      · rw [List.mem_singleton.mp hp]; exact e', o, o', rfl, ec, (fun v hv => by rw [hv] at ed; cases ed), n', ec', ed'⟩
  · intro i v m₁ news₁ h₁ tk₁ its hb hi hP hJ hn hits hPO F₁ N₁
    obtain ⟨oI, oX, rfl, p1, p0, p2⟩ := hPO
    exact wpAny_mono (step i v m₁ news₁ h₁ tk₁ _ oI oX hb hP hJ hn (fun p hp => Heap.lt_size (N p hp).1) p1 p0 p2 F₁ N₁) (fun _ _ x => wpAny_passesOwn hE x) hE
  · intro h' tk m' news' F' N' hJ
    exact wpAny_passesOwn hE (hR h' tk m' news' F' N' hJ)
end
end Mine
end
section
open PySem PySem.W PyProof.Rows PySem.Calls PySem.Spec
namespace Mine
def lawDef : List Stmt × Scope := match PySem.Challenge.pw_mq0233_01.main.body.getLast? with
  | some (.FunctionDef _ _ body _ _ _ scope _ _ _) => (body, scope)
  | _ => ([], { kind := .module, names := [], isGenerator := false, isCoroutine := false })
def lawS (n : Nat) : Stmt := (lawDef.1.drop n).headD (.Pass ⟨0, 0, 0, 0⟩)
def loopBody : List Stmt := match lawS 2 with
  | .For _ _ b _ _ => b
  | _ => []
def bodyS (n : Nat) : Stmt := (loopBody.drop n).headD (.Pass ⟨0, 0, 0, 0⟩)
def lscope : Scope := lawDef.2
abbrev lenv (L fa : Addr) (cd : Value) : Env := envOfC (Str.ofString "law") lscope L fa cd
theorem one_lt {news : List (Addr × Obj)} {D : Addr} {o : Obj} (h : ∀ q ∈ news, ∀ p ∈ [(D, o)], q.1 < p.1) : ∀ q ∈ news, q.1 < D := fun q hq => h q hq _ (.head _)
theorem item_led {prog : Program} {w : World} {A : Around} {E : Value → Shared → Prop} {s : Shared} {h₀ : Heap} {L : Addr} {news : List (Addr × Obj)} {value slice : PySem.Expr} {l : Addr} {vs : List Value} {n : Nat} {k : Int} {u : Tok} {v : Value} {Q : Value → Shared → Prop}
    (N : News h₀ L s.heap news) (hm : (l, W.listOf vs.toArray n) ∈ news) (h0 : 0 ≤ k) (hhi : k < 2 ^ 63) (hx : vs[k.toNat]? = some v) (h : Q v s)
    (hs : subscripted slice false (.ref l) (.int k u) = operate [.ref l, .int k u] (getItem (.ref l) (.int k u)) := by with_unfolding_all rfl) :
    wpAny (model prog w) A (subscriptTail value slice (.ref l) (.int k u)) Q E s :=
  tail_any (News.isList N hm).typeIs slot_list_getitem.lookup (wpAny_getItem_list (News.isList N hm) h0 hhi (by simpa using hx) h) hs

/-- What the law's frame stands on. -/
structure Gr (w : World) (h₀ : Heap) : Prop where
  X : (hd.heap_39 w.params).In h₀
  T : ∃ mean mg mb, Top hd.view_39 (looseW hd.view_39 [Str.ofString "_filemode_table"]) mean mg mb h₀
  B : ∃ A₀ base, Below A₀ base [] h₀

local macro_rules | `(tactic| walk_at "call ref") => `(tactic| (k_here; (with_reducible show wpAny _ _ (call (Value.ref 131) [Value.int _ _]) _ _ _); k_dflt (refine' Spc.use (light _ _) ?k1 ?k2 ?k3 ?k4 ?k5 ?kK ?kd ?ku ?_; (case k1 => k_asm); (case k2 => k_asm); (case k3 => k_asm); (case k4 => k_asm); (case k5 => k_asm); (case kK => first | exact rfl | assumption); (case kd => ktr_room); (case ku => ktr_units); intro r9 tl9 h9 tk9 F9 N9 o9 p9; obtain ⟨D9, u91, u92, u93, e9, e9'⟩ := p9; subst e9 e9'; (have l9 := one_lt o9); clear o9; (k_lt l9); (try simp only [List.cons_append, List.nil_append] at N9); (try dsimp only); (try k_fold))))
local macro_rules | `(tactic| k_all) => `(tactic| assumption)
local macro_rules | `(tactic| walk_at "exec Assign cons ListComp") => `(tactic| (refine wpAny_Assign_Name ?_))
local macro_rules | `(tactic| walk_at "eval ListComp") => `(tactic| (k_dflt (refine LCg.ListComp_U (F₀ := by k_asm) (by with_unfolding_all rfl) (by decide) (by rfl) (by decide) (by rfl) ?_)))
local macro_rules | `(tactic| walk_at "CompSrc") => `(tactic| (k_here; k_dflt (refine LCg.CompSrc.range (by rfl) (by k_asm) (by k_asm) (by assumption) (by first | decide | rfl) (by first | rfl | decide) (by first | size_fits | exact Nat.le_of_ble_eq_true rfl) ?_; intro g'; lcg_lit)))
local macro_rules | `(tactic| walk_at "CompRest") => `(tactic| (k_dflt (first
  | (refine LCg.CompRest.succ ?_; intro v' I' oI' C' oC' D' m' h' tk' E' hv' hC' hx' F' N' off' ne'; obtain ⟨t9', hv9'⟩ := hv'; subst hv9')
  | refine LCg.CompRest.zero ?_)))
local macro_rules | `(tactic| walk_at "CompEnd") => `(tactic| (k_dflt (refine LCg.CompEnd.intro (by assumption) (by assumption) _ (fun _ h => h) (by assumption) True.intro ?_)))
local macro_rules | `(tactic| walk_at "FinE") => `(tactic| ((unfold LCg.FinE); intro D' h' tk' F' N' o1'; (try simp only [LCg.Off1] at o1'); (try dsimp only)))
local macro_rules | `(tactic| walk_at "eval Name") => `(tactic| ((with_reducible show wpAny _ _ (eval (Expr.Name _ _) (compEnvC _ _ _ _)) _ _ _); k_dflt (first
  | (refine' lcf_cell ?N ?c ?m ?d ?_ ?a ?b; (case b => rfl); (case a => rfl); (case N => k_asm); (case c => rfl); (case m => k_mem); (case d => k_asm); k_whole)
  | (refine' LCgL.ld_own ?N ?m ?c ?x ?_ ?a ?b; (case b => rfl); (case a => rfl); (case N => k_asm); (case m => k_mem); (case c => assumption); (case x => assumption); k_whole))))
local macro_rules | `(tactic| walk_at "subscriptTail Name Name ref int") => `(tactic| (k_dflt (refine' item_led ?N ?m ?k2 ?k3 ?k4 ?_ ?k6; (case N => k_asm); (case m => k_mem); (case k2 => decide); (case k3 => decide); (case k4 => rfl); (case k6 => with_unfolding_all rfl); k_whole)))
section
variable {w : World} {h₀ : Heap} {L fa : Addr} {cd : Value} {s : Shared} {m : Str → Option Value} {x a b c : Int} {u t0 t1 t2 u1 u2 u3 : Tok} {n0 : Nat} {T0 D9 : Addr} {cT cL cO cM : Obj} {vT vL vO vM : Option Value} {rest : List (Addr × Obj)} {Q : Flow → Shared → Prop} {E : Value → Shared → Prop}

theorem st1 (G : Gr w h₀) (F : Fr h₀ L s.heap (fun y => if y = Str.ofString "mode" then some (Value.int x u) else m y)) (N : News h₀ L s.heap ((L + 1 + 1, cL) :: rest)) (hcL : cL.data = .cell vL) (hr : ∀ p ∈ rest, p.1 ≠ L + 1 + 1)
    (hQ : ∀ h' tk D9 u1 u2 u3 cL', Fr h₀ L h' (fun y => if y = Str.ofString "mode" then some (Value.int x u) else m y) → News h₀ L h' ((D9, W.listOf #[Value.int (lr (kd x)) u1, .int (lg (kd x)) u2, .int (lb (kd x)) u3] 0) :: (L + 1 + 1, cL') :: rest) → cL'.data = .cell (some (.ref D9)) →
      (∀ p ∈ (L + 1 + 1, cL) :: rest, p.1 < D9) → Q .next { s with heap := h', toks := tk }) :
    wpAny (model PySem.Challenge.rw_mq0233_01.row.prog w) (callerA.deeper (lenv L fa cd)) (exec (bodyS 0) (lenv L fa cd)) Q E s := by
  obtain ⟨X, ⟨mean, mg, mb, T⟩, ⟨A₀, base, B⟩⟩ := G
  have es : lscope = lscope := rfl
  conv at es => { rhs; whnf }
  have eb : bodyS 0 = bodyS 0 := rfl
  conv at eb => { rhs; whnf }
  unfold lenv
  rw [es, eb]
  clear es eb
  revert X
  k_fill
  intro X
  k_steps
  rename _ ∧ AllLt _ _ => l9
  exact hQ _ _ _ _ _ _ _ (by assumption) (by assumption) (by assumption) (allLt_mem (l := (L + 1 + 1, cL) :: rest) l9)
theorem st2 (G : Gr w h₀) (F : Fr h₀ L s.heap m) (N : News h₀ L s.heap ((T0, W.listOf #[Value.int a t0, .int b t1, .int c t2] n0) :: (D9, W.listOf #[Value.int (lr (kd x)) u1, .int (lg (kd x)) u2, .int (lb (kd x)) u3] 0) :: (L + 1 + 1, cL) :: (L + 1, cT) :: rest))
    (hcL : cL.data = .cell (some (.ref D9))) (hcT : cT.data = .cell (some (.ref T0))) (hr : ∀ p ∈ rest, p.1 ≠ L + 1) (o1 : @Ne Nat T0 (L + 1)) (o2 : @Ne Nat D9 (L + 1))
    (hQ : ∀ h' tk T1 v1 v2 v3 cT', Fr h₀ L h' m → News h₀ L h' ((T1, W.listOf #[Value.int (a + lr (kd x)) v1, .int (b + lg (kd x)) v2, .int (c + lb (kd x)) v3] 3) :: (T0, W.listOf #[Value.int a t0, .int b t1, .int c t2] n0) :: (D9, W.listOf #[Value.int (lr (kd x)) u1, .int (lg (kd x)) u2, .int (lb (kd x)) u3] 0) :: (L + 1 + 1, cL) :: (L + 1, cT') :: rest) →
      cT'.data = .cell (some (.ref T1)) → Q .next { s with heap := h', toks := tk }) :
    wpAny (model PySem.Challenge.rw_mq0233_01.row.prog w) (callerA.deeper (lenv L fa cd)) (exec (bodyS 1) (lenv L fa cd)) Q E s := by
  obtain ⟨X, ⟨mean, mg, mb, T⟩, ⟨A₀, base, B⟩⟩ := G
  have es : lscope = lscope := rfl
  conv at es => { rhs; whnf }
  have eb : bodyS 1 = bodyS 1 := rfl
  conv at eb => { rhs; whnf }
  unfold lenv
  rw [es, eb]
  clear es eb
  revert X
  k_fill
  intro X
  k_steps
  exact hQ _ _ _ _ _ _ _ (by assumption) (by assumption) (by assumption)

end
end Mine
end
section
open PySem PySem.W PyProof.Rows PySem.Calls PySem.Spec PySem.SeqAt
namespace Mine
def pH (j : Nat) : UInt64 := if j < 6 then Float64.div (Float64.ofInt (0 + (j : Int))) 4618441417868443648 else 0
def pG (j : Nat) : UInt64 := if j < 6 then 4607182418800017408 else 0
def pV (j : Nat) : Int := if j < 6 then 2 else 1
def pObj (j : Nat) (t u v : Tok) : Obj := tup3 (.float (pH j) t) (.float (pG j) u) (.int (pV j) v)
abbrev hK (k : Int) : UInt64 := hueF (lr k) (lg k) (lb k)
abbrev gK (k : Int) : UInt64 := satF (lr k) (lg k) (lb k)
abbrev vK (k : Int) : Int := mx (lr k) (lg k) (lb k)
def sameK (k : Int) (j : Nat) : Bool := same3 (pH j) (pG j) (pV j) (hK k) (gK k) (vK k)
theorem cases16 {P : Int → Prop} (h0 : P 0) (h1 : P 1) (h2 : P 2) (h3 : P 3) (h4 : P 4) (h5 : P 5) (h6 : P 6) (h7 : P 7) (h8 : P 8) (h9 : P 9) (h10 : P 10) (h11 : P 11) (h12 : P 12) (h13 : P 13) (h14 : P 14) (h15 : P 15) (k : Int) (hk : 0 ≤ k ∧ k < 16) : P k := by
  obtain rfl | rfl | rfl | rfl | rfl | rfl | rfl | rfl | rfl | rfl | rfl | rfl | rfl | rfl | rfl | rfl : k = 0 ∨ k = 1 ∨ k = 2 ∨ k = 3 ∨ k = 4 ∨ k = 5 ∨ k = 6 ∨ k = 7 ∨ k = 8 ∨ k = 9 ∨ k = 10 ∨ k = 11 ∨ k = 12 ∨ k = 13 ∨ k = 14 ∨ k = 15 := by omega
  all_goals assumption
def ixK (k : Int) : Nat := if k = 2 then 0 else if k = 6 then 1 else if k = 4 then 2 else if k = 12 then 3 else if k = 8 then 4 else if k = 10 then 5 else if k = 1 then 6 else 7
def word8 : Str := Str.ofString "cbds-lp?"
/-- The table of the sixteen kinds: which places are met, the sign of the kind. -/
def good16 (k : Int) : Bool := ((List.range 7).all fun j => sameK k j == (j == ixK k)) && (decide (ixK k < 8) && (word8.cps[ixK k]? == some (fcode k) && (feq (hK k) (hK k) && feq (gK k) (gK k))))
theorem good_all (k : Int) (hk : 0 ≤ k ∧ k < 16) : good16 k = true :=
  cases16 (P := fun k => good16 k = true) (by decide +kernel) (by decide +kernel) (by decide +kernel) (by decide +kernel) (by decide +kernel) (by decide +kernel) (by decide +kernel) (by decide +kernel) (by decide +kernel) (by decide +kernel) (by decide +kernel) (by decide +kernel) (by decide +kernel) (by decide +kernel) (by decide +kernel) (by decide +kernel) k hk
theorem good_same {k : Int} (hk : 0 ≤ k ∧ k < 16) {j : Nat} (hj : j < 7) : sameK k j = (j == ixK k) := by
  have h := (Bool.and_eq_true_iff.mp (good_all k hk)).1
  have := List.all_eq_true.mp h j (List.mem_range.mpr hj)
  simpa using this
theorem good_ix {k : Int} (hk : 0 ≤ k ∧ k < 16) : ixK k < 8 := by
  have h := (Bool.and_eq_true_iff.mp (Bool.and_eq_true_iff.mp (good_all k hk)).2).1
  simpa using h
theorem good_word {k : Int} (hk : 0 ≤ k ∧ k < 16) : word8.cps[ixK k]? = some (fcode k) := by
  have h := (Bool.and_eq_true_iff.mp (Bool.and_eq_true_iff.mp (Bool.and_eq_true_iff.mp (good_all k hk)).2).2).1
  simpa using h
theorem good_h {k : Int} (hk : 0 ≤ k ∧ k < 16) : feq (hK k) (hK k) = true := (Bool.and_eq_true_iff.mp (Bool.and_eq_true_iff.mp (Bool.and_eq_true_iff.mp (Bool.and_eq_true_iff.mp (good_all k hk)).2).2).2).1
theorem good_g {k : Int} (hk : 0 ≤ k ∧ k < 16) : feq (gK k) (gK k) = true := (Bool.and_eq_true_iff.mp (Bool.and_eq_true_iff.mp (Bool.and_eq_true_iff.mp (Bool.and_eq_true_iff.mp (good_all k hk)).2).2).2).2
end Mine
end
section
open PySem PySem.W PyProof.Rows PySem.Calls PySem.Spec PySem.SeqAt
namespace Mine
section
variable {prog : Program} {w : World} {A : Around} {E : Value → Shared → Prop} {s : Shared}
theorem strItem {value slice : PySem.Expr} {S : Str} {t u : Tok} {i : Int} {c : Nat} {Q : Value → Shared → Prop} (h0 : 0 ≤ i) (hhi : i < 2 ^ 62) (hc : S.cps[i.toNat]? = some c) (h : Q (.str ⟨#[c]⟩ s.toks) { s with toks := s.toks + 1 })
    (hs : subscripted slice false (.str S t) (.int i u) = operate [.str S t, .int i u] (getItem (.str S t) (.int i u)) := by with_unfolding_all rfl) :
    wpAny (model prog w) A (subscriptTail value slice (.str S t) (.int i u)) Q E s := by
  refine tail_any (typeIs_str s S t) F.slot_str_getitem.lookup (P.getItem_str ?_ ?_ h) hs
  · have a : ¬ i < -(2 ^ 63 : Int) := by omega
    have b : ¬ i ≥ 2 ^ 63 := by omega
    rw [decide_eq_false a, decide_eq_false b]; rfl
  · have hlt : i.toNat < S.length := (Array.getElem?_eq_some_iff.mp hc).1
    have e : seqIndex? i S.length = some i.toNat := by
      unfold seqIndex?
      simp only [if_neg (show ¬ i < 0 by omega)]
      first | rw [if_pos (by omega)] | simp; omega
    rw [e]; exact hc

/-- The place of a light among the places, itself behind them. -/
theorem idx8 {l U : Addr} {ps : List Addr} {n : Nat} {x : Int} {hk : 0 ≤ x ∧ x < 16} {Q : Value → Shared → Prop} {b1 b2 b3 : Tok} (hb : NoneBooked s.heap)
    (hl : s.heap.get? l = some (W.listOf ((ps.map Value.ref) ++ [Value.ref U]).toArray n)) (hlen : ps.length = 7)
    (hU : s.heap.get? U = some (tup3 (.float (hK x) b1) (.float (gK x) b2) (.int (vK x) b3)))
    (hp : ∀ (j : Nat) (p : Addr), ps[j]? = some p → ∃ t1 t2 t3, s.heap.get? p = some (pObj j t1 t2 t3) ∧ t1 ≠ 0 ∧ t2 ≠ 0 ∧ t1 < b1 ∧ t2 < b2) (hu : A.in1.units < cLine)
    (h : Q (.int ((ixK x : Nat) : Int) s.toks) { s with toks := s.toks + 1 }) : wpAny (model prog w) A (call (.builtin "list.index") [.ref l, .ref U]) Q E s := by
  have hsz : (((ps.map Value.ref) ++ [Value.ref U]).toArray).size = 8 := by simp [hlen]
  have hix := good_ix hk
  have eU : obAt s.heap (hK x) (gK x) (vK x) (.ref U) = true := by
    show (match s.heap.get? U with | some o => ob (hK x) (gK x) (vK x) o | none => false) = true
    rw [hU]
    show same3 (hK x) (gK x) (vK x) (hK x) (gK x) (vK x) = true
    unfold same3
    rw [good_h hk, good_g hk]; simp
  have ep : ∀ (j : Nat) (p : Addr), ps[j]? = some p → obAt s.heap (hK x) (gK x) (vK x) (.ref p) = (j == ixK x) := fun j p hj => by
    obtain ⟨t1, t2, t3, e, _⟩ := hp j p hj
    have hlt : j < 7 := hlen ▸ (List.getElem?_eq_some_iff.mp hj).1
    show (match s.heap.get? p with | some o => ob (hK x) (gK x) (vK x) o | none => false) = _
    rw [e]
    show same3 (pH j) (pG j) (pV j) (hK x) (gK x) (vK x) = _
    exact good_same hk hlt
  have item : ∀ m (hm : m < (((ps.map Value.ref) ++ [Value.ref U]).toArray).size), (∃ p, ps[m]? = some p ∧ (((ps.map Value.ref) ++ [Value.ref U]).toArray)[m] = .ref p) ∨ (m = 7 ∧ (((ps.map Value.ref) ++ [Value.ref U]).toArray)[m] = .ref U) := fun m hm => by
    rw [hsz] at hm
    by_cases h7 : m < 7
    · left
      refine ⟨ps[m]'(by omega), by simp, ?_⟩
      simp [List.getElem_append, hlen, h7]
    · right
      obtain rfl : m = 7 := by omega
      exact ⟨rfl, by simp [List.getElem_append, hlen]⟩
  refine call_meets F.slot_list_index ⟨_, hl, rfl⟩ F.entry_list_index (F.args_list_index_2 _ _)
    (list_indexAt l _ n none #[] (.ref U) (obAt s.heap (hK x) (gK x) (vK x)) (ixK x) (by rw [hsz]; exact hix) (by omega) ?_ ?_) ⟨hl, ?_, h⟩
  · rcases item (ixK x) (by rw [hsz]; exact hix) with ⟨p, hj, e⟩ | ⟨_, e⟩
    · rw [e, ep _ p hj]; simp
    · rw [e]; exact eU
  · intro m hm hlt
    rcases item m hm with ⟨p, hj, e⟩ | ⟨h7, _⟩
    · rw [e, ep _ p hj]
      have : m ≠ ixK x := by omega
      simpa using this
    · omega
  · intro y hy
    rcases List.mem_append.mp (by simpa using hy : y ∈ ps.map Value.ref ++ [Value.ref U]) with h' | h'
    · obtain ⟨p, hpm, rfl⟩ := List.mem_map.mp h'
      obtain ⟨j, hj⟩ := List.mem_iff_getElem?.mp hpm
      obtain ⟨t1, t2, t3, e, n1, n2, l1, l2⟩ := hp j p hj
      by_cases hpU : p = U
      · subst hpU
        rw [eU]; exact EqAt.same _
      · have hlt : j < 7 := hlen ▸ (List.getElem?_eq_some_iff.mp hj).1
        refine EqAt.of_refs hpU ?_
        have q := eqAt_tup (A := A.in1) hb ⟨_, e, rfl, _, rfl⟩ ⟨_, hU, rfl, _, rfl⟩ n1 n2 (Nat.ne_of_gt (Nat.lt_of_le_of_lt (Nat.zero_le _) l1)) (Nat.ne_of_gt (Nat.lt_of_le_of_lt (Nat.zero_le _) l2)) (Nat.ne_of_lt l1) (Nat.ne_of_lt l2) (fun hh => by rw [hh]; exact good_h hk) (fun hh => by rw [hh]; exact good_g hk) hu
        rw [ep j p hj, ← good_same hk hlt]
        exact q
    · rw [List.mem_singleton.mp h', eU]; exact EqAt.same _
end
local macro_rules | `(tactic| walk_at "call ref") => `(tactic| (k_here; (with_reducible show wpAny _ _ (call (Value.ref 110) [Value.int _ _]) _ _ _); k_dflt (refine' Spc.use (fmode _ _) ?k1 ?k2 ?k3 ?k4 ?k5 ?kK ?kd ?ku ?_; (case k1 => k_asm); (case k2 => k_asm); (case k3 => k_asm); (case k4 => k_asm); (case k5 => k_asm); (case kK => first | exact rfl | assumption); (case kd => ktr_room); (case ku => ktr_units); intro r9 tl9 h9 tk9 F9 N9 o9 p9; obtain ⟨e9, S9, t9, e9', hS9⟩ := p9; subst e9 e9'; clear o9; (try simp only [List.nil_append] at N9); (try dsimp only); (try k_fold))))
local macro_rules | `(tactic| walk_at "subscriptTail Call Name cons nil Constant str int") => `(tactic| (k_dflt (refine' strItem ?k1 ?k2 ?k3 ?_ ?k5; (case k1 => decide); (case k2 => decide); (case k3 => assumption); (case k5 => with_unfolding_all rfl))))
local macro_rules | `(tactic| walk_at "subscriptTail") => `(tactic| ((with_reducible show wpAny _ _ (subscriptTail _ _ (Value.str _ _) (Value.int _ _)) _ _ _); (refine Hold.intro ?_)))
local macro_rules | `(tactic| walk_at "call builtin:list.index") => `(tactic| (refine Hold.intro ?_))
section
variable {w : World} {h₀ : Heap} {L fa : Addr} {cd : Value} {s : Shared} {m : Str → Option Value} {x : Int} {u b1 b2 b3 : Tok} {D U p0 p1 p2 p3 p4 p5 p6 : Addr} {q0 q1 q2 q3 q4 q5 q6 cO : Obj} {n0 : Nat} {rest : List (Addr × Obj)} {Q : Flow → Shared → Prop} {E : Value → Shared → Prop}
theorem st4 (G : Gr w h₀) (F : Fr h₀ L s.heap (fun y => if y = Str.ofString "mode" then some (Value.int x u) else if y = Str.ofString "places" then some (Value.ref D) else m y))
    (N : News h₀ L s.heap ((D, W.listOf #[Value.ref p0, .ref p1, .ref p2, .ref p3, .ref p4, .ref p5, .ref p6] n0) :: (U, tup3 (.float (hK (kd x)) b1) (.float (gK (kd x)) b2) (.int (vK (kd x)) b3)) :: (L + 1 + 1 + 1, cO) :: rest)) (hcO : cO.data = .cell (some (.ref U)))
    (hp : ∀ (j : Nat) (p : Addr), [p0, p1, p2, p3, p4, p5, p6][j]? = some p → ∃ t1 t2 t3, (p, pObj j t1 t2 t3) ∈ rest ∧ t1 ≠ 0 ∧ t2 ≠ 0 ∧ t1 < b1 ∧ t2 < b2)
    (hQ : ∀ h' tk, Fr h₀ L h' (fun y => if y = Str.ofString "mode" then some (Value.int x u) else if y = Str.ofString "places" then some (Value.ref D) else m y) → News h₀ L h' ((D, W.listOf #[Value.ref p0, .ref p1, .ref p2, .ref p3, .ref p4, .ref p5, .ref p6] n0) :: (U, tup3 (.float (hK (kd x)) b1) (.float (gK (kd x)) b2) (.int (vK (kd x)) b3)) :: (L + 1 + 1 + 1, cO) :: rest) → Q .next { s with heap := h', toks := tk }) :
    wpAny (model PySem.Challenge.rw_mq0233_01.row.prog w) (callerA.deeper (lenv L fa cd)) (exec (bodyS 3) (lenv L fa cd)) Q E s := by
  obtain ⟨X, ⟨mean, mg, mb, T⟩, ⟨A₀, base, B⟩⟩ := G
  have es : lscope = lscope := rfl
  conv at es => { rhs; whnf }
  have eb : bodyS 3 = bodyS 3 := rfl
  conv at eb => { rhs; whnf }
  unfold lenv
  rw [es, eb]
  clear es eb
  revert X
  k_fill
  intro X
  k_steps
  unfold Hold
  rename News _ _ _ _ => N9
  rename Fr _ _ _ _ => F9
  refine idx8 (ps := [p0, p1, p2, p3, p4, p5, p6]) (hk := kd_lt x) (noneBooked (X.keeps F9.keep)) (N9 _ (.head _)).1 rfl (N9 _ (.tail _ (.tail _ (.tail _ (.head _))))).1 (fun j p hj => ?_) ?_ ?_
  · obtain ⟨t1, t2, t3, hm, r⟩ := hp j p hj
    exact ⟨t1, t2, t3, (N9 _ (.tail _ (.tail _ (.tail _ (.tail _ (.tail _ hm)))))).1, r⟩
  · first | decide | ktr_units
  · dsimp only
    refine strItem (by omega) ?_ (c := fcode (kd x)) ?_ ?_
    · have := good_ix (kd_lt x); omega
    · have q := good_word (kd_lt x)
      simpa [word8] using q
    · k_steps
      all_goals first
        | exact hQ _ _ F9 (cb_drop N9 fun p hp => .tail _ (.tail _ hp))
        | (exfalso; rename ((_ != _) = true) => hne; simp at hne)
end
end Mine
end
section
open PySem PySem.W PyProof.Rows PySem.Calls PySem.Spec PySem.SeqAt
namespace Mine
def sameT (k : Int) (j : Nat) : Bool := same3 (hK k) (gK k) (vK k) (pH j) (pG j) (pV j)
theorem goodT_all (k : Int) (hk : 0 ≤ k ∧ k < 16) : ((List.range 7).all fun j => sameT k j == (j == ixK k)) = true :=
  cases16 (P := fun k => ((List.range 7).all fun j => sameT k j == (j == ixK k)) = true) (by decide +kernel) (by decide +kernel) (by decide +kernel) (by decide +kernel) (by decide +kernel) (by decide +kernel) (by decide +kernel) (by decide +kernel) (by decide +kernel) (by decide +kernel) (by decide +kernel) (by decide +kernel) (by decide +kernel) (by decide +kernel) (by decide +kernel) (by decide +kernel) k hk
theorem goodT {k : Int} (hk : 0 ≤ k ∧ k < 16) {j : Nat} (hj : j < 7) : sameT k j = (j == ixK k) := by
  have := List.all_eq_true.mp (goodT_all k hk) j (List.mem_range.mpr hj)
  simpa using this
theorem ansB (k : Int) (hk : 0 ≤ k ∧ k < 16) : (4096 * k == 8192) = (0 == ixK k) ∧ (4096 * k == 24576) = (1 == ixK k) ∧ (4096 * k == 16384) = (2 == ixK k) ∧ (4096 * k == 49152) = (3 == ixK k) ∧ (4096 * k == 32768) = (4 == ixK k) ∧ (4096 * k == 40960) = (5 == ixK k) ∧ (4096 * k == 4096) = (6 == ixK k) :=
  cases16 (P := fun k => (4096 * k == 8192) = (0 == ixK k) ∧ (4096 * k == 24576) = (1 == ixK k) ∧ (4096 * k == 16384) = (2 == ixK k) ∧ (4096 * k == 49152) = (3 == ixK k) ∧ (4096 * k == 32768) = (4 == ixK k) ∧ (4096 * k == 40960) = (5 == ixK k) ∧ (4096 * k == 4096) = (6 == ixK k)) (by decide +kernel) (by decide +kernel) (by decide +kernel) (by decide +kernel) (by decide +kernel) (by decide +kernel) (by decide +kernel) (by decide +kernel) (by decide +kernel) (by decide +kernel) (by decide +kernel) (by decide +kernel) (by decide +kernel) (by decide +kernel) (by decide +kernel) (by decide +kernel) k hk
section
variable {prog : Program} {w : World} {A : Around} {E : Value → Shared → Prop} {s : Shared} {h₀ : Heap} {L : Addr} {m : Str → Option Value} {news rest : List (Addr × Obj)}
theorem toldEq {p U : Addr} {j : Nat} {x : Int} {b1 b2 b3 : Tok} {Q : Value → Shared → Prop} (X : (hd.heap_39 w.params).In h₀) (F : Fr h₀ L s.heap m) (N : News h₀ L s.heap news) (hU : (U, tup3 (.float (hK (kd x)) b1) (.float (gK (kd x)) b2) (.int (vK (kd x)) b3)) ∈ news)
    (hp : ∃ t1 t2 t3, (p, pObj j t1 t2 t3) ∈ rest ∧ t1 ≠ 0 ∧ t2 ≠ 0 ∧ t1 < b1 ∧ t2 < b2) (hj : j < 7) (hsub : ∀ q ∈ rest, q ∈ news) (hu : A.units < cLine) (h : Q (.bool (j == ixK (kd x))) s) :
    wpAny (model prog w) A (compareOp .Eq (.ref U) (.ref p)) Q E s := by
  obtain ⟨t1, t2, t3, hm, n1, n2, l1, l2⟩ := hp
  have q := eqAt_tup (A := A) (noneBooked (X.keeps F.keep)) ⟨_, (N _ hU).1, rfl, _, rfl⟩ ⟨_, (N _ (hsub _ hm)).1, rfl, _, rfl⟩ (Nat.ne_of_gt (Nat.lt_of_le_of_lt (Nat.zero_le _) l1)) (Nat.ne_of_gt (Nat.lt_of_le_of_lt (Nat.zero_le _) l2)) n1 n2 (Nat.ne_of_gt l1) (Nat.ne_of_gt l2)
    (fun hh => by rw [← hh]; exact good_h (kd_lt x)) (fun hh => by rw [← hh]; exact good_g (kd_lt x)) hu
  have e : same3 (hK (kd x)) (gK (kd x)) (vK (kd x)) (pH j) (pG j) (pV j) = (j == ixK (kd x)) := goodT (kd_lt x) hj
  rw [e] at q
  exact q prog w E Q h
end
local macro_rules | `(tactic| walk_at "call ref") => `(tactic| (k_here; (with_reducible show wpAny _ _ (call (Value.ref 138) [Value.int _ _]) _ _ _); k_dflt (refine' Spc.use (answers _ _) ?k1 ?k2 ?k3 ?k4 ?k5 ?kK ?kd ?ku ?_; (case k1 => k_asm); (case k2 => k_asm); (case k3 => k_asm); (case k4 => k_asm); (case k5 => k_asm); (case kK => first | exact rfl | assumption); (case kd => ktr_room); (case ku => ktr_units); intro r9 tl9 h9 tk9 F9 N9 o9 p9; obtain ⟨D9, e9, e9'⟩ := p9; subst e9 e9'; (have l9 := one_lt o9); clear o9; (k_lt l9); (try simp only [List.cons_append, List.nil_append] at N9); (try dsimp only); (try k_fold))))
local macro_rules | `(tactic| walk_at "eval ListComp") => `(tactic| (k_dflt (refine LCg.ListComp_U (F₀ := by k_asm) (by with_unfolding_all rfl) (by decide) (by rfl) (by decide) (by rfl) ?_)))
local macro_rules | `(tactic| walk_at "CompSrc") => `(tactic| (k_here; k_dflt (refine LCg.CompSrc.ledger (by rfl) (by k_asm) (by k_asm) (by k_mem) (by first | size_fits | exact Nat.le_of_ble_eq_true rfl) ?_; intro g'; lcg_lit)))
local macro_rules | `(tactic| walk_at "CompRest") => `(tactic| (k_dflt (first
  | (refine LCg.CompRest.succ ?_; intro v' I' oI' C' oC' D' m' h' tk' E' hv' hC' hx' F' N' off' ne'; lcg_open hv')
  | refine LCg.CompRest.zero ?_)))
local macro_rules | `(tactic| walk_at "CompEnd") => `(tactic| (k_dflt (refine LCg.CompEnd.intro (by assumption) (by assumption) _ (fun _ h => h) (by assumption) (Or.inr ⟨_, by k_mem, rfl, _, rfl⟩) ?_)))
local macro_rules | `(tactic| walk_at "FinE") => `(tactic| ((unfold LCg.FinE); intro D' h' tk' F' N' o1'; (try dsimp only)))
local macro_rules | `(tactic| walk_at "eval Name") => `(tactic| ((with_reducible show wpAny _ _ (eval (Expr.Name _ _) (compEnvC _ _ _ _)) _ _ _); k_dflt (first
  | (refine' lcf_cell ?N ?c ?m ?d ?_ ?a ?b; (case b => rfl); (case a => rfl); (case N => k_asm); (case c => rfl); (case m => k_mem); (case d => k_asm); k_whole)
  | (refine' LCgL.ld_own ?N ?m ?c ?x ?_ ?a ?b; (case b => rfl); (case a => rfl); (case N => k_asm); (case m => k_mem); (case c => assumption); (case x => assumption); k_whole))))
local macro_rules | `(tactic| walk_at "compareOp Eq ref ref") => `(tactic| (k_dflt (refine' toldEq ?X ?F ?N ?U ?p ?j ?s ?u ?_; (case X => k_asm); (case F => k_asm); (case N => k_asm); (case U => k_mem); (case p => assumption); (case j => decide); (case s => (intro q9 hq9; repeat (first | exact hq9 | refine List.Mem.tail _ ?_))); (case u => first | decide | ktr_units))))
local macro_rules | `(tactic| walk_at "compareOp NotEq ref ref") => `(tactic| (refine Hold.intro ?_))
section
variable {w : World} {h₀ : Heap} {L fa : Addr} {cd : Value} {s : Shared} {m : Str → Option Value} {x : Int} {u b1 b2 b3 : Tok} {D U p0 p1 p2 p3 p4 p5 p6 : Addr} {cO : Obj} {n0 : Nat} {rest : List (Addr × Obj)} {Q : Flow → Shared → Prop} {E : Value → Shared → Prop}
theorem st5 (G : Gr w h₀) (F : Fr h₀ L s.heap (fun y => if y = Str.ofString "mode" then some (Value.int x u) else if y = Str.ofString "places" then some (Value.ref D) else m y))
    (N : News h₀ L s.heap ((D, W.listOf #[Value.ref p0, .ref p1, .ref p2, .ref p3, .ref p4, .ref p5, .ref p6] n0) :: (U, tup3 (.float (hK (kd x)) b1) (.float (gK (kd x)) b2) (.int (vK (kd x)) b3)) :: (L + 1 + 1 + 1, cO) :: rest)) (hcO : cO.data = .cell (some (.ref U)))
    (hp : ∀ (j : Nat) (p : Addr), [p0, p1, p2, p3, p4, p5, p6][j]? = some p → ∃ t1 t2 t3, (p, pObj j t1 t2 t3) ∈ rest ∧ t1 ≠ 0 ∧ t2 ≠ 0 ∧ t1 < b1 ∧ t2 < b2)
    (hQ : ∀ h' tk, Fr h₀ L h' (fun y => if y = Str.ofString "mode" then some (Value.int x u) else if y = Str.ofString "places" then some (Value.ref D) else m y) → News h₀ L h' ((D, W.listOf #[Value.ref p0, .ref p1, .ref p2, .ref p3, .ref p4, .ref p5, .ref p6] n0) :: (U, tup3 (.float (hK (kd x)) b1) (.float (gK (kd x)) b2) (.int (vK (kd x)) b3)) :: (L + 1 + 1 + 1, cO) :: rest) → Q .next { s with heap := h', toks := tk }) :
    wpAny (model PySem.Challenge.rw_mq0233_01.row.prog w) (callerA.deeper (lenv L fa cd)) (exec (bodyS 4) (lenv L fa cd)) Q E s := by
  obtain ⟨X, ⟨mean, mg, mb, T⟩, ⟨A₀, base, B⟩⟩ := G
  have es : lscope = lscope := rfl
  conv at es => { rhs; whnf }
  have eb : bodyS 4 = bodyS 4 := rfl
  conv at eb => { rhs; whnf }
  unfold lenv
  rw [es, eb]
  clear es eb
  have e0 := hp 0 p0 rfl
  have e1 := hp 1 p1 rfl
  have e2 := hp 2 p2 rfl
  have e3 := hp 3 p3 rfl
  have e4 := hp 4 p4 rfl
  have e5 := hp 5 p5 rfl
  have e6 := hp 6 p6 rfl
  revert X
  k_fill
  intro X
  k_steps
  unfold Hold
  rename News _ _ _ _ => N9
  rename Fr _ _ _ _ => F9
  refine RcNeAt.lists (e := fun _ => true) ⟨_, (N9 _ (.tail _ (.head _))).1, rfl, _, rfl⟩ ⟨_, (N9 _ (.head _)).1, rfl, _, rfl⟩ ?_ ?_ ?_ _ _ _ _ ?_
  · rfl
  · first | decide | ktr_units
  · obtain ⟨a0, a1, a2, a3, a4, a5, a6⟩ := ansB (kd x) (kd_lt x)
    intro j h1 h2
    match j, h1, h2 with
    | 0, _, _ => rw [show (true : Bool) = _ from (beq_iff_eq.mpr a0).symm]; exact EqAt.bool_bool _ _
    | 1, _, _ => rw [show (true : Bool) = _ from (beq_iff_eq.mpr a1).symm]; exact EqAt.bool_bool _ _
    | 2, _, _ => rw [show (true : Bool) = _ from (beq_iff_eq.mpr a2).symm]; exact EqAt.bool_bool _ _
    | 3, _, _ => rw [show (true : Bool) = _ from (beq_iff_eq.mpr a3).symm]; exact EqAt.bool_bool _ _
    | 4, _, _ => rw [show (true : Bool) = _ from (beq_iff_eq.mpr a4).symm]; exact EqAt.bool_bool _ _
    | 5, _, _ => rw [show (true : Bool) = _ from (beq_iff_eq.mpr a5).symm]; exact EqAt.bool_bool _ _
    | 6, _, _ => rw [show (true : Bool) = _ from (beq_iff_eq.mpr a6).symm]; exact EqAt.bool_bool _ _
    | n + 7, h1, _ => exact absurd h1 (by show ¬ n + 7 < 7; omega)
  ·

    rw [show (!(List.range _).all (fun _ => true)) = false from by simp]
    (try dsimp only)
    k_steps
    all_goals first
      | exact hQ _ _ F9 (cb_drop N9 fun p hp => .tail _ (.tail _ hp))
      | (exfalso; rename (_ = true) => hne; simp at hne)
end
end Mine
end
section
open PySem PySem.W PyProof.Rows PySem.Calls PySem.Spec PySem.SeqAt
namespace Mine
abbrev hv (k : Int) : NV × NV × NV := hsvF (hK k) (gK k) (vK k)
def nvEq : NV → Int → Bool
  | .i a, n => a == n
  | .f a, n => Float64.cmpInt a n == some Ordering.eq
def good6 (k : Int) : Bool := decide (0 ≤ vK k ∧ vK k ≤ 200) && (Float64.isFinite (Float64.mul (hK k) 4618441417868443648) && decide (0 ≤ i6 (hK k) ∧ i6 (hK k) ≤ 6))
def good7 (k : Int) : Bool := nvEq (hv k).1 (lr k) && (nvEq (hv k).2.1 (lg k) && nvEq (hv k).2.2 (lb k))
theorem good6_all (k : Int) (hk : 0 ≤ k ∧ k < 16) : good6 k = true :=
  cases16 (P := fun k => good6 k = true) (by decide +kernel) (by decide +kernel) (by decide +kernel) (by decide +kernel) (by decide +kernel) (by decide +kernel) (by decide +kernel) (by decide +kernel) (by decide +kernel) (by decide +kernel) (by decide +kernel) (by decide +kernel) (by decide +kernel) (by decide +kernel) (by decide +kernel) (by decide +kernel) k hk
theorem good7_all (k : Int) (hk : 0 ≤ k ∧ k < 16) : good7 k = true :=
  cases16 (P := fun k => good7 k = true) (by decide +kernel) (by decide +kernel) (by decide +kernel) (by decide +kernel) (by decide +kernel) (by decide +kernel) (by decide +kernel) (by decide +kernel) (by decide +kernel) (by decide +kernel) (by decide +kernel) (by decide +kernel) (by decide +kernel) (by decide +kernel) (by decide +kernel) (by decide +kernel) k hk
theorem good6_v {k : Int} (hk : 0 ≤ k ∧ k < 16) : 0 ≤ vK k ∧ vK k ≤ 200 := by
  have h := (Bool.and_eq_true_iff.mp (good6_all k hk)).1
  simpa using h
theorem good6_f {k : Int} (hk : 0 ≤ k ∧ k < 16) : Float64.isFinite (Float64.mul (hK k) 4618441417868443648) = true := (Bool.and_eq_true_iff.mp (Bool.and_eq_true_iff.mp (good6_all k hk)).2).1
theorem good6_i {k : Int} (hk : 0 ≤ k ∧ k < 16) : 0 ≤ i6 (hK k) ∧ i6 (hK k) ≤ 6 := by
  have h := (Bool.and_eq_true_iff.mp (Bool.and_eq_true_iff.mp (good6_all k hk)).2).2
  simpa using h
section
variable {prog : Program} {w : World} {A : Around} {E : Value → Shared → Prop} {s : Shared}
theorem eqAt_fi {a : UInt64} {t u : Tok} {n : Int} : EqAt A s (.float a t) (.int n u) (Float64.cmpInt a n == some Ordering.eq) := fun prog w E Q hq => by
  unfold eqBool
  refine wpAny_holding ?_
  refine wpAny_ite_split (fun hab => ?_) (fun _ => ?_)
  · exact absurd (by have := eq_of_beq hab; injection this) (by decide : ¬ False)
  · dsimp only
    refine wpAny_bind (eq_fi (Q := fun v s' => wpAny (model prog w) A (truthOfDropped v) Q E s') ?_)
    exact wpAny_truthy_bool hq
theorem eqAt_nv {X : NV} {x : Value} {n : Int} {u : Tok} (h : X.Is x) (e : nvEq X n = true) : EqAt A s x (.int n u) true := by
  cases h with
  | i a t => rw [show (true : Bool) = (a == n) from e.symm]; exact EqAt.int_int _ _ _ _
  | f a t => rw [show (true : Bool) = (Float64.cmpInt a n == some Ordering.eq) from e.symm]; exact eqAt_fi
end
local macro_rules | `(tactic| walk_at "call ref") => `(tactic| (k_here; (with_reducible show wpAny _ _ (call (Value.ref 124) [Value.float _ _, Value.float _ _, Value.int _ _]) _ _ _); k_dflt (refine' Spc.use (hsv _ _ _ _ _ _ ?b1 ?b2 ?b3) ?k1 ?k2 ?k3 ?k4 ?k5 ?kK ?kd ?ku ?_; (case b1 => assumption); (case b2 => assumption); (case b3 => assumption); (case k1 => k_asm); (case k2 => k_asm); (case k3 => k_asm); (case k4 => k_asm); (case k5 => k_asm); (case kK => first | exact rfl | assumption); (case kd => ktr_room); (case ku => ktr_units); intro r9 tl9 h9 tk9 F9 N9 o9 p9; obtain ⟨D9, x9, y9, z9, e9, e9', i91, i92, i93⟩ := p9; subst e9 e9'; (have l9 := one_lt o9); clear o9; (k_lt l9); (try simp only [List.cons_append, List.nil_append] at N9); (try dsimp only); (try k_fold))))
local macro_rules | `(tactic| k_all) => `(tactic| assumption)
local macro_rules | `(tactic| walk_at "subscriptTail Name Constant ref int") => `(tactic| (k_dflt (
  (refine' item_tupleT ?t ?a ?b ?c ?d ?_; (case t => exact News.isTup (by k_asm) (by k_mem)); (case a => decide); (case b => decide); (case c => rfl); (case d => rfl); k_whole))))
section
variable {w : World} {h₀ : Heap} {L fa : Addr} {cd : Value} {s : Shared} {m : Str → Option Value} {x : Int} {u b1 b2 b3 : Tok} {U D9 : Addr} {cO cL : Obj} {n0 : Nat} {rest : List (Addr × Obj)} {Q : Flow → Shared → Prop} {E : Value → Shared → Prop}
theorem st6 (G : Gr w h₀) (F : Fr h₀ L s.heap m)
    (N : News h₀ L s.heap ((U, tup3 (.float (hK (kd x)) b1) (.float (gK (kd x)) b2) (.int (vK (kd x)) b3)) :: (L + 1 + 1 + 1, cO) :: rest)) (hcO : cO.data = .cell (some (.ref U)))
    (hQ : ∀ h' tk v1 v2 v3, Fr h₀ L h' (fun y => if y = Str.ofString "blue" then some v3 else if y = Str.ofString "green" then some v2 else if y = Str.ofString "red" then some v1 else m y) → News h₀ L h' ((U, tup3 (.float (hK (kd x)) b1) (.float (gK (kd x)) b2) (.int (vK (kd x)) b3)) :: (L + 1 + 1 + 1, cO) :: rest) →
      (hv (kd x)).1.Is v1 → (hv (kd x)).2.1.Is v2 → (hv (kd x)).2.2.Is v3 → Q .next { s with heap := h', toks := tk }) :
    wpAny (model PySem.Challenge.rw_mq0233_01.row.prog w) (callerA.deeper (lenv L fa cd)) (exec (bodyS 5) (lenv L fa cd)) Q E s := by
  obtain ⟨X, ⟨mean, mg, mb, T⟩, ⟨A₀, base, B⟩⟩ := G
  have es : lscope = lscope := rfl
  conv at es => { rhs; whnf }
  have eb : bodyS 5 = bodyS 5 := rfl
  conv at eb => { rhs; whnf }
  unfold lenv
  rw [es, eb]
  clear es eb
  have a1 := good6_v (kd_lt x)
  have a2 := good6_f (kd_lt x)
  have a3 := good6_i (kd_lt x)
  revert X
  k_fill
  intro X
  k_steps
  exact hQ _ _ _ _ _ (by assumption) (cb_drop (by assumption) fun p hp => .tail _ hp) (by assumption) (by assumption) (by assumption)
end
local macro_rules | `(tactic| walk_at "compareOp NotEq ref ref") => `(tactic| (refine Hold.intro ?_))
section
variable {w : World} {h₀ : Heap} {L fa : Addr} {cd : Value} {s : Shared} {m : Str → Option Value} {x : Int} {u u1 u2 u3 : Tok} {D9 : Addr} {cL : Obj} {v1 v2 v3 : Value} {rest : List (Addr × Obj)} {Q : Flow → Shared → Prop} {E : Value → Shared → Prop}
theorem st7 (G : Gr w h₀) (F : Fr h₀ L s.heap (fun y => if y = Str.ofString "blue" then some v3 else if y = Str.ofString "green" then some v2 else if y = Str.ofString "red" then some v1 else m y))
    (N : News h₀ L s.heap ((D9, W.listOf #[Value.int (lr (kd x)) u1, .int (lg (kd x)) u2, .int (lb (kd x)) u3] 0) :: (L + 1 + 1, cL) :: rest)) (hcL : cL.data = .cell (some (.ref D9)))
    (i1 : (hv (kd x)).1.Is v1) (i2 : (hv (kd x)).2.1.Is v2) (i3 : (hv (kd x)).2.2.Is v3)
    (hQ : ∀ h' tk, Fr h₀ L h' (fun y => if y = Str.ofString "blue" then some v3 else if y = Str.ofString "green" then some v2 else if y = Str.ofString "red" then some v1 else m y) → News h₀ L h' ((D9, W.listOf #[Value.int (lr (kd x)) u1, .int (lg (kd x)) u2, .int (lb (kd x)) u3] 0) :: (L + 1 + 1, cL) :: rest) →
      Q .next { s with heap := h', toks := tk }) :
    wpAny (model PySem.Challenge.rw_mq0233_01.row.prog w) (callerA.deeper (lenv L fa cd)) (exec (bodyS 6) (lenv L fa cd)) Q E s := by
  obtain ⟨X, ⟨mean, mg, mb, T⟩, ⟨A₀, base, B⟩⟩ := G
  have es : lscope = lscope := rfl
  conv at es => { rhs; whnf }
  have eb : bodyS 6 = bodyS 6 := rfl
  conv at eb => { rhs; whnf }
  unfold lenv
  rw [es, eb]
  clear es eb
  revert X
  k_fill
  intro X
  k_steps
  unfold Hold
  rename News _ _ _ _ => N9
  rename Fr _ _ _ _ => F9
  have q := good7_all (kd x) (kd_lt x)
  obtain ⟨q1, q'⟩ := Bool.and_eq_true_iff.mp q
  obtain ⟨q2, q3⟩ := Bool.and_eq_true_iff.mp q'
  refine RcNeAt.lists (e := fun _ => true) ⟨_, (N9 _ (.head _)).1, rfl, _, rfl⟩ ⟨_, (N9 _ (.tail _ (.head _))).1, rfl, _, rfl⟩ ?_ ?_ ?_ _ _ _ _ ?_
  · rfl
  · first | decide | ktr_units
  · intro j h1 h2
    match j, h1, h2 with
    | 0, _, _ => exact eqAt_nv i1 q1
    | 1, _, _ => exact eqAt_nv i2 q2
    | 2, _, _ => exact eqAt_nv i3 q3
    | n + 3, h1, _ => exact absurd h1 (by show ¬ n + 3 < 3; omega)
  · rw [show (!(List.range _).all (fun _ => true)) = false from by simp]
    (try dsimp only)
    k_steps
    all_goals first
      | exact hQ _ _ F9 (cb_drop N9 fun p hp => .tail _ hp)
      | (exfalso; rename (_ = true) => hne; simp at hne)
end
end Mine
end
section
open PySem PySem.W PyProof.Rows PySem.Calls PySem.Spec PySem.SeqAt
namespace Mine
theorem hv_kinds (h s : UInt64) (v : Int) : (∃ a b c, hsvF h s v = (.i a, .i b, .i c)) ∨ (∃ a b c, hsvF h s v = (.i a, .f b, .f c)) ∨ (∃ a b c, hsvF h s v = (.f a, .i b, .f c)) ∨ (∃ a b c, hsvF h s v = (.f a, .f b, .i c)) := by
  unfold hsvF
  repeat' split
  · exact .inl ⟨_, _, _, rfl⟩
  · exact .inr (.inl ⟨_, _, _, rfl⟩)
  · exact .inr (.inr (.inl ⟨_, _, _, rfl⟩))
  · exact .inr (.inr (.inl ⟨_, _, _, rfl⟩))
  · exact .inr (.inr (.inr ⟨_, _, _, rfl⟩))
  · exact .inr (.inr (.inr ⟨_, _, _, rfl⟩))
  · exact .inr (.inl ⟨_, _, _, rfl⟩)
def num8 : NV × NV × NV → Int → Bool
  | (.i a, .i b, .i c), k => 4096 * k == 4096 * (a + b.fdiv 2 * 4 + c.fdiv 2 * 8)
  | (.i a, .f b, .f c), k => decide (a.natAbs < 1000) && Float64.cmpInt (Float64.mul (Float64.ofInt 4096) (Float64.add (Float64.add (Float64.ofInt a) (Float64.mul (Float64.divmod b (Float64.ofInt 2)).1 (Float64.ofInt 4))) (Float64.mul (Float64.divmod c (Float64.ofInt 2)).1 (Float64.ofInt 8)))) (4096 * k) == some Ordering.eq
  | (.f a, .i b, .f c), k => decide ((b.fdiv 2 * 4).natAbs < 1000) && Float64.cmpInt (Float64.mul (Float64.ofInt 4096) (Float64.add (Float64.add a (Float64.ofInt (b.fdiv 2 * 4))) (Float64.mul (Float64.divmod c (Float64.ofInt 2)).1 (Float64.ofInt 8)))) (4096 * k) == some Ordering.eq
  | (.f a, .f b, .i c), k => decide ((c.fdiv 2 * 8).natAbs < 1000) && Float64.cmpInt (Float64.mul (Float64.ofInt 4096) (Float64.add (Float64.add a (Float64.mul (Float64.divmod b (Float64.ofInt 2)).1 (Float64.ofInt 4))) (Float64.ofInt (c.fdiv 2 * 8)))) (4096 * k) == some Ordering.eq
  | _, _ => false
theorem good8_all (k : Int) (hk : 0 ≤ k ∧ k < 16) : num8 (hv k) k = true :=
  cases16 (P := fun k => num8 (hv k) k = true) (by decide +kernel) (by decide +kernel) (by decide +kernel) (by decide +kernel) (by decide +kernel) (by decide +kernel) (by decide +kernel) (by decide +kernel) (by decide +kernel) (by decide +kernel) (by decide +kernel) (by decide +kernel) (by decide +kernel) (by decide +kernel) (by decide +kernel) (by decide +kernel) k hk
theorem big1000 {n : Nat} (h : n < 1000) (h' : 2 ^ 1024 - 2 ^ 970 ≤ n) : False := absurd h' (Nat.not_le.mpr (Nat.lt_of_lt_of_le h (by decide +kernel)))
theorem bne_no {α} [BEq α] {a b : α} (h : (a == b) = true) (h' : (a != b) = true) : False := by rw [bne, h] at h'; exact absurd h' (by decide)
local macro_rules | `(tactic| walk_at "call ref") => `(tactic| (k_here; (with_reducible show wpAny _ _ (call (Value.ref 21) [Value.int _ _]) _ _ _); k_dflt (refine' Spc.use (ifmt _ _) ?k1 ?k2 ?k3 ?k4 ?k5 ?kK ?kd ?ku ?_; (case k1 => k_asm); (case k2 => k_asm); (case k3 => k_asm); (case k4 => k_asm); (case k5 => k_asm); (case kK => first | exact rfl | assumption); (case kd => ktr_room); (case ku => ktr_units); intro r9 tl9 h9 tk9 F9 N9 o9 p9; obtain ⟨e9, t9, e9'⟩ := p9; subst e9 e9'; clear o9; (try simp only [List.cons_append, List.nil_append] at N9); (try dsimp only); (try k_fold))))
local macro_rules | `(tactic| k_all) => `(tactic| assumption)
section
variable {w : World} {h₀ : Heap} {L fa : Addr} {cd : Value} {s : Shared} {m : Str → Option Value} {x : Int} {u : Tok} {v1 v2 v3 : Value} {rest : List (Addr × Obj)} {Q : Flow → Shared → Prop} {E : Value → Shared → Prop}
theorem st8 (G : Gr w h₀) (F : Fr h₀ L s.heap (fun y => if y = Str.ofString "blue" then some v3 else if y = Str.ofString "green" then some v2 else if y = Str.ofString "red" then some v1 else if y = Str.ofString "mode" then some (Value.int x u) else m y))
    (N : News h₀ L s.heap rest) (i1 : (hv (kd x)).1.Is v1) (i2 : (hv (kd x)).2.1.Is v2) (i3 : (hv (kd x)).2.2.Is v3)
    (hQ : ∀ h' tk, Fr h₀ L h' (fun y => if y = Str.ofString "blue" then some v3 else if y = Str.ofString "green" then some v2 else if y = Str.ofString "red" then some v1 else if y = Str.ofString "mode" then some (Value.int x u) else m y) → News h₀ L h' rest →
      Q .next { s with heap := h', toks := tk }) :
    wpAny (model PySem.Challenge.rw_mq0233_01.row.prog w) (callerA.deeper (lenv L fa cd)) (exec (bodyS 7) (lenv L fa cd)) Q E s := by
  obtain ⟨X, ⟨mean, mg, mb, T⟩, ⟨A₀, base, B⟩⟩ := G
  have es : lscope = lscope := rfl
  conv at es => { rhs; whnf }
  have eb : bodyS 7 = bodyS 7 := rfl
  conv at eb => { rhs; whnf }
  unfold lenv
  rw [es, eb]
  clear es eb
  revert X
  have g8 := good8_all (kd x) (kd_lt x)
  rcases hv_kinds (hK (kd x)) (gK (kd x)) (vK (kd x)) with ⟨a, b, c, e⟩ | ⟨a, b, c, e⟩ | ⟨a, b, c, e⟩ | ⟨a, b, c, e⟩
  all_goals (rw [show hv (kd x) = _ from e] at i1 i2 i3 g8; cases i1; cases i2; cases i3; k_fill; intro X; k_steps)
  all_goals (first | exact hQ _ _ (by assumption) (by assumption) | skip)
  all_goals exfalso
  · exact absurd (eq_of_beq g8) (by assumption)
  all_goals first
    | exact big1000 (of_decide_eq_true (Bool.and_eq_true_iff.mp g8).1) (by assumption)
    | exact bne_no (Bool.and_eq_true_iff.mp g8).2 (by assumption)
end
end Mine
end
section
open PySem PySem.W PyProof.Rows PySem.Calls PySem.Spec
namespace Mine
local macro_rules | `(tactic| walk_at "call ref") => `(tactic| (k_here; (with_reducible show wpAny _ _ (call (Value.ref 117) [Value.int _ _, Value.int _ _, Value.int _ _]) _ _ _); k_dflt (refine' SpcT.use (rgbT _ _ _ _ _ _ ?b1 ?b2 ?b3) ?k1 ?k2 ?k3 ?k4 ?k5 ?kK ?kd ?ku ?_; (case b1 => assumption); (case b2 => assumption); (case b3 => assumption); (case k1 => k_asm); (case k2 => k_asm); (case k3 => k_asm); (case k4 => k_asm); (case k5 => k_asm); (case kK => first | exact rfl | assumption); (case kd => ktr_room); (case ku => ktr_units); intro r9 tl9 h9 tk9 F9 N9 o9 p9; obtain ⟨D9, u91, u92, u93, e9, e9', z91, z92⟩ := p9; subst e9 e9'; (have l9 := one_lt o9); clear o9; (k_lt l9); (try simp only [List.cons_append, List.nil_append] at N9); (try dsimp only at z91 z92); (try dsimp only); (try k_fold))))
local macro_rules | `(tactic| k_all) => `(tactic| assumption)
local macro_rules | `(tactic| walk_at "subscriptTail Name Constant ref int") => `(tactic| (k_dflt (first
  | (refine' item_led ?N ?m ?k2 ?k3 ?k4 ?_ ?k6; (case N => k_asm); (case m => k_mem); (case k2 => decide); (case k3 => decide); (case k4 => rfl); (case k6 => with_unfolding_all rfl); k_whole)
  | (refine' item_tupleT ?t ?a ?b ?c ?d ?_; (case t => exact News.isTup (by k_asm) (by k_mem)); (case a => decide); (case b => decide); (case c => rfl); (case d => rfl); k_whole))))
section
variable {w : World} {h₀ : Heap} {L fa : Addr} {cd : Value} {s : Shared} {m : Str → Option Value} {x a b c : Int} {u t0 t1 t2 u1 u2 u3 : Tok} {n0 : Nat} {T0 D9 : Addr} {cT cL cO cM : Obj} {vT vL vO vM : Option Value} {rest : List (Addr × Obj)} {Q : Flow → Shared → Prop} {E : Value → Shared → Prop}
theorem st3T (G : Gr w h₀) (F : Fr h₀ L s.heap m) (N : News h₀ L s.heap ((D9, W.listOf #[Value.int (lr (kd x)) u1, .int (lg (kd x)) u2, .int (lb (kd x)) u3] 0) :: (L + 1 + 1, cL) :: (L + 1 + 1 + 1, cO) :: rest))
    (hcL : cL.data = .cell (some (.ref D9))) (hcO : cO.data = .cell vO) (hr : ∀ p ∈ rest, p.1 ≠ L + 1 + 1 + 1) (o2 : @Ne Nat D9 (L + 1 + 1 + 1))
    (hb1 : 0 ≤ lr (kd x) ∧ lr (kd x) ≤ 200) (hb2 : 0 ≤ lg (kd x) ∧ lg (kd x) ≤ 200) (hb3 : 0 ≤ lb (kd x) ∧ lb (kd x) ≤ 200)
    (hQ : ∀ h' tk U v1 v2 v3 cO', Fr h₀ L h' m → News h₀ L h' ((U, tup3 (.float (hueF (lr (kd x)) (lg (kd x)) (lb (kd x))) v1) (.float (satF (lr (kd x)) (lg (kd x)) (lb (kd x))) v2) (.int (mx (lr (kd x)) (lg (kd x)) (lb (kd x))) v3)) :: (D9, W.listOf #[Value.int (lr (kd x)) u1, .int (lg (kd x)) u2, .int (lb (kd x)) u3] 0) :: (L + 1 + 1, cL) :: (L + 1 + 1 + 1, cO') :: rest) →
      cO'.data = .cell (some (.ref U)) → (∀ p ∈ (D9, W.listOf #[Value.int (lr (kd x)) u1, .int (lg (kd x)) u2, .int (lb (kd x)) u3] 0) :: (L + 1 + 1, cL) :: (L + 1 + 1 + 1, cO) :: rest, p.1 < U) → @LE.le Nat _ s.toks v1 → @LE.le Nat _ s.toks v2 → Q .next { s with heap := h', toks := tk }) :
    wpAny (model PySem.Challenge.rw_mq0233_01.row.prog w) (callerA.deeper (lenv L fa cd)) (exec (bodyS 2) (lenv L fa cd)) Q E s := by
  obtain ⟨X, ⟨mean, mg, mb, T⟩, ⟨A₀, base, B⟩⟩ := G
  have es : lscope = lscope := rfl
  conv at es => { rhs; whnf }
  have eb : bodyS 2 = bodyS 2 := rfl
  conv at eb => { rhs; whnf }
  unfold lenv
  rw [es, eb]
  clear es eb
  revert X
  k_fill
  intro X
  k_steps
  rename _ ∧ _ ∧ _ ∧ AllLt _ _ => l9
  refine hQ _ _ _ _ _ _ _ (by assumption) (by assumption) (by assumption) (allLt_mem (l := (D9, W.listOf #[Value.int (lr (kd x)) u1, .int (lg (kd x)) u2, .int (lb (kd x)) u3] 0) :: (L + 1 + 1, cL) :: (L + 1 + 1 + 1, cO) :: rest) l9) ?_ ?_
  · omega
  · omega
end
end Mine
end
section
open PySem PySem.W PyProof.Rows PySem.Calls PySem.Spec
namespace Mine
theorem loopBody_eq : loopBody = [bodyS 0, bodyS 1, bodyS 2, bodyS 3, bodyS 4, bodyS 5, bodyS 6, bodyS 7] := by rfl
abbrev LO (x : Int) (u1 u2 u3 : Tok) : Obj := W.listOf #[Value.int (lr (kd x)) u1, .int (lg (kd x)) u2, .int (lb (kd x)) u3] 0
abbrev TO (a b c : Int) (t0 t1 t2 : Tok) (n : Nat) : Obj := W.listOf #[Value.int a t0, .int b t1, .int c t2] n
def NotCell (o : Obj) : Prop := ∀ v, o.data ≠ .cell v
theorem listOf_nc {vs : Array Value} {n : Nat} : NotCell (W.listOf vs n) := fun v h => by cases h
theorem tup3_nc {a b c : Value} : NotCell (tup3 a b c) := fun v h => by cases h
theorem ne_of_cell {h₀ h : Heap} {L a b : Addr} {o o' : Obj} {v : Option Value} {news : List (Addr × Obj)} (N : News h₀ L h news) (ha : (a, o) ∈ news) (hb : (b, o') ∈ news) (hc : o'.data = .cell v) (hn : NotCell o) : a ≠ b := fun e => by
  subst e
  have x := (N _ ha).1
  rw [(N _ hb).1] at x
  cases x
  exact hn v hc
theorem lr_b (k : Int) (hk : 0 ≤ k ∧ k < 16) : (0 ≤ lr k ∧ lr k ≤ 3) ∧ (0 ≤ lg k ∧ lg k ≤ 3) ∧ (0 ≤ lb k ∧ lb k ≤ 3) := by unfold lr lg lb; omega
theorem L_ne (L : Nat) : L + 1 ≠ L + 1 + 1 ∧ L + 1 ≠ L + 1 + 1 + 1 ∧ L + 1 + 1 ≠ L + 1 + 1 + 1 := by omega
/-- What stays through the turns: the places, and what the turns never write. -/
structure Stay (L D : Addr) (p0 p1 p2 p3 p4 p5 p6 : Addr) (n0 tk : Nat) (stay : List (Addr × Obj)) : Prop where
  off : ∀ p ∈ stay, p.1 ≠ L + 1 ∧ p.1 ≠ L + 1 + 1 ∧ p.1 ≠ L + 1 + 1 + 1
  list : (D, W.listOf #[Value.ref p0, .ref p1, .ref p2, .ref p3, .ref p4, .ref p5, .ref p6] n0) ∈ stay
  places : ∀ (j : Nat) (p : Addr), [p0, p1, p2, p3, p4, p5, p6][j]? = some p → ∃ t1 t2 t3, (p, pObj j t1 t2 t3) ∈ stay ∧ t1 ≠ 0 ∧ t2 ≠ 0 ∧ t1 < tk ∧ t2 < tk
theorem put_eq {m : Str → Option Value} {n : Str} {v : Value} (h : m n = some v) : m = fun y => if y = n then some v else m y := by
  funext y
  split
  · rename_i e; rw [e]; exact h
  · rfl
section
variable {w : World} {h₀ : Heap} {L fa : Addr} {cd : Value} {s : Shared} {m : Str → Option Value} {x a b c : Int} {u t0 t1 t2 : Tok} {n0 n1 : Nat} {T0 D p0 p1 p2 p3 p4 p5 p6 : Addr} {cT cL cO : Obj} {vL vO : Option Value} {stay : List (Addr × Obj)} {Q : Flow → Shared → Prop} {E : Value → Shared → Prop}
theorem turn (G : Gr w h₀) (F : Fr h₀ L s.heap (fun y => if y = Str.ofString "mode" then some (Value.int x u) else m y)) (hm : m (Str.ofString "places") = some (.ref D))
    (N : News h₀ L s.heap ((T0, TO a b c t0 t1 t2 n1) :: (L + 1, cT) :: (L + 1 + 1, cL) :: (L + 1 + 1 + 1, cO) :: stay))
    (hT : cT.data = .cell (some (.ref T0))) (hL : cL.data = .cell vL) (hO : cO.data = .cell vO) (S : Stay L D p0 p1 p2 p3 p4 p5 p6 n0 s.toks stay)
    (hQ : ∀ h' tk m' T1 v1 v2 v3 cT' cL' cO' vL' vO', Fr h₀ L h' m' → m' (Str.ofString "places") = some (.ref D) →
      News h₀ L h' ((T1, TO (a + lr (kd x)) (b + lg (kd x)) (c + lb (kd x)) v1 v2 v3 3) :: (L + 1, cT') :: (L + 1 + 1, cL') :: (L + 1 + 1 + 1, cO') :: stay) →
      cT'.data = .cell (some (.ref T1)) → cL'.data = .cell vL' → cO'.data = .cell vO' → Q .next { s with heap := h', toks := tk }) :
    wpAny (model PySem.Challenge.rw_mq0233_01.row.prog w) (callerA.deeper (lenv L fa cd)) (execs loopBody (lenv L fa cd)) Q E s := by
  rw [loopBody_eq]
  have ne12 : L + 1 ≠ L + 1 + 1 := (L_ne L).1
  have ne13 : L + 1 ≠ L + 1 + 1 + 1 := (L_ne L).2.1
  have ne23 : L + 1 + 1 ≠ L + 1 + 1 + 1 := (L_ne L).2.2
  have m0 : (T0, TO a b c t0 t1 t2 n1) ∈ ((T0, TO a b c t0 t1 t2 n1) :: (L + 1, cT) :: (L + 1 + 1, cL) :: (L + 1 + 1 + 1, cO) :: stay) := .head _
  have mT : (L + 1, cT) ∈ ((T0, TO a b c t0 t1 t2 n1) :: (L + 1, cT) :: (L + 1 + 1, cL) :: (L + 1 + 1 + 1, cO) :: stay) := .tail _ (.head _)
  have mL : (L + 1 + 1, cL) ∈ ((T0, TO a b c t0 t1 t2 n1) :: (L + 1, cT) :: (L + 1 + 1, cL) :: (L + 1 + 1 + 1, cO) :: stay) := .tail _ (.tail _ (.head _))
  have mO : (L + 1 + 1 + 1, cO) ∈ ((T0, TO a b c t0 t1 t2 n1) :: (L + 1, cT) :: (L + 1 + 1, cL) :: (L + 1 + 1 + 1, cO) :: stay) := .tail _ (.tail _ (.tail _ (.head _)))
  have T0T := ne_of_cell N m0 mT hT listOf_nc
  have T0L := ne_of_cell N m0 mL hL listOf_nc
  have T0O := ne_of_cell N m0 mO hO listOf_nc
  -- 1: light
  refine wpAny_execs_cons (any_toks s.toks (Nat.le_refl _) (st1 (cL := cL) (vL := vL) (rest := (T0, TO a b c t0 t1 t2 n1) :: (L + 1, cT) :: (L + 1 + 1 + 1, cO) :: stay) G F (cb_drop N ?_) hL ?_ ?_))
  · intro p hp
    simp only [List.mem_cons] at hp ⊢
    rcases hp with h | h | h | h | h <;> simp [h]
  · intro p hp
    simp only [List.mem_cons] at hp
    rcases hp with rfl | rfl | rfl | h
    · exact T0L
    · exact ne12
    · exact Ne.symm ne23
    · exact (S.off p h).2.1
  intro h1 tk1 D9 u1 u2 u3 cL1 F1 N1 hL1 lt1 b1
  dsimp only
  have D9T : D9 ≠ L + 1 := Nat.ne_of_gt (lt1 (L + 1, cT) (by simp))
  have D9O : D9 ≠ L + 1 + 1 + 1 := Nat.ne_of_gt (lt1 (L + 1 + 1 + 1, cO) (by simp))
  -- 2: total
  refine wpAny_execs_cons (any_toks s.toks b1 (st2 (cT := cT) (x := x) (a := a) (b := b) (c := c) (t0 := t0) (t1 := t1) (t2 := t2) (n0 := n1) (u1 := u1) (u2 := u2) (u3 := u3) (cL := cL1) (rest := (L + 1 + 1 + 1, cO) :: stay) G F1 (cb_drop N1 ?_) hL1 hT ?_ T0T D9T ?_))
  · intro p hp
    simp only [List.mem_cons] at hp ⊢
    rcases hp with h | h | h | h | h | h <;> simp [h]
  · intro p hp
    simp only [List.mem_cons] at hp
    rcases hp with rfl | h
    · exact Ne.symm ne13
    · exact (S.off p h).1
  intro h2 tk2 T1 v1 v2 v3 cT2 F2 N2 hT2 b2
  dsimp only
  have T1O := ne_of_cell N2 (a := T1) (b := L + 1 + 1 + 1) (.head _) (by simp : (L + 1 + 1 + 1, cO) ∈ _) hO listOf_nc
  -- 3: told
  obtain ⟨q1, q2, q3⟩ := lr_b (kd x) (kd_lt x)
  refine wpAny_execs_cons (any_toks s.toks b2 (st3T (x := x) (u1 := u1) (u2 := u2) (u3 := u3) (D9 := D9) (cL := cL1) (cO := cO) (vO := vO) (rest := (T1, TO (a + lr (kd x)) (b + lg (kd x)) (c + lb (kd x)) v1 v2 v3 3) :: (L + 1, cT2) :: stay) G F2 (cb_drop N2 ?_) hL1 hO ?_ D9O (by omega) (by omega) (by omega) ?_))
  · intro p hp
    simp only [List.mem_cons] at hp ⊢
    rcases hp with h | h | h | h | h | h <;> simp [h]
  · intro p hp
    simp only [List.mem_cons] at hp
    rcases hp with rfl | rfl | h
    · exact T1O
    · exact ne13
    · exact (S.off p h).2.2
  intro h3 tk3 U w1 w2 w3 cO3 F3 N3 hO3 lt3 z1 z2 b3
  dsimp only
  have z1' : @LE.le Nat _ s.toks w1 := Nat.le_trans b2 z1
  have z2' : @LE.le Nat _ s.toks w2 := Nat.le_trans b2 z2
  have hp : ∀ (j : Nat) (p : Addr), [p0, p1, p2, p3, p4, p5, p6][j]? = some p → ∃ t1 t2 t3, (p, pObj j t1 t2 t3) ∈ (D9, LO x u1 u2 u3) :: (L + 1 + 1, cL1) :: (T1, TO (a + lr (kd x)) (b + lg (kd x)) (c + lb (kd x)) v1 v2 v3 3) :: (L + 1, cT2) :: stay ∧ t1 ≠ 0 ∧ t2 ≠ 0 ∧ t1 < w1 ∧ t2 < w2 := fun j p hj => by
    obtain ⟨a1, a2, a3, am, n1, n2, l1, l2⟩ := S.places j p hj
    exact ⟨a1, a2, a3, .tail _ (.tail _ (.tail _ (.tail _ am))), n1, n2, Nat.lt_of_lt_of_le l1 z1', Nat.lt_of_lt_of_le l2 z2'⟩
  rw [put_eq (m := m) hm] at F3
  -- 4
  refine wpAny_execs_cons (st4 (x := x) (b1 := w1) (b2 := w2) (b3 := w3) (U := U) (p0 := p0) (p1 := p1) (p2 := p2) (p3 := p3) (p4 := p4) (p5 := p5) (p6 := p6) (n0 := n0) (cO := cO3) (rest := (D9, LO x u1 u2 u3) :: (L + 1 + 1, cL1) :: (T1, TO (a + lr (kd x)) (b + lg (kd x)) (c + lb (kd x)) v1 v2 v3 3) :: (L + 1, cT2) :: stay) G F3 (cb_drop N3 ?_) hO3 hp ?_)
  · intro p hp
    simp only [List.mem_cons] at hp ⊢
    rcases hp with h | h | h | h | h | h | h | h
    · subst h; simp [S.list]
    all_goals simp [h]
  intro h4 tk4 F4 N4
  dsimp only
  -- 5
  refine wpAny_execs_cons (st5 (x := x) (b1 := w1) (b2 := w2) (b3 := w3) (U := U) (p0 := p0) (p1 := p1) (p2 := p2) (p3 := p3) (p4 := p4) (p5 := p5) (p6 := p6) (n0 := n0) (cO := cO3) (rest := (D9, LO x u1 u2 u3) :: (L + 1 + 1, cL1) :: (T1, TO (a + lr (kd x)) (b + lg (kd x)) (c + lb (kd x)) v1 v2 v3 3) :: (L + 1, cT2) :: stay) G F4 N4 hO3 hp ?_)
  intro h5 tk5 F5 N5
  dsimp only
  -- 6
  refine wpAny_execs_cons (st6 (x := x) (b1 := w1) (b2 := w2) (b3 := w3) (U := U) (cO := cO3) (rest := (D9, LO x u1 u2 u3) :: (L + 1 + 1, cL1) :: (T1, TO (a + lr (kd x)) (b + lg (kd x)) (c + lb (kd x)) v1 v2 v3 3) :: (L + 1, cT2) :: stay) G F5 (cb_drop N5 fun p hp => .tail _ hp) hO3 ?_)
  intro h6 tk6 y1 y2 y3 F6 N6 i1 i2 i3
  dsimp only
  -- 7
  refine wpAny_execs_cons (st7 (x := x) (cL := cL1) (u1 := u1) (u2 := u2) (u3 := u3) (D9 := D9) (rest := (L + 1 + 1 + 1, cO3) :: (T1, TO (a + lr (kd x)) (b + lg (kd x)) (c + lb (kd x)) v1 v2 v3 3) :: (L + 1, cT2) :: stay) G F6 (cb_drop N6 ?_) hL1 i1 i2 i3 ?_)
  · intro p hp
    simp only [List.mem_cons] at hp ⊢
    rcases hp with h | h | h | h | h | h <;> simp [h]
  intro h7 tk7 F7 N7
  dsimp only
  -- 8
  refine wpAny_execs_cons (st8 (x := x) G F7 N7 i1 i2 i3 ?_)
  intro h8 tk8 F8 N8
  dsimp only
  refine wpAny_execs_nil ?_
  refine hQ h8 tk8 _ T1 v1 v2 v3 cT2 cL1 cO3 _ _ F8 ?_ (cb_drop N8 ?_) hT2 hL1 hO3
  · rfl
  · intro p hp
    simp only [List.mem_cons] at hp ⊢
    rcases hp with h | h | h | h | h <;> simp [h]
end
end Mine
end
section
open PySem PySem.W PyProof.Rows PySem.Calls PySem.Spec
namespace Mine
def nameE : Expr := .Name (Str.ofString "") ⟨0, 0, 0, 0⟩
def forIter : Expr := match lawS 2 with
  | .For _ it _ _ _ => it
  | _ => nameE
def placesE : Expr := match lawS 0 with
  | .Assign _ v _ => v
  | _ => nameE
def leftE : Expr → Expr
  | .BinOp l _ _ _ => l
  | _ => nameE
def rightE : Expr → Expr
  | .BinOp _ _ r _ => r
  | _ => nameE
def compElt : Expr → Expr
  | .ListComp e _ _ _ => e
  | _ => nameE
def compIter : Expr → Expr
  | .ListComp _ [g] _ _ => g.iter
  | _ => nameE
def compScope : Expr → Scope
  | .ListComp _ _ s _ => s
  | _ => lscope
local macro_rules | `(tactic| walk_at "eval Name") => `(tactic| ((with_reducible show wpAny _ _ (eval (Expr.Name _ _) (compEnvC _ _ _ _)) _ _ _); k_dflt (first
  | (refine' lcf_cell ?N ?c ?m ?d ?_ ?a ?b; (case b => rfl); (case a => rfl); (case N => k_asm); (case c => rfl); (case m => k_mem); (case d => k_asm); k_whole)
  | (refine' LCgL.ld_own ?N ?m ?c ?x ?_ ?a ?b; (case b => rfl); (case a => rfl); (case N => k_asm); (case m => k_mem); (case c => assumption); (case x => assumption); k_whole))))
section
variable {w : World} {h₀ : Heap} {L fa : Addr} {cd : Value} {s : Shared} {m : Str → Option Value} {news : List (Addr × Obj)} {Q : Value → Shared → Prop} {E : Value → Shared → Prop}
theorem rng16 (G : Gr w h₀) (F : Fr h₀ L s.heap m) (N : News h₀ L s.heap news)
    (hQ : ∀ h' tk r t u v, s.toks ≤ tk → Fr h₀ L h' m → News h₀ L h' news → IsRange h' r 0 16 1 t u v → Q (.ref r) { s with heap := h', toks := tk }) :
    wpAny (model PySem.Challenge.rw_mq0233_01.row.prog w) (callerA.deeper (lenv L fa cd)) (eval (compIter (leftE forIter)) (lenv L fa cd)) Q E s := by
  obtain ⟨X, ⟨mean, mg, mb, T⟩, ⟨A₀, base, B⟩⟩ := G
  have es : lscope = lscope := rfl
  conv at es => { rhs; whnf }
  have eb : compIter (leftE forIter) = compIter (leftE forIter) := rfl
  conv at eb => { rhs; whnf }
  unfold lenv
  rw [es, eb]
  clear es eb
  revert X
  k_fill
  intro X
  refine any_toks s.toks (Nat.le_refl _) ?_
  k_steps
  exact hQ _ _ _ _ _ _ (by assumption) (by assumption) (by assumption) (by assumption)
theorem rng6 (G : Gr w h₀) (F : Fr h₀ L s.heap m) (N : News h₀ L s.heap news)
    (hQ : ∀ h' tk r t u v, s.toks ≤ tk → Fr h₀ L h' m → News h₀ L h' news → IsRange h' r 0 6 1 t u v → Q (.ref r) { s with heap := h', toks := tk }) :
    wpAny (model PySem.Challenge.rw_mq0233_01.row.prog w) (callerA.deeper (lenv L fa cd)) (eval (compIter (leftE placesE)) (lenv L fa cd)) Q E s := by
  obtain ⟨X, ⟨mean, mg, mb, T⟩, ⟨A₀, base, B⟩⟩ := G
  have es : lscope = lscope := rfl
  conv at es => { rhs; whnf }
  have eb : compIter (leftE placesE) = compIter (leftE placesE) := rfl
  conv at eb => { rhs; whnf }
  unfold lenv
  rw [es, eb]
  clear es eb
  revert X
  k_fill
  intro X
  refine any_toks s.toks (Nat.le_refl _) ?_
  k_steps
  exact hQ _ _ _ _ _ _ (by assumption) (by assumption) (by assumption) (by assumption)
theorem elt6 {I C D : Addr} {oI oC : Obj} {m₂ : Str → Option Value} {ys : List Value} {i : Int} {t : Tok} (G : Gr w h₀) (hi : 0 ≤ i ∧ i < 6) (hC : LCg.NsObj oC m₂) (hk : m₂ (Str.ofString "k") = some (.int i t)) (F : Fr h₀ L s.heap m) (N : News h₀ L s.heap ((I, oI) :: (C, oC) :: (D, LCg.lst ys) :: news))
    (hQ : ∀ h' tk P t1 t2 t3, Fr h₀ L h' m → News h₀ L h' ((P, tup3 (.float (Float64.div (Float64.ofInt i) 4618441417868443648) t1) (.float 4607182418800017408 t2) (.int 2 t3)) :: (I, oI) :: (C, oC) :: (D, LCg.lst ys) :: news) →
      (∀ p ∈ (I, oI) :: (C, oC) :: (D, LCg.lst ys) :: news, p.1 < P) → @Ne Nat t1 0 → @Ne Nat t2 0 → @LT.lt Nat _ t1 tk → @LT.lt Nat _ t2 tk → Q (.ref P) { s with heap := h', toks := tk }) :
    wpAny (model PySem.Challenge.rw_mq0233_01.row.prog w) (callerA.deeper (lenv L fa cd)) (eval (compElt (leftE placesE)) (compEnvC (compScope (leftE placesE)) [] C (lenv L fa cd))) Q E s := by
  obtain ⟨X, ⟨mean, mg, mb, T⟩, ⟨A₀, base, B⟩⟩ := G
  have es : lscope = lscope := rfl
  conv at es => { rhs; whnf }
  have eb : compElt (leftE placesE) = compElt (leftE placesE) := rfl
  conv at eb => { rhs; whnf }
  have ec : compScope (leftE placesE) = compScope (leftE placesE) := rfl
  conv at ec => { rhs; whnf }
  unfold lenv
  rw [es, eb, ec]
  clear es eb ec
  revert X
  k_fill
  intro X
  k_steps
  rename _ ∧ _ ∧ _ ∧ AllLt _ _ => l9
  refine hQ _ _ _ _ _ _ (by assumption) (by assumption) (allLt_mem (l := (I, oI) :: (C, oC) :: (D, LCg.lst ys) :: news) l9) ?_ ?_ ?_ ?_
  all_goals ((try dsimp only); omega)
theorem elt16 {I C D : Addr} {oI oC : Obj} {m₂ : Str → Option Value} {ys : List Value} {i : Int} {t : Tok} (G : Gr w h₀) (hC : LCg.NsObj oC m₂) (hk : m₂ (Str.ofString "k") = some (.int i t)) (F : Fr h₀ L s.heap m) (N : News h₀ L s.heap ((I, oI) :: (C, oC) :: (D, LCg.lst ys) :: news))
    (hQ : ∀ h' tk t1, Fr h₀ L h' m → News h₀ L h' ((I, oI) :: (C, oC) :: (D, LCg.lst ys) :: news) → Q (.int (4369 * i) t1) { s with heap := h', toks := tk }) :
    wpAny (model PySem.Challenge.rw_mq0233_01.row.prog w) (callerA.deeper (lenv L fa cd)) (eval (compElt (leftE forIter)) (compEnvC (compScope (leftE forIter)) [] C (lenv L fa cd))) Q E s := by
  obtain ⟨X, ⟨mean, mg, mb, T⟩, ⟨A₀, base, B⟩⟩ := G
  have es : lscope = lscope := rfl
  conv at es => { rhs; whnf }
  have eb : compElt (leftE forIter) = compElt (leftE forIter) := rfl
  conv at eb => { rhs; whnf }
  have ec : compScope (leftE forIter) = compScope (leftE forIter) := rfl
  conv at ec => { rhs; whnf }
  unfold lenv
  rw [es, eb, ec]
  clear es eb ec
  revert X
  k_fill
  intro X
  k_steps
  exact hQ _ _ _ (by assumption) (by assumption)

/-- The six places of the directory that a range makes: items and addresses. -/
def PlT (news : List (Addr × Obj)) (b i : Nat) (ys : List Value) (nw : List (Addr × Obj)) : Prop :=
  ∃ (ps : List Addr) (pl : List (Addr × Obj)), ys = ps.map Value.ref ∧ ps.length = i ∧ nw = pl ++ news ∧ ∀ (j : Nat) (p : Addr), ps[j]? = some p → ∃ t1 t2 t3, (p, pObj j t1 t2 t3) ∈ pl ∧ @Ne Nat t1 0 ∧ @Ne Nat t2 0 ∧ @LT.lt Nat _ t1 b ∧ @LT.lt Nat _ t2 b
theorem PlT.more {news nw : List (Addr × Obj)} {b b' i : Nat} {ys : List Value} {P : Addr} {t1 t2 t3 : Tok} (h : PlT news b i ys nw) (hi : i < 6) (hb : b ≤ b') (n1 : @Ne Nat t1 0) (n2 : @Ne Nat t2 0) (l1 : @LT.lt Nat _ t1 b') (l2 : @LT.lt Nat _ t2 b') :
    PlT news b' (i + 1) (ys ++ [.ref P]) ((P, tup3 (.float (Float64.div (Float64.ofInt (0 + (i : Int))) 4618441417868443648) t1) (.float 4607182418800017408 t2) (.int 2 t3)) :: nw) := by
  obtain ⟨ps, pl, rfl, hl, rfl, hp⟩ := h
  refine ⟨ps ++ [P], (P, tup3 (.float (Float64.div (Float64.ofInt (0 + (i : Int))) 4618441417868443648) t1) (.float 4607182418800017408 t2) (.int 2 t3)) :: pl, by simp, by simp [hl], rfl, fun j p hj => ?_⟩
  by_cases hji : j < ps.length
  · rw [List.getElem?_append_left hji] at hj
    obtain ⟨a1, a2, a3, am, m1, m2, k1, k2⟩ := hp j p hj
    exact ⟨a1, a2, a3, .tail _ am, m1, m2, Nat.lt_of_lt_of_le k1 hb, Nat.lt_of_lt_of_le k2 hb⟩
  · have hje : j = i := by
      have := (List.getElem?_eq_some_iff.mp hj).1
      simp at this
      omega
    subst hje
    rw [← hl] at hj
    have : p = P := by simpa using hj.symm
    subst this
    refine ⟨t1, t2, t3, ?_, n1, n2, l1, l2⟩
    unfold pObj pH pG pV
    rw [if_pos hi, if_pos hi, if_pos hi]
    exact .head _
theorem off3_cons {I C D P : Addr} {o oI oC oD : Obj} {nw : List (Addr × Obj)} (h : LCg.Off3 I C D nw) (hl : ∀ p ∈ (I, oI) :: (C, oC) :: (D, oD) :: nw, p.1 < P) : LCg.Off3 I C D ((P, o) :: nw) :=
  ⟨⟨Nat.ne_of_gt (hl (I, oI) (by simp)), Nat.ne_of_gt (hl (C, oC) (by simp)), Nat.ne_of_gt (hl (D, oD) (by simp))⟩, h⟩
theorem mem_rot {α : Type} {P I C D : α} {nw : List α} : ∀ p ∈ I :: C :: D :: P :: nw, p ∈ P :: I :: C :: D :: nw := by
  intro p hp
  simp only [List.mem_cons] at hp ⊢
  rcases hp with h | h | h | h | h <;> simp [h]
theorem hh0 {L fa : Addr} {cd : Value} : (callerA.deeper (lenv L fa cd)).handled = none := by rfl
theorem comp6 (G : Gr w h₀) (F : Fr h₀ L s.heap m) (N : News h₀ L s.heap news)
    (hQ : ∀ h' tk D p0 p1 p2 p3 p4 p5 pl, Fr h₀ L h' m → News h₀ L h' ((D, LCg.lst [Value.ref p0, .ref p1, .ref p2, .ref p3, .ref p4, .ref p5]) :: (pl ++ news)) →
      (∀ (j : Nat) (p : Addr), [p0, p1, p2, p3, p4, p5][j]? = some p → ∃ t1 t2 t3, (p, pObj j t1 t2 t3) ∈ pl ∧ @Ne Nat t1 0 ∧ @Ne Nat t2 0 ∧ @LT.lt Nat _ t1 tk ∧ @LT.lt Nat _ t2 tk) → Q (.ref D) { s with heap := h', toks := tk }) :
    wpAny (model PySem.Challenge.rw_mq0233_01.row.prog w) (callerA.deeper (lenv L fa cd)) (eval (leftE placesE) (lenv L fa cd)) Q E s := by
  have e : leftE placesE = .ListComp (compElt (leftE placesE)) [⟨.Name (Str.ofString "k") _, compIter (leftE placesE), [], 0⟩] (compScope (leftE placesE)) _ := rfl
  rw [e]
  refine listCompT (h₀ := h₀) (L := L) (m := m) (news := news) (cl := []) (T := fun _ b i ys nw => PlT news b i ys nw) (n := 6) (a := 0) (b := 6) (by rfl) (by decide) (by rfl) (by decide) (by rfl) hh0 (by decide) (by rfl) (by decide) (rng6 G F N ?_)
  intro h' tk r t u v hb F1 N1 hr
  refine ⟨r, t, u, v, rfl, F1, N1, hr, ⟨[], [], rfl, rfl, rfl, fun j p hj => by cases hj⟩, ?_, ?_⟩
  · rintro s₂ ⟨g, rfl⟩ i b v I oI C oC D m₂ h tk ys news' E' hi ⟨t, rfl⟩ hT hb hC hk F N off ne
    refine any_toks tk (Nat.le_refl _) (elt6 (i := 0 + (i : Int)) G (by omega) hC hk F N ?_)
    intro h' tk' P t1 t2 t3 F' N' hlt n1 n2 l1 l2 hb'
    exact ⟨h', tk', (P, _) :: news', rfl, F', cb_drop N' mem_rot, off3_cons off hlt, PlT.more (b' := tk') hT hi (Nat.le_trans hb hb') n1 n2 l1 l2⟩
  · intro D h tk ys nw b F N o hT hb
    obtain ⟨ps, pl, rfl, hl, rfl, hp⟩ := hT
    match ps, hl, hp, N with
    | [p0, p1, p2, p3, p4, p5], _, hp, N =>
      refine hQ h tk D p0 p1 p2 p3 p4 p5 pl F N fun j p hj => ?_
      obtain ⟨a1, a2, a3, am, m1, m2, k1, k2⟩ := hp j p hj
      exact ⟨a1, a2, a3, am, m1, m2, Nat.lt_of_lt_of_le k1 hb, Nat.lt_of_lt_of_le k2 hb⟩
/-- The sixteen modes. -/
def MoT (news : List (Addr × Obj)) (i : Nat) (ys : List Value) (nw : List (Addr × Obj)) : Prop := IntsAre ys ((List.range i).map fun (j : Nat) => 4369 * (0 + (j : Int))) ∧ ys.length = i ∧ nw = news
theorem ints_snoc : ∀ {vs : List Value} {ns : List Int} {c : Int} {t : Tok}, IntsAre vs ns → IntsAre (vs ++ [.int c t]) (ns ++ [c])
  | _, _, _, _, .nil => .cons _ _ .nil
  | _, _, _, _, .cons a b r => .cons a b (ints_snoc r)
theorem comp16 (G : Gr w h₀) (F : Fr h₀ L s.heap m) (N : News h₀ L s.heap news)
    (hQ : ∀ h' tk D ys, Fr h₀ L h' m → News h₀ L h' ((D, LCg.lst ys) :: news) → IntsAre ys ((List.range 16).map fun (j : Nat) => 4369 * (0 + (j : Int))) → ys.length = 16 → @LE.le Nat _ s.toks tk → Q (.ref D) { s with heap := h', toks := tk }) :
    wpAny (model PySem.Challenge.rw_mq0233_01.row.prog w) (callerA.deeper (lenv L fa cd)) (eval (leftE forIter) (lenv L fa cd)) Q E s := by
  have e : leftE forIter = .ListComp (compElt (leftE forIter)) [⟨.Name (Str.ofString "k") _, compIter (leftE forIter), [], 0⟩] (compScope (leftE forIter)) _ := rfl
  rw [e]
  refine any_toks s.toks (Nat.le_refl _) (listCompT (h₀ := h₀) (L := L) (m := m) (news := news) (cl := []) (T := fun _ b i ys nw => MoT news i ys nw) (n := 16) (a := 0) (b := 16) (by rfl) (by decide) (by rfl) (by decide) (by rfl) hh0 (by decide) (by rfl) (by decide) (rng16 G F N ?_))
  intro h' tk r t u v hb F1 N1 hr
  refine ⟨r, t, u, v, rfl, F1, N1, hr, ⟨.nil, rfl, rfl⟩, ?_, ?_⟩
  · rintro s₂ ⟨g, rfl⟩ i b v I oI C oC D m₂ h tk ys news' E' hi ⟨t, rfl⟩ hT hb hC hk F N off ne
    refine elt16 (i := 0 + (i : Int)) G hC hk F N ?_
    intro h' tk' t1 F' N'
    obtain ⟨hi1, hi2, rfl⟩ := hT
    refine ⟨h', tk', _, rfl, F', N', off, ?_, by simp [hi2], rfl⟩
    rw [List.range_succ, List.map_append]
    exact ints_snoc hi1
  · intro D h tk ys nw b F2 N2 o hT hb hb'
    obtain ⟨hi1, hi2, e3⟩ := hT
    rw [e3] at N2
    exact hQ h tk D ys F2 N2 hi1 hi2 hb'
end
end Mine
end
section
open PySem PySem.W PyProof.Rows PySem.Calls PySem.Spec
namespace Mine
local macro_rules | `(tactic| walk_at "eval ListComp") => `(tactic| (refine Hold.intro ?_))
section
variable {w : World} {h₀ : Heap} {L fa : Addr} {cd : Value} {s : Shared} {m : Str → Option Value} {news : List (Addr × Obj)} {Q : Flow → Shared → Prop} {E : Value → Shared → Prop}
theorem a0_end {P D : Addr} {lo po : Obj} {x y : Addr × Obj} {h : Heap} {pl : List (Addr × Obj)} (N : News h₀ L h ((D, lo) :: x :: (P, po) :: y :: (pl ++ news))) : News h₀ L h ((D, lo) :: (((P, po) :: pl) ++ news)) := cb_drop N fun p hp => by
  simp only [List.mem_cons, List.cons_append] at hp ⊢
  rcases hp with h | h | h
  · exact .inl h
  · exact .inr (.inr (.inl h))
  · exact .inr (.inr (.inr (.inr h)))
theorem a0 (G : Gr w h₀) (F : Fr h₀ L s.heap m) (N : News h₀ L s.heap news)
    (hQ : ∀ h' tk D p0 p1 p2 p3 p4 p5 p6 n0 pl, Fr h₀ L h' (fun y => if y = Str.ofString "places" then some (.ref D) else m y) → News h₀ L h' ((D, W.listOf #[Value.ref p0, .ref p1, .ref p2, .ref p3, .ref p4, .ref p5, .ref p6] n0) :: (pl ++ news)) →
      (∀ (j : Nat) (p : Addr), [p0, p1, p2, p3, p4, p5, p6][j]? = some p → ∃ t1 t2 t3, (p, pObj j t1 t2 t3) ∈ pl ∧ @Ne Nat t1 0 ∧ @Ne Nat t2 0 ∧ @LT.lt Nat _ t1 tk ∧ @LT.lt Nat _ t2 tk) → Q .next { s with heap := h', toks := tk }) :
    wpAny (model PySem.Challenge.rw_mq0233_01.row.prog w) (callerA.deeper (lenv L fa cd)) (exec (lawS 0) (lenv L fa cd)) Q E s := by
  obtain ⟨X, ⟨mean, mg, mb, T⟩, ⟨A₀, base, B⟩⟩ := id G
  have es : lscope = lscope := rfl
  conv at es => { rhs; whnf }
  have eb : lawS 0 = lawS 0 := rfl
  conv at eb => { rhs; whnf }
  unfold lenv
  rw [es, eb]
  clear es eb
  revert X
  k_fill
  intro X
  k_steps
  unfold Hold
  refine comp6 G (by assumption) (by assumption) ?_
  intro h' tk D p0 p1 p2 p3 p4 p5 pl F1 N1 hp
  clear F N
  refine any_toks tk (Nat.le_refl _) ?_
  try dsimp only
  k_steps
  dsimp only at *
  rename _ ∧ _ ∧ AllLt _ _ => lX
  clear lX
  rename News _ _ _ _ => N9
  refine hQ _ _ _ p0 p1 p2 p3 p4 p5 _ 0 _ (by assumption) (a0_end N9) ?_
  intro j p hj
  have h0 := hp 0 p0 rfl
  by_cases h6 : j < 6
  · have hj' : [p0, p1, p2, p3, p4, p5][j]? = some p := by
      rw [← hj]
      obtain rfl | rfl | rfl | rfl | rfl | rfl : j = 0 ∨ j = 1 ∨ j = 2 ∨ j = 3 ∨ j = 4 ∨ j = 5 := by omega
      all_goals rfl
    obtain ⟨a1, a2, a3, am, n1, n2, l1, l2⟩ := hp j p hj'
    exact ⟨a1, a2, a3, .tail _ am, n1, n2, Nat.lt_of_lt_of_le l1 (by omega), Nat.lt_of_lt_of_le l2 (by omega)⟩
  · have hlt := (List.getElem?_eq_some_iff.mp hj).1
    obtain rfl : j = 6 := by simp at hlt; omega
    cases hj
    obtain ⟨a1, a2, a3, am, n1, n2, l1, l2⟩ := h0
    refine ⟨tk, tk + 1, tk + 1 + 1, .head _, ?_, ?_, ?_, ?_⟩
    all_goals (dsimp only [Tok] at *; omega)
end
end Mine
end
section
open PySem PySem.W PyProof.Rows PySem.Calls PySem.Spec
namespace Mine
local macro_rules | `(tactic| k_all) => `(tactic| assumption)
section
variable {w : World} {h₀ : Heap} {L fa : Addr} {cd : Value} {s : Shared} {m : Str → Option Value} {news rest : List (Addr × Obj)} {cT : Obj} {vT : Option Value} {Q : Flow → Shared → Prop} {E : Value → Shared → Prop}
theorem a1 (G : Gr w h₀) (F : Fr h₀ L s.heap m) (N : News h₀ L s.heap ((L + 1, cT) :: rest)) (hT : cT.data = .cell vT) (hr : ∀ p ∈ rest, p.1 ≠ L + 1)
    (hQ : ∀ h' tk T0 t0 t1 t2 n cT', Fr h₀ L h' m → News h₀ L h' ((T0, TO 0 0 0 t0 t1 t2 n) :: (L + 1, cT') :: rest) → cT'.data = .cell (some (.ref T0)) → Q .next { s with heap := h', toks := tk }) :
    wpAny (model PySem.Challenge.rw_mq0233_01.row.prog w) (callerA.deeper (lenv L fa cd)) (exec (lawS 1) (lenv L fa cd)) Q E s := by
  obtain ⟨X, ⟨mean, mg, mb, T⟩, ⟨A₀, base, B⟩⟩ := id G
  have es : lscope = lscope := rfl
  conv at es => { rhs; whnf }
  have eb : lawS 1 = lawS 1 := rfl
  conv at eb => { rhs; whnf }
  unfold lenv
  rw [es, eb]
  clear es eb
  revert X
  k_fill
  intro X
  k_steps
  exact hQ _ _ _ _ _ _ _ _ (by assumption) (by assumption) (by assumption)
end
local macro_rules | `(tactic| walk_at "eval ListComp") => `(tactic| (refine Hold.intro ?_))
section
variable {w : World} {h₀ : Heap} {L fa sa : Addr} {cd : Value} {s : Shared} {m : Str → Option Value} {news rest : List (Addr × Obj)} {vs : List Value} {ns : List Int} {Q : Value → Shared → Prop} {E : Value → Shared → Prop}
theorem a2iter (G : Gr w h₀) (F : Fr h₀ L s.heap (fun y => if y = Str.ofString "script" then some (Value.ref sa) else m y)) (N : News h₀ L s.heap news) (hl : h₀.IsList sa vs.toArray) (hi : IntsAre vs ns) (hn : ns.length ≤ 63)
    (hQ : ∀ h' tk D items n, Fr h₀ L h' (fun y => if y = Str.ofString "script" then some (Value.ref sa) else m y) → News h₀ L h' ((D, W.listOf items n) :: news) → IntsAre items.toList (((List.range 16).map fun (j : Nat) => 4369 * (0 + (j : Int))) ++ ns.take 12) → (∀ p ∈ news, p.1 < D) → @LE.le Nat _ s.toks tk → Q (.ref D) { s with heap := h', toks := tk }) :
    wpAny (model PySem.Challenge.rw_mq0233_01.row.prog w) (callerA.deeper (lenv L fa cd)) (eval forIter (lenv L fa cd)) Q E s := by
  obtain ⟨X, ⟨mean, mg, mb, T⟩, ⟨A₀, base, B⟩⟩ := id G
  have es : lscope = lscope := rfl
  conv at es => { rhs; whnf }
  have eb : forIter = forIter := rfl
  conv at eb => { rhs; whnf }
  unfold lenv
  rw [es, eb]
  clear es eb
  revert X
  k_fill
  intro X
  k_steps
  unfold Hold
  refine comp16 G (by assumption) (by assumption) ?_
  intro h' tk D ys F1 N1 hi1 hl1 hb1
  clear F N
  refine any_toks tk (Nat.le_refl _) ?_
  try dsimp only
  k_steps
  dsimp only at *
  rename News _ _ _ _ => N9
  rename Fr _ _ _ _ => F9
  rename _ ∧ _ ∧ AllLt _ _ => l9
  rename IntsAre _ (List.take 12 ns) => i9
  rename (@LE.le Nat _ tk _) => t9
  refine kmk_add_ints F9 N9 ⟨_, (N9 _ (.tail _ (.tail _ (.head _)))).1, rfl, _, rfl⟩ ⟨_, (N9 _ (.head _)).1, rfl, _, rfl⟩ hi1 i9 (fun D us h' F2 N2 l2 i2 => ?_) ?_
  · exact hQ h' _ D _ 0 F2 (cb_drop N2 fun p hp => by
      rcases List.mem_cons.mp hp with h | h
      · rw [h]; exact .head _
      · exact .tail _ (.tail _ (.tail _ (.tail _ h)))) i2 (fun p hp => l2 p (.tail _ (.tail _ (.tail _ hp)))) (Nat.le_trans hb1 t9)
  · rw [List.length_map, List.length_range]
    have : (ns.take 12).length ≤ 12 := by rw [List.length_take]; omega
    exact Nat.le_trans (Nat.add_le_add_left this 16) (by decide)
end
end Mine
end
section
open PySem PySem.W PyProof.Rows PySem.Calls PySem.Spec
namespace Mine
def tt (f : Int → Int) (ns : List Int) : Int := (ns.map fun x => f (kd x)).sum
theorem tt_snoc (f : Int → Int) (ns : List Int) (i : Nat) (x : Int) (h : ns[i]? = some x) : tt f (ns.take (i + 1)) = tt f (ns.take i) + f (kd x) := by
  unfold tt
  rw [List.take_add_one, h]
  simp
theorem ints_at : ∀ {vs : List Value} {ns : List Int} {i : Nat} {v : Value}, IntsAre vs ns → vs[i]? = some v → ∃ x t, v = .int x t ∧ ns[i]? = some x
  | _, _, 0, _, .cons a b r, h => by cases h; exact ⟨_, _, rfl, rfl⟩
  | _, _, i + 1, _, .cons a b r, h => ints_at (i := i) r (by simpa using h)
  | _, _, _, _, .nil, h => by simp at h
theorem lawS2 : lawS 2 = .For (.Name (Str.ofString "mode") ⟨106, 8, 106, 12⟩) forIter loopBody [] ⟨106, 4, 118, 24⟩ := by rfl
def JL (L D : Addr) (ns : List Int) (stay : List (Addr × Obj)) (i : Nat) (m₁ : Str → Option Value) (news₁ : List (Addr × Obj)) : Prop :=
  ∃ (T0 : Addr) (cT cL cO : Obj) (vL vO : Option Value) (t0 t1 t2 : Tok) (n1 : Nat), m₁ (Str.ofString "places") = some (.ref D) ∧
    news₁ = (T0, TO (tt lr (ns.take i)) (tt lg (ns.take i)) (tt lb (ns.take i)) t0 t1 t2 n1) :: (L + 1, cT) :: (L + 1 + 1, cL) :: (L + 1 + 1 + 1, cO) :: stay ∧ cT.data = .cell (some (.ref T0)) ∧ cL.data = .cell vL ∧ cO.data = .cell vO
section
variable {w : World} {h₀ : Heap} {L fa sa : Addr} {cd : Value} {s : Shared} {m : Str → Option Value} {vs : List Value} {ns : List Int} {Q : Flow → Shared → Prop} {E : Value → Shared → Prop} {t0 t1 t2 : Tok} {n0 n1 : Nat} {T0 D p0 p1 p2 p3 p4 p5 p6 : Addr} {cT cL cO : Obj} {vL vO : Option Value} {stay : List (Addr × Obj)}
theorem a2 (G : Gr w h₀) (F : Fr h₀ L s.heap m) (hsc : m (Str.ofString "script") = some (.ref sa)) (hm : m (Str.ofString "places") = some (.ref D))
    (N : News h₀ L s.heap ((T0, TO 0 0 0 t0 t1 t2 n1) :: (L + 1, cT) :: (L + 1 + 1, cL) :: (L + 1 + 1 + 1, cO) :: stay))
    (hT : cT.data = .cell (some (.ref T0))) (hL : cL.data = .cell vL) (hO : cO.data = .cell vO) (S : Stay L D p0 p1 p2 p3 p4 p5 p6 n0 s.toks stay)
    (hl : h₀.IsList sa vs.toArray) (hi : IntsAre vs ns) (hn : ns.length ≤ 63)
    (hQ : ∀ h' tk m' T0 t0 t1 t2 n1 cT, Fr h₀ L h' m' → News h₀ L h' ((T0, TO (tt lr (((List.range 16).map fun (j : Nat) => 4369 * (0 + (j : Int))) ++ ns.take 12)) (tt lg (((List.range 16).map fun (j : Nat) => 4369 * (0 + (j : Int))) ++ ns.take 12)) (tt lb (((List.range 16).map fun (j : Nat) => 4369 * (0 + (j : Int))) ++ ns.take 12)) t0 t1 t2 n1) :: (L + 1, cT) :: stay) →
      cT.data = .cell (some (.ref T0)) → Q .next { s with heap := h', toks := tk }) 
    (hE : PassesOwn (model PySem.Challenge.rw_mq0233_01.row.prog w) (callerA.deeper (lenv L fa cd)) (lenv L fa cd) E) :
    wpAny (model PySem.Challenge.rw_mq0233_01.row.prog w) (callerA.deeper (lenv L fa cd)) (exec (lawS 2) (lenv L fa cd)) Q E s := by
  rw [lawS2]
  rw [put_eq hsc] at F
  refine wpAny_For (a2iter G F N hl hi hn ?_)
  intro h1 tk1 ax items n F1 N1 hI hlt hb
  rw [← put_eq hsc] at F1
  generalize hns : ((List.range 16).map fun (j : Nat) => 4369 * (0 + (j : Int))) ++ ns.take 12 = ms at hI hQ
  have hms : 16 ≤ ms.length := by rw [← hns, List.length_append, List.length_map, List.length_range]; omega
  have hsz : items.size = ms.length := by rw [← hI.length]; simp
  refine iterListT (env := lenv L fa cd) (J := JL L D ms stay) hh0 F1 N1 (fun p hp => Nat.ne_of_lt (hlt p hp)) rfl rfl ?_ ?_ ?_ hE
  · exact ⟨T0, cT, cL, cO, vL, vO, t0, t1, t2, n1, hm, rfl, hT, hL, hO⟩
  · intro i v m₁ news₁ h₁ tk₁ I oI oX hb₁ hv hJ hn hltI hc hnc hX F₂ N₂
    obtain ⟨T0, cT, cL, cO, vL, vO, t0, t1, t2, n1, hm₁, rfl, hT, hL, hO⟩ := hJ
    obtain ⟨n', hXc, hXd⟩ := hX
    obtain ⟨x, u, rfl, hx⟩ := ints_at hI (by rw [Array.getElem?_toList]; exact hv)
    refine wpAny_assign_Name (wpAny_storeName_local (by rfl) F₂.ns (fun h₂ hn₂ hs₂ => ?_) (by rfl))
    have F₃ := F₂.set hn₂ hs₂
    have N₃ := N₂.set hs₂
    have mI : (I, oI) ∈ (I, oI) :: (ax, oX) :: (T0, TO (tt lr (ms.take i)) (tt lg (ms.take i)) (tt lb (ms.take i)) t0 t1 t2 n1) :: (L + 1, cT) :: (L + 1 + 1, cL) :: (L + 1 + 1 + 1, cO) :: stay := .head _
    have mX : (ax, oX) ∈ (I, oI) :: (ax, oX) :: (T0, TO (tt lr (ms.take i)) (tt lg (ms.take i)) (tt lb (ms.take i)) t0 t1 t2 n1) :: (L + 1, cT) :: (L + 1 + 1, cL) :: (L + 1 + 1 + 1, cO) :: stay := .tail _ (.head _)
    have mT : (L + 1, cT) ∈ (I, oI) :: (ax, oX) :: (T0, TO (tt lr (ms.take i)) (tt lg (ms.take i)) (tt lb (ms.take i)) t0 t1 t2 n1) :: (L + 1, cT) :: (L + 1 + 1, cL) :: (L + 1 + 1 + 1, cO) :: stay := by simp
    have mL : (L + 1 + 1, cL) ∈ (I, oI) :: (ax, oX) :: (T0, TO (tt lr (ms.take i)) (tt lg (ms.take i)) (tt lb (ms.take i)) t0 t1 t2 n1) :: (L + 1, cT) :: (L + 1 + 1, cL) :: (L + 1 + 1 + 1, cO) :: stay := by simp
    have mO : (L + 1 + 1 + 1, cO) ∈ (I, oI) :: (ax, oX) :: (T0, TO (tt lr (ms.take i)) (tt lg (ms.take i)) (tt lb (ms.take i)) t0 t1 t2 n1) :: (L + 1, cT) :: (L + 1 + 1, cL) :: (L + 1 + 1 + 1, cO) :: stay := by simp
    have ncX : NotCell oX := fun v hv => by rw [hXd] at hv; cases hv
    refine turn (x := x) (u := u) (a := tt lr (ms.take i)) (b := tt lg (ms.take i)) (c := tt lb (ms.take i)) (t0 := t0) (t1 := t1) (t2 := t2) (n1 := n1) (stay := (I, oI) :: (ax, oX) :: stay) (n0 := n0) (p0 := p0) (p1 := p1) (p2 := p2) (p3 := p3) (p4 := p4) (p5 := p5) (p6 := p6) G F₃ hm₁ (cb_drop N₃ ?_) hT hL hO ⟨?_, ?_, ?_⟩ ?_
    · intro p hp
      simp only [List.mem_cons] at hp ⊢
      rcases hp with h | h | h | h | h | h | h <;> simp [h]
    · intro p hp
      rcases List.mem_cons.mp hp with rfl | hp
      · exact ⟨ne_of_cell N₃ mI mT hT hnc, ne_of_cell N₃ mI mL hL hnc, ne_of_cell N₃ mI mO hO hnc⟩
      · rcases List.mem_cons.mp hp with rfl | hp
        · exact ⟨ne_of_cell N₃ mX mT hT ncX, ne_of_cell N₃ mX mL hL ncX, ne_of_cell N₃ mX mO hO ncX⟩
        · exact S.off p hp
    · exact .tail _ (.tail _ S.list)
    · intro j p hj
      obtain ⟨a1, a2, a3, am, k1, k2, l1, l2⟩ := S.places j p hj
      have hle : @LE.le Nat _ s.toks (tk₁ + 1) := Nat.le_trans hb (Nat.le_trans hb₁ (Nat.le_succ _))
      exact ⟨a1, a2, a3, .tail _ (.tail _ am), k1, k2, Nat.lt_of_lt_of_le l1 hle, Nat.lt_of_lt_of_le l2 hle⟩
    · intro h' tk m' T1 v1 v2 v3 cT' cL' cO' vL' vO' F₄ hm₄ N₄ hT₄ hL₄ hO₄
      have mT1 : (T1, TO (tt lr (ms.take i) + lr (kd x)) (tt lg (ms.take i) + lg (kd x)) (tt lb (ms.take i) + lb (kd x)) v1 v2 v3 3) ∈ (T1, TO (tt lr (ms.take i) + lr (kd x)) (tt lg (ms.take i) + lg (kd x)) (tt lb (ms.take i) + lb (kd x)) v1 v2 v3 3) :: (L + 1, cT') :: (L + 1 + 1, cL') :: (L + 1 + 1 + 1, cO') :: (I, oI) :: (ax, oX) :: stay := .head _
      have mI1 : (I, oI) ∈ (T1, TO (tt lr (ms.take i) + lr (kd x)) (tt lg (ms.take i) + lg (kd x)) (tt lb (ms.take i) + lb (kd x)) v1 v2 v3 3) :: (L + 1, cT') :: (L + 1 + 1, cL') :: (L + 1 + 1 + 1, cO') :: (I, oI) :: (ax, oX) :: stay := by simp
      have mX1 : (ax, oX) ∈ (T1, TO (tt lr (ms.take i) + lr (kd x)) (tt lg (ms.take i) + lg (kd x)) (tt lb (ms.take i) + lb (kd x)) v1 v2 v3 3) :: (L + 1, cT') :: (L + 1 + 1, cL') :: (L + 1 + 1 + 1, cO') :: (I, oI) :: (ax, oX) :: stay := by simp
      have neI : T1 ≠ I := fun e => by
        have x1 := (N₄ _ mT1).1
        have x2 := (N₄ _ mI1).1
        dsimp only at x1 x2
        rw [e, x2] at x1
        have x3 : oI = _ := Option.some.inj x1
        rw [x3] at hc
        exact absurd (show Value.type "list" = Value.type "list_iterator" from hc) (by decide)
      have neX : T1 ≠ ax := fun e => by
        have x1 := (N₄ _ mT1).1
        have x2 := (N₄ _ mX1).1
        dsimp only at x1 x2
        rw [e, x2] at x1
        have x3 : oX = _ := Option.some.inj x1
        rw [x3] at hXd
        injection hXd with q1 q2
        rw [← q1] at hsz
        have : (3 : Nat) = ms.length := hsz
        omega
      refine StepT.next (s₁ := { s with heap := h₁, toks := tk₁ }) F₄ N₄ (news' := (T1, TO (tt lr (ms.take i) + lr (kd x)) (tt lg (ms.take i) + lg (kd x)) (tt lb (ms.take i) + lb (kd x)) v1 v2 v3 3) :: (L + 1, cT') :: (L + 1 + 1, cL') :: (L + 1 + 1 + 1, cO') :: stay) ?_ ?_ ?_
      · intro p hp
        simp only [List.mem_cons, List.cons_append, List.nil_append] at hp ⊢
        rcases hp with h | h | h | h | h | h | h <;> simp [h]
      · intro p hp
        rcases List.mem_cons.mp hp with rfl | hp
        · intro hm
          rcases List.mem_cons.mp hm with e | hm
          · exact neI e
          · exact neX (List.mem_singleton.mp hm)
        · rcases List.mem_cons.mp hp with rfl | hp
          · exact hn (L + 1, cT) (by simp)
          · rcases List.mem_cons.mp hp with rfl | hp
            · exact hn (L + 1 + 1, cL) (by simp)
            · rcases List.mem_cons.mp hp with rfl | hp
              · exact hn (L + 1 + 1 + 1, cO) (by simp)
              · exact hn p (by simp [hp])
      · refine ⟨T1, cT', cL', cO', vL', vO', v1, v2, v3, 3, hm₄, ?_, hT₄, hL₄, hO₄⟩
        rw [tt_snoc lr ms i x hx, tt_snoc lg ms i x hx, tt_snoc lb ms i x hx]
  · intro h' tk m' news' F' N' hJ
    obtain ⟨T0, cT, cL, cO, vL, vO, t0, t1, t2, n1, hm₁, rfl, hT, hL, hO⟩ := hJ
    rw [hsz, List.take_length] at N'
    refine wpAny_execs_nil (hQ h' tk m' T0 t0 t1 t2 n1 cT F' (cb_drop N' ?_) hT)
    intro p hp
    simp only [List.mem_cons] at hp ⊢
    rcases hp with h | h | h <;> simp [h]
end
end Mine
end
section
open PySem PySem.W PyProof.Rows PySem.Calls PySem.Spec
namespace Mine
local macro_rules | `(tactic| walk_at "call ref") => `(tactic| (k_here; (with_reducible show wpAny _ _ (call (Value.ref 117) [Value.int _ _, Value.int _ _, Value.int _ _]) _ _ _); k_dflt (refine' SpcT.use (rgbT _ _ _ _ _ _ ?b1 ?b2 ?b3) ?k1 ?k2 ?k3 ?k4 ?k5 ?kK ?kd ?ku ?_; (case b1 => assumption); (case b2 => assumption); (case b3 => assumption); (case k1 => k_asm); (case k2 => k_asm); (case k3 => k_asm); (case k4 => k_asm); (case k5 => k_asm); (case kK => first | exact rfl | assumption); (case kd => ktr_room); (case ku => ktr_units); intro r9 tl9 h9 tk9 F9 N9 o9 p9; obtain ⟨D9, u91, u92, u93, e9, e9', z91, z92⟩ := p9; subst e9 e9'; (have l9 := one_lt o9); clear o9; (k_lt l9); (try simp only [List.cons_append, List.nil_append] at N9); (try dsimp only at z91 z92); (try dsimp only); (try k_fold))))
local macro_rules | `(tactic| k_all) => `(tactic| assumption)
local macro_rules | `(tactic| walk_at "subscriptTail Name Constant ref int") => `(tactic| (k_dflt (first
  | (refine' item_led ?N ?m ?k2 ?k3 ?k4 ?_ ?k6; (case N => k_asm); (case m => k_mem); (case k2 => decide); (case k3 => decide); (case k4 => rfl); (case k6 => with_unfolding_all rfl); k_whole)
  | (refine' item_tupleT ?t ?a ?b ?c ?d ?_; (case t => exact News.isTup (by k_asm) (by k_mem)); (case a => decide); (case b => decide); (case c => rfl); (case d => rfl); k_whole))))
local macro_rules | `(tactic| walk_at "subscriptTail Call Name cons cons Constant ref int") => `(tactic| (k_dflt (
  (refine' item_tupleT ?t ?a ?b ?c ?d ?_; (case t => exact News.isTup (by k_asm) (by k_mem)); (case a => decide); (case b => decide); (case c => rfl); (case d => rfl); k_whole))))
section
variable {w : World} {h₀ : Heap} {L fa : Addr} {cd : Value} {s : Shared} {m : Str → Option Value} {a b c : Int} {t0 t1 t2 : Tok} {n0 : Nat} {T0 : Addr} {cT cM : Obj} {vM : Option Value} {rest : List (Addr × Obj)} {Q : Flow → Shared → Prop} {E : Value → Shared → Prop}
theorem b3 (G : Gr w h₀) (F : Fr h₀ L s.heap m) (N : News h₀ L s.heap ((T0, TO a b c t0 t1 t2 n0) :: (L + 1, cT) :: rest)) (hcT : cT.data = .cell (some (.ref T0)))
    (hb1 : 0 ≤ a ∧ a ≤ 200) (hb2 : 0 ≤ b ∧ b ≤ 200) (hb3 : 0 ≤ c ∧ c ≤ 200)
    (hQ : ∀ h' tk v1, Fr h₀ L h' (fun y => if y = Str.ofString "hue" then some (.float (hueF a b c) v1) else m y) → News h₀ L h' ((T0, TO a b c t0 t1 t2 n0) :: (L + 1, cT) :: rest) → Q .next { s with heap := h', toks := tk }) :
    wpAny (model PySem.Challenge.rw_mq0233_01.row.prog w) (callerA.deeper (lenv L fa cd)) (exec (lawS 3) (lenv L fa cd)) Q E s := by
  obtain ⟨X, ⟨mean, mg, mb, T⟩, ⟨A₀, base, B⟩⟩ := G
  have es : lscope = lscope := rfl
  conv at es => { rhs; whnf }
  have eb : lawS 3 = lawS 3 := rfl
  conv at eb => { rhs; whnf }
  unfold lenv
  rw [es, eb]
  clear es eb
  revert X
  k_fill
  intro X
  k_steps
  rename News _ _ _ _ => N9
  exact hQ _ _ _ (by assumption) (cb_drop N9 fun p hp => .tail _ hp)
theorem mid_eq {a b c M M' : Int} (h1 : M = a ∨ M = b ∨ M = c) (h2 : a ≤ M ∧ b ≤ M ∧ c ≤ M) (h3 : M' = a ∨ M' = b ∨ M' = c) (h4 : M' ≤ a ∧ M' ≤ b ∧ M' ≤ c) : M + M' = mx a b c + mn a b c := by
  have := mx_ge a b c
  have := mn_le a b c
  omega
theorem b4 (G : Gr w h₀) (F : Fr h₀ L s.heap m) (N : News h₀ L s.heap ((T0, TO a b c t0 t1 t2 n0) :: (L + 1, cT) :: (L + 1 + 1 + 1 + 1, cM) :: rest)) (hcT : cT.data = .cell (some (.ref T0))) (hcM : cM.data = .cell vM) (hr : ∀ p ∈ rest, p.1 ≠ L + 1 + 1 + 1 + 1) (hT : @Ne Nat T0 (L + 1 + 1 + 1 + 1))
    (hQ : ∀ h' tk v1 cM', Fr h₀ L h' m → News h₀ L h' ((T0, TO a b c t0 t1 t2 n0) :: (L + 1, cT) :: (L + 1 + 1 + 1 + 1, cM') :: rest) → cM'.data = .cell (some (.int (mx a b c + mn a b c) v1)) → Q .next { s with heap := h', toks := tk }) :
    wpAny (model PySem.Challenge.rw_mq0233_01.row.prog w) (callerA.deeper (lenv L fa cd)) (exec (lawS 4) (lenv L fa cd)) Q E s := by
  obtain ⟨X, ⟨mean, mg, mb, T⟩, ⟨A₀, base, B⟩⟩ := G
  have es : lscope = lscope := rfl
  conv at es => { rhs; whnf }
  have eb : lawS 4 = lawS 4 := rfl
  conv at eb => { rhs; whnf }
  unfold lenv
  rw [es, eb]
  clear es eb
  revert X
  k_fill
  intro X
  k_steps
  rename _ = Data.cell _ => w5
  exact hQ _ _ _ _ (by assumption) (by assumption) (w5.trans (congrArg (fun z => Data.cell (some (Value.int z _))) (mid_eq (by assumption) (by assumption) (by assumption) (by assumption))))
end
local macro_rules | `(tactic| walk_at "eval ListComp") => `(tactic| (k_dflt (refine LCg.ListComp_U (F₀ := by k_asm) (by with_unfolding_all rfl) (by decide) (by rfl) (by decide) (by rfl) ?_)))
local macro_rules | `(tactic| walk_at "CompSrc") => `(tactic| (k_here; k_dflt (refine LCg.CompSrc.ledger (by rfl) (by k_asm) (by k_asm) (by k_mem) (by first | size_fits | exact Nat.le_of_ble_eq_true rfl) ?_; intro g'; lcg_lit)))
local macro_rules | `(tactic| walk_at "CompRest") => `(tactic| (k_dflt (first
  | (refine LCg.CompRest.succ ?_; intro v' I' oI' C' oC' D' m' h' tk' E' hv' hC' hx' F' N' off' ne'; lcg_open hv')
  | refine LCg.CompRest.zero ?_)))
local macro_rules | `(tactic| walk_at "CompEnd") => `(tactic| (k_dflt (refine LCg.CompEnd.intro (by assumption) (by assumption) _ (fun _ h => h) (by assumption) (Or.inr ⟨_, by k_mem, rfl, _, rfl⟩) ?_)))
local macro_rules | `(tactic| walk_at "FinE") => `(tactic| ((unfold LCg.FinE); intro D' h' tk' F' N' o1'; (try dsimp only)))
local macro_rules | `(tactic| walk_at "eval Name") => `(tactic| ((with_reducible show wpAny _ _ (eval (Expr.Name _ _) (compEnvC _ _ _ _)) _ _ _); k_dflt (first
  | (refine' lcf_cell ?N ?c ?m ?d ?_ ?a ?b; (case b => rfl); (case a => rfl); (case N => k_asm); (case c => rfl); (case m => k_mem); (case d => k_asm); k_whole)
  | (refine' LCgL.ld_own ?N ?m ?c ?x ?_ ?a ?b; (case b => rfl); (case a => rfl); (case N => k_asm); (case m => k_mem); (case c => assumption); (case x => assumption); k_whole))))
section
variable {w : World} {h₀ : Heap} {L fa : Addr} {cd : Value} {s : Shared} {m : Str → Option Value} {a b c M : Int} {t0 t1 t2 tM : Tok} {n0 : Nat} {T0 : Addr} {cT cM : Obj} {vM : Option Value} {rest : List (Addr × Obj)} {Q : Flow → Shared → Prop} {E : Value → Shared → Prop}
theorem b5 (G : Gr w h₀) (F : Fr h₀ L s.heap m) (N : News h₀ L s.heap ((T0, TO a b c t0 t1 t2 n0) :: (L + 1, cT) :: (L + 1 + 1 + 1 + 1, cM) :: rest)) (hcT : cT.data = .cell (some (.ref T0))) (hcM : cM.data = .cell (some (.int M tM)))
    (hR : ∀ h' tk m', Fr h₀ L h' m' → Q (.ret (.bool true)) { s with heap := h', toks := tk })
    (hQ : ∀ h' tk, Fr h₀ L h' m → News h₀ L h' ((T0, TO a b c t0 t1 t2 n0) :: (L + 1, cT) :: (L + 1 + 1 + 1 + 1, cM) :: rest) → M ≠ 2 * a → M ≠ 2 * b → M ≠ 2 * c → Q .next { s with heap := h', toks := tk }) :
    wpAny (model PySem.Challenge.rw_mq0233_01.row.prog w) (callerA.deeper (lenv L fa cd)) (exec (lawS 5) (lenv L fa cd)) Q E s := by
  obtain ⟨X, ⟨mean, mg, mb, T⟩, ⟨A₀, base, B⟩⟩ := G
  have es : lscope = lscope := rfl
  conv at es => { rhs; whnf }
  have eb : lawS 5 = lawS 5 := rfl
  conv at eb => { rhs; whnf }
  unfold lenv
  rw [es, eb]
  clear es eb
  revert X
  k_fill
  intro X
  k_steps
  · exact hR _ _ _ (by assumption)
  · rename News _ _ _ _ => N9
    rename _ = false => e9
    simp at e9
    refine hQ _ _ (by assumption) (cb_drop N9 fun p hp => .tail _ hp) ?_ ?_ ?_
    all_goals omega
end
end Mine
end
section
open PySem PySem.W PyProof.Rows PySem.Calls PySem.Spec
namespace Mine
local macro_rules | `(tactic| k_all) => `(tactic| assumption)
local macro_rules | `(tactic| walk_at "eval ListComp") => `(tactic| (k_dflt (refine LCt.ListComp_T (F₀ := by k_asm) (by with_unfolding_all rfl) (by decide) (by rfl) (by decide) (by rfl) ?_)))
local macro_rules | `(tactic| walk_at "CompSrcT") => `(tactic| (k_here; k_dflt (refine LCt.CompSrcT.range (by rfl) (by k_asm) (by k_asm) (by assumption) (by first | decide | rfl) (by first | rfl | decide) (by first | size_fits | exact Nat.le_of_ble_eq_true rfl) ?_; intro g'; lct_lit)))
local macro_rules | `(tactic| walk_at "CompRestT") => `(tactic| (k_dflt (first
  | (refine LCt.CompRestT.succ ?_; intro v' I' oI' C' oC' D' m' h' tk' E' hv' hC' hx' F' N' off' ne'; obtain ⟨t9', hv9'⟩ := hv'; subst hv9')
  | refine LCt.CompRestT.zero ?_)))
local macro_rules | `(tactic| walk_at "CompEnd") => `(tactic| (k_dflt (refine LCg.CompEnd.intro (by assumption) (by assumption) _ (fun _ h => h) (by assumption) True.intro ?_)))
local macro_rules | `(tactic| walk_at "FinE") => `(tactic| ((unfold LCg.FinE); intro D' h' tk' F' N' o1'; (try dsimp only)))
local macro_rules | `(tactic| walk_at "eval Name") => `(tactic| ((with_reducible show wpAny _ _ (eval (Expr.Name _ _) (compEnvC _ _ _ _)) _ _ _); k_dflt (first
  | (refine' lcf_cell ?N ?c ?m ?d ?_ ?a ?b; (case b => rfl); (case a => rfl); (case N => k_asm); (case c => rfl); (case m => k_mem); (case d => k_asm); k_whole)
  | (refine' LCgL.ld_own ?N ?m ?c ?x ?_ ?a ?b; (case b => rfl); (case a => rfl); (case N => k_asm); (case m => k_mem); (case c => assumption); (case x => assumption); k_whole))))
local macro_rules | `(tactic| walk_at "subscriptTail Name Name ref int") => `(tactic| (k_dflt (refine' item_led ?N ?m ?k2 ?k3 ?k4 ?_ ?k6; (case N => k_asm); (case m => k_mem); (case k2 => decide); (case k3 => decide); (case k4 => rfl); (case k6 => with_unfolding_all rfl); k_whole)))
def kindOf (a b c M : Int) : Int := (if M < 2 * a then 8192 else 0) + (if M < 2 * b then 16384 else 0) + (if M < 2 * c then 32768 else 0)
section
variable {w : World} {h₀ : Heap} {L fa : Addr} {cd : Value} {s : Shared} {m : Str → Option Value} {a b c M : Int} {t0 t1 t2 tM : Tok} {n0 : Nat} {T0 : Addr} {cT cM : Obj} {vM : Option Value} {rest : List (Addr × Obj)} {Q : Flow → Shared → Prop} {E : Value → Shared → Prop}
theorem fr_kind {h : Heap} {x x' : Int} {v : Tok} (F : Fr h₀ L h (fun y => if y = Str.ofString "kind" then some (.int x v) else m y)) (e : x = x') : Fr h₀ L h (fun y => if y = Str.ofString "kind" then some (.int x' v) else m y) := e ▸ F
theorem b6 (G : Gr w h₀) (F : Fr h₀ L s.heap m) (N : News h₀ L s.heap ((T0, TO a b c t0 t1 t2 n0) :: (L + 1, cT) :: (L + 1 + 1 + 1 + 1, cM) :: rest)) (hcT : cT.data = .cell (some (.ref T0))) (hcM : cM.data = .cell (some (.int M tM)))
    (hQ : ∀ h' tk v1, Fr h₀ L h' (fun y => if y = Str.ofString "kind" then some (.int (kindOf a b c M) v1) else m y) → News h₀ L h' rest → Q .next { s with heap := h', toks := tk }) :
    wpAny (model PySem.Challenge.rw_mq0233_01.row.prog w) (callerA.deeper (lenv L fa cd)) (exec (lawS 6) (lenv L fa cd)) Q E s := by
  obtain ⟨X, ⟨mean, mg, mb, T⟩, ⟨A₀, base, B⟩⟩ := G
  have es : lscope = lscope := rfl
  conv at es => { rhs; whnf }
  have eb : lawS 6 = lawS 6 := rfl
  conv at eb => { rhs; whnf }
  unfold lenv
  rw [es, eb]
  clear es eb
  revert X
  k_fill
  intro X
  k_steps
  all_goals (rename Fr _ _ _ _ => F9; rename News _ _ _ _ => N9; refine hQ _ _ _ (fr_kind F9 ?_) (cb_drop N9 fun p hp => .tail _ (.tail _ (.tail _ (.tail _ hp)))))
  all_goals (clear F9 N9 X T B; unfold kindOf; (repeat' split) <;> first | rfl | decide | (exfalso; omega))
end
end Mine
end
section
open PySem PySem.W PyProof.Rows PySem.Calls PySem.Spec
namespace Mine
local macro_rules | `(tactic| walk_at "call ref") => `(tactic| (k_here; (with_reducible show wpAny _ _ (call (Value.ref 110) [Value.int _ _]) _ _ _); k_dflt (refine' Spc.use (fmode _ _) ?k1 ?k2 ?k3 ?k4 ?k5 ?kK ?kd ?ku ?_; (case k1 => k_asm); (case k2 => k_asm); (case k3 => k_asm); (case k4 => k_asm); (case k5 => k_asm); (case kK => first | exact rfl | assumption); (case kd => ktr_room); (case ku => ktr_units); intro r9 tl9 h9 tk9 F9 N9 o9 p9; obtain ⟨e9, S9, t9, e9', hS9⟩ := p9; subst e9 e9'; clear o9; (try simp only [List.nil_append] at N9); (try dsimp only); (try k_fold))))
local macro_rules | `(tactic| walk_at "subscriptTail Call Name cons nil Constant str int") => `(tactic| (k_dflt (refine' strItem ?k1 ?k2 ?k3 ?_ ?k5; (case k1 => decide); (case k2 => decide); (case k3 => assumption); (case k5 => with_unfolding_all rfl))))
local macro_rules | `(tactic| walk_at "subscriptTail") => `(tactic| ((with_reducible show wpAny _ _ (subscriptTail _ _ (Value.str _ _) (Value.int _ _)) _ _ _); (refine Hold.intro ?_)))
section
variable {w : World} {h₀ : Heap} {L fa : Addr} {cd : Value} {s : Shared} {m : Str → Option Value} {K : Int} {u v : Tok} {H : UInt64} {rest : List (Addr × Obj)} {Q : Flow → Shared → Prop} {E : Value → Shared → Prop}
def rix (H : UInt64) : Int := (Flt.toInt Float64.nearestOf (Float64.mul H (Float64.ofInt 6))).fmod 6
def word6 : Str := Str.ofString "cbds-l"
theorem b7 (G : Gr w h₀) (F : Fr h₀ L s.heap (fun y => if y = Str.ofString "kind" then some (.int K v) else if y = Str.ofString "hue" then some (.float H u) else m y)) (N : News h₀ L s.heap rest)
    (hn : Float64.isNaN (Float64.mul H (Float64.ofInt 6)) = false) (hf : Float64.isInf (Float64.mul H (Float64.ofInt 6)) = false) (hc : word6.cps[(rix H).toNat]? = some (fcode (kd K)))
    (hR : ∀ h' tk m', Fr h₀ L h' m' → Q (.ret (.bool true)) { s with heap := h', toks := tk }) :
    wpAny (model PySem.Challenge.rw_mq0233_01.row.prog w) (callerA.deeper (lenv L fa cd)) (exec (lawS 7) (lenv L fa cd)) Q E s := by
  obtain ⟨X, ⟨mean, mg, mb, T⟩, ⟨A₀, base, B⟩⟩ := G
  have es : lscope = lscope := rfl
  conv at es => { rhs; whnf }
  have eb : lawS 7 = lawS 7 := rfl
  conv at eb => { rhs; whnf }
  unfold lenv
  rw [es, eb]
  clear es eb
  revert X
  k_fill
  intro X
  k_steps
  · unfold Hold
    have h6 := fm6 (Flt.toInt Float64.nearestOf (Float64.mul H (Float64.ofInt 6)))
    refine strItem h6.1 (by omega) (c := fcode (kd K)) hc ?_
    k_steps
    rw [show (({ cps := #[fcode (kd K)] } : Str) == { cps := #[fcode (kd K)] }) = true from beq_self_eq_true _]
    exact hR _ _ _ (by assumption)
end
end Mine
end
section
open PySem PySem.W PyProof.Rows PySem.Calls PySem.Spec
namespace Mine
def okc (a b c : Int) : Bool :=
  (mx a b c + mn a b c == 2 * a || mx a b c + mn a b c == 2 * b || mx a b c + mn a b c == 2 * c) ||
  (!Float64.isNaN (Float64.mul (hueF a b c) (Float64.ofInt 6)) && (!Float64.isInf (Float64.mul (hueF a b c) (Float64.ofInt 6)) &&
    word6.cps[(rix (hueF a b c)).toNat]? == some (fcode (kd (kindOf a b c (mx a b c + mn a b c))))))
theorem okA0 : ((List.range 13).all fun z => okc 0 0 (2 * (z : Int))) = true := by decide +kernel
theorem okA1 : ((List.range 13).all fun z => okc 0 2 (2 * (z : Int))) = true := by decide +kernel
theorem okA2 : ((List.range 13).all fun z => okc 0 4 (2 * (z : Int))) = true := by decide +kernel
theorem okA3 : ((List.range 13).all fun z => okc 0 6 (2 * (z : Int))) = true := by decide +kernel
theorem okA4 : ((List.range 13).all fun z => okc 0 8 (2 * (z : Int))) = true := by decide +kernel
theorem okA5 : ((List.range 13).all fun z => okc 0 10 (2 * (z : Int))) = true := by decide +kernel
theorem okA6 : ((List.range 13).all fun z => okc 0 12 (2 * (z : Int))) = true := by decide +kernel
theorem okA7 : ((List.range 13).all fun z => okc 0 14 (2 * (z : Int))) = true := by decide +kernel
theorem okA8 : ((List.range 13).all fun z => okc 0 16 (2 * (z : Int))) = true := by decide +kernel
theorem okA9 : ((List.range 13).all fun z => okc 0 18 (2 * (z : Int))) = true := by decide +kernel
theorem okA10 : ((List.range 13).all fun z => okc 0 20 (2 * (z : Int))) = true := by decide +kernel
theorem okA11 : ((List.range 13).all fun z => okc 0 22 (2 * (z : Int))) = true := by decide +kernel
theorem okA12 : ((List.range 13).all fun z => okc 0 24 (2 * (z : Int))) = true := by decide +kernel
theorem okB0 : ((List.range 13).all fun z => okc 0 0 (2 * (z : Int))) = true := by decide +kernel
theorem okB1 : ((List.range 13).all fun z => okc 2 0 (2 * (z : Int))) = true := by decide +kernel
theorem okB2 : ((List.range 13).all fun z => okc 4 0 (2 * (z : Int))) = true := by decide +kernel
theorem okB3 : ((List.range 13).all fun z => okc 6 0 (2 * (z : Int))) = true := by decide +kernel
theorem okB4 : ((List.range 13).all fun z => okc 8 0 (2 * (z : Int))) = true := by decide +kernel
theorem okB5 : ((List.range 13).all fun z => okc 10 0 (2 * (z : Int))) = true := by decide +kernel
theorem okB6 : ((List.range 13).all fun z => okc 12 0 (2 * (z : Int))) = true := by decide +kernel
theorem okB7 : ((List.range 13).all fun z => okc 14 0 (2 * (z : Int))) = true := by decide +kernel
theorem okB8 : ((List.range 13).all fun z => okc 16 0 (2 * (z : Int))) = true := by decide +kernel
theorem okB9 : ((List.range 13).all fun z => okc 18 0 (2 * (z : Int))) = true := by decide +kernel
theorem okB10 : ((List.range 13).all fun z => okc 20 0 (2 * (z : Int))) = true := by decide +kernel
theorem okB11 : ((List.range 13).all fun z => okc 22 0 (2 * (z : Int))) = true := by decide +kernel
theorem okB12 : ((List.range 13).all fun z => okc 24 0 (2 * (z : Int))) = true := by decide +kernel
theorem okC0 : ((List.range 13).all fun z => okc 0 (2 * (z : Int)) 0) = true := by decide +kernel
theorem okC1 : ((List.range 13).all fun z => okc 2 (2 * (z : Int)) 0) = true := by decide +kernel
theorem okC2 : ((List.range 13).all fun z => okc 4 (2 * (z : Int)) 0) = true := by decide +kernel
theorem okC3 : ((List.range 13).all fun z => okc 6 (2 * (z : Int)) 0) = true := by decide +kernel
theorem okC4 : ((List.range 13).all fun z => okc 8 (2 * (z : Int)) 0) = true := by decide +kernel
theorem okC5 : ((List.range 13).all fun z => okc 10 (2 * (z : Int)) 0) = true := by decide +kernel
theorem okC6 : ((List.range 13).all fun z => okc 12 (2 * (z : Int)) 0) = true := by decide +kernel
theorem okC7 : ((List.range 13).all fun z => okc 14 (2 * (z : Int)) 0) = true := by decide +kernel
theorem okC8 : ((List.range 13).all fun z => okc 16 (2 * (z : Int)) 0) = true := by decide +kernel
theorem okC9 : ((List.range 13).all fun z => okc 18 (2 * (z : Int)) 0) = true := by decide +kernel
theorem okC10 : ((List.range 13).all fun z => okc 20 (2 * (z : Int)) 0) = true := by decide +kernel
theorem okC11 : ((List.range 13).all fun z => okc 22 (2 * (z : Int)) 0) = true := by decide +kernel
theorem okC12 : ((List.range 13).all fun z => okc 24 (2 * (z : Int)) 0) = true := by decide +kernel
end Mine
end
section
open PySem PySem.W PyProof.Rows PySem.Calls PySem.Spec
namespace Mine
theorem cases13 {P : Int → Prop} (h0 : P 0) (h1 : P 1) (h2 : P 2) (h3 : P 3) (h4 : P 4) (h5 : P 5) (h6 : P 6) (h7 : P 7) (h8 : P 8) (h9 : P 9) (h10 : P 10) (h11 : P 11) (h12 : P 12) (k : Int) (hk : 0 ≤ k ∧ k ≤ 12) : P k := by
  obtain rfl | rfl | rfl | rfl | rfl | rfl | rfl | rfl | rfl | rfl | rfl | rfl | rfl : k = 0 ∨ k = 1 ∨ k = 2 ∨ k = 3 ∨ k = 4 ∨ k = 5 ∨ k = 6 ∨ k = 7 ∨ k = 8 ∨ k = 9 ∨ k = 10 ∨ k = 11 ∨ k = 12 := by omega
  all_goals assumption
theorem all13 {f : Int → Bool} (h : ((List.range 13).all fun (z : Nat) => f (2 * (z : Int))) = true) (z : Int) (hz : 0 ≤ z ∧ z ≤ 12) : f (2 * z) = true := by
  obtain ⟨n, rfl⟩ := Int.eq_ofNat_of_zero_le hz.1
  exact List.all_eq_true.mp h n (List.mem_range.mpr (by omega))
theorem okA (y z : Int) (hy : 0 ≤ y ∧ y ≤ 12) (hz : 0 ≤ z ∧ z ≤ 12) : okc 0 (2 * y) (2 * z) = true :=
  cases13 (P := fun y => okc 0 (2 * y) (2 * z) = true) (all13 (f := fun z => okc 0 0 z) okA0 z hz) (all13 (f := fun z => okc 0 2 z) okA1 z hz) (all13 (f := fun z => okc 0 4 z) okA2 z hz) (all13 (f := fun z => okc 0 6 z) okA3 z hz) (all13 (f := fun z => okc 0 8 z) okA4 z hz) (all13 (f := fun z => okc 0 10 z) okA5 z hz) (all13 (f := fun z => okc 0 12 z) okA6 z hz) (all13 (f := fun z => okc 0 14 z) okA7 z hz) (all13 (f := fun z => okc 0 16 z) okA8 z hz) (all13 (f := fun z => okc 0 18 z) okA9 z hz) (all13 (f := fun z => okc 0 20 z) okA10 z hz) (all13 (f := fun z => okc 0 22 z) okA11 z hz) (all13 (f := fun z => okc 0 24 z) okA12 z hz) y hy
theorem okB (y z : Int) (hy : 0 ≤ y ∧ y ≤ 12) (hz : 0 ≤ z ∧ z ≤ 12) : okc (2 * y) 0 (2 * z) = true :=
  cases13 (P := fun y => okc (2 * y) 0 (2 * z) = true) (all13 (f := fun z => okc 0 0 z) okB0 z hz) (all13 (f := fun z => okc 2 0 z) okB1 z hz) (all13 (f := fun z => okc 4 0 z) okB2 z hz) (all13 (f := fun z => okc 6 0 z) okB3 z hz) (all13 (f := fun z => okc 8 0 z) okB4 z hz) (all13 (f := fun z => okc 10 0 z) okB5 z hz) (all13 (f := fun z => okc 12 0 z) okB6 z hz) (all13 (f := fun z => okc 14 0 z) okB7 z hz) (all13 (f := fun z => okc 16 0 z) okB8 z hz) (all13 (f := fun z => okc 18 0 z) okB9 z hz) (all13 (f := fun z => okc 20 0 z) okB10 z hz) (all13 (f := fun z => okc 22 0 z) okB11 z hz) (all13 (f := fun z => okc 24 0 z) okB12 z hz) y hy
theorem okC (y z : Int) (hy : 0 ≤ y ∧ y ≤ 12) (hz : 0 ≤ z ∧ z ≤ 12) : okc (2 * y) (2 * z) 0 = true :=
  cases13 (P := fun y => okc (2 * y) (2 * z) 0 = true) (all13 (f := fun z => okc 0 z 0) okC0 z hz) (all13 (f := fun z => okc 2 z 0) okC1 z hz) (all13 (f := fun z => okc 4 z 0) okC2 z hz) (all13 (f := fun z => okc 6 z 0) okC3 z hz) (all13 (f := fun z => okc 8 z 0) okC4 z hz) (all13 (f := fun z => okc 10 z 0) okC5 z hz) (all13 (f := fun z => okc 12 z 0) okC6 z hz) (all13 (f := fun z => okc 14 z 0) okC7 z hz) (all13 (f := fun z => okc 16 z 0) okC8 z hz) (all13 (f := fun z => okc 18 z 0) okC9 z hz) (all13 (f := fun z => okc 20 z 0) okC10 z hz) (all13 (f := fun z => okc 22 z 0) okC11 z hz) (all13 (f := fun z => okc 24 z 0) okC12 z hz) y hy
theorem mx_shift (a b c d : Int) : mx (a + d) (b + d) (c + d) = mx a b c + d := by
  have := mx_ge a b c
  have := mx_ge (a + d) (b + d) (c + d)
  omega
theorem mn_shift (a b c d : Int) : mn (a + d) (b + d) (c + d) = mn a b c + d := by
  have := mn_le a b c
  have := mn_le (a + d) (b + d) (c + d)
  omega
theorem sub_shift (a b d : Int) : a + d - (b + d) = a - b := by omega
theorem rise_shift (a b c d : Int) : rise (a + d) (b + d) (c + d) = rise a b c := by
  unfold rise
  rw [mx_shift, mn_shift]
  simp only [sub_shift, Int.add_left_inj]
theorem hue_shift (a b c d : Int) : hueF (a + d) (b + d) (c + d) = hueF a b c := by
  unfold hueF
  rw [rise_shift, mx_shift, mn_shift]
  simp only [Int.add_left_inj]
theorem kind_shift (a b c d : Int) : kindOf (a + d) (b + d) (c + d) (mx (a + d) (b + d) (c + d) + mn (a + d) (b + d) (c + d)) = kindOf a b c (mx a b c + mn a b c) := by
  rw [mx_shift, mn_shift]
  unfold kindOf
  have e : ∀ x : Int, (mx a b c + d + (mn a b c + d) < 2 * (x + d)) ↔ (mx a b c + mn a b c < 2 * x) := fun x => by omega
  simp only [e]
/-- What the law's last line asks of the totals. -/
def TailOk (a b c : Int) : Prop := Float64.isNaN (Float64.mul (hueF a b c) (Float64.ofInt 6)) = false ∧ Float64.isInf (Float64.mul (hueF a b c) (Float64.ofInt 6)) = false ∧
  word6.cps[(rix (hueF a b c)).toNat]? = some (fcode (kd (kindOf a b c (mx a b c + mn a b c))))
theorem tail_shift {a b c : Int} (d : Int) (h : TailOk a b c) : TailOk (a + d) (b + d) (c + d) := by
  unfold TailOk at h ⊢
  rw [hue_shift, kind_shift]
  exact h
theorem tail_of {a b c : Int} (h : okc a b c = true) (h1 : mx a b c + mn a b c ≠ 2 * a) (h2 : mx a b c + mn a b c ≠ 2 * b) (h3 : mx a b c + mn a b c ≠ 2 * c) : TailOk a b c := by
  unfold okc at h
  rw [beq_false_of_ne h1, beq_false_of_ne h2, beq_false_of_ne h3] at h
  simp only [Bool.false_or, Bool.and_eq_true, Bool.not_eq_true', beq_iff_eq] at h
  exact h
theorem tail_all {A B C O : Int} (hA : 0 ≤ A ∧ A ≤ 12) (hB : 0 ≤ B ∧ B ≤ 12) (hC : 0 ≤ C ∧ C ≤ 12)
    (h1 : mx (2 * A + O) (2 * B + O) (2 * C + O) + mn (2 * A + O) (2 * B + O) (2 * C + O) ≠ 2 * (2 * A + O)) (h2 : mx (2 * A + O) (2 * B + O) (2 * C + O) + mn (2 * A + O) (2 * B + O) (2 * C + O) ≠ 2 * (2 * B + O))
    (h3 : mx (2 * A + O) (2 * B + O) (2 * C + O) + mn (2 * A + O) (2 * B + O) (2 * C + O) ≠ 2 * (2 * C + O)) : TailOk (2 * A + O) (2 * B + O) (2 * C + O) := by
  obtain ⟨x, y, z, d, hx, hy, hz, h0, rfl, rfl, rfl⟩ : ∃ x y z d : Int, (0 ≤ x ∧ x ≤ 12) ∧ (0 ≤ y ∧ y ≤ 12) ∧ (0 ≤ z ∧ z ≤ 12) ∧ (x = 0 ∨ y = 0 ∨ z = 0) ∧ A = x + d ∧ B = y + d ∧ C = z + d := by
    have h := mn_le A B C
    exact ⟨A - mn A B C, B - mn A B C, C - mn A B C, mn A B C, by omega, by omega, by omega, by omega, by omega, by omega, by omega⟩
  have e : ∀ t : Int, 2 * (t + d) + O = 2 * t + (2 * d + O) := fun t => by omega
  rw [e, e, e] at *
  rw [mx_shift, mn_shift] at *
  refine tail_shift _ (tail_of ?_ (by omega) (by omega) (by omega))
  rcases h0 with rfl | rfl | rfl
  · exact okA y z hy hz
  · exact okB x z hx hz
  · exact okC x y hx hy
theorem tt_app (f : Int → Int) (xs ys : List Int) : tt f (xs ++ ys) = tt f xs + tt f ys := by
  unfold tt
  rw [List.map_append, List.sum_append]
theorem tt_lin (f g h : Int → Int) (e : ∀ k, 0 ≤ k ∧ k < 16 → f k = 2 * g k + h k) : ∀ ns : List Int, tt f ns = 2 * tt g ns + tt h ns
  | [] => rfl
  | x :: r => by
    have ih := tt_lin f g h e r
    have ex := e (kd x) (kd_lt x)
    unfold tt at ih ⊢
    simp only [List.map_cons, List.sum_cons]
    omega
theorem tt_bound (g : Int → Int) (e : ∀ k, 0 ≤ k ∧ k < 16 → 0 ≤ g k ∧ g k ≤ 1) : ∀ ns : List Int, 0 ≤ tt g ns ∧ tt g ns ≤ (ns.length : Int)
  | [] => ⟨Int.le_refl _, Int.le_refl _⟩
  | x :: r => by
    have ih := tt_bound g e r
    have ex := e (kd x) (kd_lt x)
    unfold tt at ih ⊢
    simp only [List.map_cons, List.sum_cons, List.length_cons]
    omega
def mods16 : List Int := (List.range 16).map fun (j : Nat) => 4369 * (0 + (j : Int))
theorem mods_r : tt lr mods16 = 24 := by decide +kernel
theorem mods_g : tt lg mods16 = 24 := by decide +kernel
theorem mods_b : tt lb mods16 = 24 := by decide +kernel
/-- The totals: a common part, and twice a number from 0 to 12 each. -/
theorem totals (ns : List Int) : ∃ A B C O : Int, (0 ≤ A ∧ A ≤ 12) ∧ (0 ≤ B ∧ B ≤ 12) ∧ (0 ≤ C ∧ C ≤ 12) ∧ (24 ≤ O ∧ O ≤ 36) ∧
    tt lr (mods16 ++ ns.take 12) = 2 * A + O ∧ tt lg (mods16 ++ ns.take 12) = 2 * B + O ∧ tt lb (mods16 ++ ns.take 12) = 2 * C + O := by
  have hl : ((ns.take 12).length : Int) ≤ 12 := by rw [List.length_take]; omega
  have h1 := tt_bound (fun k => k / 2 % 2) (fun k hk => by omega) (ns.take 12)
  have h2 := tt_bound (fun k => k / 4 % 2) (fun k hk => by omega) (ns.take 12)
  have h3 := tt_bound (fun k => k / 8) (fun k hk => by omega) (ns.take 12)
  have h4 := tt_bound (fun k => k % 2) (fun k hk => by omega) (ns.take 12)
  have e1 := tt_lin lr (fun k => k / 2 % 2) (fun k => k % 2) (fun k hk => by unfold lr; omega) (ns.take 12)
  have e2 := tt_lin lg (fun k => k / 4 % 2) (fun k => k % 2) (fun k hk => by unfold lg; omega) (ns.take 12)
  have e3 := tt_lin lb (fun k => k / 8) (fun k => k % 2) (fun k hk => by unfold lb; omega) (ns.take 12)
  refine ⟨_, _, _, 24 + tt (fun k => k % 2) (ns.take 12), ⟨h1.1, Int.le_trans h1.2 hl⟩, ⟨h2.1, Int.le_trans h2.2 hl⟩, ⟨h3.1, Int.le_trans h3.2 hl⟩, by omega, ?_, ?_, ?_⟩
  · rw [tt_app, mods_r]; omega
  · rw [tt_app, mods_g]; omega
  · rw [tt_app, mods_b]; omega
end Mine
end
section
open PySem PySem.W PyProof.Rows PySem.Calls PySem.Spec
namespace Mine
theorem lawDef_eq : lawDef.1 = [lawS 0, lawS 1, lawS 2, lawS 3, lawS 4, lawS 5, lawS 6, lawS 7] := by rfl
open Classical in
theorem pick7 {ps : List Addr} {pl : List (Addr × Obj)} {tk : Nat} (hp : ∀ (j : Nat) (p : Addr), ps[j]? = some p → ∃ t1 t2 t3, (p, pObj j t1 t2 t3) ∈ pl ∧ @Ne Nat t1 0 ∧ @Ne Nat t2 0 ∧ @LT.lt Nat _ t1 tk ∧ @LT.lt Nat _ t2 tk) :
    ∃ pl' : List (Addr × Obj), (∀ q ∈ pl', q ∈ pl ∧ NotCell q.2) ∧ ∀ (j : Nat) (p : Addr), ps[j]? = some p → ∃ t1 t2 t3, (p, pObj j t1 t2 t3) ∈ pl' ∧ @Ne Nat t1 0 ∧ @Ne Nat t2 0 ∧ @LT.lt Nat _ t1 tk ∧ @LT.lt Nat _ t2 tk := by
  refine ⟨pl.filter fun q => decide (NotCell q.2), fun q hq => ?_, fun j p hj => ?_⟩
  · have h := List.mem_filter.mp hq
    exact ⟨h.1, of_decide_eq_true h.2⟩
  · obtain ⟨t1, t2, t3, hm, r⟩ := hp j p hj
    exact ⟨t1, t2, t3, List.mem_filter.mpr ⟨hm, decide_eq_true tup3_nc⟩, r⟩
theorem L4_ne (L : Nat) : L + 1 + 1 + 1 + 1 ≠ L + 1 ∧ L + 1 + 1 + 1 + 1 ≠ L + 1 + 1 ∧ L + 1 + 1 + 1 + 1 ≠ L + 1 + 1 + 1 := by omega
section
variable {w : World} {h₀ : Heap} {L fa sa : Addr} {cd : Value} {s : Shared} {m : Str → Option Value} {vs : List Value} {ns : List Int} {Q : Flow → Shared → Prop} {E : Value → Shared → Prop} {cT cL cO cM : Obj} {vT vL vO vM : Option Value}
theorem body (G : Gr w h₀) (F : Fr h₀ L s.heap m) (hsc : m (Str.ofString "script") = some (.ref sa)) (N : News h₀ L s.heap [(L + 1 + 1 + 1 + 1, cM), (L + 1 + 1 + 1, cO), (L + 1 + 1, cL), (L + 1, cT)])
    (hM : cM.data = .cell vM) (hO : cO.data = .cell vO) (hL : cL.data = .cell vL) (hT : cT.data = .cell vT) (hl : h₀.IsList sa vs.toArray) (hi : IntsAre vs ns) (hn : ns.length ≤ 63)
    (hR : ∀ h' tk m', Fr h₀ L h' m' → Q (.ret (.bool true)) { s with heap := h', toks := tk })
    (hE : PassesOwn (model PySem.Challenge.rw_mq0233_01.row.prog w) (callerA.deeper (lenv L fa cd)) (lenv L fa cd) E) :
    wpAny (model PySem.Challenge.rw_mq0233_01.row.prog w) (callerA.deeper (lenv L fa cd)) (execs lawDef.1 (lenv L fa cd)) Q E s := by
  rw [lawDef_eq]
  refine wpAny_execs_cons (a0 G F N ?_)
  intro h1 tk1 D p0 p1 p2 p3 p4 p5 p6 n0 pl F1 N1 hp
  dsimp only
  obtain ⟨pl', hpl, hp'⟩ := pick7 hp
  have mD : (D, W.listOf #[Value.ref p0, .ref p1, .ref p2, .ref p3, .ref p4, .ref p5, .ref p6] n0) ∈ (D, W.listOf #[Value.ref p0, .ref p1, .ref p2, .ref p3, .ref p4, .ref p5, .ref p6] n0) :: (pl ++ [(L + 1 + 1 + 1 + 1, cM), (L + 1 + 1 + 1, cO), (L + 1 + 1, cL), (L + 1, cT)]) := .head _
  have mP : ∀ q ∈ pl', q ∈ (D, W.listOf #[Value.ref p0, .ref p1, .ref p2, .ref p3, .ref p4, .ref p5, .ref p6] n0) :: (pl ++ [(L + 1 + 1 + 1 + 1, cM), (L + 1 + 1 + 1, cO), (L + 1 + 1, cL), (L + 1, cT)]) := fun q hq => .tail _ (List.mem_append_left _ (hpl q hq).1)
  have mM : (L + 1 + 1 + 1 + 1, cM) ∈ (D, W.listOf #[Value.ref p0, .ref p1, .ref p2, .ref p3, .ref p4, .ref p5, .ref p6] n0) :: (pl ++ [(L + 1 + 1 + 1 + 1, cM), (L + 1 + 1 + 1, cO), (L + 1 + 1, cL), (L + 1, cT)]) := by simp
  have mO : (L + 1 + 1 + 1, cO) ∈ (D, W.listOf #[Value.ref p0, .ref p1, .ref p2, .ref p3, .ref p4, .ref p5, .ref p6] n0) :: (pl ++ [(L + 1 + 1 + 1 + 1, cM), (L + 1 + 1 + 1, cO), (L + 1 + 1, cL), (L + 1, cT)]) := by simp
  have mL : (L + 1 + 1, cL) ∈ (D, W.listOf #[Value.ref p0, .ref p1, .ref p2, .ref p3, .ref p4, .ref p5, .ref p6] n0) :: (pl ++ [(L + 1 + 1 + 1 + 1, cM), (L + 1 + 1 + 1, cO), (L + 1 + 1, cL), (L + 1, cT)]) := by simp
  have mT : (L + 1, cT) ∈ (D, W.listOf #[Value.ref p0, .ref p1, .ref p2, .ref p3, .ref p4, .ref p5, .ref p6] n0) :: (pl ++ [(L + 1 + 1 + 1 + 1, cM), (L + 1 + 1 + 1, cO), (L + 1 + 1, cL), (L + 1, cT)]) := by simp
  have off : ∀ p ∈ (D, W.listOf #[Value.ref p0, .ref p1, .ref p2, .ref p3, .ref p4, .ref p5, .ref p6] n0) :: (pl' ++ [(L + 1 + 1 + 1 + 1, cM)]), p.1 ≠ L + 1 ∧ p.1 ≠ L + 1 + 1 ∧ p.1 ≠ L + 1 + 1 + 1 := by
    intro p hp
    rcases List.mem_cons.mp hp with rfl | hp
    · exact ⟨ne_of_cell N1 mD mT hT listOf_nc, ne_of_cell N1 mD mL hL listOf_nc, ne_of_cell N1 mD mO hO listOf_nc⟩
    · rcases List.mem_append.mp hp with hp | hp
      · exact ⟨ne_of_cell N1 (mP p hp) mT hT (hpl p hp).2, ne_of_cell N1 (mP p hp) mL hL (hpl p hp).2, ne_of_cell N1 (mP p hp) mO hO (hpl p hp).2⟩
      · rw [List.mem_singleton.mp hp]
        exact L4_ne L
  refine wpAny_execs_cons (any_toks tk1 (Nat.le_refl _) (a1 (cT := cT) (vT := vT) (rest := (L + 1 + 1, cL) :: (L + 1 + 1 + 1, cO) :: (D, W.listOf #[Value.ref p0, .ref p1, .ref p2, .ref p3, .ref p4, .ref p5, .ref p6] n0) :: (pl' ++ [(L + 1 + 1 + 1 + 1, cM)])) G F1 (cb_drop N1 ?_) hT ?_ ?_))
  · intro p hp
    rcases List.mem_cons.mp hp with rfl | hp
    · exact mT
    · rcases List.mem_cons.mp hp with rfl | hp
      · exact mL
      · rcases List.mem_cons.mp hp with rfl | hp
        · exact mO
        · rcases List.mem_cons.mp hp with rfl | hp
          · exact mD
          · rcases List.mem_append.mp hp with hp | hp
            · exact mP p hp
            · rw [List.mem_singleton.mp hp]; exact mM
  · intro p hp
    rcases List.mem_cons.mp hp with rfl | hp
    · exact Ne.symm (L_ne L).1
    · rcases List.mem_cons.mp hp with rfl | hp
      · exact Ne.symm (L_ne L).2.1
      · exact (off p hp).1
  intro h2 tk2 T0 t0 t1 t2 n1 cT2 F2 N2 hT2 hb2
  dsimp only
  refine wpAny_execs_cons (a2 (sa := sa) (vs := vs) (ns := ns) (D := D) (p0 := p0) (p1 := p1) (p2 := p2) (p3 := p3) (p4 := p4) (p5 := p5) (p6 := p6) (n0 := n0) (cT := cT2) (cL := cL) (cO := cO) (vL := vL) (vO := vO) (T0 := T0) (t0 := t0) (t1 := t1) (t2 := t2) (n1 := n1)
    (stay := (D, W.listOf #[Value.ref p0, .ref p1, .ref p2, .ref p3, .ref p4, .ref p5, .ref p6] n0) :: (pl' ++ [(L + 1 + 1 + 1 + 1, cM)])) G F2 hsc rfl N2 hT2 hL hO ⟨off, .head _, ?_⟩ hl hi hn ?_ hE)
  · intro j p hj
    obtain ⟨a1, a2, a3, am, k1, k2, l1, l2⟩ := hp' j p hj
    exact ⟨a1, a2, a3, .tail _ (List.mem_append_left _ am), k1, k2, Nat.lt_of_lt_of_le l1 hb2, Nat.lt_of_lt_of_le l2 hb2⟩
  intro h3 tk3 m3 T3 u0 u1 u2 n3 cT3 F3 N3 hT3
  dsimp only
  obtain ⟨A, B, C, O, hA, hB, hC, hO', e1, e2, e3⟩ := totals ns
  unfold mods16 at e1 e2 e3
  rw [e1, e2, e3] at N3
  have N3' : News h₀ L h3 [(T3, TO (2 * A + O) (2 * B + O) (2 * C + O) u0 u1 u2 n3), (L + 1, cT3), (L + 1 + 1 + 1 + 1, cM)] := cb_drop N3 fun p hp => by
    simp only [List.mem_cons, List.mem_append] at hp ⊢
    rcases hp with h | h | h | h
    · exact .inl h
    · exact .inr (.inl h)
    · exact .inr (.inr (.inr (.inr (.inl h))))
    · cases h
  have TM : T3 ≠ L + 1 + 1 + 1 + 1 := ne_of_cell N3' (.head _) (by simp : (L + 1 + 1 + 1 + 1, cM) ∈ _) hM listOf_nc
  refine wpAny_execs_cons (b3 G F3 N3' hT3 (by omega) (by omega) (by omega) ?_)
  intro h4 tk4 v4 F4 N4
  dsimp only
  refine wpAny_execs_cons (b4 G F4 N4 hT3 hM (fun p hp => nomatch hp) TM ?_)
  intro h5 tk5 v5 cM5 F5 N5 hM5
  dsimp only
  refine wpAny_execs_cons (b5 G F5 N5 hT3 hM5 (fun h' tk m' F' => hR h' tk m' F') ?_)
  intro h6 tk6 F6 N6 g1 g2 g3
  dsimp only
  refine wpAny_execs_cons (b6 G F6 N6 hT3 hM5 ?_)
  intro h7 tk7 v7 F7 N7
  dsimp only
  obtain ⟨x1, x2, x3⟩ := tail_all hA hB hC g1 g2 g3
  exact wpAny_execs_cons (b7 G F7 N7 x1 x2 x3 fun h' tk m' F' => hR h' tk m' F')
end
end Mine
end
section
open PySem PySem.W PyProof.Rows PySem.Calls PySem.Spec
namespace Mine
local macro_rules | `(tactic| walk_at "execs cons") => `(tactic| (refine Hold.intro ?_))
theorem last : PySem.Challenge.rw_mq0233_01.Holds := hd (by
  k_go0
  (all_goals try k_fold)
  k_steps
  unfold Hold
  rename Fr _ _ _ _ => F1
  rename News _ _ _ _ => N1
  rename Frag.In _ _ => X1
  rename Top _ _ _ _ _ _ => T1
  rename Below _ _ _ _ => B1
  rename IntsAre _ _ => I1
  rename Heap.IsList _ _ _ => L1
  rename ¬ _ < _ => len1
  refine body ⟨X1, ⟨_, _, _, T1⟩, ⟨_, _, B1⟩⟩ F1 rfl N1 (by assumption) (by assumption) (by assumption) (by assumption) L1 I1 ?_ ?_ ?_
  · omega
  · intro h' tk m' F'
    show GoodW _ _ _ _ _ _ _
    dsimp only
    k_steps
  · passes_own)
end Mine
end
theorem PySem.Challenge.cw_mq0233_01_holds : PySem.Challenge.rw_mq0233_01.Holds :=
  Mine.last
