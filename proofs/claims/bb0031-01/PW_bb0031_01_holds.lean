import PyProof.Rows.All
import Wide.All
import OpenK.AllK
import Wide.FinOn
import PySem.Challenge.RW_bb0031_01
/-
The law of bb0031-01, by claims: each def is walked once, for all its arguments, and a call is then one step.
What it computes is said by plain functions (jY, jM, jD, toJ, ..), and the law of these is shown apart.
-/
open PySem PySem.W PyProof.Rows
set_option Elab.async false
set_option maxRecDepth 100000
set_option maxHeartbeats 8000000
namespace Mine
/-! The head, once: the run of the text's top. Behind it, hd.heap_39 is the written part of the state, hd.view_39 the program's view. -/
open_top hd for PySem.Challenge.rw_bb0031_01

/-! # What is said of a call, and how it is shown -/
abbrev Hp := Heap
abbrev Led := List (Addr × Obj)
abbrev Map := Str → Option Value
abbrev Post := Value → Shared → Prop

/-- what is known of a call of the def at `f`, `k` frames deep at most -/
abbrev Claim (prog : Program) (w : World) (K : Frag) (p : Program) (loose : List Str) (mean : ExcName → Option Value) (mg mb : Map) (f : Addr) (k : Nat) (news : Led) (pre : Prop) (vs : List Value)
    (Ret : Led → Heap → Addr → Map → Shared → Post → Prop) : Prop :=
  ∀ (dp un : Nat) (gd : Option (List Code)) (cn : Str) (cs : Scope) (a : Addr) (ccd : Value) (cl : List (Str × Addr)) (outer : List Env) (A₀ : Around) (base h₀ : Heap) (L : Addr) (m : Map) (s : Shared) (Q E : Post),
    Below A₀ base outer h₀ → Fr h₀ L s.heap m → K.In h₀ → News h₀ L s.heap news → Top p loose mean mg mb h₀ → cs.kind = .function →
    pre → dp + k < recursionLimit → un + 8 * k < cLine → Ret news h₀ L m s Q →
      wpAny (model prog w) (ktrTop dp un gd cn cs L a ccd cl outer) (call (.ref f) vs) Q E s

/-- it hands back a value, and makes nothing that is kept -/
def RetV (R : Tok → Value) (news : Led) (h₀ : Heap) (L : Addr) (m : Map) (s : Shared) (Q : Post) : Prop :=
  ∀ (t : Tok) (h' : Heap) (tk' : Nat), Fr h₀ L h' m → News h₀ L h' news → Q (R t) { s with heap := h', toks := tk' }
/-- it hands back a new tuple of three ints -/
abbrev tup3 (x y z : Int) (t u v : Tok) (c : Nat) : Obj := { cls := .type "tuple", data := .seq #[.int x t, .int y u, .int z v] c }
def RetT (x y z : Int) (news : Led) (h₀ : Heap) (L : Addr) (m : Map) (s : Shared) (Q : Post) : Prop :=
  ∀ (D : Addr) (t u v : Tok) (c : Nat) (h' : Heap) (tk' : Nat), Fr h₀ L h' m → News h₀ L h' ((D, tup3 x y z t u v c) :: news) → AllLt D news → Q (.ref D) { s with heap := h', toks := tk' }

theorem use {prog : Program} {w : World} {K : Frag} {p : Program} {loose : List Str} {mean : ExcName → Option Value} {mg mb : Map} {f : Addr} {k : Nat} {news : Led} {pre : Prop} {vs : List Value}
    {Ret : Led → Heap → Addr → Map → Shared → Post → Prop} (C : Claim prog w K p loose mean mg mb f k news pre vs Ret)
    {dp un : Nat} {gd : Option (List Code)} {cn : Str} {cs : Scope} {a : Addr} {ccd : Value} {cl : List (Str × Addr)} {outer : List Env} {A₀ : Around} {base h₀ : Heap} {L : Addr} {m : Map} {s : Shared} {Q E : Post}
    (B : Below A₀ base outer h₀) (F : Fr h₀ L s.heap m) (X : K.In h₀) (N : News h₀ L s.heap news) (T : Top p loose mean mg mb h₀) (hk : cs.kind = .function)
    (hp : pre) (hd : dp + k < recursionLimit) (hu : un + 8 * k < cLine) (ret : Ret news h₀ L m s Q) :
    wpAny (model prog w) (ktrTop dp un gd cn cs L a ccd cl outer) (call (.ref f) vs) Q E s :=
  C _ _ _ _ _ _ _ _ _ _ _ _ _ _ _ _ _ B F X N T hk hp hd hu ret

theorem endT {h₀ h' : Heap} {L D : Addr} {m : Map} {news news' : Led} {s : Shared} {Q : Post} {x y z x' y' z' : Int} {t u v : Tok} {c tk' : Nat}
    (ret : RetT x y z news h₀ L m s Q) (ex : x' = x) (ey : y' = y) (ez : z' = z) (F : Fr h₀ L h' m) (N : News h₀ L h' news') (hm : (D, tup3 x' y' z' t u v c) ∈ news') (sub : ∀ p ∈ news, p ∈ news') (lt : AllLt D news) :
    Q (.ref D) { s with heap := h', toks := tk' } := by
  subst ex; subst ey; subst ez
  refine ret D t u v c h' tk' F (fun p hp => ?_) lt
  rcases List.mem_cons.mp hp with rfl | hp
  · exact N _ hm
  · exact N p (sub p hp)

theorem endI {h₀ h' : Heap} {L : Addr} {m : Map} {news news' : Led} {s : Shared} {Q : Post} {x y : Int} {t : Tok} {tk' : Nat}
    (ret : RetV (fun t => .int x t) news h₀ L m s Q) (e : y = x) (F : Fr h₀ L h' m) (N : News h₀ L h' news') (sub : ∀ p ∈ news, p ∈ news') : Q (.int y t) { s with heap := h', toks := tk' } := by
  subst e; exact ret t h' tk' F (cb_drop N sub)
theorem endB {h₀ h' : Heap} {L : Addr} {m : Map} {news news' : Led} {s : Shared} {Q : Post} {x y : Bool} {tk' : Nat}
    (ret : RetV (fun _ => .bool x) news h₀ L m s Q) (e : y = x) (F : Fr h₀ L h' m) (N : News h₀ L h' news') (sub : ∀ p ∈ news, p ∈ news') : Q (.bool y) { s with heap := h', toks := tk' } := by
  subst e; exact ret 0 h' tk' F (cb_drop N sub)

theorem abs_any {prog : Program} {w : World} {A : Around} {E Q : Post} {s : Shared} {a : Int} {t : Tok} (h : ∀ u tk, Q (.int (a.natAbs : Int) u) { s with toks := tk }) :
    wpAny (model prog w) A (call (.builtin "abs") [.int a t]) Q E s := call_abs_int (by
  have e : (if a < 0 then -a else a) = (a.natAbs : Int) := by split <;> omega
  rw [e]; exact h)
theorem abs_pos {prog : Program} {w : World} {A : Around} {E Q : Post} {s : Shared} {a : Int} {t : Tok} (h0 : 0 ≤ a) (h : ∀ u tk, Q (.int a u) { s with toks := tk }) :
    wpAny (model prog w) A (call (.builtin "abs") [.int a t]) Q E s := abs_any (by
  have e : (a.natAbs : Int) = a := by omega
  rw [e]; exact h)
theorem fd {a b : Int} (h : 0 ≤ b) : Int.fdiv a b = a / b := Int.fdiv_eq_ediv_of_nonneg a h
theorem fm {a b : Int} (h : 0 ≤ b) : Int.fmod a b = a % b := Int.fmod_eq_emod_of_nonneg a h
theorem div_pos {prog : Program} {w : World} {A : Around} {E Q : Post} {s : Shared} {a b : Int} {t u : Tok} (h0 : 0 < b) (h1 : b < 1073741824) (h : Q (.int (a / b) s.toks) { s with toks := s.toks + 1 }) :
    wpAny (model prog w) A (binaryOp .FloorDiv (.int a t) (.int b u)) Q E s :=
  floordiv_int (by omega) (by rw [fd (by omega)]; exact h) (Or.inl (PyProof.noPylong_small (by omega)))
theorem mod_pos {prog : Program} {w : World} {A : Around} {E Q : Post} {s : Shared} {a b : Int} {t u : Tok} (h0 : 0 < b) (h : Q (.int (a % b) s.toks) { s with toks := s.toks + 1 }) :
    wpAny (model prog w) A (binaryOp .Mod (.int a t) (.int b u)) Q E s :=
  mod_int' (by omega) (by rw [fm (by omega)]; exact h)

/-! a written list of tuples of three ints, made by a call -/
inductive Rows : Led → List (Int × Int × Int) → Prop
  | nil : Rows [] []
  | cons {a : Addr} {x y z : Int} {t u v : Tok} {c : Nat} {es : Led} {rs : List (Int × Int × Int)} : Rows es rs → Rows ((a, tup3 x y z t u v c) :: es) ((x, y, z) :: rs)
theorem Rows.at {es : Led} {rs : List (Int × Int × Int)} (R : Rows es rs) : ∀ i, i < rs.length →
    ∃ a t u v c, es[i]? = some (a, tup3 (rs.getD i (0, 0, 0)).1 (rs.getD i (0, 0, 0)).2.1 (rs.getD i (0, 0, 0)).2.2 t u v c) := by
  induction R with
  | nil => intro i hi; exact absurd hi (Nat.not_lt_zero _)
  | cons _ ih =>
    intro i hi
    cases i with
    | zero => exact ⟨_, _, _, _, _, rfl⟩
    | succ i =>
      obtain ⟨a, t, u, v, c, h⟩ := ih i (by simpa using hi)
      exact ⟨a, t, u, v, c, by simpa using h⟩
abbrev tabOf (es : Led) (n : Nat) : Obj := W.listOf (es.map fun p => Value.ref p.1).toArray n
def RetTab (rs : List (Int × Int × Int)) (news : Led) (h₀ : Heap) (L : Addr) (m : Map) (s : Shared) (Q : Post) : Prop :=
  ∀ (D : Addr) (es : Led) (n : Nat) (h' : Heap) (tk' : Nat), Fr h₀ L h' m → News h₀ L h' ((D, tabOf es n) :: (es ++ news)) → Rows es rs → Q (.ref D) { s with heap := h', toks := tk' }
theorem endTab {h₀ h' : Heap} {L D : Addr} {m : Map} {news news' es : Led} {s : Shared} {Q : Post} {rs : List (Int × Int × Int)} {n tk' : Nat}
    (ret : RetTab rs news h₀ L m s Q) (R : Rows es rs) (F : Fr h₀ L h' m) (N : News h₀ L h' news') (hm : (D, tabOf es n) ∈ news') (hes : ∀ p ∈ es, p ∈ news') (sub : ∀ p ∈ news, p ∈ news') :
    Q (.ref D) { s with heap := h', toks := tk' } := by
  refine ret D es n h' tk' F (fun p hp => ?_) R
  rcases List.mem_cons.mp hp with rfl | hp
  · exact N _ hm
  · rcases List.mem_append.mp hp with hp | hp
    · exact N p (hes p hp)
    · exact N p (sub p hp)
/-- an item of such a list, at a place that is not written -/
theorem pick {prog : Program} {w : World} {A : Around} {E Q : Post} {s : Shared} {h₀ : Heap} {L D : Addr} {news es : Led} {rs : List (Int × Int × Int)} {n : Nat} {m : Int} {u : Tok} {value slice : PySem.Expr}
    (N : News h₀ L s.heap ((D, tabOf es n) :: (es ++ news))) (R : Rows es rs) (h0 : 0 ≤ m) (h1 : m < rs.length) (hs : (rs.length : Int) < 2 ^ 63)
    (k : ∀ a t u v c, News h₀ L s.heap ((a, tup3 (rs.getD m.toNat (0, 0, 0)).1 (rs.getD m.toNat (0, 0, 0)).2.1 (rs.getD m.toNat (0, 0, 0)).2.2 t u v c) :: news) → Q (.ref a) s)
    (hsub : subscripted slice false (.ref D) (.int m u) = operate [.ref D, .int m u] (getItem (.ref D) (.int m u)) := by with_unfolding_all rfl) :
    wpAny (model prog w) A (subscriptTail value slice (.ref D) (.int m u)) Q E s := by
  obtain ⟨a, t, u', v, c, h⟩ := R.at m.toNat (by omega)
  have hl : s.heap.IsList D (es.map fun p => Value.ref p.1).toArray := News.isList N (List.Mem.head _)
  refine tail_any hl.typeIs slot_list_getitem.lookup (wpAny_getItem_list hl h0 (by omega) (x := .ref a) ?_ (k a t u' v c ?_)) hsub
  · simp [h]
  · intro p hp
    rcases List.mem_cons.mp hp with rfl | hp
    · exact N _ (List.Mem.tail _ (List.mem_append.mpr (.inl (List.mem_of_getElem? h))))
    · exact N p (List.Mem.tail _ (List.mem_append.mpr (.inr hp)))
def copTab : List (Int × Int × Int) := [(0, 8, 29), (0, 9, 28), (0, 10, 28), (0, 11, 27), (0, 12, 27), (1, 1, 26), (1, 2, 25), (1, 3, 27), (1, 4, 26), (1, 5, 26), (1, 6, 25), (1, 7, 25), (1, 8, 24)]
def sarkTab : List (Int × Int × Int) := [(0, 8, 11), (0, 9, 10), (0, 10, 10), (0, 11, 9), (0, 12, 9), (1, 1, 8), (1, 2, 7), (1, 3, 9), (1, 4, 8), (1, 5, 8), (1, 6, 7), (1, 7, 7), (1, 8, 6)]

/-! the days of the Julian calendar, as plain functions -/
def mlen (y m : Int) : Int := if m = 2 then (if y % 4 = 0 then 29 else 28) else if m = 4 ∨ m = 6 ∨ m = 9 ∨ m = 11 then 30 else 31
def toJ (y m d : Int) : Int := if m ≤ 2 then 1461 * (y - 1 + 4716) / 4 + 306001 * (m + 12 + 1) / 10000 + d - 1524 else 1461 * (y + 4716) / 4 + 306001 * (m + 1) / 10000 + d - 1524
def jc (x : Int) : Int := (20 * (x + 1524) - 2442) / 7305
def jd (x : Int) : Int := 1461 * jc x / 4
def je (x : Int) : Int := (x + 1524 - jd x) * 10000 / 306001
def jM (x : Int) : Int := if je x < 14 then je x - 1 else je x - 13
def jY (x : Int) : Int := if jM x > 2 then jc x - 4716 else jc x - 4715
def jD (x : Int) : Int := x + 1524 - jd x - 306001 * je x / 10000
/-! the loose Armenian year -/
def aY (x : Int) : Int := (x - 1922502 - 1) / 365
def aM (x : Int) : Int := (x - 1922502 - 1) % 365 / 30 + 1
def aD (x : Int) : Int := x - 1922502 - 365 * ((x - 1922502 - 1) / 365) - 30 * ((x - 1922502 - 1) % 365 / 30)
/-! the day numbers that the law asks for -/
def sarkJ (y m d : Int) : Int := 2117211 + 365 * (y - 533) + (y - 533) / 4 + ((m - 1) * 30 + d)
def looseJ (y m d : Int) : Int := 1922502 + 365 * y + ((m - 1) * 30 + d)
def copJ (y m d : Int) : Int := d + (m - 1) * 30 + (y - 1) * 365 + y / 4 + 1825030 - 1

/-! # The plain law: no program in sight -/
/-- a day number's year, place in the year, and month, by their bounds -/
theorem found_at (x c n e : Int) (h1 : 7305 * c ≤ 20 * (x + 1524) - 2442) (h2 : 20 * (x + 1524) - 2442 < 7305 * (c + 1)) (h3 : x + 1524 = 1461 * c / 4 + n)
    (h4 : 306001 * e ≤ n * 10000) (h5 : n * 10000 < 306001 * (e + 1)) : jc x = c ∧ je x = e ∧ jD x = n - 306001 * e / 10000 := by
  have hc : jc x = c := by unfold jc; omega
  have he : je x = e := by unfold je jd; rw [hc]; omega
  refine ⟨hc, he, ?_⟩
  unfold jD jd
  rw [hc, he]
  omega
theorem parted (x : Int) : ∃ c n, jc x = c ∧ x + 1524 = 1461 * c / 4 + n ∧ 123 ≤ n ∧ n ≤ 488 ∧ (n = 488 → c % 4 = 3) := by
  refine ⟨jc x, x + 1524 - 1461 * jc x / 4, rfl, by omega, ?_, ?_, ?_⟩ <;> unfold jc <;> omega
theorem back (x r : Int) : toJ (jY x + 1460 * r) (jM x) (jD x) = x + 533265 * r ∧ 0 < jD x ∧ jD x ≤ mlen (jY x + 1460 * r) (jM x) := by
  obtain ⟨c, n, hc, hx, n1, n2, n3⟩ := parted x
  have hd : jd x = 1461 * c / 4 := by unfold jd; rw [hc]
  have he : je x = n * 10000 / 306001 := by
    unfold je; rw [hd]
    have : x + 1524 - 1461 * c / 4 = n := by omega
    rw [this]
  have hD : jD x = n - 306001 * (n * 10000 / 306001) / 10000 := by unfold jD; rw [hd, he]; omega
  generalize hE : n * 10000 / 306001 = e at he hD
  have e1 : 4 ≤ e := by omega
  have e2 : e ≤ 15 := by omega
  by_cases h14 : e < 14
  · have hM : jM x = e - 1 := by unfold jM; rw [he, if_pos h14]
    have hY : jY x = c - 4716 := by unfold jY; rw [hM, hc, if_pos (by omega)]
    rw [hM, hY, hD]
    refine ⟨?_, by omega, ?_⟩
    · unfold toJ; rw [if_neg (by omega)]; omega
    · unfold mlen; rw [if_neg (by omega)]; split <;> omega
  · have hM : jM x = e - 13 := by unfold jM; rw [he, if_neg h14]
    have hY : jY x = c - 4715 := by unfold jY; rw [hM, hc, if_neg (by omega)]
    rw [hM, hY, hD]
    refine ⟨?_, by omega, ?_⟩
    · unfold toJ; rw [if_pos (by omega)]; omega
    · unfold mlen; split
      · split <;> omega
      · rw [if_neg (by omega)]; omega
theorem row_of (x c e Y M D : Int) (h1 : 7305 * c ≤ 20 * (x + 1524) - 2442) (h2 : 20 * (x + 1524) - 2442 < 7305 * (c + 1))
    (h4 : 306001 * e ≤ (x + 1524 - 1461 * c / 4) * 10000) (h5 : (x + 1524 - 1461 * c / 4) * 10000 < 306001 * (e + 1))
    (hM : M = if e < 14 then e - 1 else e - 13) (hY : Y = if M > 2 then c - 4716 else c - 4715) (hD : D = x + 1524 - 1461 * c / 4 - 306001 * e / 10000) :
    (jY x == Y && (jM x == M && jD x == D)) = true := by
  obtain ⟨hc, he, hD'⟩ := found_at x c (x + 1524 - 1461 * c / 4) e h1 h2 (by omega) h4 h5
  have hM' : jM x = M := by unfold jM; rw [he, hM]
  have hY' : jY x = Y := by unfold jY; rw [hM', hc, hY]
  rw [hM', hY', hD', hD]
  simp
theorem three {y : Int} (h : y % 4 ≠ 0) : ∃ q, y = 4 * q + 1 ∨ y = 4 * q + 2 ∨ y = 4 * q + 3 := ⟨y / 4, by omega⟩
theorem m13 {m : Int} (h0 : 0 ≤ m) (h1 : m ≤ 12) : m = 0 ∨ m = 1 ∨ m = 2 ∨ m = 3 ∨ m = 4 ∨ m = 5 ∨ m = 6 ∨ m = 7 ∨ m = 8 ∨ m = 9 ∨ m = 10 ∨ m = 11 ∨ m = 12 := by omega
theorem cop_leap {y m : Int} (hy : y % 4 = 0) (hm : m < 7) (h0 : 0 ≤ m) (h1 : m ≤ 12) :
    (jY (copJ y (m + 1) 1) == y + 283 + (copTab.getD m.toNat (0, 0, 0)).1 && (jM (copJ y (m + 1) 1) == (copTab.getD m.toNat (0, 0, 0)).2.1 && jD (copJ y (m + 1) 1) == (copTab.getD m.toNat (0, 0, 0)).2.2 + 1)) = true := by
  rcases m13 h0 h1 with rfl | rfl | rfl | rfl | rfl | rfl | rfl | rfl | rfl | rfl | rfl | rfl | rfl
  · show (jY (copJ y (0 + 1) 1) == y + 283 + 0 && (jM (copJ y (0 + 1) 1) == 8 && jD (copJ y (0 + 1) 1) == 29 + 1)) = true
    exact row_of _ (y + 4999) 9 _ _ _ (by unfold copJ; omega) (by unfold copJ; omega) (by unfold copJ; omega) (by unfold copJ; omega) (by decide) (by rw [if_pos (by decide)]; omega) (by unfold copJ; omega)
  · show (jY (copJ y (1 + 1) 1) == y + 283 + 0 && (jM (copJ y (1 + 1) 1) == 9 && jD (copJ y (1 + 1) 1) == 28 + 1)) = true
    exact row_of _ (y + 4999) 10 _ _ _ (by unfold copJ; omega) (by unfold copJ; omega) (by unfold copJ; omega) (by unfold copJ; omega) (by decide) (by rw [if_pos (by decide)]; omega) (by unfold copJ; omega)
  · show (jY (copJ y (2 + 1) 1) == y + 283 + 0 && (jM (copJ y (2 + 1) 1) == 10 && jD (copJ y (2 + 1) 1) == 28 + 1)) = true
    exact row_of _ (y + 4999) 11 _ _ _ (by unfold copJ; omega) (by unfold copJ; omega) (by unfold copJ; omega) (by unfold copJ; omega) (by decide) (by rw [if_pos (by decide)]; omega) (by unfold copJ; omega)
  · show (jY (copJ y (3 + 1) 1) == y + 283 + 0 && (jM (copJ y (3 + 1) 1) == 11 && jD (copJ y (3 + 1) 1) == 27 + 1)) = true
    exact row_of _ (y + 4999) 12 _ _ _ (by unfold copJ; omega) (by unfold copJ; omega) (by unfold copJ; omega) (by unfold copJ; omega) (by decide) (by rw [if_pos (by decide)]; omega) (by unfold copJ; omega)
  · show (jY (copJ y (4 + 1) 1) == y + 283 + 0 && (jM (copJ y (4 + 1) 1) == 12 && jD (copJ y (4 + 1) 1) == 27 + 1)) = true
    exact row_of _ (y + 4999) 13 _ _ _ (by unfold copJ; omega) (by unfold copJ; omega) (by unfold copJ; omega) (by unfold copJ; omega) (by decide) (by rw [if_pos (by decide)]; omega) (by unfold copJ; omega)
  · show (jY (copJ y (5 + 1) 1) == y + 283 + 1 && (jM (copJ y (5 + 1) 1) == 1 && jD (copJ y (5 + 1) 1) == 26 + 1)) = true
    exact row_of _ (y + 4999) 14 _ _ _ (by unfold copJ; omega) (by unfold copJ; omega) (by unfold copJ; omega) (by unfold copJ; omega) (by decide) (by rw [if_neg (by decide)]; omega) (by unfold copJ; omega)
  · show (jY (copJ y (6 + 1) 1) == y + 283 + 1 && (jM (copJ y (6 + 1) 1) == 2 && jD (copJ y (6 + 1) 1) == 25 + 1)) = true
    exact row_of _ (y + 4999) 15 _ _ _ (by unfold copJ; omega) (by unfold copJ; omega) (by unfold copJ; omega) (by unfold copJ; omega) (by decide) (by rw [if_neg (by decide)]; omega) (by unfold copJ; omega)
  · omega
  · omega
  · omega
  · omega
  · omega
  · omega
theorem cop_late {y m : Int} (hm : ¬m < 7) (h0 : 0 ≤ m) (h1 : m ≤ 12) :
    (jY (copJ y (m + 1) 1) == y + 283 + (copTab.getD m.toNat (0, 0, 0)).1 && (jM (copJ y (m + 1) 1) == (copTab.getD m.toNat (0, 0, 0)).2.1 && jD (copJ y (m + 1) 1) == (copTab.getD m.toNat (0, 0, 0)).2.2)) = true := by
  rcases m13 h0 h1 with rfl | rfl | rfl | rfl | rfl | rfl | rfl | rfl | rfl | rfl | rfl | rfl | rfl
  · omega
  · omega
  · omega
  · omega
  · omega
  · omega
  · omega
  · show (jY (copJ y (7 + 1) 1) == y + 283 + 1 && (jM (copJ y (7 + 1) 1) == 3 && jD (copJ y (7 + 1) 1) == 27)) = true
    exact row_of _ (y + 5000) 4 _ _ _ (by unfold copJ; omega) (by unfold copJ; omega) (by unfold copJ; omega) (by unfold copJ; omega) (by decide) (by rw [if_pos (by decide)]; omega) (by unfold copJ; omega)
  · show (jY (copJ y (8 + 1) 1) == y + 283 + 1 && (jM (copJ y (8 + 1) 1) == 4 && jD (copJ y (8 + 1) 1) == 26)) = true
    exact row_of _ (y + 5000) 5 _ _ _ (by unfold copJ; omega) (by unfold copJ; omega) (by unfold copJ; omega) (by unfold copJ; omega) (by decide) (by rw [if_pos (by decide)]; omega) (by unfold copJ; omega)
  · show (jY (copJ y (9 + 1) 1) == y + 283 + 1 && (jM (copJ y (9 + 1) 1) == 5 && jD (copJ y (9 + 1) 1) == 26)) = true
    exact row_of _ (y + 5000) 6 _ _ _ (by unfold copJ; omega) (by unfold copJ; omega) (by unfold copJ; omega) (by unfold copJ; omega) (by decide) (by rw [if_pos (by decide)]; omega) (by unfold copJ; omega)
  · show (jY (copJ y (10 + 1) 1) == y + 283 + 1 && (jM (copJ y (10 + 1) 1) == 6 && jD (copJ y (10 + 1) 1) == 25)) = true
    exact row_of _ (y + 5000) 7 _ _ _ (by unfold copJ; omega) (by unfold copJ; omega) (by unfold copJ; omega) (by unfold copJ; omega) (by decide) (by rw [if_pos (by decide)]; omega) (by unfold copJ; omega)
  · show (jY (copJ y (11 + 1) 1) == y + 283 + 1 && (jM (copJ y (11 + 1) 1) == 7 && jD (copJ y (11 + 1) 1) == 25)) = true
    exact row_of _ (y + 5000) 8 _ _ _ (by unfold copJ; omega) (by unfold copJ; omega) (by unfold copJ; omega) (by unfold copJ; omega) (by decide) (by rw [if_pos (by decide)]; omega) (by unfold copJ; omega)
  · show (jY (copJ y (12 + 1) 1) == y + 283 + 1 && (jM (copJ y (12 + 1) 1) == 8 && jD (copJ y (12 + 1) 1) == 24)) = true
    exact row_of _ (y + 5000) 9 _ _ _ (by unfold copJ; omega) (by unfold copJ; omega) (by unfold copJ; omega) (by unfold copJ; omega) (by decide) (by rw [if_pos (by decide)]; omega) (by unfold copJ; omega)
theorem cop_plain {y m : Int} (hy : y % 4 ≠ 0) (h0 : 0 ≤ m) (h1 : m ≤ 12) :
    (jY (copJ y (m + 1) 1) == y + 283 + (copTab.getD m.toNat (0, 0, 0)).1 && (jM (copJ y (m + 1) 1) == (copTab.getD m.toNat (0, 0, 0)).2.1 && jD (copJ y (m + 1) 1) == (copTab.getD m.toNat (0, 0, 0)).2.2)) = true := by
  rcases m13 h0 h1 with rfl | rfl | rfl | rfl | rfl | rfl | rfl | rfl | rfl | rfl | rfl | rfl | rfl
  · show (jY (copJ y (0 + 1) 1) == y + 283 + 0 && (jM (copJ y (0 + 1) 1) == 8 && jD (copJ y (0 + 1) 1) == 29)) = true
    exact row_of _ (y + 4999) 9 _ _ _ (by unfold copJ; omega) (by unfold copJ; omega) (by unfold copJ; omega) (by unfold copJ; omega) (by decide) (by rw [if_pos (by decide)]; omega) (by unfold copJ; omega)
  · show (jY (copJ y (1 + 1) 1) == y + 283 + 0 && (jM (copJ y (1 + 1) 1) == 9 && jD (copJ y (1 + 1) 1) == 28)) = true
    exact row_of _ (y + 4999) 10 _ _ _ (by unfold copJ; omega) (by unfold copJ; omega) (by unfold copJ; omega) (by unfold copJ; omega) (by decide) (by rw [if_pos (by decide)]; omega) (by unfold copJ; omega)
  · show (jY (copJ y (2 + 1) 1) == y + 283 + 0 && (jM (copJ y (2 + 1) 1) == 10 && jD (copJ y (2 + 1) 1) == 28)) = true
    exact row_of _ (y + 4999) 11 _ _ _ (by unfold copJ; omega) (by unfold copJ; omega) (by unfold copJ; omega) (by unfold copJ; omega) (by decide) (by rw [if_pos (by decide)]; omega) (by unfold copJ; omega)
  · show (jY (copJ y (3 + 1) 1) == y + 283 + 0 && (jM (copJ y (3 + 1) 1) == 11 && jD (copJ y (3 + 1) 1) == 27)) = true
    exact row_of _ (y + 4999) 12 _ _ _ (by unfold copJ; omega) (by unfold copJ; omega) (by unfold copJ; omega) (by unfold copJ; omega) (by decide) (by rw [if_pos (by decide)]; omega) (by unfold copJ; omega)
  · show (jY (copJ y (4 + 1) 1) == y + 283 + 0 && (jM (copJ y (4 + 1) 1) == 12 && jD (copJ y (4 + 1) 1) == 27)) = true
    exact row_of _ (y + 4999) 13 _ _ _ (by unfold copJ; omega) (by unfold copJ; omega) (by unfold copJ; omega) (by unfold copJ; omega) (by decide) (by rw [if_pos (by decide)]; omega) (by unfold copJ; omega)
  · show (jY (copJ y (5 + 1) 1) == y + 283 + 1 && (jM (copJ y (5 + 1) 1) == 1 && jD (copJ y (5 + 1) 1) == 26)) = true
    exact row_of _ (y + 4999) 14 _ _ _ (by unfold copJ; omega) (by unfold copJ; omega) (by unfold copJ; omega) (by unfold copJ; omega) (by decide) (by rw [if_neg (by decide)]; omega) (by unfold copJ; omega)
  · show (jY (copJ y (6 + 1) 1) == y + 283 + 1 && (jM (copJ y (6 + 1) 1) == 2 && jD (copJ y (6 + 1) 1) == 25)) = true
    exact row_of _ (y + 4999) 15 _ _ _ (by unfold copJ; omega) (by unfold copJ; omega) (by unfold copJ; omega) (by unfold copJ; omega) (by decide) (by rw [if_neg (by decide)]; omega) (by unfold copJ; omega)
  · show (jY (copJ y (7 + 1) 1) == y + 283 + 1 && (jM (copJ y (7 + 1) 1) == 3 && jD (copJ y (7 + 1) 1) == 27)) = true
    exact row_of _ (y + 5000) 4 _ _ _ (by unfold copJ; omega) (by unfold copJ; omega) (by unfold copJ; omega) (by unfold copJ; omega) (by decide) (by rw [if_pos (by decide)]; omega) (by unfold copJ; omega)
  · show (jY (copJ y (8 + 1) 1) == y + 283 + 1 && (jM (copJ y (8 + 1) 1) == 4 && jD (copJ y (8 + 1) 1) == 26)) = true
    exact row_of _ (y + 5000) 5 _ _ _ (by unfold copJ; omega) (by unfold copJ; omega) (by unfold copJ; omega) (by unfold copJ; omega) (by decide) (by rw [if_pos (by decide)]; omega) (by unfold copJ; omega)
  · show (jY (copJ y (9 + 1) 1) == y + 283 + 1 && (jM (copJ y (9 + 1) 1) == 5 && jD (copJ y (9 + 1) 1) == 26)) = true
    exact row_of _ (y + 5000) 6 _ _ _ (by unfold copJ; omega) (by unfold copJ; omega) (by unfold copJ; omega) (by unfold copJ; omega) (by decide) (by rw [if_pos (by decide)]; omega) (by unfold copJ; omega)
  · show (jY (copJ y (10 + 1) 1) == y + 283 + 1 && (jM (copJ y (10 + 1) 1) == 6 && jD (copJ y (10 + 1) 1) == 25)) = true
    exact row_of _ (y + 5000) 7 _ _ _ (by unfold copJ; omega) (by unfold copJ; omega) (by unfold copJ; omega) (by unfold copJ; omega) (by decide) (by rw [if_pos (by decide)]; omega) (by unfold copJ; omega)
  · show (jY (copJ y (11 + 1) 1) == y + 283 + 1 && (jM (copJ y (11 + 1) 1) == 7 && jD (copJ y (11 + 1) 1) == 25)) = true
    exact row_of _ (y + 5000) 8 _ _ _ (by unfold copJ; omega) (by unfold copJ; omega) (by unfold copJ; omega) (by unfold copJ; omega) (by decide) (by rw [if_pos (by decide)]; omega) (by unfold copJ; omega)
  · show (jY (copJ y (12 + 1) 1) == y + 283 + 1 && (jM (copJ y (12 + 1) 1) == 8 && jD (copJ y (12 + 1) 1) == 24)) = true
    exact row_of _ (y + 5000) 9 _ _ _ (by unfold copJ; omega) (by unfold copJ; omega) (by unfold copJ; omega) (by unfold copJ; omega) (by decide) (by rw [if_pos (by decide)]; omega) (by unfold copJ; omega)
theorem sark_leap {y m : Int} (hy : y % 4 = 0) (hm : 6 < m) (h0 : 0 ≤ m) (h1 : m ≤ 12) :
    (jY (sarkJ y (m + 1) 1) == y + 551 + (sarkTab.getD m.toNat (0, 0, 0)).1 && (jM (sarkJ y (m + 1) 1) == (sarkTab.getD m.toNat (0, 0, 0)).2.1 && jD (sarkJ y (m + 1) 1) == (sarkTab.getD m.toNat (0, 0, 0)).2.2 - 1)) = true := by
  rcases m13 h0 h1 with rfl | rfl | rfl | rfl | rfl | rfl | rfl | rfl | rfl | rfl | rfl | rfl | rfl
  · omega
  · omega
  · omega
  · omega
  · omega
  · omega
  · omega
  · show (jY (sarkJ y (7 + 1) 1) == y + 551 + 1 && (jM (sarkJ y (7 + 1) 1) == 3 && jD (sarkJ y (7 + 1) 1) == 9 - 1)) = true
    exact row_of _ (y + 5268) 4 _ _ _ (by unfold sarkJ; omega) (by unfold sarkJ; omega) (by unfold sarkJ; omega) (by unfold sarkJ; omega) (by decide) (by rw [if_pos (by decide)]; omega) (by unfold sarkJ; omega)
  · show (jY (sarkJ y (8 + 1) 1) == y + 551 + 1 && (jM (sarkJ y (8 + 1) 1) == 4 && jD (sarkJ y (8 + 1) 1) == 8 - 1)) = true
    exact row_of _ (y + 5268) 5 _ _ _ (by unfold sarkJ; omega) (by unfold sarkJ; omega) (by unfold sarkJ; omega) (by unfold sarkJ; omega) (by decide) (by rw [if_pos (by decide)]; omega) (by unfold sarkJ; omega)
  · show (jY (sarkJ y (9 + 1) 1) == y + 551 + 1 && (jM (sarkJ y (9 + 1) 1) == 5 && jD (sarkJ y (9 + 1) 1) == 8 - 1)) = true
    exact row_of _ (y + 5268) 6 _ _ _ (by unfold sarkJ; omega) (by unfold sarkJ; omega) (by unfold sarkJ; omega) (by unfold sarkJ; omega) (by decide) (by rw [if_pos (by decide)]; omega) (by unfold sarkJ; omega)
  · show (jY (sarkJ y (10 + 1) 1) == y + 551 + 1 && (jM (sarkJ y (10 + 1) 1) == 6 && jD (sarkJ y (10 + 1) 1) == 7 - 1)) = true
    exact row_of _ (y + 5268) 7 _ _ _ (by unfold sarkJ; omega) (by unfold sarkJ; omega) (by unfold sarkJ; omega) (by unfold sarkJ; omega) (by decide) (by rw [if_pos (by decide)]; omega) (by unfold sarkJ; omega)
  · show (jY (sarkJ y (11 + 1) 1) == y + 551 + 1 && (jM (sarkJ y (11 + 1) 1) == 7 && jD (sarkJ y (11 + 1) 1) == 7 - 1)) = true
    exact row_of _ (y + 5268) 8 _ _ _ (by unfold sarkJ; omega) (by unfold sarkJ; omega) (by unfold sarkJ; omega) (by unfold sarkJ; omega) (by decide) (by rw [if_pos (by decide)]; omega) (by unfold sarkJ; omega)
  · show (jY (sarkJ y (12 + 1) 1) == y + 551 + 1 && (jM (sarkJ y (12 + 1) 1) == 8 && jD (sarkJ y (12 + 1) 1) == 6 - 1)) = true
    exact row_of _ (y + 5268) 9 _ _ _ (by unfold sarkJ; omega) (by unfold sarkJ; omega) (by unfold sarkJ; omega) (by unfold sarkJ; omega) (by decide) (by rw [if_pos (by decide)]; omega) (by unfold sarkJ; omega)
theorem sark_early {y m : Int} (hm : ¬6 < m) (h0 : 0 ≤ m) (h1 : m ≤ 12) :
    (jY (sarkJ y (m + 1) 1) == y + 551 + (sarkTab.getD m.toNat (0, 0, 0)).1 && (jM (sarkJ y (m + 1) 1) == (sarkTab.getD m.toNat (0, 0, 0)).2.1 && jD (sarkJ y (m + 1) 1) == (sarkTab.getD m.toNat (0, 0, 0)).2.2)) = true := by
  rcases m13 h0 h1 with rfl | rfl | rfl | rfl | rfl | rfl | rfl | rfl | rfl | rfl | rfl | rfl | rfl
  · show (jY (sarkJ y (0 + 1) 1) == y + 551 + 0 && (jM (sarkJ y (0 + 1) 1) == 8 && jD (sarkJ y (0 + 1) 1) == 11)) = true
    exact row_of _ (y + 5267) 9 _ _ _ (by unfold sarkJ; omega) (by unfold sarkJ; omega) (by unfold sarkJ; omega) (by unfold sarkJ; omega) (by decide) (by rw [if_pos (by decide)]; omega) (by unfold sarkJ; omega)
  · show (jY (sarkJ y (1 + 1) 1) == y + 551 + 0 && (jM (sarkJ y (1 + 1) 1) == 9 && jD (sarkJ y (1 + 1) 1) == 10)) = true
    exact row_of _ (y + 5267) 10 _ _ _ (by unfold sarkJ; omega) (by unfold sarkJ; omega) (by unfold sarkJ; omega) (by unfold sarkJ; omega) (by decide) (by rw [if_pos (by decide)]; omega) (by unfold sarkJ; omega)
  · show (jY (sarkJ y (2 + 1) 1) == y + 551 + 0 && (jM (sarkJ y (2 + 1) 1) == 10 && jD (sarkJ y (2 + 1) 1) == 10)) = true
    exact row_of _ (y + 5267) 11 _ _ _ (by unfold sarkJ; omega) (by unfold sarkJ; omega) (by unfold sarkJ; omega) (by unfold sarkJ; omega) (by decide) (by rw [if_pos (by decide)]; omega) (by unfold sarkJ; omega)
  · show (jY (sarkJ y (3 + 1) 1) == y + 551 + 0 && (jM (sarkJ y (3 + 1) 1) == 11 && jD (sarkJ y (3 + 1) 1) == 9)) = true
    exact row_of _ (y + 5267) 12 _ _ _ (by unfold sarkJ; omega) (by unfold sarkJ; omega) (by unfold sarkJ; omega) (by unfold sarkJ; omega) (by decide) (by rw [if_pos (by decide)]; omega) (by unfold sarkJ; omega)
  · show (jY (sarkJ y (4 + 1) 1) == y + 551 + 0 && (jM (sarkJ y (4 + 1) 1) == 12 && jD (sarkJ y (4 + 1) 1) == 9)) = true
    exact row_of _ (y + 5267) 13 _ _ _ (by unfold sarkJ; omega) (by unfold sarkJ; omega) (by unfold sarkJ; omega) (by unfold sarkJ; omega) (by decide) (by rw [if_pos (by decide)]; omega) (by unfold sarkJ; omega)
  · show (jY (sarkJ y (5 + 1) 1) == y + 551 + 1 && (jM (sarkJ y (5 + 1) 1) == 1 && jD (sarkJ y (5 + 1) 1) == 8)) = true
    exact row_of _ (y + 5267) 14 _ _ _ (by unfold sarkJ; omega) (by unfold sarkJ; omega) (by unfold sarkJ; omega) (by unfold sarkJ; omega) (by decide) (by rw [if_neg (by decide)]; omega) (by unfold sarkJ; omega)
  · show (jY (sarkJ y (6 + 1) 1) == y + 551 + 1 && (jM (sarkJ y (6 + 1) 1) == 2 && jD (sarkJ y (6 + 1) 1) == 7)) = true
    exact row_of _ (y + 5267) 15 _ _ _ (by unfold sarkJ; omega) (by unfold sarkJ; omega) (by unfold sarkJ; omega) (by unfold sarkJ; omega) (by decide) (by rw [if_neg (by decide)]; omega) (by unfold sarkJ; omega)
  · omega
  · omega
  · omega
  · omega
  · omega
  · omega
theorem sark_plain {y m : Int} (hy : y % 4 ≠ 0) (h0 : 0 ≤ m) (h1 : m ≤ 12) :
    (jY (sarkJ y (m + 1) 1) == y + 551 + (sarkTab.getD m.toNat (0, 0, 0)).1 && (jM (sarkJ y (m + 1) 1) == (sarkTab.getD m.toNat (0, 0, 0)).2.1 && jD (sarkJ y (m + 1) 1) == (sarkTab.getD m.toNat (0, 0, 0)).2.2)) = true := by
  rcases m13 h0 h1 with rfl | rfl | rfl | rfl | rfl | rfl | rfl | rfl | rfl | rfl | rfl | rfl | rfl
  · show (jY (sarkJ y (0 + 1) 1) == y + 551 + 0 && (jM (sarkJ y (0 + 1) 1) == 8 && jD (sarkJ y (0 + 1) 1) == 11)) = true
    exact row_of _ (y + 5267) 9 _ _ _ (by unfold sarkJ; omega) (by unfold sarkJ; omega) (by unfold sarkJ; omega) (by unfold sarkJ; omega) (by decide) (by rw [if_pos (by decide)]; omega) (by unfold sarkJ; obtain ⟨q, hq⟩ := three hy; rcases hq with rfl | rfl | rfl <;> omega)
  · show (jY (sarkJ y (1 + 1) 1) == y + 551 + 0 && (jM (sarkJ y (1 + 1) 1) == 9 && jD (sarkJ y (1 + 1) 1) == 10)) = true
    exact row_of _ (y + 5267) 10 _ _ _ (by unfold sarkJ; omega) (by unfold sarkJ; omega) (by unfold sarkJ; omega) (by unfold sarkJ; omega) (by decide) (by rw [if_pos (by decide)]; omega) (by unfold sarkJ; obtain ⟨q, hq⟩ := three hy; rcases hq with rfl | rfl | rfl <;> omega)
  · show (jY (sarkJ y (2 + 1) 1) == y + 551 + 0 && (jM (sarkJ y (2 + 1) 1) == 10 && jD (sarkJ y (2 + 1) 1) == 10)) = true
    exact row_of _ (y + 5267) 11 _ _ _ (by unfold sarkJ; omega) (by unfold sarkJ; omega) (by unfold sarkJ; omega) (by unfold sarkJ; omega) (by decide) (by rw [if_pos (by decide)]; omega) (by unfold sarkJ; obtain ⟨q, hq⟩ := three hy; rcases hq with rfl | rfl | rfl <;> omega)
  · show (jY (sarkJ y (3 + 1) 1) == y + 551 + 0 && (jM (sarkJ y (3 + 1) 1) == 11 && jD (sarkJ y (3 + 1) 1) == 9)) = true
    exact row_of _ (y + 5267) 12 _ _ _ (by unfold sarkJ; omega) (by unfold sarkJ; omega) (by unfold sarkJ; omega) (by unfold sarkJ; omega) (by decide) (by rw [if_pos (by decide)]; omega) (by unfold sarkJ; obtain ⟨q, hq⟩ := three hy; rcases hq with rfl | rfl | rfl <;> omega)
  · show (jY (sarkJ y (4 + 1) 1) == y + 551 + 0 && (jM (sarkJ y (4 + 1) 1) == 12 && jD (sarkJ y (4 + 1) 1) == 9)) = true
    exact row_of _ (y + 5267) 13 _ _ _ (by unfold sarkJ; omega) (by unfold sarkJ; omega) (by unfold sarkJ; omega) (by unfold sarkJ; omega) (by decide) (by rw [if_pos (by decide)]; omega) (by unfold sarkJ; obtain ⟨q, hq⟩ := three hy; rcases hq with rfl | rfl | rfl <;> omega)
  · show (jY (sarkJ y (5 + 1) 1) == y + 551 + 1 && (jM (sarkJ y (5 + 1) 1) == 1 && jD (sarkJ y (5 + 1) 1) == 8)) = true
    exact row_of _ (y + 5267) 14 _ _ _ (by unfold sarkJ; omega) (by unfold sarkJ; omega) (by unfold sarkJ; omega) (by unfold sarkJ; omega) (by decide) (by rw [if_neg (by decide)]; omega) (by unfold sarkJ; obtain ⟨q, hq⟩ := three hy; rcases hq with rfl | rfl | rfl <;> omega)
  · show (jY (sarkJ y (6 + 1) 1) == y + 551 + 1 && (jM (sarkJ y (6 + 1) 1) == 2 && jD (sarkJ y (6 + 1) 1) == 7)) = true
    exact row_of _ (y + 5267) 15 _ _ _ (by unfold sarkJ; omega) (by unfold sarkJ; omega) (by unfold sarkJ; omega) (by unfold sarkJ; omega) (by decide) (by rw [if_neg (by decide)]; omega) (by unfold sarkJ; obtain ⟨q, hq⟩ := three hy; rcases hq with rfl | rfl | rfl <;> omega)
  · show (jY (sarkJ y (7 + 1) 1) == y + 551 + 1 && (jM (sarkJ y (7 + 1) 1) == 3 && jD (sarkJ y (7 + 1) 1) == 9)) = true
    exact row_of _ (y + 5268) 4 _ _ _ (by unfold sarkJ; omega) (by unfold sarkJ; omega) (by unfold sarkJ; omega) (by unfold sarkJ; omega) (by decide) (by rw [if_pos (by decide)]; omega) (by unfold sarkJ; obtain ⟨q, hq⟩ := three hy; rcases hq with rfl | rfl | rfl <;> omega)
  · show (jY (sarkJ y (8 + 1) 1) == y + 551 + 1 && (jM (sarkJ y (8 + 1) 1) == 4 && jD (sarkJ y (8 + 1) 1) == 8)) = true
    exact row_of _ (y + 5268) 5 _ _ _ (by unfold sarkJ; omega) (by unfold sarkJ; omega) (by unfold sarkJ; omega) (by unfold sarkJ; omega) (by decide) (by rw [if_pos (by decide)]; omega) (by unfold sarkJ; obtain ⟨q, hq⟩ := three hy; rcases hq with rfl | rfl | rfl <;> omega)
  · show (jY (sarkJ y (9 + 1) 1) == y + 551 + 1 && (jM (sarkJ y (9 + 1) 1) == 5 && jD (sarkJ y (9 + 1) 1) == 8)) = true
    exact row_of _ (y + 5268) 6 _ _ _ (by unfold sarkJ; omega) (by unfold sarkJ; omega) (by unfold sarkJ; omega) (by unfold sarkJ; omega) (by decide) (by rw [if_pos (by decide)]; omega) (by unfold sarkJ; obtain ⟨q, hq⟩ := three hy; rcases hq with rfl | rfl | rfl <;> omega)
  · show (jY (sarkJ y (10 + 1) 1) == y + 551 + 1 && (jM (sarkJ y (10 + 1) 1) == 6 && jD (sarkJ y (10 + 1) 1) == 7)) = true
    exact row_of _ (y + 5268) 7 _ _ _ (by unfold sarkJ; omega) (by unfold sarkJ; omega) (by unfold sarkJ; omega) (by unfold sarkJ; omega) (by decide) (by rw [if_pos (by decide)]; omega) (by unfold sarkJ; obtain ⟨q, hq⟩ := three hy; rcases hq with rfl | rfl | rfl <;> omega)
  · show (jY (sarkJ y (11 + 1) 1) == y + 551 + 1 && (jM (sarkJ y (11 + 1) 1) == 7 && jD (sarkJ y (11 + 1) 1) == 7)) = true
    exact row_of _ (y + 5268) 8 _ _ _ (by unfold sarkJ; omega) (by unfold sarkJ; omega) (by unfold sarkJ; omega) (by unfold sarkJ; omega) (by decide) (by rw [if_pos (by decide)]; omega) (by unfold sarkJ; obtain ⟨q, hq⟩ := three hy; rcases hq with rfl | rfl | rfl <;> omega)
  · show (jY (sarkJ y (12 + 1) 1) == y + 551 + 1 && (jM (sarkJ y (12 + 1) 1) == 8 && jD (sarkJ y (12 + 1) 1) == 6)) = true
    exact row_of _ (y + 5268) 9 _ _ _ (by unfold sarkJ; omega) (by unfold sarkJ; omega) (by unfold sarkJ; omega) (by unfold sarkJ; omega) (by decide) (by rw [if_pos (by decide)]; omega) (by unfold sarkJ; obtain ⟨q, hq⟩ := three hy; rcases hq with rfl | rfl | rfl <;> omega)
theorem pre_ok {x r : Int} (hx : 1922503 ≤ x) (hr : 0 ≤ r) : (0 < jD x ∧ jD x ≤ mlen (jY x + 1460 * r) (jM x)) ∧ 1922503 ≤ toJ (jY x + 1460 * r) (jM x) (jD x) := by
  obtain ⟨a, b, c⟩ := back x r
  exact ⟨⟨b, c⟩, by omega⟩
theorem round_trip {y m d r : Int} (hm : 0 ≤ m) (hd : 0 ≤ d) (hs : m * 30 + d ≤ 364) (hd' : d < 30) :
    (aY (toJ (jY (looseJ y (m + 1) (1 + d)) + 1460 * r) (jM (looseJ y (m + 1) (1 + d))) (jD (looseJ y (m + 1) (1 + d)))) == y + 1461 * r &&
      (aM (toJ (jY (looseJ y (m + 1) (1 + d)) + 1460 * r) (jM (looseJ y (m + 1) (1 + d))) (jD (looseJ y (m + 1) (1 + d)))) == m + 1 &&
       aD (toJ (jY (looseJ y (m + 1) (1 + d)) + 1460 * r) (jM (looseJ y (m + 1) (1 + d))) (jD (looseJ y (m + 1) (1 + d)))) == 1 + d)) = true := by
  rw [(back _ r).1]
  have e1 : aY (looseJ y (m + 1) (1 + d) + 533265 * r) = y + 1461 * r := by unfold aY looseJ; omega
  have e2 : aM (looseJ y (m + 1) (1 + d) + 533265 * r) = m + 1 := by
    unfold aM looseJ
    have : (1922502 + 365 * y + ((m + 1 - 1) * 30 + (1 + d)) + 533265 * r - 1922502 - 1) % 365 = m * 30 + d := by omega
    rw [this]; omega
  have e3 : aD (looseJ y (m + 1) (1 + d) + 533265 * r) = 1 + d := by
    unfold aD looseJ
    have h1 : (1922502 + 365 * y + ((m + 1 - 1) * 30 + (1 + d)) + 533265 * r - 1922502 - 1) % 365 = m * 30 + d := by omega
    have h2 : (1922502 + 365 * y + ((m + 1 - 1) * 30 + (1 + d)) + 533265 * r - 1922502 - 1) / 365 = y + 1461 * r := by omega
    rw [h1, h2]; omega
  rw [e1, e2, e3]
  simp

/-! # The walk: each def once -/
local macro_rules | `(tactic| walk_at "call builtin:abs") => `(tactic| first
  | ((with_reducible refine' abs_pos ?a0 ?_; (case a0 => omega)); intro _ _)
  | ((with_reducible refine abs_any ?_); intro _ _))
local macro_rules | `(tactic| walk_at "binaryOp FloorDiv int int") => `(tactic| ((with_reducible refine' div_pos ?d0 ?d1 ?_); (case d0 => omega); (case d1 => omega)))
local macro_rules | `(tactic| walk_at "binaryOp Mod int int") => `(tactic| ((with_reducible refine' mod_pos ?d0 ?_); (case d0 => omega)))
local macro_rules | `(tactic| walk_at "compareOp In int ref") => `(tactic| (k_here; k_dflt (refine' in_tuple_ints ?k1 ?k2 ?_; (case k1 => exact kun_topT (by k_asm) (by k_asm) (by k_is)); (case k2 => repeat constructor); k_whole)))
local macro_rules | `(tactic| walk_at "eval Call") => `(tactic| ((with_reducible show wpAny _ _ (eval (Expr.Call (Expr.Name (Str.ofString "trunc") _) _ [] _) _) _ _ _); k_dflt (refine Call_ ?_)))
local macro_rules | `(tactic| units_room) => `(tactic| ktr_units)
local macro_rules | `(tactic| walk_at "mine sub") => `(tactic| (intro p hp; repeat (first | exact hp | refine List.mem_cons_of_mem _ ?_)))
local macro_rules | `(tactic| walk_at "mine pre") => `(tactic| first
  | exact True.intro
  | ((with_reducible refine' pre_ok ?a ?b); (case a => ((unfold looseJ); omega)); (case b => omega))
  | omega
  | (with_reducible assumption)
  | ((try dsimp only); omega))
local macro_rules | `(tactic| walk_at "mine back") => `(tactic| first
  | ((with_reducible show RetV _ _ _ _ _ _ _); dsimp only [RetV]; intro t9 h9 tk9 F9 N9)
  | ((with_reducible show RetT _ _ _ _ _ _ _ _ _); dsimp only [RetT]; intro D9 t9 u9 v9 c9 h9 tk9 F9 N9 l9; dsimp only [tup3] at N9)
  | ((with_reducible show RetTab _ _ _ _ _ _ _); dsimp only [RetTab]; intro D9 es9 n9 h9 tk9 F9 N9 R9))
local macro_rules | `(tactic| walk_at "mine eq") => `(tactic| first
  | (with_reducible rfl)
  | rfl
  | ((simp only [jY, jM, jD, je, jd, jc]); (try simp only [List.any_cons, List.any_nil] at *); (repeat' split) <;> omega)
  | ((unfold mlen); (simp_all); done)
  | ((unfold mlen); (simp_all); omega)
  | ((simp only [toJ]); (repeat' split) <;> omega)
  | ((try simp only [copJ, sarkJ, looseJ, aY, aM, aD]); omega)
  | (simp_all; done)
  | (exfalso; simp_all; omega))
local macro_rules | `(tactic| walk_at "mine enter") => `(tactic| k_dflt (
  refine' code_def ?k1 ?k2 ?k3 ?k4 ?k5 ?kA ?kF ?kK ?k6 ?k7 ?k8 ?k9 ?kB ?_ ?c2 ?c3 ?c4 ?c5;
  (case kA => exact rfl); (case kF => exact rfl); (case kK => assumption);
  (case k1 => k_asm); (case k2 => k_asm); (case k3 => k_asm); (case k4 => k_asm); (case k5 => k_asm);
  (case k6 => k_is); (case k7 => k_is); (case k8 => ktr_room);
  (case k9 => first | exact BindsTo.of_eq rfl | exact binds_K (by k_in) rfl (by k_is) rfl rfl rfl);
  (case c5 => decide); (case kB => exact locs rfl); (case c2 => exact rfl); (case c3 => exact rfl); (case c4 => exact rfl);
  k_whole; intro g' L' h' FG' F' N' B' X' T'; (try dsimp only); (try k_lift B'); (try k_fold)))
local macro_rules | `(tactic| walk_at "mine walk") => `(tactic| (
  dsimp only [Claim, RetV, RetT]
  intros
  rename_i hret
  refine wpAny_call ?_
  walk_at "mine enter"
  k_steps
  all_goals first
    | (refine' endI hret ?e1 ?e2 ?e3 ?e4; (case e2 => k_asm); (case e3 => k_asm); (case e4 => walk_at "mine sub"); (case e1 => walk_at "mine eq"))
    | (refine' endB hret ?e1 ?e2 ?e3 ?e4; (case e2 => k_asm); (case e3 => k_asm); (case e4 => walk_at "mine sub"); (case e1 => walk_at "mine eq"))
    | (refine' endT hret ?e1 ?e2 ?e3 ?e4 ?e5 ?e6 ?e7 ?e8; (case e4 => k_asm); (case e5 => k_asm); (case e6 => first | exact List.Mem.head _ | k_mem); (case e7 => walk_at "mine sub"); (case e8 => first | assumption | exact allLt_of (by assumption)); (case e1 => walk_at "mine eq"); (case e2 => walk_at "mine eq"); (case e3 => walk_at "mine eq"))))
local macro_rules | `(tactic| walk_at "mine rows") => `(tactic| (repeat' (first | exact Rows.nil | refine' Rows.cons ?_)))
local macro_rules | `(tactic| walk_at "mine each") => `(tactic| (repeat' (first | exact List.forall_mem_nil _ | refine List.forall_mem_cons.mpr ⟨?_, ?_⟩)))
local macro_rules | `(tactic| walk_at "mine tab") => `(tactic| (
  dsimp only [Claim, RetTab]
  intros
  rename_i hret
  refine wpAny_call ?_
  walk_at "mine enter"
  k_steps
  all_goals (refine' endTab hret ?r ?f ?n ?hm ?hes ?sub; (case' r => walk_at "mine rows"); (case f => k_asm); (case n => k_asm); (case hm => exact List.Mem.head _); (case hes => walk_at "mine each" <;> k_mem); (case sub => walk_at "mine sub"))))

/-- utils.trunc -/
theorem c_trunc (w : World) {loose : List Str} {mean : ExcName → Option Value} {mg mb : Map} (a : Int) (t : Tok) (b : Int) (u : Tok) (news : Led) :
    Claim PySem.Challenge.rw_bb0031_01.row.prog w (hd.heap_39 w.params) hd.view_39 loose mean mg mb 21 1 news (0 ≤ a ∧ 0 < b ∧ b < 1073741824) [.int a t, .int b u] (RetV fun t => .int (a / b) t) := by
  walk_at "mine walk"
/-- julian.leap -/
theorem c_leap_julian (w : World) {loose : List Str} {mean : ExcName → Option Value} {mg mb : Map} (a : Int) (t : Tok) (news : Led) :
    Claim PySem.Challenge.rw_bb0031_01.row.prog w (hd.heap_39 w.params) hd.view_39 loose mean mg mb 29 1 news (True) [.int a t] (RetV fun _ => .bool (decide (a % 4 = 0))) := by
  walk_at "mine walk"
/-- armenian.leap -/
theorem c_leap_armenian (w : World) {loose : List Str} {mean : ExcName → Option Value} {mg mb : Map} (y : Int) (t : Tok) (news : Led) :
    Claim PySem.Challenge.rw_bb0031_01.row.prog w (hd.heap_39 w.params) hd.view_39 loose mean mg mb 72 1 news (533 ≤ y) [.int y t] (RetV fun _ => .bool (decide (y % 4 = 0))) := by
  walk_at "mine walk"
/-- julian.from_jd -/
theorem c_from_jd (w : World) {loose : List Str} {mean : ExcName → Option Value} {mg mb : Map} (x : Int) (t : Tok) (news : Led) :
    Claim PySem.Challenge.rw_bb0031_01.row.prog w (hd.heap_39 w.params) hd.view_39 loose mean mg mb 50 1 news (True) [.int x t] (RetT (jY x) (jM x) (jD x)) := by
  walk_at "mine walk"
/-- coptic.to_jd -/
theorem c_to_jd_coptic (w : World) {loose : List Str} {mean : ExcName → Option Value} {mg mb : Map} (y : Int) (t : Tok) (m : Int) (u : Tok) (d : Int) (v : Tok) (news : Led) :
    Claim PySem.Challenge.rw_bb0031_01.row.prog w (hd.heap_39 w.params) hd.view_39 loose mean mg mb 111 1 news (True) [.int y t, .int m u, .int d v] (RetV fun t => .int (copJ y m d) t) := by
  walk_at "mine walk"
local macro_rules | `(tactic| walk_at "call ref") => `(tactic| (k_here; k_dflt (
  (first
    | refine' use (c_leap_julian _ _ _ _) ?k1 ?k2 ?k3 ?k4 ?k5 ?kK ?kp ?kd ?ku ?_);
  (case k1 => k_asm); (case k2 => k_asm); (case k3 => k_asm); (case k4 => k_asm); (case k5 => k_asm); (case kK => first | exact rfl | assumption);
  (case kp => walk_at "mine pre"); (case kd => ktr_room); (case ku => ktr_units);
  walk_at "mine back"; (try dsimp only); (try k_fold))))
/-- julian.month_length -/
theorem c_month_length (w : World) {loose : List Str} {mean : ExcName → Option Value} {mg mb : Map} (y : Int) (t : Tok) (m : Int) (u : Tok) (news : Led) :
    Claim PySem.Challenge.rw_bb0031_01.row.prog w (hd.heap_39 w.params) hd.view_39 loose mean mg mb 36 2 news (True) [.int y t, .int m u] (RetV fun t => .int (mlen y m) t) := by
  walk_at "mine walk"
local macro_rules | `(tactic| walk_at "call ref") => `(tactic| (k_here; k_dflt (
  (first
    | refine' use (c_month_length _ _ _ _ _ _) ?k1 ?k2 ?k3 ?k4 ?k5 ?kK ?kp ?kd ?ku ?_);
  (case k1 => k_asm); (case k2 => k_asm); (case k3 => k_asm); (case k4 => k_asm); (case k5 => k_asm); (case kK => first | exact rfl | assumption);
  (case kp => walk_at "mine pre"); (case kd => ktr_room); (case ku => ktr_units);
  walk_at "mine back"; (try dsimp only); (try k_fold))))
/-- julian.legal_date, of a date that there is -/
theorem c_legal_date (w : World) {loose : List Str} {mean : ExcName → Option Value} {mg mb : Map} (y : Int) (t : Tok) (m : Int) (u : Tok) (d : Int) (v : Tok) (news : Led) :
    Claim PySem.Challenge.rw_bb0031_01.row.prog w (hd.heap_39 w.params) hd.view_39 loose mean mg mb 43 3 news (0 < d ∧ d ≤ mlen y m) [.int y t, .int m u, .int d v] (RetV fun _ => .bool true) := by
  walk_at "mine walk"
local macro_rules | `(tactic| walk_at "call ref") => `(tactic| (k_here; k_dflt (
  (first
    | refine' use (c_legal_date _ _ _ _ _ _ _ _) ?k1 ?k2 ?k3 ?k4 ?k5 ?kK ?kp ?kd ?ku ?_);
  (case k1 => k_asm); (case k2 => k_asm); (case k3 => k_asm); (case k4 => k_asm); (case k5 => k_asm); (case kK => first | exact rfl | assumption);
  (case kp => walk_at "mine pre"); (case kd => ktr_room); (case ku => ktr_units);
  walk_at "mine back"; (try dsimp only); (try k_fold))))
/-- julian.to_jd, of a date that there is -/
theorem c_to_jd_julian (w : World) {loose : List Str} {mean : ExcName → Option Value} {mg mb : Map} (y : Int) (t : Tok) (m : Int) (u : Tok) (d : Int) (v : Tok) (news : Led) :
    Claim PySem.Challenge.rw_bb0031_01.row.prog w (hd.heap_39 w.params) hd.view_39 loose mean mg mb 57 4 news (0 < d ∧ d ≤ mlen y m) [.int y t, .int m u, .int d v] (RetV fun t => .int (toJ y m d) t) := by
  walk_at "mine walk"
local macro_rules | `(tactic| walk_at "call ref") => `(tactic| (k_here; k_dflt (
  (first
    | refine' use (c_leap_armenian _ _ _ _) ?k1 ?k2 ?k3 ?k4 ?k5 ?kK ?kp ?kd ?ku ?_);
  (case k1 => k_asm); (case k2 => k_asm); (case k3 => k_asm); (case k4 => k_asm); (case k5 => k_asm); (case kK => first | exact rfl | assumption);
  (case kp => walk_at "mine pre"); (case kd => ktr_room); (case ku => ktr_units);
  walk_at "mine back"; (try dsimp only); (try k_fold))))
/-- armenian._valid_date, by Sarkawag's method -/
theorem c_valid_sark (w : World) {loose : List Str} {mean : ExcName → Option Value} {mg mb : Map} (y : Int) (t : Tok) (m : Int) (u : Tok) (d : Int) (v : Tok) (q : Tok) (news : Led) :
    Claim PySem.Challenge.rw_bb0031_01.row.prog w (hd.heap_39 w.params) hd.view_39 loose mean mg mb 65 2 news (533 ≤ y ∧ 1 ≤ m ∧ m ≤ 13 ∧ 1 ≤ d ∧ d ≤ 30 ∧ (m = 13 → d ≤ 5)) [.int y t, .int m u, .int d v, .str (Str.ofString "sarkawag") q] (RetV fun _ => .bool true) := by
  walk_at "mine walk"
/-- armenian._valid_date, the loose year -/
theorem c_valid_none (w : World) {loose : List Str} {mean : ExcName → Option Value} {mg mb : Map} (y : Int) (t : Tok) (m : Int) (u : Tok) (d : Int) (v : Tok) (news : Led) :
    Claim PySem.Challenge.rw_bb0031_01.row.prog w (hd.heap_39 w.params) hd.view_39 loose mean mg mb 65 2 news (1 ≤ y ∧ 1 ≤ m ∧ m ≤ 13 ∧ 1 ≤ d ∧ d ≤ 30 ∧ (m = 13 → d ≤ 5)) [.int y t, .int m u, .int d v, .none] (RetV fun _ => .bool true) := by
  walk_at "mine walk"
local macro_rules | `(tactic| walk_at "call ref") => `(tactic| (k_here; k_dflt (
  (first
    | refine' use (c_trunc _ _ _ _ _ _) ?k1 ?k2 ?k3 ?k4 ?k5 ?kK ?kp ?kd ?ku ?_
    | refine' use (c_valid_sark _ _ _ _ _ _ _ _ _) ?k1 ?k2 ?k3 ?k4 ?k5 ?kK ?kp ?kd ?ku ?_
    | refine' use (c_valid_none _ _ _ _ _ _ _ _) ?k1 ?k2 ?k3 ?k4 ?k5 ?kK ?kp ?kd ?ku ?_);
  (case k1 => k_asm); (case k2 => k_asm); (case k3 => k_asm); (case k4 => k_asm); (case k5 => k_asm); (case kK => first | exact rfl | assumption);
  (case kp => walk_at "mine pre"); (case kd => ktr_room); (case ku => ktr_units);
  walk_at "mine back"; (try dsimp only); (try k_fold))))
/-- armenian.to_jd, by Sarkawag's method -/
theorem c_ajd_sark (w : World) {loose : List Str} {mean : ExcName → Option Value} {mg mb : Map} (y : Int) (t : Tok) (m : Int) (u : Tok) (d : Int) (v : Tok) (q : Tok) (news : Led) :
    Claim PySem.Challenge.rw_bb0031_01.row.prog w (hd.heap_39 w.params) hd.view_39 loose mean mg mb 80 3 news (533 ≤ y ∧ 1 ≤ m ∧ m ≤ 13 ∧ 1 ≤ d ∧ d ≤ 30 ∧ (m = 13 → d ≤ 5)) [.int y t, .int m u, .int d v, .str (Str.ofString "sarkawag") q] (RetV fun t => .int (sarkJ y m d) t) := by
  walk_at "mine walk"
/-- armenian.to_jd, the loose year -/
theorem c_ajd_none (w : World) {loose : List Str} {mean : ExcName → Option Value} {mg mb : Map} (y : Int) (t : Tok) (m : Int) (u : Tok) (d : Int) (v : Tok) (news : Led) :
    Claim PySem.Challenge.rw_bb0031_01.row.prog w (hd.heap_39 w.params) hd.view_39 loose mean mg mb 80 3 news (1 ≤ y ∧ 1 ≤ m ∧ m ≤ 13 ∧ 1 ≤ d ∧ d ≤ 30 ∧ (m = 13 → d ≤ 5)) [.int y t, .int m u, .int d v, .none] (RetV fun t => .int (looseJ y m d) t) := by
  walk_at "mine walk"
/-- armenian.from_jd, the loose year -/
theorem c_from_ajd (w : World) {loose : List Str} {mean : ExcName → Option Value} {mg mb : Map} (x : Int) (t : Tok) (news : Led) :
    Claim PySem.Challenge.rw_bb0031_01.row.prog w (hd.heap_39 w.params) hd.view_39 loose mean mg mb 88 2 news (1922503 ≤ x) [.int x t, .none] (RetT (aY x) (aM x) (aD x)) := by
  walk_at "mine walk"
local macro_rules | `(tactic| walk_at "call ref") => `(tactic| (k_here; k_dflt (
  (first
    | refine' use (c_ajd_sark _ _ _ _ _ _ _ _ _) ?k1 ?k2 ?k3 ?k4 ?k5 ?kK ?kp ?kd ?ku ?_
    | refine' use (c_ajd_none _ _ _ _ _ _ _ _) ?k1 ?k2 ?k3 ?k4 ?k5 ?kK ?kp ?kd ?ku ?_
    | refine' use (c_from_jd _ _ _ _) ?k1 ?k2 ?k3 ?k4 ?k5 ?kK ?kp ?kd ?ku ?_
    | refine' use (c_from_ajd _ _ _ _) ?k1 ?k2 ?k3 ?k4 ?k5 ?kK ?kp ?kd ?ku ?_
    | refine' use (c_to_jd_julian _ _ _ _ _ _ _ _) ?k1 ?k2 ?k3 ?k4 ?k5 ?kK ?kp ?kd ?ku ?_);
  (case k1 => k_asm); (case k2 => k_asm); (case k3 => k_asm); (case k4 => k_asm); (case k5 => k_asm); (case kK => first | exact rfl | assumption);
  (case kp => walk_at "mine pre"); (case kd => ktr_room); (case ku => ktr_units);
  walk_at "mine back"; (try dsimp only); (try k_fold))))
/-- armenian.to_julian, by Sarkawag's method -/
theorem c_to_julian_sark (w : World) {loose : List Str} {mean : ExcName → Option Value} {mg mb : Map} (y : Int) (t : Tok) (m : Int) (u : Tok) (d : Int) (v : Tok) (q : Tok) (news : Led) :
    Claim PySem.Challenge.rw_bb0031_01.row.prog w (hd.heap_39 w.params) hd.view_39 loose mean mg mb 96 4 news (533 ≤ y ∧ 1 ≤ m ∧ m ≤ 13 ∧ 1 ≤ d ∧ d ≤ 30 ∧ (m = 13 → d ≤ 5)) [.int y t, .int m u, .int d v, .str (Str.ofString "sarkawag") q] (RetT (jY (sarkJ y m d)) (jM (sarkJ y m d)) (jD (sarkJ y m d))) := by
  walk_at "mine walk"
/-- armenian.to_julian, the loose year -/
theorem c_to_julian_none (w : World) {loose : List Str} {mean : ExcName → Option Value} {mg mb : Map} (y : Int) (t : Tok) (m : Int) (u : Tok) (d : Int) (v : Tok) (news : Led) :
    Claim PySem.Challenge.rw_bb0031_01.row.prog w (hd.heap_39 w.params) hd.view_39 loose mean mg mb 96 4 news (1 ≤ y ∧ 1 ≤ m ∧ m ≤ 13 ∧ 1 ≤ d ∧ d ≤ 30 ∧ (m = 13 → d ≤ 5)) [.int y t, .int m u, .int d v] (RetT (jY (looseJ y m d)) (jM (looseJ y m d)) (jD (looseJ y m d))) := by
  walk_at "mine walk"
/-- armenian.from_julian, the loose year -/
theorem c_from_julian (w : World) {loose : List Str} {mean : ExcName → Option Value} {mg mb : Map} (y : Int) (t : Tok) (m : Int) (u : Tok) (d : Int) (v : Tok) (news : Led) :
    Claim PySem.Challenge.rw_bb0031_01.row.prog w (hd.heap_39 w.params) hd.view_39 loose mean mg mb 104 5 news ((0 < d ∧ d ≤ mlen y m) ∧ 1922503 ≤ toJ y m d) [.int y t, .int m u, .int d v] (RetT (aY (toJ y m d)) (aM (toJ y m d)) (aD (toJ y m d))) := by
  walk_at "mine walk"
/-- the law's first table -/
theorem c_law_coptic (w : World) {loose : List Str} {mean : ExcName → Option Value} {mg mb : Map}  (news : Led) :
    Claim PySem.Challenge.rw_bb0031_01.row.prog w (hd.heap_39 w.params) hd.view_39 loose mean mg mb 118 1 news (True) [] (RetTab copTab) := by
  walk_at "mine tab"
/-- the law's second table -/
theorem c_law_sarkawag (w : World) {loose : List Str} {mean : ExcName → Option Value} {mg mb : Map}  (news : Led) :
    Claim PySem.Challenge.rw_bb0031_01.row.prog w (hd.heap_39 w.params) hd.view_39 loose mean mg mb 125 1 news (True) [] (RetTab sarkTab) := by
  walk_at "mine tab"

/-! # One month of the law -/
theorem eqv3 (x y z x' y' z' : Int) : PyData.eqv (.tuple [.int x, .int y, .int z]) (.tuple [.int x', .int y', .int z']) = (x == x' && (y == y' && z == z')) := by
  simp [PyData.eqv, PyData.eqvAll]
theorem reads3 {h : Heap} {h₀ : Heap} {L a : Addr} {news : Led} {x y z : Int} {t u v : Tok} {c : Nat} (N : News h₀ L h news) (ha : (a, tup3 x y z t u v c) ∈ news) :
    ∃ as, Reads h (.ref a) (.tuple [.int x, .int y, .int z]) as :=
  ⟨_, reads_tuple_at (N.get ha) rfl rfl (ReadsAll.cons (Reads.int _ _) (ReadsAll.cons (Reads.int _ _) (ReadsAll.cons (Reads.int _ _) ReadsAll.nil)))⟩
theorem ne3 {prog : Program} {w : World} {A : Around} {E Q : Post} {s : Shared} {h₀ : Heap} {L a b : Addr} {news : Led} {x y z x' y' z' : Int} {t u v t' u' v' : Tok} {c c' : Nat}
    (N : News h₀ L s.heap news) (ha : (a, tup3 x y z t u v c) ∈ news) (hb : (b, tup3 x' y' z' t' u' v' c') ∈ news) (hu : A.units + 64 < cLine)
    (e : (x == x' && (y == y' && z == z')) = true) (h : Q (.bool false) s) : wpAny (model prog w) A (compareOp .NotEq (.ref a) (.ref b)) Q E s := by
  obtain ⟨as, ra⟩ := reads3 N ha
  obtain ⟨bs, rb⟩ := reads3 N hb
  exact ne_dataH ra rb rfl rfl hu (by rw [eqv3, e]; exact h)
theorem eq3 {prog : Program} {w : World} {A : Around} {E Q : Post} {s : Shared} {h₀ : Heap} {L a b : Addr} {news : Led} {x y z x' y' z' : Int} {t u v t' u' v' : Tok} {c c' : Nat}
    (N : News h₀ L s.heap news) (ha : (a, tup3 x y z t u v c) ∈ news) (hb : (b, tup3 x' y' z' t' u' v' c') ∈ news) (hu : A.units + 64 < cLine)
    (e : (x == x' && (y == y' && z == z')) = true) (h : Q (.bool true) s) : wpAny (model prog w) A (compareOp .Eq (.ref a) (.ref b)) Q E s := by
  obtain ⟨as, ra⟩ := reads3 N ha
  obtain ⟨bs, rb⟩ := reads3 N hb
  exact eq_dataH ra rb rfl rfl hu (by rw [eqv3, e]; exact h)

/-- what turns the day in a leap year, in the one calendar and in the other -/
def copAdj (y m : Int) : Int := if y % 4 = 0 ∧ m < 7 then 1 else 0
def sarkAdj (y m : Int) : Int := if y % 4 = 0 ∧ 6 < m then -1 else 0
theorem cop_all {y m : Int} (h0 : 0 ≤ m) (h1 : m ≤ 12) :
    (jY (copJ y (m + 1) 1) == y + 283 + (copTab.getD m.toNat (0, 0, 0)).1 && (jM (copJ y (m + 1) 1) == (copTab.getD m.toNat (0, 0, 0)).2.1 && jD (copJ y (m + 1) 1) == (copTab.getD m.toNat (0, 0, 0)).2.2 + copAdj y m)) = true := by
  unfold copAdj
  by_cases hy : y % 4 = 0
  · by_cases hm : m < 7
    · rw [if_pos ⟨hy, hm⟩]; exact cop_leap hy hm h0 h1
    · rw [if_neg (fun h => hm h.2), Int.add_zero]; exact cop_late hm h0 h1
  · rw [if_neg (fun h => hy h.1), Int.add_zero]; exact cop_plain hy h0 h1
theorem sark_all {y m : Int} (h0 : 0 ≤ m) (h1 : m ≤ 12) :
    (jY (sarkJ y (m + 1) 1) == y + 551 + (sarkTab.getD m.toNat (0, 0, 0)).1 && (jM (sarkJ y (m + 1) 1) == (sarkTab.getD m.toNat (0, 0, 0)).2.1 && jD (sarkJ y (m + 1) 1) == (sarkTab.getD m.toNat (0, 0, 0)).2.2 + sarkAdj y m)) = true := by
  unfold sarkAdj
  by_cases hy : y % 4 = 0
  · by_cases hm : 6 < m
    · rw [if_pos ⟨hy, hm⟩, ← Int.sub_eq_add_neg]; exact sark_leap hy hm h0 h1
    · rw [if_neg (fun h => hm h.2), Int.add_zero]; exact sark_early hm h0 h1
  · rw [if_neg (fun h => hy h.1), Int.add_zero]; exact sark_plain hy h0 h1

/-- behind an if that turns one name's int at most: the two ways meet -/
def Met (x : Str) (r : Int) (h₀ : Heap) (L : Addr) (m : Map) (news : Led) (s : Shared) (f : Flow) (s' : Shared) : Prop :=
  f = .next ∧ ∃ (t : Tok) (h : Heap) (tk : Nat), s' = { s with heap := h, toks := tk } ∧ Fr h₀ L h (fun y => if y = x then some (.int r t) else m y) ∧ News h₀ L h news
theorem met_set {x : Str} {r r' : Int} {h₀ h : Heap} {L : Addr} {m : Map} {news : Led} {s : Shared} {t : Tok} {tk : Nat}
    (F : Fr h₀ L h (fun y => if y = x then some (.int r' t) else m y)) (N : News h₀ L h news) (e : r' = r) : Met x r h₀ L m news s .next { s with heap := h, toks := tk } := by
  subst e; exact ⟨rfl, t, h, tk, rfl, F, N⟩
theorem met_old {x : Str} {r r' : Int} {h₀ h : Heap} {L : Addr} {m : Map} {news : Led} {s : Shared} {t : Tok} {tk : Nat}
    (F : Fr h₀ L h m) (N : News h₀ L h news) (o : m x = some (.int r' t)) (e : r' = r) : Met x r h₀ L m news s .next { s with heap := h, toks := tk } := by
  subst e
  refine ⟨rfl, t, h, tk, rfl, ?_, N⟩
  have q : (fun y => if y = x then some (Value.int r' t) else m y) = m := by
    funext y
    by_cases hy : y = x
    · rw [if_pos hy, hy, o]
    · rw [if_neg hy]
  rw [q]
  exact F
def Rest (P : Prop) : Prop := P
theorem meet {x : Str} {r : Int} {M : Model} {A : Around} {E : Post} {Q : Flow → Shared → Prop} {s : Shared} {env : Env} {st : Stmt} {h₀ : Heap} {L : Addr} {m : Map} {news : Led}
    (F : Fr h₀ L s.heap m) (N : News h₀ L s.heap news)
    (hb : wpAny M A (exec st env) (fun f s' => Met x r h₀ L m news s f s') E s)
    (hk : Rest (∀ (t : Tok) (h : Heap) (tk : Nat), Fr h₀ L h (fun y => if y = x then some (.int r t) else m y) → News h₀ L h news → Q .next { s with heap := h, toks := tk })) : wpAny M A (exec st env) Q E s :=
  wpAny_mono hb (fun f s' ⟨hf, t, h, tk, hs, F, N⟩ => by subst hf; subst hs; exact hk t h tk F N) fun _ _ e => e
theorem meet_cop {M : Model} {A : Around} {E : Post} {Q : Flow → Shared → Prop} {s : Shared} {env : Env} {st : Stmt} {h₀ : Heap} {L : Addr} {m : Map} {news : Led} {d y k : Int} {t₀ t₁ t₂ : Tok}
    (F : Fr h₀ L s.heap m) (N : News h₀ L s.heap news) (ho : m (Str.ofString "day") = some (.int d t₀)) (hy : m (Str.ofString "year") = some (.int y t₁)) (hz : m (Str.ofString "month") = some (.int k t₂))
    (hb : wpAny M A (exec st env) (fun f s' => Met (Str.ofString "day") (d + copAdj y k) h₀ L m news s f s') E s)
    (hk : Rest (∀ (t : Tok) (h : Heap) (tk : Nat), Fr h₀ L h (fun z => if z = Str.ofString "day" then some (.int (d + copAdj y k) t) else m z) → News h₀ L h news → Q .next { s with heap := h, toks := tk })) : wpAny M A (exec st env) Q E s :=
  meet F N hb hk
theorem meet_sark {M : Model} {A : Around} {E : Post} {Q : Flow → Shared → Prop} {s : Shared} {env : Env} {st : Stmt} {h₀ : Heap} {L : Addr} {m : Map} {news : Led} {d y k : Int} {t₀ t₁ t₂ : Tok}
    (F : Fr h₀ L s.heap m) (N : News h₀ L s.heap news) (ho : m (Str.ofString "day") = some (.int d t₀)) (hy : m (Str.ofString "fixed") = some (.int y t₁)) (hz : m (Str.ofString "month") = some (.int k t₂))
    (hb : wpAny M A (exec st env) (fun f s' => Met (Str.ofString "day") (d + sarkAdj y k) h₀ L m news s f s') E s)
    (hk : Rest (∀ (t : Tok) (h : Heap) (tk : Nat), Fr h₀ L h (fun z => if z = Str.ofString "day" then some (.int (d + sarkAdj y k) t) else m z) → News h₀ L h news → Q .next { s with heap := h, toks := tk })) : wpAny M A (exec st env) Q E s :=
  meet F N hb hk
local macro_rules | `(tactic| walk_at "mine date") => `(tactic| first
  | ((with_reducible refine' cop_all ?c ?d) <;> omega)
  | ((with_reducible refine' sark_all ?c ?d) <;> omega)
  | ((with_reducible refine' round_trip ?a ?b ?c ?d) <;> omega))
local macro_rules | `(tactic| walk_at "exec If") => `(tactic| (
  k_here
  (with_reducible show wpAny _ _ (exec (Stmt.If (PySem.Expr.BoolOp _ _ _) [Stmt.Assign [PySem.Expr.Name (Str.ofString "day") _] _ _] [] _) _) _ _ _)
  goal_lacks Mine.Met
  k_dflt (first
    | (refine' meet_sark ?F ?N ?o ?y ?k ?_ ?_; (case F => k_asm); (case N => k_asm); (case o => with_unfolding_all rfl); (case y => with_unfolding_all rfl); (case k => with_unfolding_all rfl))
    | (refine' meet_cop ?F ?N ?o ?y ?k ?_ ?_; (case F => k_asm); (case N => k_asm); (case o => with_unfolding_all rfl); (case y => with_unfolding_all rfl); (case k => with_unfolding_all rfl)))
  walk_say "THE WAYS OF THE DAY MEET"))
local macro_rules | `(tactic| walk_at "Met") => `(tactic| first
  | (refine' met_set ?F ?N ?e; (case F => k_asm); (case N => k_asm); (case e => ((unfold copAdj sarkAdj); omega)))
  | (k_dflt (refine' met_set ?F ?N ?e; (case F => k_asm); (case N => k_asm); (case e => first | (unfold copAdj; (split <;> omega)) | (unfold sarkAdj; (split <;> omega)))))
  | (k_dflt (refine' met_old ?F ?N ?o ?e; (case F => k_asm); (case N => k_asm); (case o => with_unfolding_all rfl); (case e => first | (unfold copAdj; (split <;> omega)) | (unfold sarkAdj; (split <;> omega))))))
local macro_rules | `(tactic| walk_at "Rest") => `(tactic| (unfold Rest; intro t9 h9 tk9 F9 N9; (try k_sweep); (try dsimp only)))
local macro_rules | `(tactic| walk_at "compareOp NotEq ref ref") => `(tactic| (k_here; k_dflt (refine' ne3 ?N ?a ?b ?u ?e ?_; (case N => k_asm); (case a => k_mem); (case b => k_mem); (case u => units_room); (case e => walk_at "mine date"))))
local macro_rules | `(tactic| walk_at "compareOp Eq ref ref") => `(tactic| (k_here; k_dflt (refine' eq3 ?N ?a ?b ?u ?e ?_; (case N => k_asm); (case a => k_mem); (case b => k_mem); (case u => units_room); (case e => walk_at "mine date"))))

local macro_rules | `(tactic| walk_at "subscriptTail") => `(tactic| (k_here; (with_reducible rename Rows _ _ => R8); (rename News _ _ _ _ => N8); k_dflt (refine' pick N8 R8 ?p0 ?p1 ?p2 ?_; (case p0 => omega); (case p1 => ((simp only [copTab, sarkTab, List.length_cons, List.length_nil]); omega)); (case p2 => decide); clear N8 R8; intro a8 t8 u8 v8 c8 N8; dsimp only [tup3] at N8; (try dsimp only); (try k_fold))))
local macro_rules | `(tactic| walk_at "call ref") => `(tactic| (k_here; k_dflt (
  (first
    | refine' use (c_law_coptic _ _) ?k1 ?k2 ?k3 ?k4 ?k5 ?kK ?kp ?kd ?ku ?_
    | refine' use (c_law_sarkawag _ _) ?k1 ?k2 ?k3 ?k4 ?k5 ?kK ?kp ?kd ?ku ?_
    | refine' use (c_to_jd_coptic _ _ _ _ _ _ _ _) ?k1 ?k2 ?k3 ?k4 ?k5 ?kK ?kp ?kd ?ku ?_
    | refine' use (c_from_jd _ _ _ _) ?k1 ?k2 ?k3 ?k4 ?k5 ?kK ?kp ?kd ?ku ?_
    | refine' use (c_to_julian_sark _ _ _ _ _ _ _ _ _) ?k1 ?k2 ?k3 ?k4 ?k5 ?kK ?kp ?kd ?ku ?_
    | refine' use (c_to_julian_none _ _ _ _ _ _ _ _) ?k1 ?k2 ?k3 ?k4 ?k5 ?kK ?kp ?kd ?ku ?_
    | refine' use (c_from_julian _ _ _ _ _ _ _ _) ?k1 ?k2 ?k3 ?k4 ?k5 ?kK ?kp ?kd ?ku ?_);
  (case k1 => k_asm); (case k2 => k_asm); (case k3 => k_asm); (case k4 => k_asm); (case k5 => k_asm); (case kK => first | exact rfl | assumption);
  (case kp => walk_at "mine pre"); (case kd => ktr_room); (case ku => ktr_units);
  walk_at "mine back"; (try dsimp only); (try k_fold))))
/-- one month of the law: its answer is True -/
theorem c_one_month (w : World) {loose : List Str} {mean : ExcName → Option Value} {mg mb : Map} (y : Int) (t : Tok) (m : Int) (u : Tok) (r : Int) (v : Tok) (p : Int) (q : Tok) (news : Led) :
    Claim PySem.Challenge.rw_bb0031_01.row.prog w (hd.heap_39 w.params) hd.view_39 loose mean mg mb 132 16 news (0 ≤ m ∧ m ≤ 12 ∧ 1 ≤ r) [.int y t, .int m u, .int r v, .int p q] (RetV fun _ => .bool true) := by
  walk_at "mine walk"

/-! # The law itself -/
theorem take3 (ns : List Int) : ∃ a b c, List.take 3 (List.take 3 ns ++ [0, 0, 0]) = [a, b, c] := by
  rcases ns with _ | ⟨x, _ | ⟨y, _ | ⟨z, r⟩⟩⟩ <;> simp
theorem ints3 {vs : List Value} {ns : List Int} (h : IntsAre vs (List.take 3 (List.take 3 ns ++ [0, 0, 0]))) :
    ∃ a t b u c v, vs = [Value.int a t, Value.int b u, Value.int c v] := by
  obtain ⟨a, b, c, e⟩ := take3 ns
  rw [e] at h
  obtain ⟨t, vs1, e1, h1⟩ := IntsAre.cons_inv h
  obtain ⟨u, vs2, e2, h2⟩ := IntsAre.cons_inv h1
  obtain ⟨v, vs3, e3, h3⟩ := IntsAre.cons_inv h2
  exact ⟨a, t, b, u, c, v, by rw [e1, e2, e3, IntsAre.nil_inv h3]⟩
/-- an element that is True, and nothing of its making is kept -/
def TrueEl (news : Led) (y : Value) (news' : Led) : Prop := news' = news ∧ y = .bool true
theorem trues {prog : Program} {w : World} {A : Around} {h₀ : Heap} {L : Addr} {m : Map} {env : Env} {elt : PySem.Expr} {x : Str} {scope : Scope} {cl : List (Str × Addr)} {s : Shared} {S : Led → Prop} {Fin : List Value → Led → Prop} {news : Led} {n : Nat} {a : Int}
    (turn : ∀ k t I oI C oC D m₂ ys h tk (E' : Post), a ≤ k → k < a + (n : Int) → LCg.NsObj oC m₂ → m₂ x = some (.int k t) → Fr h₀ L h m → News h₀ L h ((I, oI) :: (C, oC) :: (D, LCg.lst ys) :: news) → LCg.Off3 I C D news → ((@Ne Nat I C) ∧ (@Ne Nat I D) ∧ (@Ne Nat C D)) →
      wpAny (model prog w) A (eval elt (compEnvC scope cl C env)) (LCg.CompEnd h₀ L m { s with heap := h, toks := tk } I oI C oC D (LCg.lst ys) S (fun y news' => TrueEl news y news')) E' { s with heap := h, toks := tk })
    (fin : Fin (List.replicate n (.bool true)) news) : LCg.CompRest prog w A h₀ L m env elt x scope cl s S (fun i v => ∃ t, v = .int (a + (i : Int)) t) Fin n 0 [] news := by
  have go : ∀ j i : Nat, i + j = n → LCg.CompRest prog w A h₀ L m env elt x scope cl s S (fun i v => ∃ t, v = .int (a + (i : Int)) t) Fin j i (List.replicate i (.bool true)) news := by
    intro j
    induction j with
    | zero => intro i hi; obtain rfl : i = n := by omega
              exact LCg.CompRest.zero fin
    | succ j ih =>
      intro i hi
      refine LCg.CompRest.succ fun v I oI C oC D m₂ h tk E' hv hC hx F N off ne => ?_
      obtain ⟨t, rfl⟩ := hv
      refine wpAny_mono (turn (a + (i : Int)) t I oI C oC D m₂ _ h tk E' (by omega) (by omega) hC hx F N off ne) (fun y s₂ q => ?_) fun _ _ e => e
      obtain ⟨h', tk', nw, e, F', N', off', hS, hn, hy⟩ := q
      refine ⟨h', tk', nw, e, F', N', off', hS, ?_⟩
      subst hn
      subst hy
      rw [← List.replicate_succ']
      exact ih (i + 1) (by omega)
  exact go n 0 (by omega)
theorem reads_trues (h : Heap) : ∀ n : Nat, ∃ as, ReadsAll h (List.replicate n (Value.bool true)) (List.replicate n (PyData.bool true)) as
  | 0 => ⟨_, ReadsAll.nil⟩
  | n + 1 => by
    obtain ⟨as, r⟩ := reads_trues h n
    exact ⟨_, ReadsAll.cons (Reads.bool true) r⟩
theorem notin_trues {prog : Program} {w : World} {A : Around} {E Q : Post} {s : Shared} {h₀ : Heap} {L D : Addr} {news : Led}
    (N : News h₀ L s.heap ((D, LCg.lst (List.replicate 13 (Value.bool true))) :: news)) (hu : A.units + 64 < cLine) (h : Q (.bool true) s) :
    wpAny (model prog w) A (compareOp .NotIn (.bool false) (.ref D)) Q E s := by
  obtain ⟨as, r⟩ := reads_trues s.heap 13
  refine SeqAt.notIn_list_reads (xs := List.replicate 13 (PyData.bool true)) (d := .bool false) (reads_list_at (N.get (List.Mem.head _)) rfl rfl (by simpa using r)) (Reads.bool false) rfl rfl ?_ h
  have e : min (PyData.depthAll (List.replicate 13 (PyData.bool true))) (PyData.bool false).depth = 0 := rfl
  rw [e]
  omega
local macro_rules | `(tactic| walk_at "assign Tuple") => `(tactic| (k_here; obtain ⟨a3, t3, b3, u3, c3, v3, e3⟩ := ints3 (by with_reducible assumption); subst e3))
local macro_rules | `(tactic| walk_at "CompSrc") => `(tactic| (k_here; k_dflt (
  (refine LCg.CompSrc.range (n := 13) (by rfl) (by k_asm) (by k_asm) (by assumption) (by decide) (by decide) (by decide) ?_);
  intro g';
  (refine trues (fun k' t' I' oI' C' oC' D' m' ys' h' tk' E' hlo' hhi' hC' hx' F' N' off' ne' => ?_) ?_);
  (try (simp only [LCg.Off3, and_true] at off')); (try k_fold))))
local macro_rules | `(tactic| walk_at "TrueEl") => `(tactic| exact ⟨rfl, rfl⟩)
local macro_rules | `(tactic| walk_at "compareOp NotIn bool ref") => `(tactic| (k_here; k_dflt (refine notin_trues (by k_asm) (by units_room) ?_)))
local macro_rules | `(tactic| walk_at "call ref") => `(tactic| (k_here; k_dflt (
  (first
    | refine' use (c_one_month _ _ _ _ _ _ _ _ _ _) ?k1 ?k2 ?k3 ?k4 ?k5 ?kK ?kp ?kd ?ku ?_);
  (case k1 => k_asm); (case k2 => k_asm); (case k3 => k_asm); (case k4 => k_asm); (case k5 => k_asm); (case kK => first | exact rfl | assumption);
  (case kp => walk_at "mine pre"); (case kd => ktr_room); (case ku => ktr_units);
  walk_at "mine back"; (try dsimp only); (try k_fold))))
theorem holds : PySem.Challenge.rw_bb0031_01.Holds := by
  refine hd ?_
  k_go0
  all_goals try k_fold
  k_steps
end Mine
theorem PySem.Challenge.cw_bb0031_01_holds : PySem.Challenge.rw_bb0031_01.Holds := by
  exact Mine.holds
