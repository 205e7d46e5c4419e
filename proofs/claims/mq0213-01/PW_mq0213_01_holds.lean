import PyProof.Rows.All
import Wide.All
import OpenK.AllK
import Wide.FinOn
import PySem.Challenge.RW_mq0213_01
set_option Elab.async false
namespace Mine
open PySem PySem.W PyProof.Rows
set_option maxRecDepth 100000
set_option maxHeartbeats 8000000
open_top hd for PySem.Challenge.rw_mq0213_01
end Mine
namespace Mine
open PySem PySem.W PyProof.Rows PySem.Calls PySem.Spec
set_option maxRecDepth 100000
set_option maxHeartbeats 8000000
abbrev prg : Program := PySem.Challenge.rw_mq0213_01.row.prog
section
variable {prog : Program} {w : World} {A : Around} {E : Value → Shared → Prop} {s : Shared} {h₀ : Heap} {L : Addr} {m : Str → Option Value} {news : List (Addr × Obj)}
noncomputable def mx3 (a b c : Int) : Int := if b > a then (if c > b then c else b) else (if c > a then c else a)
noncomputable def mn3 (a b c : Int) : Int := if b < a then (if c < b then c else b) else (if c < a then c else a)
theorem mx3_of (a b c : Int) : a ≤ mx3 a b c ∧ b ≤ mx3 a b c ∧ c ≤ mx3 a b c ∧ (mx3 a b c = a ∨ mx3 a b c = b ∨ mx3 a b c = c) := by
  unfold mx3
  by_cases h1 : b > a
  · rw [if_pos h1]
    by_cases h2 : c > b
    · rw [if_pos h2]; exact ⟨Int.le_of_lt (Int.lt_trans h1 h2), Int.le_of_lt h2, Int.le_refl _, .inr (.inr rfl)⟩
    · rw [if_neg h2]; exact ⟨Int.le_of_lt h1, Int.le_refl _, Int.not_lt.mp h2, .inr (.inl rfl)⟩
  · rw [if_neg h1]
    by_cases h2 : c > a
    · rw [if_pos h2]; exact ⟨Int.le_of_lt h2, Int.le_trans (Int.not_lt.mp h1) (Int.le_of_lt h2), Int.le_refl _, .inr (.inr rfl)⟩
    · rw [if_neg h2]; exact ⟨Int.le_refl _, Int.not_lt.mp h1, Int.not_lt.mp h2, .inl rfl⟩
theorem mn3_of (a b c : Int) : mn3 a b c ≤ a ∧ mn3 a b c ≤ b ∧ mn3 a b c ≤ c ∧ (mn3 a b c = a ∨ mn3 a b c = b ∨ mn3 a b c = c) := by
  unfold mn3
  by_cases h1 : b < a
  · rw [if_pos h1]
    by_cases h2 : c < b
    · rw [if_pos h2]; exact ⟨Int.le_of_lt (Int.lt_trans h2 h1), Int.le_of_lt h2, Int.le_refl _, .inr (.inr rfl)⟩
    · rw [if_neg h2]; exact ⟨Int.le_of_lt h1, Int.le_refl _, Int.not_lt.mp h2, .inr (.inl rfl)⟩
  · rw [if_neg h1]
    by_cases h2 : c < a
    · rw [if_pos h2]; exact ⟨Int.le_of_lt h2, Int.le_trans (Int.le_of_lt h2) (Int.not_lt.mp h1), Int.le_refl _, .inr (.inr rfl)⟩
    · rw [if_neg h2]; exact ⟨Int.le_refl _, Int.not_lt.mp h1, Int.not_lt.mp h2, .inl rfl⟩
theorem mx_ge (r g b : Int) : r ≤ mx3 r g b ∧ g ≤ mx3 r g b ∧ b ≤ mx3 r g b ∧ mn3 r g b ≤ r ∧ mn3 r g b ≤ g ∧ mn3 r g b ≤ b ∧ (mx3 r g b = r ∨ mx3 r g b = g ∨ mx3 r g b = b) ∧ (mn3 r g b = r ∨ mn3 r g b = g ∨ mn3 r g b = b) := by
  obtain ⟨x1, x2, x3, x4⟩ := mx3_of r g b
  obtain ⟨y1, y2, y3, y4⟩ := mn3_of r g b
  exact ⟨x1, x2, x3, y1, y2, y3, x4, y4⟩
theorem mx_le {r g b z : Int} (h1 : r ≤ z) (h2 : g ≤ z) (h3 : b ≤ z) : mx3 r g b ≤ z := by
  rcases (mx_ge r g b).2.2.2.2.2.2.1 with h | h | h <;> rw [h] <;> assumption
theorem le_mn {r g b z : Int} (h1 : z ≤ r) (h2 : z ≤ g) (h3 : z ≤ b) : z ≤ mn3 r g b := by
  rcases (mx_ge r g b).2.2.2.2.2.2.2 with h | h | h <;> rw [h] <;> assumption
theorem max3N {a b c : Int} {t u x : Tok} {Q : Value → Shared → Prop} (hh : A.handled = none) (F : Fr h₀ L s.heap m) (N : News h₀ L s.heap news)
    (h : ∀ t' h' tk, Fr h₀ L h' m → News h₀ L h' news → Q (.int (mx3 a b c) t') { s with heap := h', toks := tk }) :
    wpAny (model prog w) A (call (.builtin "max") [.int a t, .int b u, .int c x]) Q E s := by
  refine max_three_ints hh fun h' tk hk => ?_
  have key := fun tok => h tok h' tk (F.grownK hk) (N.grown hk)
  unfold mx3 at key
  by_cases hba : b > a <;> by_cases hc1 : c > b <;> by_cases hc2 : c > a <;> simp only [hba, hc1, hc2, if_true, if_false] at key ⊢ <;> exact key _
theorem min3N {a b c : Int} {t u x : Tok} {Q : Value → Shared → Prop} (hh : A.handled = none) (F : Fr h₀ L s.heap m) (N : News h₀ L s.heap news)
    (h : ∀ t' h' tk, Fr h₀ L h' m → News h₀ L h' news → Q (.int (mn3 a b c) t') { s with heap := h', toks := tk }) :
    wpAny (model prog w) A (call (.builtin "min") [.int a t, .int b u, .int c x]) Q E s := by
  refine min_three_ints hh fun h' tk hk => ?_
  have key := fun tok => h tok h' tk (F.grownK hk) (N.grown hk)
  unfold mn3 at key
  by_cases hba : b < a <;> by_cases hc1 : c < b <;> by_cases hc2 : c < a <;> simp only [hba, hc1, hc2, if_true, if_false] at key ⊢ <;> exact key _
end
end Mine
namespace Mine
set_option maxRecDepth 100000
open PySem PySem.Float64
abbrev c6 : UInt64 := 4618441417868443648
abbrev c1 : UInt64 := 4607182418800017408
noncomputable def qI (a b : Int) : UInt64 := Float64.ofFrac (decide (a < 0) != decide (b < 0)) a.natAbs b.natAbs
noncomputable def h0F (r g b : Int) : UInt64 :=
  let mx := mx3 r g b
  let rg := mx - mn3 r g b
  if r = mx then Float64.sub (qI (mx - b) rg) (qI (mx - g) rg)
  else if g = mx then Float64.sub (Float64.add 4611686018427387904 (qI (mx - r) rg)) (qI (mx - b) rg)
  else Float64.sub (Float64.add 4616189618054758400 (qI (mx - g) rg)) (qI (mx - r) rg)
noncomputable def hF (r g b : Int) : UInt64 := if mn3 r g b = mx3 r g b then 0 else (Float64.divmod (Float64.div (h0F r g b) c6) c1).2
noncomputable def sF (r g b : Int) : UInt64 := if mn3 r g b = mx3 r g b then 0 else qI (mx3 r g b - mn3 r g b) (mx3 r g b)
noncomputable def hueF (h : UInt64) (mir : Bool) (k : Int) : UInt64 := Float64.add (Float64.div (Float64.ofInt k) c6) (if mir then Float64.sub c1 h else h)
noncomputable def iF (hu : UInt64) : Int := Flt.toInt Float64.truncOf (Float64.mul hu c6)
noncomputable def fF (hu : UInt64) : UInt64 := Float64.sub (Float64.mul hu c6) (Float64.ofInt (iF hu))
noncomputable def pF (sa : UInt64) (va : Int) : UInt64 := Float64.mul (Float64.ofInt va) (Float64.sub c1 sa)
noncomputable def qF (sa f : UInt64) (va : Int) : UInt64 := Float64.mul (Float64.ofInt va) (Float64.sub c1 (Float64.mul sa f))
noncomputable def tF (sa f : UInt64) (va : Int) : UInt64 := Float64.mul (Float64.ofInt va) (Float64.sub c1 (Float64.mul sa (Float64.sub c1 f)))
noncomputable def rn (x : UInt64) : Int := Flt.toInt Float64.nearestOf x
noncomputable def outF (hu sa : UInt64) (va : Int) : List Int :=
  let i := iF hu % 6
  let f := fF hu
  if i = 0 then [va, rn (tF sa f va), rn (pF sa va)]
  else if i = 1 then [rn (qF sa f va), va, rn (pF sa va)]
  else if i = 2 then [rn (pF sa va), va, rn (tF sa f va)]
  else if i = 3 then [rn (pF sa va), rn (qF sa f va), va]
  else if i = 4 then [rn (tF sa f va), rn (pF sa va), va]
  else [va, rn (pF sa va), rn (qF sa f va)]
noncomputable def movF (r g b : Int) (mir : Bool) (k : Nat) : List Int :=
  let p : List Int := if mir then [r, b, g] else [r, g, b]
  let both := mx3 r g b + mn3 r g b
  let q := if k % 2 = 1 then p.map (both - ·) else p
  [q.getD (k % 3) 0, q.getD ((k + 1) % 3) 0, q.getD ((k + 2) % 3) 0]
noncomputable def allB : Nat → (Nat → Bool) → Bool := fun n p => Nat.rec true (fun i ih => p i && ih) n
noncomputable def chk (r g b : Nat) : Bool :=
  let h := hF r g b
  let s := sF r g b
  let v := mx3 r g b
  mn3 r g b = mx3 r g b || allB 6 (fun k => outF (hueF h false k) s v == movF r g b false k && outF (hueF h true k) s v == movF r g b true k)
end Mine
namespace Mine
open PySem PySem.W PyProof.Rows PySem.Calls PySem.Spec
set_option maxRecDepth 100000
set_option maxHeartbeats 8000000
/-- the table of filemode, as data -/
noncomputable def tabs : List (List (Int × Str)) :=
  [[(40960, "l"), (49152, "s"), (32768, "-"), (24576, "b"), (16384, "d"), (8192, "c"), (4096, "p")],
   [(256, "r")], [(128, "w")], [(2112, "s"), (2048, "S"), (64, "x")],
   [(32, "r")], [(16, "w")], [(1032, "s"), (1024, "S"), (8, "x")],
   [(4, "r")], [(2, "w")], [(513, "t"), (512, "T"), (1, "x")]]
/-- what one row of the table gives: the first entry that fits, else the last sign -/
noncomputable def pickS (x i : Int) : List (Int × Str) → Str
  | [] => if i = 0 then "?" else "-"
  | (b, c) :: r => if (if i = 0 then Builtin.bitAnd x 61440 = b else Builtin.bitAnd x b = b) then c else pickS x i r
noncomputable def fmFrom (x : Int) : Int → List (List (Int × Str)) → List Str
  | _, [] => []
  | i, t :: r => pickS x i t :: fmFrom x (i + 1) r
noncomputable def fmT (x : Int) : Str := Txt.join "" (fmFrom x 0 tabs)
noncomputable def partT (x y : Str) : Int :=
  Txt.find (Str.ofString "-r") (Txt.slice x none (some 1)) * 4 + Txt.find (Str.ofString "-w") (Txt.slice x (some 1) (some 2)) * 2 + Txt.find y (Txt.slice x (some 2) none) / 2 * 8 + Txt.find y (Txt.slice x (some 2) none) % 2
noncomputable def blockT (x : Int) (y : Str) : Str := Txt.item (Str.ofString "-r") (x / 4 % 2) ++ Txt.item (Str.ofString "-w") (x / 2 % 2) ++ Txt.item y (x / 8 * 2 + x % 2)
noncomputable def pick3 (a b c k : Int) : Int := if k = 0 then a else if k = 1 then b else c
noncomputable def movT3 (p q r : Int) (mir : Bool) (k : Int) : List Int :=
  let f1 := if mir = true then r else q
  let f2 := if mir = true then q else r
  let o := mx3 p q r + mn3 p q r
  let a := if k % 2 = 1 then o - p else p
  let b := if k % 2 = 1 then o - f1 else f1
  let c := if k % 2 = 1 then o - f2 else f2
  [pick3 a b c ((0 + k) % 3), pick3 a b c ((1 + k) % 3), pick3 a b c ((2 + k) % 3)]
noncomputable def movT (l : List Int) (mir : Bool) (k : Int) : List Int := movT3 (l.getD 0 0) (l.getD 1 0) (l.getD 2 0) mir k
inductive Rnd : Value → Int → Prop
  | int (n : Int) (t : Tok) : Rnd (.int n t) n
  | flt (f : UInt64) (t : Tok) (hf : Float64.isFinite f = true) : Rnd (.float f t) (rn f)
noncomputable def grey (sa : UInt64) : Bool := Float64.cmp sa 0 == some .eq
noncomputable def okT (hu sa : UInt64) (va : Int) : Bool :=
  grey sa || (Float64.isFinite (Float64.mul hu c6) && decide ((iF hu).natAbs < 2 ^ 64) && Float64.isFinite (pF sa va) && Float64.isFinite (qF sa (fF hu) va) && Float64.isFinite (tF sa (fF hu) va))
noncomputable def oT (hu sa : UInt64) (va : Int) : List Int := if grey sa then [va, va, va] else outF hu sa va
noncomputable def o0T (hu sa : UInt64) (va : Int) : Int := (oT hu sa va).getD 0 0
noncomputable def o1T (hu sa : UInt64) (va : Int) : Int := (oT hu sa va).getD 1 0
noncomputable def o2T (hu sa : UInt64) (va : Int) : Int := (oT hu sa va).getD 2 0
theorem bA_lo (x : Int) : 0 ≤ Builtin.bitAnd x 4095 := (bitAnd_range x (by decide)).1
theorem bA_hi (x : Int) : Builtin.bitAnd x 4095 < 4096 := by have := (bitAnd_range x (y := 4095) (by decide)).2; omega
theorem block_len {x : Int} {y : Str} : (blockT x y).length = 3 := by
  unfold blockT
  rw [strLen_append, strLen_append, len_item, len_item, len_item]
theorem slice10 {X : Str} {i j : Option Int} {n : Nat} (h : X.length = n) : (Txt.slice X i j).length ≤ n := h ▸ PyProof.Txt.length_slice_le X i j
end Mine
namespace Mine
open PySem PySem.W PyProof.Rows PySem.Calls PySem.Spec
set_option maxRecDepth 100000
set_option maxHeartbeats 8000000
section
variable {prog : Program} {w : World} {A : Around} {E : Value → Shared → Prop} {s : Shared} {a b r : Int} {t u : Tok} {Q : Value → Shared → Prop}
theorem fdivL (hb : 0 < b) (hb2 : b < 1073741824) (h : Q (.int (a / b) s.toks) { s with toks := s.toks + 1 }) : wpAny (model prog w) A (binaryOp .FloorDiv (.int a t) (.int b u)) Q E s := by
  refine floordiv_int (by omega) ?_ (Or.inl (PyProof.noPylong_small (by omega)))
  rw [Int.fdiv_eq_ediv_of_nonneg _ (by omega)]
  exact h
theorem fmodL (hb : 0 < b) (h : Q (.int (a % b) s.toks) { s with toks := s.toks + 1 }) : wpAny (model prog w) A (binaryOp .Mod (.int a t) (.int b u)) Q E s := by
  refine mod_int' (by omega) ?_
  rw [Int.fmod_eq_emod_of_nonneg _ (by omega)]
  exact h
theorem mulOk_right (hb : b.natAbs < 2 ^ 63) : IntMulOk a b := by
  exact IntMulOk.of_right (intBits_le_64 (by omega) (by omega))
theorem mulR (hb : b.natAbs < 2 ^ 63) (h : Q (.int (a * b) s.toks) { s with toks := s.toks + 1 }) : wpAny (model prog w) A (binaryOp .Mult (.int a t) (.int b u)) Q E s :=
  mul_int h (mulOk_right hb)
theorem mulLit (e : a * b = r) (hb : b.natAbs < 2 ^ 63) (h : Q (.int r s.toks) { s with toks := s.toks + 1 }) : wpAny (model prog w) A (binaryOp .Mult (.int a t) (.int b u)) Q E s := by
  subst e
  exact mulR hb h
theorem subLit (e : a - b = r) (h : Q (.int r s.toks) { s with toks := s.toks + 1 }) : wpAny (model prog w) A (binaryOp .Sub (.int a t) (.int b u)) Q E s := by
  subst e
  exact sub_int h
theorem addLit (e : a + b = r) (h : Q (.int r s.toks) { s with toks := s.toks + 1 }) : wpAny (model prog w) A (binaryOp .Add (.int a t) (.int b u)) Q E s := by
  subst e
  exact add_int h
theorem powLit (e : a ^ b.toNat = r) (hb : 0 ≤ b) (hb2 : b ≤ 1000000) (ha : a.natAbs < 2 ^ 64) (h : Q (.int r s.toks) { s with toks := s.toks + 1 }) : wpAny (model prog w) A (binaryOp .Pow (.int a t) (.int b u)) Q E s := by
  subst e
  exact pow_int_small hb hb2 ha h
end
/-- unlike addresses, said so that omega does not split on them -/
noncomputable def NeX (a b : Nat) : Prop := a ≠ b
theorem NeX.out {a b : Nat} (h : NeX a b) : a ≠ b := h
theorem NeX.symm {a b : Nat} (h : NeX a b) : b ≠ a := fun e => h e.symm
noncomputable def Off1X (D : Nat) : List (Addr × Obj) → Prop
  | [] => True
  | p :: r => NeX p.1 D ∧ Off1X D r
theorem off1X {D : Addr} : ∀ {l : List (Addr × Obj)}, LCg.Off1 D l → Off1X D l
  | [], _ => trivial
  | _ :: _, h => ⟨h.1, off1X h.2⟩
theorem len10 {y : Str} {n : Nat} (h : y.length = n) (hn : n ≤ sizeLine := by decide) : y.length ≤ sizeLine := h ▸ hn
section
variable {prog : Program} {w : World} {A : Around} {E : Value → Shared → Prop} {s : Shared} {h₀ : Heap} {L : Addr} {m : Str → Option Value} {env : Env}
/-- a turn of a comprehension over a range, the number written -/
theorem comp_succ {elt : Expr} {x : Str} {scope : Scope} {cl : List (Str × Addr)} {S : List (Addr × Obj) → Prop} {Fin : List Value → List (Addr × Obj) → Prop} {k i : Nat} {ys : List Value} {news : List (Addr × Obj)} {a₀ c : Int} (hc : a₀ + (i : Int) = c)
    (h : ∀ (t : Tok) I oI C oC D m₂ h tk (E' : Value → Shared → Prop), LCg.NsObj oC m₂ → m₂ x = some (.int c t) → Fr h₀ L h m → News h₀ L h ((I, oI) :: (C, oC) :: (D, LCg.lst ys) :: news) → LCg.Off3 I C D news →
      wpAny (model prog w) A (eval elt (compEnvC scope cl C env)) (LCg.CompEnd h₀ L m { s with heap := h, toks := tk } I oI C oC D (LCg.lst ys) S (fun y news' => LCg.CompRest prog w A h₀ L m env elt x scope cl s S (fun i v => ∃ t, v = .int (a₀ + (i : Int)) t) Fin k (i + 1) (ys ++ [y]) news')) E' { s with heap := h, toks := tk }) :
    LCg.CompRest prog w A h₀ L m env elt x scope cl s S (fun i v => ∃ t, v = .int (a₀ + (i : Int)) t) Fin (k + 1) i ys news := by
  refine LCg.CompRest.succ ?_
  rintro v I oI C oC D m₂ h' tk E' ⟨t, rfl⟩ hC hx F N off ne
  rw [hc] at hx
  exact h t I oI C oC D m₂ h' tk E' hC hx F N off
end
end Mine
namespace Mine
open PySem PySem.W PyProof.Rows PySem.Calls PySem.Spec
set_option maxRecDepth 100000
set_option maxHeartbeats 8000000
noncomputable def Stop (P : Prop) : Prop := P
theorem Stop.out {P : Prop} (h : Stop P) : P := h
theorem Stop.mk' {P : Prop} (h : P) : Stop P := h
section
variable {prog : Program} {w : World} {A : Around} {E : Value → Shared → Prop} {s : Shared} {env : Env} {h₀ : Heap} {x : Str} {body : List Stmt} {Q : Flow → Shared → Prop}

/-- what a turn must reach: the ledger of some state c, the iterator's object untouched -/
noncomputable def KxEnd {σ : Type} (h₀ : Heap) (L I : Addr) (oI : Obj) (Led : σ → List (Addr × Obj)) (Facts : σ → Prop) (x : Str) (stored : List Str) (m₀ : Str → Option Value) (s₁ s₂ : Shared) : Prop :=
  ∃ (c : σ) (h' : Heap) (tk : Nat) (m' : Str → Option Value) (all : List (Addr × Obj)), s₂ = { s₁ with heap := h', toks := tk } ∧ Facts c ∧ Fr h₀ L h' m' ∧ News h₀ L h' all ∧ (∀ p ∈ (I, oI) :: Led c, p ∈ all) ∧ ∀ z, z ≠ x → stored.contains z = false → m' z = m₀ z
noncomputable def KxPost {σ : Type} (h₀ : Heap) (L I : Addr) (oI : Obj) (Led : σ → List (Addr × Obj)) (Facts : σ → Prop) (x : Str) (stored : List Str) (m₀ : Str → Option Value) (s₁ : Shared) (Q : Flow → Shared → Prop) (f : Flow) (s₂ : Shared) : Prop :=
  match f with
  | .ret v => Q (.ret v) s₂
  | .brk => Q .next s₂
  | _ => KxEnd h₀ L I oI Led Facts x stored m₀ s₁ s₂

theorem kx_loop {σ : Type} {I : Addr} {fp : List Addr} {n : Nat} {P : Nat → Value → Prop} {St : Nat → Heap → Prop} {m₀ : Str → Option Value} (Led : σ → List (Addr × Obj)) (Facts : σ → Prop) (stored : List Str) (c₀ : σ)
    (W : Walks prog w A I fp [I] n P St) (hIo : ∀ i h, St i h → ∃ o, h.get? I = some o) (hIf : I ∈ fp)
    (hfp : ∀ b ∈ fp, h₀.get? b = none → b = I ∨ ∃ o, ∀ c, (b, o) ∈ Led c) (hL : env.locals ∉ fp) (hI₀ : h₀.get? I = none) (hnI : ∀ c, ∀ p ∈ Led c, p.1 ≠ I)
    (hst : St 0 s.heap) (F : Fr h₀ env.locals s.heap m₀) (N : News h₀ env.locals s.heap (Led c₀)) (hf : Facts c₀)
    (turn : ∀ (c : σ) (i : Nat) (v : Value) (u : Str → Option Value) (h : Heap) (tk : Nat) (oI : Obj), i < n → P i v → Facts c → Fr h₀ env.locals h (fun y => if y = x then some v else if stored.contains y then u y else m₀ y) → News h₀ env.locals h ((I, oI) :: Led c) →
      wpAny (model prog w) A (execs body env) (KxPost h₀ env.locals I oI Led Facts x stored m₀ { s with heap := h, toks := tk } Q) E { s with heap := h, toks := tk })
    (done : ∀ (c : σ) (u : Str → Option Value) (h : Heap) (tk : Nat), Facts c → Fr h₀ env.locals h (fun y => if y = x then u y else if stored.contains y then u y else m₀ y) → News h₀ env.locals h (Led c) → Q .next { s with heap := h, toks := tk }) :
    LoopAtV prog w A h₀ env x body Q E (.ref I) s := by
  let J : Nat → (Str → Option Value) → List (Addr × Obj) → Prop := fun _ m₁ news₁ => ∃ c, news₁ = Led c ∧ Facts c ∧ ∀ z, z ≠ x → stored.contains z = false → m₁ z = m₀ z
  refine ⟨I, fp, [I], n, P, St, m₀, Led c₀, J, rfl, W, hL, fun b hb => by rw [List.mem_singleton.mp hb]; exact hI₀, fun p hp hb => hnI _ p hp (List.mem_singleton.mp hb), hst, F, N, ⟨c₀, rfl, hf, fun _ _ _ => rfl⟩, ?_, ?_⟩
  · rintro i v m₁ news₁ s₁ own ⟨h, tk, rfl⟩ hi hP ⟨c, rfl, hfc, hm⟩ _ hown hget hall hst₁ F₁ N₁
    obtain ⟨oI, hoI⟩ := hIo _ _ hst₁
    have hmem : (I, oI) ∈ own := hall I hIf hI₀ oI hoI
    have em : (fun y => if y = x then some v else m₁ y) = fun y => if y = x then some v else if stored.contains y then m₁ y else m₀ y := by
      funext y
      by_cases e1 : y = x
      · simp [e1]
      · simp only [if_neg e1]
        cases e2 : stored.contains y with
        | true => simp
        | false => simpa using hm y e1 e2
    rw [em] at F₁
    have N₂ : News h₀ env.locals h ((I, oI) :: Led c) := fun p hp => by
      rcases List.mem_cons.mp hp with rfl | hp
      · exact N₁ _ (List.mem_append_left _ hmem)
      · exact N₁ _ (List.mem_append_right _ hp)
    have fin : ∀ s₂, KxEnd h₀ env.locals I oI Led Facts x stored m₀ { s with heap := h, toks := tk } s₂ → LoopStepU h₀ env.locals [I] own (J (i + 1)) { s with heap := h, toks := tk } .next s₂ := by
      rintro s₂ ⟨c', h', tk', m', all, e, hfc', F', N', hsub, hm'⟩
      refine ⟨rfl, h', tk', m', Led c', e, F', fun p hp => ?_, fun p hp hb => hnI _ p hp (List.mem_singleton.mp hb), c', rfl, hfc', hm'⟩
      rcases List.mem_append.mp hp with hp | hp
      · obtain ⟨pa, po⟩ := p
        have hpn : h₀.get? pa = none := (N₁ _ (List.mem_append_left _ hp)).2.2
        rcases hfp pa (hown _ hp) hpn with e2 | ⟨o, ho⟩
        · have h2 : h.get? pa = some po := hget _ hp
          rw [e2] at h2
          have h6 : oI = po := Option.some.inj (hoI.symm.trans h2)
          subst h6
          rw [e2]
          exact N' _ (hsub _ (List.Mem.head _))
        · have h4 : h.get? pa = some o := (N₂ _ (List.Mem.tail _ (ho c))).1
          have h2 : h.get? pa = some po := hget _ hp
          have h6 : o = po := Option.some.inj (h4.symm.trans h2)
          subst h6
          exact N' _ (hsub _ (List.Mem.tail _ (ho c')))
      · exact N' _ (hsub _ (List.Mem.tail _ hp))
    refine wpAny_mono (turn c i v m₁ h tk oI hi hP hfc F₁ N₂) (fun f s₂ p => ?_) fun _ _ e => e
    cases f with
    | ret v => exact .ret p
    | brk => exact .brk p
    | next => exact .next (fin _ p)
    | cont => exact .cont (fin _ p)
  · rintro h' tk m' news' F' N' _ ⟨c, rfl, hfc, hm⟩
    refine done c m' h' tk hfc ?_ N'
    have em : (fun y => if y = x then m' y else if stored.contains y then m' y else m₀ y) = m' := by
      funext y
      by_cases e1 : y = x
      · simp [e1]
      · simp only [if_neg e1]
        cases e2 : stored.contains y with
        | true => simp
        | false => simpa using (hm y e1 e2).symm
    rw [em]
    exact F'

/-- a list of the ledger -/
theorem kx_list {σ : Type} {l : Addr} {vs : List Value} {nn : Nat} {m₀ : Str → Option Value} (Led : σ → List (Addr × Obj)) (Facts : σ → Prop) (stored : List Str) (c₀ : σ)
    (hh : A.handled = none) (hl : ∀ c, (l, listOf vs.toArray nn) ∈ Led c) (hadr : ∀ c, (Led c).map (·.1) = (Led c₀).map (·.1)) (F : Fr h₀ env.locals s.heap m₀) (N : News h₀ env.locals s.heap (Led c₀)) (hf : Facts c₀)
    (turn : ∀ (I : Addr), (∀ p ∈ Led c₀, p.1 < I) → ∀ (c : σ) (v : Value) (u : Str → Option Value) (h : Heap) (tk : Nat) (oI : Obj), v ∈ vs → Facts c → Fr h₀ env.locals h (fun y => if y = x then some v else if stored.contains y then u y else m₀ y) → News h₀ env.locals h ((I, oI) :: Led c) →
      wpAny (model prog w) A (execs body env) (KxPost h₀ env.locals I oI Led Facts x stored m₀ { s with heap := h, toks := tk } Q) E { s with heap := h, toks := tk })
    (done : ∀ (c : σ) (u : Str → Option Value) (h : Heap) (tk : Nat), Facts c → Fr h₀ env.locals h (fun y => if y = x then u y else if stored.contains y then u y else m₀ y) → News h₀ env.locals h (Led c) → Q .next { s with heap := h, toks := tk }) :
    wpAny (model prog w) A (pyIter (.ref l)) (fun it s₂ => LoopAtV prog w A h₀ env x body Q E it s₂) E s := by
  have hol := N _ (hl c₀)
  have hls : s.heap.IsList l vs.toArray := ⟨_, hol.1, rfl, nn, rfl⟩
  have hlt : l < s.heap.objs.size := Heap.lt_size hol.1
  have hlt0 : ∀ p ∈ Led c₀, p.1 < s.heap.objs.size := fun p hp => Heap.lt_size (N p hp).1
  refine wpAny_pyIter_list hls ?_
  refine kx_loop (I := s.heap.objs.size) Led Facts stored c₀ (Walks.list hh s.heap.objs.size l (Nat.ne_of_lt hlt) vs.toArray) (fun i h st => by obtain ⟨o, e, _⟩ := st.1; exact ⟨o, e⟩) (List.Mem.head _) ?_ ?_ (next_is_new F) ?_
    ⟨⟨_, Heap.get?_push_size _ rfl, rfl, rfl⟩, hls.at fun o e => Heap.get?_push_of_some _ e⟩ (F.push _) (fun p hp => ⟨Heap.get?_push_of_some _ (N p hp).1, (N p hp).2⟩) hf ?_ (fun c u h tk => done c u h tk)
  · intro b hb _
    rcases List.mem_cons.mp hb with e | hb
    · exact .inl e
    · rw [List.mem_singleton.mp hb]
      exact .inr ⟨_, hl⟩
  · intro hb
    rcases List.mem_cons.mp hb with e | hb
    · exact absurd F.ns.lt (e ▸ Nat.lt_irrefl _)
    · exact hol.2.1 (List.mem_singleton.mp hb).symm
  · intro c p hp e
    have : p.1 ∈ (Led c₀).map (·.1) := by rw [← hadr c]; exact List.mem_map.mpr ⟨p, hp, rfl⟩
    obtain ⟨q, hq, hqe⟩ := List.mem_map.mp this
    have h1 := hlt0 q hq
    rw [hqe, e] at h1
    exact Nat.lt_irrefl _ h1
  · intro c i v u h tk oI hi hP
    have hP' : vs.toArray[i]? = some v := hP
    exact turn _ hlt0 c v u h tk oI (List.mem_of_getElem? (by simpa using hP'))

/-- a tuple of the ledger -/
theorem kx_tuple {σ : Type} {l : Addr} {lo : Obj} {vs : List Value} {nn : Nat} {m₀ : Str → Option Value} (Led : σ → List (Addr × Obj)) (Facts : σ → Prop) (stored : List Str) (c₀ : σ)
    (hh : A.handled = none) (hc : lo.cls = .type "tuple") (hd : lo.data = .seq vs.toArray nn) (hl : ∀ c, (l, lo) ∈ Led c) (hadr : ∀ c, (Led c).map (·.1) = (Led c₀).map (·.1)) (F : Fr h₀ env.locals s.heap m₀) (N : News h₀ env.locals s.heap (Led c₀)) (hf : Facts c₀)
    (turn : ∀ (I : Addr), (∀ p ∈ Led c₀, p.1 < I) → ∀ (c : σ) (v : Value) (u : Str → Option Value) (h : Heap) (tk : Nat) (oI : Obj), v ∈ vs → Facts c → Fr h₀ env.locals h (fun y => if y = x then some v else if stored.contains y then u y else m₀ y) → News h₀ env.locals h ((I, oI) :: Led c) →
      wpAny (model prog w) A (execs body env) (KxPost h₀ env.locals I oI Led Facts x stored m₀ { s with heap := h, toks := tk } Q) E { s with heap := h, toks := tk })
    (done : ∀ (c : σ) (u : Str → Option Value) (h : Heap) (tk : Nat), Facts c → Fr h₀ env.locals h (fun y => if y = x then u y else if stored.contains y then u y else m₀ y) → News h₀ env.locals h (Led c) → Q .next { s with heap := h, toks := tk }) :
    wpAny (model prog w) A (pyIter (.ref l)) (fun it s₂ => LoopAtV prog w A h₀ env x body Q E it s₂) E s := by
  have hol := N _ (hl c₀)
  have hls : s.heap.IsTuple l vs.toArray := ⟨_, hol.1, hc, nn, hd⟩
  have hlt : l < s.heap.objs.size := Heap.lt_size hol.1
  have hlt0 : ∀ p ∈ Led c₀, p.1 < s.heap.objs.size := fun p hp => Heap.lt_size (N p hp).1
  refine wpAny_pyIter_tuple hls ?_
  refine kx_loop (I := s.heap.objs.size) Led Facts stored c₀ (Walks.tuple hh s.heap.objs.size l (Nat.ne_of_lt hlt) vs.toArray) (fun i h st => by obtain ⟨o, e, _⟩ := st.1; exact ⟨o, e⟩) (List.Mem.head _) ?_ ?_ (next_is_new F) ?_
    ⟨⟨_, Heap.get?_push_size _ rfl, rfl, rfl⟩, hls.at fun o e => Heap.get?_push_of_some _ e⟩ (F.push _) (fun p hp => ⟨Heap.get?_push_of_some _ (N p hp).1, (N p hp).2⟩) hf ?_ (fun c u h tk => done c u h tk)
  · intro b hb _
    rcases List.mem_cons.mp hb with e | hb
    · exact .inl e
    · rw [List.mem_singleton.mp hb]
      exact .inr ⟨_, hl⟩
  · intro hb
    rcases List.mem_cons.mp hb with e | hb
    · exact absurd F.ns.lt (e ▸ Nat.lt_irrefl _)
    · exact hol.2.1 (List.mem_singleton.mp hb).symm
  · intro c p hp e
    have : p.1 ∈ (Led c₀).map (·.1) := by rw [← hadr c]; exact List.mem_map.mpr ⟨p, hp, rfl⟩
    obtain ⟨q, hq, hqe⟩ := List.mem_map.mp this
    have h1 := hlt0 q hq
    rw [hqe, e] at h1
    exact Nat.lt_irrefl _ h1
  · intro c i v u h tk oI hi hP
    have hP' : vs.toArray[i]? = some v := hP
    exact turn _ hlt0 c v u h tk oI (List.mem_of_getElem? (by simpa using hP'))

/-- range(0, n) -/
theorem kx_range {σ : Type} {r : Addr} {b₀ : Int} {t₀ u₀ v₀ : Tok} {n : Nat} {m₀ : Str → Option Value} (Led : σ → List (Addr × Obj)) (Facts : σ → Prop) (stored : List Str) (c₀ : σ)
    (hh : A.handled = none) (hr : IsRange s.heap r 0 b₀ 1 t₀ u₀ v₀) (hsmall : Builtin.Range.small 0 b₀ 1 = true) (hn : Builtin.Range.rangeSize 0 b₀ 1 = (n : Int)) (hadr : ∀ c, (Led c).map (·.1) = (Led c₀).map (·.1)) (F : Fr h₀ env.locals s.heap m₀) (N : News h₀ env.locals s.heap (Led c₀)) (hf : Facts c₀)
    (turn : ∀ (I : Addr), (∀ p ∈ Led c₀, p.1 < I) → ∀ (c : σ) (k : Int) (t : Tok) (u : Str → Option Value) (h : Heap) (tk : Nat) (oI : Obj), 0 ≤ k → k < n → Facts c → Fr h₀ env.locals h (fun y => if y = x then some (.int k t) else if stored.contains y then u y else m₀ y) → News h₀ env.locals h ((I, oI) :: Led c) →
      wpAny (model prog w) A (execs body env) (KxPost h₀ env.locals I oI Led Facts x stored m₀ { s with heap := h, toks := tk } Q) E { s with heap := h, toks := tk })
    (done : ∀ (c : σ) (u : Str → Option Value) (h : Heap) (tk : Nat), Facts c → Fr h₀ env.locals h (fun y => if y = x then u y else if stored.contains y then u y else m₀ y) → News h₀ env.locals h (Led c) → Q .next { s with heap := h, toks := tk }) :
    wpAny (model prog w) A (pyIter (.ref r)) (fun it s₂ => LoopAtV prog w A h₀ env x body Q E it s₂) E s := by
  have hlt0 : ∀ p ∈ Led c₀, p.1 < s.heap.objs.size := fun p hp => Heap.lt_size (N p hp).1
  refine wpAny_pyIter_range hr hsmall ?_
  refine kx_loop (I := s.heap.objs.size) Led Facts stored c₀ (LCg.range_walks (I := s.heap.objs.size) hh 0 n) (fun i h st => ⟨_, st⟩) (List.Mem.head _) ?_ ?_ (next_is_new F) ?_
    (by show IsRangeIter _ _ _ _ _; rw [hn]; simpa using Heap.get?_push_size _ rfl) (F.push _) (fun p hp => ⟨Heap.get?_push_of_some _ (N p hp).1, (N p hp).2⟩) hf ?_ (fun c u h tk => done c u h tk)
  · intro b hb _
    exact .inl (List.mem_singleton.mp hb)
  · intro hb
    exact absurd F.ns.lt ((List.mem_singleton.mp hb) ▸ Nat.lt_irrefl _)
  · intro c p hp e
    have : p.1 ∈ (Led c₀).map (·.1) := by rw [← hadr c]; exact List.mem_map.mpr ⟨p, hp, rfl⟩
    obtain ⟨q, hq, hqe⟩ := List.mem_map.mp this
    have h1 := hlt0 q hq
    rw [hqe, e] at h1
    exact Nat.lt_irrefl _ h1
  · rintro c i v u h tk oI hi ⟨t, rfl⟩
    exact turn _ hlt0 c (0 + (i : Int)) t u h tk oI (by omega) (by omega)
end
end Mine
namespace Mine
open PySem PySem.W PyProof.Rows PySem.Calls PySem.Spec
set_option maxRecDepth 100000
set_option maxHeartbeats 8000000
theorem mx_bd {r g b : Int} (p0 : 0 ≤ r ∧ r ≤ 15) (p1 : 0 ≤ g ∧ g ≤ 15) (p2 : 0 ≤ b ∧ b ≤ 15) :
    0 ≤ mn3 r g b ∧ mn3 r g b ≤ mx3 r g b ∧ mx3 r g b ≤ 15 ∧ mn3 r g b ≤ r ∧ mn3 r g b ≤ g ∧ mn3 r g b ≤ b ∧ r ≤ mx3 r g b ∧ g ≤ mx3 r g b ∧ b ≤ mx3 r g b := by
  obtain ⟨a1, a2, a3, b1, b2, b3, _, _⟩ := mx_ge r g b
  exact ⟨le_mn p0.1 p1.1 p2.1, Int.le_trans b1 a1, mx_le p0.2 p1.2 p2.2, b1, b2, b3, a1, a2, a3⟩
theorem noinfN : allB 16 (fun a => allB 15 (fun b => !Float64.isInf (Float64.ofFrac false a (b + 1)))) = true := by decide +kernel
theorem allB_get {p : Nat → Bool} : ∀ {n : Nat}, allB n p = true → ∀ i, i < n → p i = true
  | 0, _, i, hi => absurd hi (Nat.not_lt_zero i)
  | n + 1, h, i, hi => by
    have h' : (p n && allB n p) = true := h
    rw [Bool.and_eq_true] at h'
    rcases Nat.lt_succ_iff_lt_or_eq.mp hi with hi | rfl
    · exact allB_get h'.2 i hi
    · exact h'.1
theorem noinf {a b : Int} (ha : 0 ≤ a) (ha2 : a ≤ 15) (hb : 0 < b) (hb2 : b ≤ 15) : ¬ Float64.isInf (Float64.ofFrac (decide (a < 0) != decide (b < 0)) a.natAbs b.natAbs) = true := by
  have h1 := allB_get (allB_get noinfN a.natAbs (by omega)) (b.natAbs - 1) (by omega)
  have e : b.natAbs - 1 + 1 = b.natAbs := by omega
  have e1 : decide (a < 0) = false := by rw [decide_eq_false_iff_not]; omega
  have e2 : decide (b < 0) = false := by rw [decide_eq_false_iff_not]; omega
  rw [e] at h1
  rw [e1, e2]
  intro h2
  have h3 : Float64.isInf (Float64.ofFrac false a.natAbs b.natAbs) = true := h2
  rw [h3] at h1
  cases h1
section
variable {r g b : Int}
theorem hF_0 (h : mn3 r g b = mx3 r g b) : (0 : UInt64) = hF r g b := by unfold hF; rw [if_pos h]
theorem sF_0 (h : mn3 r g b = mx3 r g b) : (0 : UInt64) = sF r g b := by unfold sF; rw [if_pos h]
theorem sF_1 (h : mn3 r g b ≠ mx3 r g b) : Float64.ofFrac (decide (mx3 r g b - mn3 r g b < 0) != decide (mx3 r g b < 0)) (mx3 r g b - mn3 r g b).natAbs (mx3 r g b).natAbs = sF r g b := by unfold sF; rw [if_neg h]; rfl
theorem hF_r (h : mn3 r g b ≠ mx3 r g b) (e : r = mx3 r g b) : (Float64.divmod (Float64.div (Float64.sub (qI (mx3 r g b - b) (mx3 r g b - mn3 r g b)) (qI (mx3 r g b - g) (mx3 r g b - mn3 r g b))) c6) c1).2 = hF r g b := by
  unfold hF h0F
  rw [if_neg h, if_pos e]
theorem hF_g (h : mn3 r g b ≠ mx3 r g b) (e : r ≠ mx3 r g b) (e' : g = mx3 r g b) : (Float64.divmod (Float64.div (Float64.sub (Float64.add 4611686018427387904 (qI (mx3 r g b - r) (mx3 r g b - mn3 r g b))) (qI (mx3 r g b - b) (mx3 r g b - mn3 r g b))) c6) c1).2 = hF r g b := by
  unfold hF h0F
  rw [if_neg h, if_neg e, if_pos e']
theorem hF_b (h : mn3 r g b ≠ mx3 r g b) (e : r ≠ mx3 r g b) (e' : g ≠ mx3 r g b) : (Float64.divmod (Float64.div (Float64.sub (Float64.add 4616189618054758400 (qI (mx3 r g b - g) (mx3 r g b - mn3 r g b))) (qI (mx3 r g b - r) (mx3 r g b - mn3 r g b))) c6) c1).2 = hF r g b := by
  unfold hF h0F
  rw [if_neg h, if_neg e, if_neg e']
end
section
variable {hu sa : UInt64} {va : Int}
theorem ok_of (hok : okT hu sa va = true) (hg : (Float64.cmp sa 0 == some Ordering.eq) = false) : Float64.isFinite (Float64.mul hu c6) = true ∧ (iF hu).natAbs < 2 ^ 64 ∧ Float64.isFinite (pF sa va) = true ∧ Float64.isFinite (qF sa (fF hu) va) = true ∧ Float64.isFinite (tF sa (fF hu) va) = true := by
  unfold okT grey at hok
  rw [hg] at hok
  simp only [Bool.false_or, Bool.and_eq_true, decide_eq_true_eq] at hok
  obtain ⟨⟨⟨⟨a, b⟩, c⟩, d⟩, e⟩ := hok
  exact ⟨a, b, c, d, e⟩
theorem oT_g (hg : (Float64.cmp sa 0 == some Ordering.eq) = true) : o0T hu sa va = va ∧ o1T hu sa va = va ∧ o2T hu sa va = va := by
  unfold o0T o1T o2T oT grey
  rw [hg]
  exact ⟨rfl, rfl, rfl⟩
theorem oT_n (hg : (Float64.cmp sa 0 == some Ordering.eq) = false) : oT hu sa va = outF hu sa va := by
  unfold oT grey
  rw [hg]
  rfl
theorem ok_nan (hok : okT hu sa va = true) (hg : (Float64.cmp sa 0 == some Ordering.eq) = false) (h : Float64.isNaN (Float64.mul hu c6) = true) : False := by
  rw [Flt.not_nan_of_finite (ok_of hok hg).1] at h; cases h
theorem ok_inf (hok : okT hu sa va = true) (hg : (Float64.cmp sa 0 == some Ordering.eq) = false) (h : Float64.isInf (Float64.mul hu c6) = true) : False := by
  rw [Flt.not_inf_of_finite (ok_of hok hg).1] at h; cases h
theorem ok_big (hok : okT hu sa va = true) (hg : (Float64.cmp sa 0 == some Ordering.eq) = false) (h : 2 ^ 1024 - 2 ^ 970 ≤ (iF hu).natAbs) : False := by
  have h1 := (ok_of hok hg).2.1
  have h2 : (2 : Nat) ^ 64 ≤ 2 ^ 1024 - 2 ^ 970 := by decide +kernel
  exact Nat.lt_irrefl _ (Nat.lt_of_lt_of_le h1 (Nat.le_trans h2 h))
theorem out_0 (hg : (Float64.cmp sa 0 == some Ordering.eq) = false) (e : iF hu % 6 = 0) : o0T hu sa va = va ∧ o1T hu sa va = rn (tF sa (fF hu) va) ∧ o2T hu sa va = rn (pF sa va) := by
  unfold o0T o1T o2T
  rw [oT_n hg]
  unfold outF
  simp only [e]
  exact ⟨rfl, rfl, rfl⟩
theorem out_1 (hg : (Float64.cmp sa 0 == some Ordering.eq) = false) (e : iF hu % 6 = 1) : o0T hu sa va = rn (qF sa (fF hu) va) ∧ o1T hu sa va = va ∧ o2T hu sa va = rn (pF sa va) := by
  unfold o0T o1T o2T
  rw [oT_n hg]
  unfold outF
  simp only [e]
  exact ⟨rfl, rfl, rfl⟩
theorem out_2 (hg : (Float64.cmp sa 0 == some Ordering.eq) = false) (e : iF hu % 6 = 2) : o0T hu sa va = rn (pF sa va) ∧ o1T hu sa va = va ∧ o2T hu sa va = rn (tF sa (fF hu) va) := by
  unfold o0T o1T o2T
  rw [oT_n hg]
  unfold outF
  simp only [e]
  exact ⟨rfl, rfl, rfl⟩
theorem out_3 (hg : (Float64.cmp sa 0 == some Ordering.eq) = false) (e : iF hu % 6 = 3) : o0T hu sa va = rn (pF sa va) ∧ o1T hu sa va = rn (qF sa (fF hu) va) ∧ o2T hu sa va = va := by
  unfold o0T o1T o2T
  rw [oT_n hg]
  unfold outF
  simp only [e]
  exact ⟨rfl, rfl, rfl⟩
theorem out_4 (hg : (Float64.cmp sa 0 == some Ordering.eq) = false) (e : iF hu % 6 = 4) : o0T hu sa va = rn (tF sa (fF hu) va) ∧ o1T hu sa va = rn (pF sa va) ∧ o2T hu sa va = va := by
  unfold o0T o1T o2T
  rw [oT_n hg]
  unfold outF
  simp only [e]
  exact ⟨rfl, rfl, rfl⟩
theorem out_5 (hg : (Float64.cmp sa 0 == some Ordering.eq) = false) (e : iF hu % 6 = 5) : o0T hu sa va = va ∧ o1T hu sa va = rn (pF sa va) ∧ o2T hu sa va = rn (qF sa (fF hu) va) := by
  unfold o0T o1T o2T
  rw [oT_n hg]
  unfold outF
  simp only [e]
  exact ⟨rfl, rfl, rfl⟩
theorem rnd_i {n m : Int} {t : Tok} (e : m = n) : Rnd (.int n t) m := e ▸ Rnd.int n t
theorem rnd_f {f : UInt64} {m : Int} {t : Tok} (hf : Float64.isFinite f = true) (e : m = rn f) : Rnd (.float f t) m := e ▸ Rnd.flt f t hf
end
end Mine
namespace Mine
open PySem PySem.W PyProof.Rows PySem.Calls PySem.Spec
set_option maxRecDepth 100000
set_option maxHeartbeats 8000000
local macro_rules | `(tactic| walk_at $s:str) => `(tactic| k_extra $s)
theorem words_CT1_0 : True := by
  k_with_none
  (k_with "binaryOp Sub int int" => (k_here; (with_reducible show wpAny _ _ (binaryOp Operator.Sub (Value.int (OfNat.ofNat _) _) (Value.int (OfNat.ofNat _) _)) _ _ _); (refine' subLit ?zqe ?_; (case zqe => ((try simp only [Int.reduceSub]); exact rfl)); k_whole)))
  (k_with "binaryOp Add int int" => (k_here; (with_reducible show wpAny _ _ (binaryOp Operator.Add (Value.int (OfNat.ofNat _) _) (Value.int (OfNat.ofNat _) _)) _ _ _); (refine' addLit ?zqe ?_; (case zqe => ((try simp only [Int.reduceAdd]); exact rfl)); k_whole)))
  (k_with "binaryOp Mult int int" => (k_here; first | ((with_reducible show wpAny _ _ (binaryOp Operator.Mult (Value.int (OfNat.ofNat _) _) (Value.int (OfNat.ofNat _) _)) _ _ _); (refine' mulLit ?zqe ?zqf ?_; (case zqe => ((try simp only [Int.reduceMul]); exact rfl)); (case zqf => decide); k_whole)) | ((with_reducible show wpAny _ _ (binaryOp Operator.Mult (Value.int _ _) (Value.int (OfNat.ofNat _) _)) _ _ _); (refine' mulR ?zqf ?_; (case zqf => decide); k_whole))))
  (k_with "binaryOp Pow int int" => (k_here; (with_reducible show wpAny _ _ (binaryOp Operator.Pow (Value.int (OfNat.ofNat _) _) (Value.int (OfNat.ofNat _) _)) _ _ _); (refine' powLit ?zqe ?zqf ?zqg ?zqi ?_; (case zqe => ((try simp only [Int.reduceToNat, Int.reducePow]); exact rfl)); (case zqf => decide); (case zqg => decide); (case zqi => decide); k_whole)))
  (k_with "binaryOp FloorDiv int int" => (k_here; (with_reducible show wpAny _ _ (binaryOp Operator.FloorDiv (Value.int _ _) (Value.int (OfNat.ofNat _) _)) _ _ _); (refine' fdivL ?zqe ?zqf ?_; (case zqe => decide); (case zqf => decide); k_whole)))
  (k_with "binaryOp Mod int int" => (k_here; (with_reducible show wpAny _ _ (binaryOp Operator.Mod (Value.int _ _) (Value.int (OfNat.ofNat _) _)) _ _ _); (refine' fmodL ?zqe ?_; (case zqe => decide); k_whole)))
  (k_with "call builtin:max" => (k_here; (with_reducible show wpAny _ _ (call (Value.builtin "max") [Value.int _ _, Value.int _ _, Value.int _ _]) _ _ _); k_dflt (refine' max3N ?zqk1 ?zqk2 ?zqk3 ?_; (case zqk1 => exact rfl); (case zqk2 => k_asm); (case zqk3 => k_asm)); intro t' h' tk' F' N'; (try dsimp only)))
  (k_with "call builtin:min" => (k_here; (with_reducible show wpAny _ _ (call (Value.builtin "min") [Value.int _ _, Value.int _ _, Value.int _ _]) _ _ _); k_dflt (refine' min3N ?zqk1 ?zqk2 ?zqk3 ?_; (case zqk1 => exact rfl); (case zqk2 => k_asm); (case zqk3 => k_asm)); intro t' h' tk' F' N'; (try dsimp only)))
  trivial
theorem c_imode {w : World} {mean : ExcName → Option Value} {mg mb : Str → Option Value} {news : List (Addr × Obj)} {dp un : Nat} {gd : Option (List Code)} {cn : Str} {cs : Scope} {a : Addr} {ccd : Value} {cl : List (Str × Addr)} {outer : List Env} {A₀ : Around} {base h₀ : Heap} {L : Addr} {m : Str → Option Value} {s : Shared} {Q E : Value → Shared → Prop}
    (B : Below A₀ base outer h₀) (F : Fr h₀ L s.heap m) (X : (Mine.hd.heap_39 w.params).In h₀) (N : News h₀ L s.heap news) (T : Top Mine.hd.view_39 (looseW Mine.hd.view_39 [Str.ofString "_filemode_table"]) mean mg mb h₀) (hk : cs.kind = .function) (hd : dp < recursionLimit) (hu : un + 8 < cLine)
    {x : Int} {t : Tok}
    
    (hret : ∀ (y : Int) (t : Tok) (h' : Heap) (tk' : Nat), y = Builtin.bitAnd x 4095 → 0 ≤ y → y < 4096 → Fr h₀ L h' m → News h₀ L h' news → Q (.int y t) { s with heap := h', toks := tk' }) :
    wpAny (model PySem.Challenge.rw_mq0213_01.row.prog w) (ktrTop dp un gd cn cs L a ccd cl outer) (call (.ref 21) [.int x t]) Q E s := by
  w_top off
  revert X
  k_fill
  intro X
  refine wpAny_call ?_
  k_dflt cell_enter
  (repeat' (first | (k_unfold; (try dsimp only)) | walk1 | (dsimp only; walk1)))
  exact hret _ _ _ _ rfl (bA_lo x) (bA_hi x) (by k_asm) (by k_asm)

theorem c_ifmt {w : World} {mean : ExcName → Option Value} {mg mb : Str → Option Value} {news : List (Addr × Obj)} {dp un : Nat} {gd : Option (List Code)} {cn : Str} {cs : Scope} {a : Addr} {ccd : Value} {cl : List (Str × Addr)} {outer : List Env} {A₀ : Around} {base h₀ : Heap} {L : Addr} {m : Str → Option Value} {s : Shared} {Q E : Value → Shared → Prop}
    (B : Below A₀ base outer h₀) (F : Fr h₀ L s.heap m) (X : (Mine.hd.heap_39 w.params).In h₀) (N : News h₀ L s.heap news) (T : Top Mine.hd.view_39 (looseW Mine.hd.view_39 [Str.ofString "_filemode_table"]) mean mg mb h₀) (hk : cs.kind = .function) (hd : dp < recursionLimit) (hu : un + 8 < cLine)
    {x : Int} {t : Tok}
    
    (hret : ∀ (y : Int) (t : Tok) (h' : Heap) (tk' : Nat), y = Builtin.bitAnd x 61440 → Fr h₀ L h' m → News h₀ L h' news → Q (.int y t) { s with heap := h', toks := tk' }) :
    wpAny (model PySem.Challenge.rw_mq0213_01.row.prog w) (ktrTop dp un gd cn cs L a ccd cl outer) (call (.ref 28) [.int x t]) Q E s := by
  w_top off
  revert X
  k_fill
  intro X
  refine wpAny_call ?_
  k_dflt cell_enter
  (repeat' (first | (k_unfold; (try dsimp only)) | walk1 | (dsimp only; walk1)))
  exact hret _ _ _ _ rfl (by k_asm) (by k_asm)

theorem c_part {w : World} {mean : ExcName → Option Value} {mg mb : Str → Option Value} {news : List (Addr × Obj)} {dp un : Nat} {gd : Option (List Code)} {cn : Str} {cs : Scope} {a : Addr} {ccd : Value} {cl : List (Str × Addr)} {outer : List Env} {A₀ : Around} {base h₀ : Heap} {L : Addr} {m : Str → Option Value} {s : Shared} {Q E : Value → Shared → Prop}
    (B : Below A₀ base outer h₀) (F : Fr h₀ L s.heap m) (X : (Mine.hd.heap_39 w.params).In h₀) (N : News h₀ L s.heap news) (T : Top Mine.hd.view_39 (looseW Mine.hd.view_39 [Str.ofString "_filemode_table"]) mean mg mb h₀) (hk : cs.kind = .function) (hd : dp < recursionLimit) (hu : un + 8 < cLine)
    {x y : Str} {t u : Tok}
    (p0 : x.length ≤ 10) (p1 : y.length = 4)
    (hret : ∀ (z : Int) (t : Tok) (h' : Heap) (tk' : Nat), z = partT x y → Fr h₀ L h' m → News h₀ L h' news → Q (.int z t) { s with heap := h', toks := tk' }) :
    wpAny (model PySem.Challenge.rw_mq0213_01.row.prog w) (ktrTop dp un gd cn cs L a ccd cl outer) (call (.ref 89) [.str x t, .str y u]) Q E s := by
  w_top off
  revert X
  k_fill
  intro X
  refine wpAny_call ?_
  k_dflt cell_enter
  (repeat' (first | (k_unfold; (try dsimp only)) | walk1 | (dsimp only; walk1)))
  exact hret _ _ _ _ rfl (by k_asm) (by k_asm)

theorem c_block {w : World} {mean : ExcName → Option Value} {mg mb : Str → Option Value} {news : List (Addr × Obj)} {dp un : Nat} {gd : Option (List Code)} {cn : Str} {cs : Scope} {a : Addr} {ccd : Value} {cl : List (Str × Addr)} {outer : List Env} {A₀ : Around} {base h₀ : Heap} {L : Addr} {m : Str → Option Value} {s : Shared} {Q E : Value → Shared → Prop}
    (B : Below A₀ base outer h₀) (F : Fr h₀ L s.heap m) (X : (Mine.hd.heap_39 w.params).In h₀) (N : News h₀ L s.heap news) (T : Top Mine.hd.view_39 (looseW Mine.hd.view_39 [Str.ofString "_filemode_table"]) mean mg mb h₀) (hk : cs.kind = .function) (hd : dp < recursionLimit) (hu : un + 8 < cLine)
    {x : Int} {y : Str} {t u : Tok}
    (p0 : 0 ≤ x ∧ x ≤ 15) (p1 : y.length = 4)
    (hret : ∀ (z : Str) (t : Tok) (h' : Heap) (tk' : Nat), z = blockT x y → z.length = 3 → Fr h₀ L h' m → News h₀ L h' news → Q (.str z t) { s with heap := h', toks := tk' }) :
    wpAny (model PySem.Challenge.rw_mq0213_01.row.prog w) (ktrTop dp un gd cn cs L a ccd cl outer) (call (.ref 96) [.int x t, .str y u]) Q E s := by
  w_top off
  revert X
  k_fill
  intro X
  refine wpAny_call ?_
  k_dflt cell_enter
  (repeat' (first | (k_unfold; (try dsimp only)) | walk1 | (dsimp only; walk1)))
  exact hret _ _ _ _ rfl block_len (by k_asm) (by k_asm)

theorem words_CT1_off : True := by k_with_none; trivial
end Mine
namespace Mine
open PySem PySem.W PyProof.Rows PySem.Calls PySem.Spec
set_option maxRecDepth 100000
set_option maxHeartbeats 8000000
local macro_rules | `(tactic| walk_at $s:str) => `(tactic| k_extra $s)
theorem words_CT2_0 : True := by
  k_with_none
  (k_with "binaryOp Sub int int" => (k_here; (with_reducible show wpAny _ _ (binaryOp Operator.Sub (Value.int (OfNat.ofNat _) _) (Value.int (OfNat.ofNat _) _)) _ _ _); (refine' subLit ?zqe ?_; (case zqe => ((try simp only [Int.reduceSub]); exact rfl)); k_whole)))
  (k_with "binaryOp Add int int" => (k_here; (with_reducible show wpAny _ _ (binaryOp Operator.Add (Value.int (OfNat.ofNat _) _) (Value.int (OfNat.ofNat _) _)) _ _ _); (refine' addLit ?zqe ?_; (case zqe => ((try simp only [Int.reduceAdd]); exact rfl)); k_whole)))
  (k_with "binaryOp Mult int int" => (k_here; first | ((with_reducible show wpAny _ _ (binaryOp Operator.Mult (Value.int (OfNat.ofNat _) _) (Value.int (OfNat.ofNat _) _)) _ _ _); (refine' mulLit ?zqe ?zqf ?_; (case zqe => ((try simp only [Int.reduceMul]); exact rfl)); (case zqf => decide); k_whole)) | ((with_reducible show wpAny _ _ (binaryOp Operator.Mult (Value.int _ _) (Value.int (OfNat.ofNat _) _)) _ _ _); (refine' mulR ?zqf ?_; (case zqf => decide); k_whole))))
  (k_with "binaryOp Pow int int" => (k_here; (with_reducible show wpAny _ _ (binaryOp Operator.Pow (Value.int (OfNat.ofNat _) _) (Value.int (OfNat.ofNat _) _)) _ _ _); (refine' powLit ?zqe ?zqf ?zqg ?zqi ?_; (case zqe => ((try simp only [Int.reduceToNat, Int.reducePow]); exact rfl)); (case zqf => decide); (case zqg => decide); (case zqi => decide); k_whole)))
  (k_with "binaryOp FloorDiv int int" => (k_here; (with_reducible show wpAny _ _ (binaryOp Operator.FloorDiv (Value.int _ _) (Value.int (OfNat.ofNat _) _)) _ _ _); (refine' fdivL ?zqe ?zqf ?_; (case zqe => decide); (case zqf => decide); k_whole)))
  (k_with "binaryOp Mod int int" => (k_here; (with_reducible show wpAny _ _ (binaryOp Operator.Mod (Value.int _ _) (Value.int (OfNat.ofNat _) _)) _ _ _); (refine' fmodL ?zqe ?_; (case zqe => decide); k_whole)))
  (k_with "call builtin:max" => (k_here; (with_reducible show wpAny _ _ (call (Value.builtin "max") [Value.int _ _, Value.int _ _, Value.int _ _]) _ _ _); k_dflt (refine' max3N ?zqk1 ?zqk2 ?zqk3 ?_; (case zqk1 => exact rfl); (case zqk2 => k_asm); (case zqk3 => k_asm)); intro t' h' tk' F' N'; (try dsimp only)))
  (k_with "call builtin:min" => (k_here; (with_reducible show wpAny _ _ (call (Value.builtin "min") [Value.int _ _, Value.int _ _, Value.int _ _]) _ _ _); k_dflt (refine' min3N ?zqk1 ?zqk2 ?zqk3 ?_; (case zqk1 => exact rfl); (case zqk2 => k_asm); (case zqk3 => k_asm)); intro t' h' tk' F' N'; (try dsimp only)))
  trivial
theorem c_rgb {w : World} {mean : ExcName → Option Value} {mg mb : Str → Option Value} {news : List (Addr × Obj)} {dp un : Nat} {gd : Option (List Code)} {cn : Str} {cs : Scope} {a : Addr} {ccd : Value} {cl : List (Str × Addr)} {outer : List Env} {A₀ : Around} {base h₀ : Heap} {L : Addr} {m : Str → Option Value} {s : Shared} {Q E : Value → Shared → Prop}
    (B : Below A₀ base outer h₀) (F : Fr h₀ L s.heap m) (X : (Mine.hd.heap_39 w.params).In h₀) (N : News h₀ L s.heap news) (T : Top Mine.hd.view_39 (looseW Mine.hd.view_39 [Str.ofString "_filemode_table"]) mean mg mb h₀) (hk : cs.kind = .function) (hd : dp < recursionLimit) (hu : un + 8 < cLine)
    {r g b : Int} {t u v : Tok}
    (p0 : 0 ≤ r ∧ r ≤ 15) (p1 : 0 ≤ g ∧ g ≤ 15) (p2 : 0 ≤ b ∧ b ≤ 15)
    (hret : ∀ (D : Addr) (x y : UInt64) (z : Int) (t₁ t₂ t₃ : Tok) (h' : Heap) (tk' : Nat), x = hF r g b → y = sF r g b → z = mx3 r g b → Fr h₀ L h' m → News h₀ L h' ((D, { cls := .type "tuple", data := .seq #[.float x t₁, .float y t₂, .int z t₃] }) :: news) → (∀ p ∈ news, p.1 < D) → Q (.ref D) { s with heap := h', toks := tk' }) :
    wpAny (model PySem.Challenge.rw_mq0213_01.row.prog w) (ktrTop dp un gd cn cs L a ccd cl outer) (call (.ref 75) [.int r t, .int g u, .int b v]) Q E s := by
  have hbd := mx_bd p0 p1 p2
  w_top off
  revert X
  k_fill
  intro X
  refine wpAny_call ?_
  k_dflt cell_enter
  (repeat' (first | (k_unfold; (try dsimp only)) | walk1 | (dsimp only; walk1)))
  all_goals first
    | exact hret _ _ _ _ _ _ _ _ _ (hF_0 (by assumption)) (sF_0 (by assumption)) rfl (by k_asm) (by k_asm) (by assumption)
    | exact hret _ _ _ _ _ _ _ _ _ (hF_r (by assumption) (by assumption)) (sF_1 (by assumption)) rfl (by k_asm) (by k_asm) (by assumption)
    | exact hret _ _ _ _ _ _ _ _ _ (hF_g (by assumption) (by assumption) (by assumption)) (sF_1 (by assumption)) rfl (by k_asm) (by k_asm) (by assumption)
    | exact hret _ _ _ _ _ _ _ _ _ (hF_b (by assumption) (by assumption) (by assumption)) (sF_1 (by assumption)) rfl (by k_asm) (by k_asm) (by assumption)
    | (exfalso; omega)
    | (exfalso; exact noinf (by omega) (by omega) (by omega) (by omega) (by assumption))

theorem words_CT2_off : True := by k_with_none; trivial
end Mine
namespace Mine
open PySem PySem.W PyProof.Rows PySem.Calls PySem.Spec
set_option maxRecDepth 100000
set_option maxHeartbeats 8000000
local macro_rules | `(tactic| walk_at $s:str) => `(tactic| k_extra $s)
theorem words_CT3_0 : True := by
  k_with_none
  (k_with "binaryOp Sub int int" => (k_here; (with_reducible show wpAny _ _ (binaryOp Operator.Sub (Value.int (OfNat.ofNat _) _) (Value.int (OfNat.ofNat _) _)) _ _ _); (refine' subLit ?zqe ?_; (case zqe => ((try simp only [Int.reduceSub]); exact rfl)); k_whole)))
  (k_with "binaryOp Add int int" => (k_here; (with_reducible show wpAny _ _ (binaryOp Operator.Add (Value.int (OfNat.ofNat _) _) (Value.int (OfNat.ofNat _) _)) _ _ _); (refine' addLit ?zqe ?_; (case zqe => ((try simp only [Int.reduceAdd]); exact rfl)); k_whole)))
  (k_with "binaryOp Mult int int" => (k_here; first | ((with_reducible show wpAny _ _ (binaryOp Operator.Mult (Value.int (OfNat.ofNat _) _) (Value.int (OfNat.ofNat _) _)) _ _ _); (refine' mulLit ?zqe ?zqf ?_; (case zqe => ((try simp only [Int.reduceMul]); exact rfl)); (case zqf => decide); k_whole)) | ((with_reducible show wpAny _ _ (binaryOp Operator.Mult (Value.int _ _) (Value.int (OfNat.ofNat _) _)) _ _ _); (refine' mulR ?zqf ?_; (case zqf => decide); k_whole))))
  (k_with "binaryOp Pow int int" => (k_here; (with_reducible show wpAny _ _ (binaryOp Operator.Pow (Value.int (OfNat.ofNat _) _) (Value.int (OfNat.ofNat _) _)) _ _ _); (refine' powLit ?zqe ?zqf ?zqg ?zqi ?_; (case zqe => ((try simp only [Int.reduceToNat, Int.reducePow]); exact rfl)); (case zqf => decide); (case zqg => decide); (case zqi => decide); k_whole)))
  (k_with "binaryOp FloorDiv int int" => (k_here; (with_reducible show wpAny _ _ (binaryOp Operator.FloorDiv (Value.int _ _) (Value.int (OfNat.ofNat _) _)) _ _ _); (refine' fdivL ?zqe ?zqf ?_; (case zqe => decide); (case zqf => decide); k_whole)))
  (k_with "binaryOp Mod int int" => (k_here; (with_reducible show wpAny _ _ (binaryOp Operator.Mod (Value.int _ _) (Value.int (OfNat.ofNat _) _)) _ _ _); (refine' fmodL ?zqe ?_; (case zqe => decide); k_whole)))
  (k_with "call builtin:max" => (k_here; (with_reducible show wpAny _ _ (call (Value.builtin "max") [Value.int _ _, Value.int _ _, Value.int _ _]) _ _ _); k_dflt (refine' max3N ?zqk1 ?zqk2 ?zqk3 ?_; (case zqk1 => exact rfl); (case zqk2 => k_asm); (case zqk3 => k_asm)); intro t' h' tk' F' N'; (try dsimp only)))
  (k_with "call builtin:min" => (k_here; (with_reducible show wpAny _ _ (call (Value.builtin "min") [Value.int _ _, Value.int _ _, Value.int _ _]) _ _ _); k_dflt (refine' min3N ?zqk1 ?zqk2 ?zqk3 ?_; (case zqk1 => exact rfl); (case zqk2 => k_asm); (case zqk3 => k_asm)); intro t' h' tk' F' N'; (try dsimp only)))
  trivial
theorem c_hsv {w : World} {mean : ExcName → Option Value} {mg mb : Str → Option Value} {news : List (Addr × Obj)} {dp un : Nat} {gd : Option (List Code)} {cn : Str} {cs : Scope} {a : Addr} {ccd : Value} {cl : List (Str × Addr)} {outer : List Env} {A₀ : Around} {base h₀ : Heap} {L : Addr} {m : Str → Option Value} {s : Shared} {Q E : Value → Shared → Prop}
    (B : Below A₀ base outer h₀) (F : Fr h₀ L s.heap m) (X : (Mine.hd.heap_39 w.params).In h₀) (N : News h₀ L s.heap news) (T : Top Mine.hd.view_39 (looseW Mine.hd.view_39 [Str.ofString "_filemode_table"]) mean mg mb h₀) (hk : cs.kind = .function) (hd : dp < recursionLimit) (hu : un + 8 < cLine)
    {hu sa : UInt64} {va : Int} {t u v : Tok}
    (p0 : 0 ≤ va ∧ va ≤ 15) (p1 : okT hu sa va = true)
    (hret : ∀ (D : Addr) (x y z : Value) (h' : Heap) (tk' : Nat), Rnd x (o0T hu sa va) → Rnd y (o1T hu sa va) → Rnd z (o2T hu sa va) → Fr h₀ L h' m → News h₀ L h' ((D, { cls := .type "tuple", data := .seq #[x, y, z] }) :: news) → (∀ p ∈ news, p.1 < D) → Q (.ref D) { s with heap := h', toks := tk' }) :
    wpAny (model PySem.Challenge.rw_mq0213_01.row.prog w) (ktrTop dp un gd cn cs L a ccd cl outer) (call (.ref 82) [.float hu t, .float sa u, .int va v]) Q E s := by
  w_top off
  revert X
  k_fill
  intro X
  refine wpAny_call ?_
  k_dflt cell_enter
  (repeat' (first | (k_unfold; (try dsimp only)) | walk1 | (dsimp only; walk1)))
  all_goals first
    | exact hret _ _ _ _ _ _ (rnd_i (oT_g (by assumption)).1) (rnd_i (oT_g (by assumption)).2.1) (rnd_i (oT_g (by assumption)).2.2) (by k_asm) (by k_asm) (by assumption)
    | exact hret _ _ _ _ _ _ (rnd_i (out_0 (by assumption) (by assumption)).1) (rnd_f (ok_of p1 (by assumption)).2.2.2.2 (out_0 (by assumption) (by assumption)).2.1) (rnd_f (ok_of p1 (by assumption)).2.2.1 (out_0 (by assumption) (by assumption)).2.2) (by k_asm) (by k_asm) (by assumption)
    | exact hret _ _ _ _ _ _ (rnd_f (ok_of p1 (by assumption)).2.2.2.1 (out_1 (by assumption) (by assumption)).1) (rnd_i (out_1 (by assumption) (by assumption)).2.1) (rnd_f (ok_of p1 (by assumption)).2.2.1 (out_1 (by assumption) (by assumption)).2.2) (by k_asm) (by k_asm) (by assumption)
    | exact hret _ _ _ _ _ _ (rnd_f (ok_of p1 (by assumption)).2.2.1 (out_2 (by assumption) (by assumption)).1) (rnd_i (out_2 (by assumption) (by assumption)).2.1) (rnd_f (ok_of p1 (by assumption)).2.2.2.2 (out_2 (by assumption) (by assumption)).2.2) (by k_asm) (by k_asm) (by assumption)
    | exact hret _ _ _ _ _ _ (rnd_f (ok_of p1 (by assumption)).2.2.1 (out_3 (by assumption) (by assumption)).1) (rnd_f (ok_of p1 (by assumption)).2.2.2.1 (out_3 (by assumption) (by assumption)).2.1) (rnd_i (out_3 (by assumption) (by assumption)).2.2) (by k_asm) (by k_asm) (by assumption)
    | exact hret _ _ _ _ _ _ (rnd_f (ok_of p1 (by assumption)).2.2.2.2 (out_4 (by assumption) (by assumption)).1) (rnd_f (ok_of p1 (by assumption)).2.2.1 (out_4 (by assumption) (by assumption)).2.1) (rnd_i (out_4 (by assumption) (by assumption)).2.2) (by k_asm) (by k_asm) (by assumption)
    | exact hret _ _ _ _ _ _ (rnd_i (out_5 (by assumption) (by assumption)).1) (rnd_f (ok_of p1 (by assumption)).2.2.1 (out_5 (by assumption) (by assumption)).2.1) (rnd_f (ok_of p1 (by assumption)).2.2.2.1 (out_5 (by assumption) (by assumption)).2.2) (by k_asm) (by k_asm) (by assumption)
    | (exfalso; omega)
    | (exfalso; exact ok_nan p1 (by assumption) (by assumption))
    | (exfalso; exact ok_inf p1 (by assumption) (by assumption))
    | (exfalso; exact ok_big p1 (by assumption) (by assumption))

theorem words_CT3_off : True := by k_with_none; trivial
end Mine
namespace Mine
open PySem PySem.W PyProof.Rows PySem.Calls PySem.Spec
set_option maxRecDepth 100000
set_option maxHeartbeats 8000000
section
variable {prog : Program} {w : World} {A : Around} {E : Value → Shared → Prop} {s : Shared} {h₀ : Heap} {L : Addr} {news : List (Addr × Obj)}
theorem ne_same {x : Str} {t u : Tok} {Q : Value → Shared → Prop} (h : Q (.bool false) s) : wpAny (model prog w) A (compareOp .NotEq (.str x t) (.str x u)) Q E s := by
  refine ne_str ?_
  simpa using h
/-- an item of a list of the ledger, the place written -/
theorem itemL {value slice : PySem.Expr} {l : Addr} {o : Obj} {vs : List Value} {n : Nat} {k : Int} {u : Tok} {v : Value} {Q : Value → Shared → Prop} (N : News h₀ L s.heap news) (hm : (l, o) ∈ news) (hc : o.cls = .type "list") (hd : o.data = .seq vs.toArray n)
    (h0 : 0 ≤ k) (hhi : k < 2 ^ 63) (hx : vs[k.toNat]? = some v) (h : Q v s)
    (hs : subscripted slice false (.ref l) (.int k u) = operate [.ref l, .int k u] (getItem (.ref l) (.int k u)) := by with_unfolding_all rfl) :
    wpAny (model prog w) A (subscriptTail value slice (.ref l) (.int k u)) Q E s := by
  have hl : s.heap.IsList l vs.toArray := ⟨o, (N _ hm).1, hc, n, hd⟩
  exact tail_any hl.typeIs slot_list_getitem.lookup (wpAny_getItem_list hl h0 hhi (by simpa using hx) h) hs
/-- an item of a list of three ints of the ledger, the place within it -/
theorem itemP {value slice : PySem.Expr} {l : Addr} {o : Obj} {x y z : Int} {t₁ t₂ t₃ : Tok} {n : Nat} {k : Int} {u : Tok} {Q : Value → Shared → Prop} (N : News h₀ L s.heap news) (hm : (l, o) ∈ news) (hc : o.cls = .type "list") (hd : o.data = .seq [.int x t₁, .int y t₂, .int z t₃].toArray n)
    (h0 : 0 ≤ k) (hhi : k < 3) (h : ∀ t, Q (.int (pick3 x y z k) t) s)
    (hs : subscripted slice false (.ref l) (.int k u) = operate [.ref l, .int k u] (getItem (.ref l) (.int k u)) := by with_unfolding_all rfl) :
    wpAny (model prog w) A (subscriptTail value slice (.ref l) (.int k u)) Q E s := by
  have hk : k = 0 ∨ k = 1 ∨ k = 2 := by omega
  rcases hk with rfl | rfl | rfl
  · exact itemL N hm hc hd (by decide) (by decide) rfl (h t₁) hs
  · exact itemL N hm hc hd (by decide) (by decide) rfl (h t₂) hs
  · exact itemL N hm hc hd (by decide) (by decide) rfl (h t₃) hs
end
section
variable {prog : Program} {w : World} {A : Around} {E : Value → Shared → Prop} {s : Shared} {h₀ : Heap} {L : Addr} {m : Str → Option Value} {env : Env}
/-- a turn of a comprehension over a written tuple -/
theorem comp_succV {elt : Expr} {x : Str} {scope : Scope} {cl : List (Str × Addr)} {S : List (Addr × Obj) → Prop} {Fin : List Value → List (Addr × Obj) → Prop} {k i : Nat} {ys : List Value} {news : List (Addr × Obj)} {its : Array Value} {v : Value} (hv : its[i]? = some v)
    (h : ∀ I oI C oC D m₂ h tk (E' : Value → Shared → Prop), LCg.NsObj oC m₂ → m₂ x = some v → Fr h₀ L h m → News h₀ L h ((I, oI) :: (C, oC) :: (D, LCg.lst ys) :: news) → LCg.Off3 I C D news →
      wpAny (model prog w) A (eval elt (compEnvC scope cl C env)) (LCg.CompEnd h₀ L m { s with heap := h, toks := tk } I oI C oC D (LCg.lst ys) S (fun y news' => LCg.CompRest prog w A h₀ L m env elt x scope cl s S (fun i v => its[i]? = some v) Fin k (i + 1) (ys ++ [y]) news')) E' { s with heap := h, toks := tk }) :
    LCg.CompRest prog w A h₀ L m env elt x scope cl s S (fun i v => its[i]? = some v) Fin (k + 1) i ys news := by
  refine LCg.CompRest.succ ?_
  intro v' I oI C oC D m₂ h' tk E' hv' hC hx F N off ne
  have e : v = v' := Option.some.inj (hv.symm.trans hv')
  subst e
  exact h I oI C oC D m₂ h' tk E' hC hx F N off
/-- the three turns of a comprehension over three written values -/
theorem comp3_0 {elt : Expr} {x : Str} {scope : Scope} {cl : List (Str × Addr)} {S : List (Addr × Obj) → Prop} {Fin : List Value → List (Addr × Obj) → Prop} {k : Nat} {ys : List Value} {news : List (Addr × Obj)} {a b c : Value}
    (h : ∀ I oI C oC D m₂ h tk (E' : Value → Shared → Prop), LCg.NsObj oC m₂ → m₂ x = some a → Fr h₀ L h m → News h₀ L h ((I, oI) :: (C, oC) :: (D, LCg.lst ys) :: news) → LCg.Off3 I C D news →
      wpAny (model prog w) A (eval elt (compEnvC scope cl C env)) (LCg.CompEnd h₀ L m { s with heap := h, toks := tk } I oI C oC D (LCg.lst ys) S (fun y news' => LCg.CompRest prog w A h₀ L m env elt x scope cl s S (fun i v => #[a, b, c][i]? = some v) Fin k (0 + 1) (ys ++ [y]) news')) E' { s with heap := h, toks := tk }) :
    LCg.CompRest prog w A h₀ L m env elt x scope cl s S (fun i v => #[a, b, c][i]? = some v) Fin (k + 1) 0 ys news := comp_succV rfl h
theorem comp3_1 {elt : Expr} {x : Str} {scope : Scope} {cl : List (Str × Addr)} {S : List (Addr × Obj) → Prop} {Fin : List Value → List (Addr × Obj) → Prop} {k : Nat} {ys : List Value} {news : List (Addr × Obj)} {a b c : Value}
    (h : ∀ I oI C oC D m₂ h tk (E' : Value → Shared → Prop), LCg.NsObj oC m₂ → m₂ x = some b → Fr h₀ L h m → News h₀ L h ((I, oI) :: (C, oC) :: (D, LCg.lst ys) :: news) → LCg.Off3 I C D news →
      wpAny (model prog w) A (eval elt (compEnvC scope cl C env)) (LCg.CompEnd h₀ L m { s with heap := h, toks := tk } I oI C oC D (LCg.lst ys) S (fun y news' => LCg.CompRest prog w A h₀ L m env elt x scope cl s S (fun i v => #[a, b, c][i]? = some v) Fin k (1 + 1) (ys ++ [y]) news')) E' { s with heap := h, toks := tk }) :
    LCg.CompRest prog w A h₀ L m env elt x scope cl s S (fun i v => #[a, b, c][i]? = some v) Fin (k + 1) 1 ys news := comp_succV rfl h
theorem comp3_2 {elt : Expr} {x : Str} {scope : Scope} {cl : List (Str × Addr)} {S : List (Addr × Obj) → Prop} {Fin : List Value → List (Addr × Obj) → Prop} {k : Nat} {ys : List Value} {news : List (Addr × Obj)} {a b c : Value}
    (h : ∀ I oI C oC D m₂ h tk (E' : Value → Shared → Prop), LCg.NsObj oC m₂ → m₂ x = some c → Fr h₀ L h m → News h₀ L h ((I, oI) :: (C, oC) :: (D, LCg.lst ys) :: news) → LCg.Off3 I C D news →
      wpAny (model prog w) A (eval elt (compEnvC scope cl C env)) (LCg.CompEnd h₀ L m { s with heap := h, toks := tk } I oI C oC D (LCg.lst ys) S (fun y news' => LCg.CompRest prog w A h₀ L m env elt x scope cl s S (fun i v => #[a, b, c][i]? = some v) Fin k (2 + 1) (ys ++ [y]) news')) E' { s with heap := h, toks := tk }) :
    LCg.CompRest prog w A h₀ L m env elt x scope cl s S (fun i v => #[a, b, c][i]? = some v) Fin (k + 1) 2 ys news := comp_succV rfl h
end
theorem mx_of {M p q r : Int} (h : M = p ∨ M = q ∨ M = r) (h' : p ≤ M ∧ q ≤ M ∧ r ≤ M) : M = mx3 p q r := by
  unfold mx3
  (repeat' split) <;> omega
theorem mn_of {M p q r : Int} (h : M = p ∨ M = q ∨ M = r) (h' : M ≤ p ∧ M ≤ q ∧ M ≤ r) : M = mn3 p q r := by
  unfold mn3
  (repeat' split) <;> omega
section
variable {p q r k M m : Int} {mir : Bool}
theorem mov_11 (hm : mir = true) (hk : k % 2 = 1) (hM : M = mx3 p q r) (hn : m = mn3 p q r) : [pick3 (M + m - p) (M + m - r) (M + m - q) ((0 + k) % 3), pick3 (M + m - p) (M + m - r) (M + m - q) ((1 + k) % 3), pick3 (M + m - p) (M + m - r) (M + m - q) ((2 + k) % 3)] = movT [p, q, r] mir k := by
  subst hm hM hn
  unfold movT movT3
  simp only [List.getD_cons_zero, List.getD_cons_succ, if_pos hk, if_true]
theorem mov_10 (hm : mir = true) (hk : k % 2 ≠ 1) : [pick3 p r q ((0 + k) % 3), pick3 p r q ((1 + k) % 3), pick3 p r q ((2 + k) % 3)] = movT [p, q, r] mir k := by
  subst hm
  unfold movT movT3
  simp only [List.getD_cons_zero, List.getD_cons_succ, if_neg hk, if_true]
theorem mov_01 (hm : mir = false) (hk : k % 2 = 1) (hM : M = mx3 p q r) (hn : m = mn3 p q r) : [pick3 (M + m - p) (M + m - q) (M + m - r) ((0 + k) % 3), pick3 (M + m - p) (M + m - q) (M + m - r) ((1 + k) % 3), pick3 (M + m - p) (M + m - q) (M + m - r) ((2 + k) % 3)] = movT [p, q, r] mir k := by
  subst hm hM hn
  unfold movT movT3
  simp only [List.getD_cons_zero, List.getD_cons_succ, if_pos hk, Bool.false_eq_true, if_false]
theorem mov_00 (hm : mir = false) (hk : k % 2 ≠ 1) : [pick3 p q r ((0 + k) % 3), pick3 p q r ((1 + k) % 3), pick3 p q r ((2 + k) % 3)] = movT [p, q, r] mir k := by
  subst hm
  unfold movT movT3
  simp only [List.getD_cons_zero, List.getD_cons_succ, if_neg hk, Bool.false_eq_true, if_false]
end
end Mine
namespace Mine
open PySem PySem.W PyProof.Rows PySem.Calls PySem.Spec
set_option maxRecDepth 100000
set_option maxHeartbeats 8000000
theorem below_ne {news : List (Addr × Obj)} {L d : Nat} (h : ∀ p ∈ news, p.1 < L) (hd : L ≤ d) : ∀ p ∈ news, p.1 ≠ d := fun p hp => Nat.ne_of_lt (Nat.lt_of_lt_of_le (h p hp) hd)
local macro_rules | `(tactic| walk_at $s:str) => `(tactic| k_extra $s)
theorem words_CT4_0 : True := by
  k_with_none
  (k_with "binaryOp Sub int int" => (k_here; (with_reducible show wpAny _ _ (binaryOp Operator.Sub (Value.int (OfNat.ofNat _) _) (Value.int (OfNat.ofNat _) _)) _ _ _); (refine' subLit ?zqe ?_; (case zqe => ((try simp only [Int.reduceSub]); exact rfl)); k_whole)))
  (k_with "binaryOp Add int int" => (k_here; (with_reducible show wpAny _ _ (binaryOp Operator.Add (Value.int (OfNat.ofNat _) _) (Value.int (OfNat.ofNat _) _)) _ _ _); (refine' addLit ?zqe ?_; (case zqe => ((try simp only [Int.reduceAdd]); exact rfl)); k_whole)))
  (k_with "binaryOp Mult int int" => (k_here; first | ((with_reducible show wpAny _ _ (binaryOp Operator.Mult (Value.int (OfNat.ofNat _) _) (Value.int (OfNat.ofNat _) _)) _ _ _); (refine' mulLit ?zqe ?zqf ?_; (case zqe => ((try simp only [Int.reduceMul]); exact rfl)); (case zqf => decide); k_whole)) | ((with_reducible show wpAny _ _ (binaryOp Operator.Mult (Value.int _ _) (Value.int (OfNat.ofNat _) _)) _ _ _); (refine' mulR ?zqf ?_; (case zqf => decide); k_whole))))
  (k_with "binaryOp Pow int int" => (k_here; (with_reducible show wpAny _ _ (binaryOp Operator.Pow (Value.int (OfNat.ofNat _) _) (Value.int (OfNat.ofNat _) _)) _ _ _); (refine' powLit ?zqe ?zqf ?zqg ?zqi ?_; (case zqe => ((try simp only [Int.reduceToNat, Int.reducePow]); exact rfl)); (case zqf => decide); (case zqg => decide); (case zqi => decide); k_whole)))
  (k_with "binaryOp FloorDiv int int" => (k_here; (with_reducible show wpAny _ _ (binaryOp Operator.FloorDiv (Value.int _ _) (Value.int (OfNat.ofNat _) _)) _ _ _); (refine' fdivL ?zqe ?zqf ?_; (case zqe => decide); (case zqf => decide); k_whole)))
  (k_with "binaryOp Mod int int" => (k_here; (with_reducible show wpAny _ _ (binaryOp Operator.Mod (Value.int _ _) (Value.int (OfNat.ofNat _) _)) _ _ _); (refine' fmodL ?zqe ?_; (case zqe => decide); k_whole)))
  (k_with "eval ListComp" => (k_here; k_dflt (refine LCg.ListComp_U (F₀ := by k_asm) (by with_unfolding_all rfl) (by decide) (by rfl) (by decide) (by rfl) ?_); k_dflt lcg_toSrc))
  (k_with "exec Assign cons ListComp" => (k_here; k_dflt (refine LCg.Assign_ListComp_U (F₀ := by k_asm) (by rfl) (by with_unfolding_all rfl) (by with_unfolding_all rfl) (by decide) (by rfl) (by decide) (by rfl) (by rfl) (by rfl) ?_); k_dflt lcg_toSrc))
  (k_with "CompSrc" => (k_here; k_dflt (first | (refine LCg.CompSrc.ledger (by rfl) (by k_asm) (by k_asm) (by k_mem) (by first | size_fits | exact Nat.le_of_ble_eq_true rfl) ?_; intro g'; lcg_lit) | (refine LCg.CompSrc.range (by rfl) (by k_asm) (by k_asm) (by assumption) (by first | decide | rfl) (by first | rfl | decide) (by first | size_fits | exact Nat.le_of_ble_eq_true rfl) ?_; intro g'; lcg_lit))))
  (k_with "CompRest" => (with_unfolding_all first | (first | refine comp_succ (c := 0) (by rfl) ?_ | refine comp_succ (c := 1) (by rfl) ?_ | refine comp_succ (c := 2) (by rfl) ?_); intro t' I' oI' C' oC' D' m' h' tk' E' hC' hx' F' N' off'))
  (k_with "CompEnd" => (k_here; (rename News _ _ _ _ => nE'); (refine' LCg.CompEnd.intro ?zqf nE' _ ?zqsub ?zqoff ?zqsrc ?_; (case zqoff => assumption); (case zqf => assumption); (case zqsub => lcg_sub); (case zqsrc => first | lcg_src | exact ⟨_, by k_mem, rfl, _, rfl⟩); k_whole)))
  (k_with "FinE" => ((unfold LCg.FinE); intro D' h' tk' F' N' o1'; (replace o1' := off1X o1'); (try simp only [Off1X, and_true] at o1'); (repeat (obtain ⟨_, o1'⟩ := o1')); (try (repeat (with_reducible rename LCg.NsObj _ _ => z9; clear z9))); (try (repeat (with_reducible rename LCg.Off3 _ _ _ _ => z9; clear z9))); (try (repeat (with_reducible rename InElt _ _ => z9; clear z9))); (try (repeat (with_reducible rename IsRange _ _ _ _ _ _ _ _ => z9; clear z9))); (try simp only [List.nil_append, List.cons_append] at N'); (try dsimp only)))
  (k_with "FinA" => ((unfold LCg.FinA); intro D' h' tk' F' N' o1'; (replace o1' := off1X o1'); (try simp only [Off1X, and_true] at o1'); (repeat (obtain ⟨_, o1'⟩ := o1')); (try (repeat (with_reducible rename LCg.NsObj _ _ => z9; clear z9))); (try (repeat (with_reducible rename LCg.Off3 _ _ _ _ => z9; clear z9))); (try (repeat (with_reducible rename InElt _ _ => z9; clear z9))); (try (repeat (with_reducible rename IsRange _ _ _ _ _ _ _ _ => z9; clear z9))); (try simp only [List.nil_append, List.cons_append] at N'); (try dsimp only)))
  trivial
local macro_rules | `(tactic| k_ne) => `(tactic| (refine neN ?_; (try dsimp only); first | (with_reducible exact NeX.out (by assumption)) | (with_reducible exact NeX.symm (by assumption)) | omega))
theorem words_CT4_1 : True := by
  (k_with "subscriptTail Name Constant ref int" => (k_here; (with_reducible show wpAny _ _ (subscriptTail _ _ (Value.ref _) (Value.int (OfNat.ofNat _) _)) _ _ _); (with_unfolding_all refine' itemL ?zqk1 ?zqk2 ?zqk3 ?zqk4 ?zqk5 ?zqk6 ?zqk7 ?_ ?zqk9; (case zqk1 => k_asm); (case zqk2 => k_mem); (case zqk3 => rfl); (case zqk4 => rfl); (case zqk5 => decide); (case zqk6 => decide); (case zqk7 => rfl); (case zqk9 => with_unfolding_all rfl); k_whole)))
  (k_with "subscriptTail Name Name ref int" => (k_here; (with_reducible show wpAny _ _ (subscriptTail _ _ (Value.ref _) (Value.int (OfNat.ofNat _) _)) _ _ _); (with_unfolding_all refine' itemL ?zqk1 ?zqk2 ?zqk3 ?zqk4 ?zqk5 ?zqk6 ?zqk7 ?_ ?zqk9; (case zqk1 => k_asm); (case zqk2 => k_mem); (case zqk3 => rfl); (case zqk4 => rfl); (case zqk5 => decide); (case zqk6 => decide); (case zqk7 => rfl); (case zqk9 => with_unfolding_all rfl); k_whole)))
  (k_with "CompRest" => (with_unfolding_all first | (first | refine comp3_0 ?_ | refine comp3_1 ?_ | refine comp3_2 ?_); intro I' oI' C' oC' D' m' h' tk' E' hC' hx' F' N' off'))
  (k_with "subscriptTail Name BinOp ref int" => (k_here; (with_reducible show wpAny _ _ (subscriptTail _ _ (Value.ref _) (Value.int _ _)) _ _ _); (with_unfolding_all refine' itemP ?zqk1 ?zqk2 ?zqk3 ?zqk4 ?zqk5 ?zqk6 ?_ ?zqk9; (case zqk1 => k_asm); (case zqk2 => k_mem); (case zqk3 => rfl); (case zqk4 => rfl); (case zqk5 => omega); (case zqk6 => omega); (case zqk9 => with_unfolding_all rfl); k_whole); intro t'))
  trivial
local macro_rules | `(tactic| k_mem) => `(tactic| assumption)
local macro_rules | `(tactic| k_all) => `(tactic| exact below_ne (by assumption) (by omega))
local macro_rules | `(tactic| lcg_sub) => `(tactic| (intro p9 h9; (repeat (first | exact h9 | (refine List.Mem.tail _ ?_))); done))
theorem c_mov {w : World} {mean : ExcName → Option Value} {mg mb : Str → Option Value} {news : List (Addr × Obj)} {dp un : Nat} {gd : Option (List Code)} {cn : Str} {cs : Scope} {a : Addr} {ccd : Value} {cl : List (Str × Addr)} {outer : List Env} {A₀ : Around} {base h₀ : Heap} {L : Addr} {m : Str → Option Value} {s : Shared} {Q E : Value → Shared → Prop}
    (B : Below A₀ base outer h₀) (F : Fr h₀ L s.heap m) (X : (Mine.hd.heap_39 w.params).In h₀) (N : News h₀ L s.heap news) (T : Top Mine.hd.view_39 (looseW Mine.hd.view_39 [Str.ofString "_filemode_table"]) mean mg mb h₀) (hk : cs.kind = .function) (hd : dp < recursionLimit) (hu : un + 8 < cLine)
    {lp : Addr} {p q r : Int} {t₁ t₂ t₃ : Tok} {nn : Nat} {mir : Bool} {k : Int} {t : Tok}
    (p0 : (lp, listOf #[.int p t₁, .int q t₂, .int r t₃] nn) ∈ news) (p1 : 0 ≤ k ∧ k < 6)
    (hret : ∀ (D : Addr) (x y z : Int) (u₁ u₂ u₃ : Tok) (c : Nat) (h' : Heap) (tk' : Nat), [x, y, z] = movT [p, q, r] mir k → Fr h₀ L h' m → News h₀ L h' ((D, listOf #[.int x u₁, .int y u₂, .int z u₃] c) :: news) → Q (.ref D) { s with heap := h', toks := tk' }) :
    wpAny (model PySem.Challenge.rw_mq0213_01.row.prog w) (ktrTop dp un gd cn cs L a ccd cl outer) (call (.ref 101) [.ref lp, .bool mir, .int k t]) Q E s := by
  w_top off
  revert X
  k_fill
  intro X
  refine wpAny_call ?_
  k_dflt (refine' code_defC ?k1 ?k2 ?k3 ?k4 ?k5 ?kA ?kF ?kK ?k6 ?k7 ?k8 ?k9 ?kB ?kD ?_ ?c2 ?c3 ?c4; (case kA => exact rfl); (case kF => exact rfl); (case kK => assumption); (case k1 => k_asm); (case k2 => k_asm); (case k3 => k_asm); (case k4 => k_asm); (case k5 => k_asm); (case k6 => k_is); (case k7 => k_is); (case k8 => ktr_room); (case k9 => exact BindsTo.of_eq rfl); (case kB => exact rfl); (case kD => decide +kernel); (case c2 => exact rfl); (case c3 => exact rfl); (case c4 => exact rfl); k_whole; intro g' L' h' tk' cells' FG' F' N' Y' B' X' T' l1; k_cells Y'; (try simp only [List.cons_append, List.nil_append] at N'); (try dsimp only); (try k_lift B'); (try k_fold))
  (repeat' (first | (k_unfold; (try dsimp only)) | walk1 | (dsimp only; walk1)))
  all_goals (refine' hret _ _ _ _ _ _ _ _ _ _ ?e ?f (cb_drop ?n ?s); (case n => assumption); (case s => (intro p9 h9; rcases List.mem_cons.mp h9 with rfl | h9; exact List.Mem.head _; (repeat (first | exact List.Mem.tail _ h9 | refine List.Mem.tail _ ?_)))); (case f => k_asm); (case e => first | exact mov_10 (by assumption) (by assumption) | exact mov_00 (by assumption) (by assumption) | exact mov_11 (by assumption) (by assumption) (mx_of (by assumption) (by assumption)) (mn_of (by assumption) (by assumption)) | exact mov_01 (by assumption) (by assumption) (mx_of (by assumption) (by assumption)) (mn_of (by assumption) (by assumption))))

theorem words_CT4_off : True := by k_with_none; trivial
end Mine
namespace Mine
open PySem PySem.W PyProof.Rows PySem.Calls PySem.Spec
open Sem (wp)
open AutoSeq1 (wpAny_loadPart')
set_option maxRecDepth 100000
set_option maxHeartbeats 8000000
section
variable {prog : Program} {w : World} {A : Around} {E : Value → Shared → Prop} {s : Shared}
theorem nextOf_tup_item {it t : Addr} {i : Nat} {items : Array Value} {x : Value} {Q : Value → Shared → Prop} (hit : s.heap.IsTupleIter it t i) (ht : s.heap.IsTuple t items) (hx : items[i]? = some x)
    (hQ : ∀ h', h'.IsTupleIter it t (i + 1) → Heap.SameBut it s.heap h' → Q x { s with heap := h' }) : wpAny (model prog w) A (Builtin.SmallTypes.nextOf (.ref it)) Q E s := by
  obtain ⟨o, ho, hc, hd⟩ := id hit
  obtain ⟨ol, hol, _, nl, hdl⟩ := ht
  unfold Builtin.SmallTypes.nextOf
  refine wpAny_bind (wpAny_callSpecial?_slot (name := Str.ofString "__next__") hit.typeIs PySem.F.slot_tuple_iterator_next (wpAny_call_entry PySem.F.slot_tuple_iterator_next hit.typeIs PySem.F.entry_tuple_iterator_next ?_ (PySem.F.args_tuple_iterator_next_1 _)))
  show wpAny _ _ (field (.ref it) 0 >>= _) _ _ s
  refine wpAny_bind (wpAny_field ho hd (x := .ref t) rfl ?_)
  show wpAny _ _ (if (Value.ref t == Value.none) = true then _ else _) _ _ s
  rw [if_neg (show ¬ ((Value.ref t == Value.none) = true) from Bool.false_ne_true)]
  show wpAny _ _ (field (.ref it) 1 >>= _) _ _ s
  refine wpAny_bind (wpAny_field ho hd (x := .int i 0) rfl ?_)
  show wpAny _ _ (seqItems? (.ref t) >>= _) _ _ s
  refine wpAny_bind (wpAny_seqItems hol hdl ?_)
  simp only [Int.toNat_natCast, hx]
  refine wpAny_bind (wpAny_setField ho hd (by simp) (wpAny_pure ⟨x, rfl, wpAny_pure (hQ _ ?_ (Heap.SameBut.update ..))⟩))
  exact ⟨_, Heap.get?_update_self _ ho (Obj.isFreed_of_fields (Obj.data_mapFields hd _)), (Obj.cls_mapFields ..).trans hc, by rw [Obj.data_mapFields hd]; simp [rawInt]⟩
theorem nextOf_tup_end {it t : Addr} {i : Nat} {items : Array Value} {Q : Value → Shared → Prop} (hh : A.handled = none) (hit : s.heap.IsTupleIter it t i) (ht : s.heap.IsTuple t items) (hx : items[i]? = none)
    (hE : ∀ h' e, Heap.ExtBut it s.heap h' → (∃ o, h'.get? e = some o ∧ o.cls = .type "StopIteration") → E (.ref e) { s with heap := h' }) : wpAny (model prog w) A (Builtin.SmallTypes.nextOf (.ref it)) Q E s := by
  obtain ⟨o, ho, hc, hd⟩ := id hit
  obtain ⟨ol, hol, _, nl, hdl⟩ := ht
  unfold Builtin.SmallTypes.nextOf
  refine wpAny_bind (wpAny_callSpecial?_slot (name := Str.ofString "__next__") hit.typeIs PySem.F.slot_tuple_iterator_next (wpAny_call_entry PySem.F.slot_tuple_iterator_next hit.typeIs PySem.F.entry_tuple_iterator_next ?_ (PySem.F.args_tuple_iterator_next_1 _)))
  show wpAny _ _ (field (.ref it) 0 >>= _) _ _ s
  refine wpAny_bind (wpAny_field ho hd (x := .ref t) rfl ?_)
  show wpAny _ _ (if (Value.ref t == Value.none) = true then _ else _) _ _ s
  rw [if_neg (show ¬ ((Value.ref t == Value.none) = true) from Bool.false_ne_true)]
  show wpAny _ _ (field (.ref it) 1 >>= _) _ _ s
  refine wpAny_bind (wpAny_field ho hd (x := .int i 0) rfl ?_)
  show wpAny _ _ (seqItems? (.ref t) >>= _) _ _ s
  refine wpAny_bind (wpAny_seqItems hol hdl ?_)
  simp only [Int.toNat_natCast, hx]
  refine wpAny_bind (wpAny_rule (wpAny_bind (wpAny_setField ho hd (by simp) ?_)))
  show wpAny _ _ (newExc (.type "StopIteration") [] >>= _) _ _ _
  refine wpAny_bind ?_
  simp only [newExc, newTuple]
  refine wpAny_bind (wpAny_newObj_type ?_ (by size_fits))
  refine wpAny_bind (m := firstArgMember _ _) (wpAny_of_eq (a := Value.none) (by first | rfl | (simp only [firstArgMember]; rfl)) ?_)
  refine wpAny_newObj_type ?_ (by size_fits)
  simp only [raiseNew]
  refine wpAny_bind (wpAny_handled ?_)
  first | rw [show A.in1.handled = none from hh] | rw [hh]
  refine wpAny_bind (wpAny_pure (wpAny_throw ?_))
  exact hE _ _ (((Heap.SameBut.update ..).extBut.push _).push _) ⟨_, Heap.get?_push_size _ rfl, rfl⟩
theorem drawsT (hh : A.handled = none) (it l : Addr) (hne : l ≠ it) (items : Array Value) :
    Draws prog w A it [it, l] items.size (fun i v => items[i]? = some v) (fun i h => h.IsTupleIter it l i ∧ h.IsTuple l items) where
  live := fun _ _ st => let ⟨o, ho, _⟩ := st.1; ⟨o, ho⟩
  frame := fun _ _ _ st hk => ⟨st.1.at fun o e => hk it (by simp) o e, st.2.at fun o e => hk l (by simp) o e⟩
  item := fun i s Q E hi st hQ => by
    refine nextOf_tup_item st.1 st.2 (x := items[i]) (by simp [hi]) fun h' hit' hs' => ?_
    exact hQ _ h' s.toks (by simp [hi]) ⟨hit', st.2.extBut hs'.extBut hne⟩ hs'
  done := fun s Q E st hE => nextOf_tup_end hh st.1 st.2 (by simp) hE
end
theorem meets_enumT (l : Addr) (items : Array Value) (n : Nat) (dct : Option Addr) (sl : Array (Option Value)) :
    Meets (Builtin.«enumerate.__new__» ⟨[.type "enumerate", .ref l], []⟩) (fun _ R s => s.heap.get? l = some { cls := .type "tuple", dict := dct, data := .seq items n, slots := sl } ∧
      R (.ok (.ret (.ref (s.heap.push { cls := .type "tuple_iterator", data := .fields #[.ref l, .int 0 0] }).objs.size)))
        { s with heap := (s.heap.push { cls := .type "tuple_iterator", data := .fields #[.ref l, .int 0 0] }).push { cls := .type "enumerate", data := .fields #[.none, .bool false, .ref s.heap.objs.size, rawInt 0, .none, .none] } }) :=
  .of_wp fun prog w A R s h => by
    obtain ⟨hp, g, d, tk, os⟩ := s; obtain ⟨hl, h⟩ := h
    have hsub := sub_enumerate
    have hL : Heap.IsTuple (Shared.heap ⟨hp, g, d, tk, os⟩) l items := ⟨_, hl, rfl, n, rfl⟩
    wp_walk using wpAny_loadPart' hl
    refine wpAny_stack_any fun st => wpAny_pure ?_
    split
    · rename_i c _ _ _ _ _
      cases (c == Value.type "enumerate")
      · wp_walk using wpAny_loadPart' hl, wpAny_pyIter_tuple hL
        exact ⟨_, rfl, h⟩
      · wp_walk using wpAny_loadPart' hl, wpAny_pyIter_tuple hL
        exact ⟨_, rfl, h⟩
    · wp_walk using wpAny_loadPart' hl, wpAny_pyIter_tuple hL
      exact ⟨_, rfl, h⟩
section
variable {prog : Program} {w : World} {A : Around} {E : Value → Shared → Prop} {s : Shared}
theorem call_enumT {l : Addr} {items : Array Value} {Q : Value → Shared → Prop} (hL : s.heap.IsTuple l items)
    (h : ∀ h', IsEnum h' (s.heap.objs.size + 1) s.heap.objs.size 0 .none → h'.IsTupleIter s.heap.objs.size l 0 → h'.objs.size = s.heap.objs.size + 2 →
      (∀ b o, s.heap.get? b = some o → h'.get? b = some o) → Q (.ref (s.heap.objs.size + 1)) { s with heap := h' }) :
    wpAny (model prog w) A (call (.type "enumerate") [.ref l]) Q E s := by
  obtain ⟨⟨c, dct, dt, sl⟩, hl, hc, n, hd⟩ := hL
  replace hc : c = .type "tuple" := hc
  replace hd : dt = .seq items n := hd
  subst hc hd
  refine callType_new PySem.F.called_enumerate (by decide) (PySem.F.typeCall_enumerate_1 _) (PySem.F.newCall_enumerate_1 _) (fun obj => PySem.F.args_object_init_2 obj _) PySem.F.entry_enumerate_new
    (meets_enumT l items n dct sl) ⟨hl, ?_⟩
  have hz : (s.heap.push { cls := .type "tuple_iterator", data := .fields #[.ref l, .int 0 0] }).objs.size = s.heap.objs.size + 1 := Heap.size_push ..
  show _ ∧ _
  rw [hz]
  have he : IsEnum ((s.heap.push { cls := .type "tuple_iterator", data := .fields #[.ref l, .int 0 0] }).push
      { cls := .type "enumerate", data := .fields #[.none, .bool false, .ref s.heap.objs.size, rawInt 0, .none, .none] }) (s.heap.objs.size + 1) s.heap.objs.size 0 .none := by
    have := Heap.get?_push_size (s.heap.push { cls := .type "tuple_iterator", data := .fields #[.ref l, .int 0 0] })
      (o := { cls := .type "enumerate", data := .fields #[.none, .bool false, .ref s.heap.objs.size, rawInt 0, .none, .none] }) rfl
    rw [hz] at this; exact this
  refine ⟨⟨_, he, rfl⟩, h _ he ⟨_, Heap.get?_push_of_some _ (Heap.get?_push_size _ rfl), rfl, rfl⟩ (by rw [Heap.size_push, hz]) fun b o x => Heap.get?_push_of_some _ (Heap.get?_push_of_some _ x)⟩
end
end Mine
namespace Mine
open PySem PySem.W PyProof.Rows PySem.Calls PySem.Spec
set_option maxRecDepth 100000
set_option maxHeartbeats 8000000
section
variable {prog : Program} {w : World} {A : Around} {E : Value → Shared → Prop} {s : Shared} {env : Env} {h₀ : Heap} {target : Expr} {body orelse : List Stmt} {Q : Flow → Shared → Prop} {news : List (Addr × Obj)} {m₀ : Str → Option Value}
/-- where a turn of the loop below may end -/
noncomputable def ElPost (h₀ : Heap) (L I : Addr) (oI : Obj) (news : List (Addr × Obj)) (J : (Str → Option Value) → Prop) (s₁ : Shared) (Q : Flow → Shared → Prop) (f : Flow) (s₂ : Shared) : Prop :=
  match f with
  | .ret v => Q (.ret v) s₂
  | .brk => Q .next s₂
  | _ => ∃ h' tk m', s₂ = { s₁ with heap := h', toks := tk } ∧ Fr h₀ L h' m' ∧ News h₀ L h' ((I, oI) :: news) ∧ J m'
/-- a loop over a tuple of the base, with an else, that leaves the ledger alone until it breaks -/
theorem tup_else {iter : Expr} {pos : Pos} {l : Addr} {items : Array Value} (J : Nat → (Str → Option Value) → Prop)
    (hh : A.handled = none) (hl : h₀.IsTuple l items) (F : Fr h₀ env.locals s.heap m₀) (N : News h₀ env.locals s.heap news) (h0 : J 0 m₀)
    (hit : wpAny (model prog w) A (eval iter env) (fun xv s₁ => xv = .ref l ∧ s₁ = s) E s)
    (turn : ∀ (I : Addr), (∀ p ∈ news, p.1 < I) → ∀ (i : Nat) (v : Value) (m₁ : Str → Option Value) (h : Heap) (tk : Nat) (oI : Obj), items[i]? = some v → J i m₁ → Fr h₀ env.locals h m₁ → News h₀ env.locals h ((I, oI) :: news) →
      wpAny (model prog w) A (assign target env v) (fun _ s₂ => wpAny (model prog w) A (execs body env) (ElPost h₀ env.locals I oI news (J (i + 1)) { s with heap := h, toks := tk } Q) E s₂) E { s with heap := h, toks := tk })
    (fin : ∀ (m₁ : Str → Option Value) (h : Heap) (tk : Nat), J items.size m₁ → Fr h₀ env.locals h m₁ → News h₀ env.locals h news → wpAny (model prog w) A (execs orelse env) Q E { s with heap := h, toks := tk })
    (hs : ∀ x, foldedSetIterable iter env x = pure x := by intro _; rfl)
    (hE : PassesOwn (model prog w) A env E := by passes_own) :
    wpAny (model prog w) A (exec (.For target iter body orelse pos) env) Q E s := by
  refine wpAny_For (wpAny_mono hit (fun xv s₁ hx => ?_) fun _ _ e => e) hs
  obtain ⟨rfl, rfl⟩ := hx
  have hls : s₁.heap.IsTuple l items := hl.at fun o e => F.keep l o e
  have hlt : l < s₁.heap.objs.size := by obtain ⟨o, e, _⟩ := hls; exact Heap.lt_size e
  have hne : l ≠ s₁.heap.objs.size := Nat.ne_of_lt hlt
  have hlt0 : ∀ p ∈ news, p.1 < s₁.heap.objs.size := fun p hp => Heap.lt_size (N p hp).1
  have hI₀ : h₀.get? s₁.heap.objs.size = none := next_is_new F
  have hIL : env.locals ≠ s₁.heap.objs.size := Nat.ne_of_lt F.ns.lt
  refine wpAny_pyIter_tuple hls ?_
  have up : ∀ b o, s₁.heap.get? b = some o → (s₁.heap.push { cls := .type "tuple_iterator", data := .fields #[.ref l, .int 0 0] }).get? b = some o := fun b o e => Heap.get?_push_of_some _ e
  refine codeAny_forLoop_any
    (fun k s' => ∃ h' tk m' i, s' = { s₁ with heap := h', toks := tk } ∧ h'.IsTupleIter s₁.heap.objs.size l i ∧ Fr h₀ env.locals h' m' ∧ News h₀ env.locals h' news ∧ J i m' ∧ i ≤ items.size ∧ k = items.size + 1 - i) ?_ (items.size + 1)
    ⟨_, s₁.toks, m₀, 0, rfl, ⟨_, Heap.get?_push_size _ rfl, rfl, rfl⟩, F.keeps up, N.grown up, h0, Nat.zero_le _, rfl⟩
  rintro k s' ⟨H, tk, m', i, rfl, hitr, F', N', hJ, hi, rfl⟩
  have htH : H.IsTuple l items := hl.at fun o e => F'.keep l o e
  by_cases hlt' : i < items.size
  · refine wpAny_pyNext_tuple_item hitr htH (x := items[i]) (by simp [hlt']) fun h₁ hit₁ hs₁ => ?_
    refine letGo_tupleiter hit₁ ?_
    have F₁ : Fr h₀ env.locals h₁ m' := F'.change hs₁ (Ne.symm hIL) hI₀
    obtain ⟨oI, hoI, hcI, hdI⟩ := id hit₁
    have N₁ : News h₀ env.locals h₁ ((s₁.heap.objs.size, oI) :: news) := fun p hp => by
      rcases List.mem_cons.mp hp with rfl | hp
      · exact ⟨hoI, Ne.symm hIL, hI₀⟩
      · exact ⟨hs₁.extBut _ _ (Nat.ne_of_lt (hlt0 p hp)) (N' p hp).1, (N' p hp).2⟩
    refine wpAny_mono (turn _ hlt0 i items[i] m' h₁ tk oI (by simp [hlt']) hJ F₁ N₁) (fun _ s₂ h₂ => wpAny_passesOwn hE (wpAny_mono h₂ (fun f s₃ h₃ => ?_) fun _ _ e => e)) hE
    have fin' : (∃ h' tk' m'', s₃ = { s₁ with heap := h', toks := tk' } ∧ Fr h₀ env.locals h' m'' ∧ News h₀ env.locals h' ((s₁.heap.objs.size, oI) :: news) ∧ J (i + 1) m'') →
        ∃ m, m < items.size + 1 - i ∧ ∃ h' tk m' i, s₃ = { s₁ with heap := h', toks := tk } ∧ h'.IsTupleIter s₁.heap.objs.size l i ∧ Fr h₀ env.locals h' m' ∧ News h₀ env.locals h' news ∧ J i m' ∧ i ≤ items.size ∧ m = items.size + 1 - i := by
      rintro ⟨h', tk', m'', rfl, F₃, N₃, hJ₃⟩
      exact ⟨items.size + 1 - (i + 1), by omega, h', tk', m'', i + 1, rfl, ⟨oI, (N₃ _ (List.Mem.head _)).1, hcI, hdI⟩, F₃, fun p hp => N₃ p (List.Mem.tail _ hp), hJ₃, hlt', rfl⟩
    cases f with
    | ret v => exact h₃
    | brk => exact h₃
    | next => exact fin' h₃
    | cont => exact fin' h₃
  · have hin : i = items.size := by omega
    subst hin
    refine wpAny_pyNext_tuple_end hh hitr htH (by simp) fun h₁ hx => ?_
    have F₁ : Fr h₀ env.locals h₁ m' := ⟨F'.ns.at' fun o e => hx _ o hIL e, fun b o e => hx b o (fun q => by rw [q, hI₀] at e; cases e) (F'.keep b o e), F'.above⟩
    have N₁ : News h₀ env.locals h₁ news := fun p hp => ⟨hx _ _ (Nat.ne_of_lt (hlt0 p hp)) (N' p hp).1, (N' p hp).2⟩
    exact wpAny_passesOwn hE (fin m' h₁ tk hJ F₁ N₁)
end
end Mine
namespace Mine
open PySem PySem.W PyProof.Rows PySem.Calls PySem.Spec
set_option maxRecDepth 100000
set_option maxHeartbeats 8000000
section
variable {prog : Program} {w : World} {A : Around} {E : Value → Shared → Prop} {s : Shared} {env : Env} {h₀ : Heap} {body : List Stmt} {Q : Flow → Shared → Prop} {news : List (Addr × Obj)} {m₀ : Str → Option Value} {elts : List Expr} {k : Nat} {pos : Pos}
noncomputable def EoPost (h₀ : Heap) (L e it : Addr) (oe oi : Obj) (J : (Str → Option Value) → List (Addr × Obj) → Prop) (s₁ : Shared) (Q : Flow → Shared → Prop) (f : Flow) (s₂ : Shared) : Prop :=
  match f with
  | .ret v => Q (.ret v) s₂
  | .brk => Q .next s₂
  | _ => ∃ h' tk m' news', s₂ = { s₁ with heap := h', toks := tk } ∧ Fr h₀ L h' m' ∧ News h₀ L h' ((e, oe) :: (it, oi) :: news') ∧ J m' news'
/-- a loop over enumerate of a tuple of the base -/
theorem enum_loop {l : Addr} {items : Array Value} (J : Nat → (Str → Option Value) → List (Addr × Obj) → Prop)
    (hh : A.handled = none) (hl : h₀.IsTuple l items) (F : Fr h₀ env.locals s.heap m₀) (N : News h₀ env.locals s.heap news) (h0 : J 0 m₀ news) (hadr : ∀ i m n, J i m n → n.map (·.1) = news.map (·.1))
    (turn : ∀ (it e : Addr), (∀ p ∈ news, p.1 < it) → it < e → ∀ (i : Nat) (v : Value) (T : Addr) (t : Tok) (m₁ : Str → Option Value) (news₁ : List (Addr × Obj)) (h : Heap) (tk : Nat) (oe oi : Obj), items[i]? = some v → J i m₁ news₁ → IsTup h T #[.int i t, v] → Fr h₀ env.locals h m₁ → News h₀ env.locals h ((e, oe) :: (it, oi) :: news₁) →
      wpAny (model prog w) A (assign (.Tuple elts k pos) env (.ref T)) (fun _ s₂ => wpAny (model prog w) A (execs body env) (EoPost h₀ env.locals e it oe oi (J (i + 1)) { s with heap := h, toks := tk } Q) E s₂) E { s with heap := h, toks := tk })
    (done : ∀ (m₁ : Str → Option Value) (news₁ : List (Addr × Obj)) (h : Heap) (tk : Nat), J items.size m₁ news₁ → Fr h₀ env.locals h m₁ → News h₀ env.locals h news₁ → Q .next { s with heap := h, toks := tk }) :
    wpAny (model prog w) A (call (.type "enumerate") [.ref l]) (fun xv s₁ => wpAny (model prog w) A (pyIter xv) (fun it s₂ => TurnsAt prog w A h₀ env (.Tuple elts k pos) body Q E it s₂) E s₁) E s := by
  have hls : s.heap.IsTuple l items := hl.at fun o e => F.keep l o e
  obtain ⟨ol, hol, _⟩ := id hl
  have hlL : l < h₀.objs.size := Heap.lt_size hol
  have hlt : l < s.heap.objs.size := by obtain ⟨o, e, _⟩ := hls; exact Heap.lt_size e
  have hLs : env.locals < s.heap.objs.size := F.ns.lt
  have hlt0 : ∀ p ∈ news, p.1 < s.heap.objs.size := fun p hp => Heap.lt_size (N p hp).1
  have hlt1 : ∀ i m n, J i m n → ∀ p ∈ n, p.1 < s.heap.objs.size := fun i m n hj p hp => by
    have : p.1 ∈ news.map (·.1) := by rw [← hadr i m n hj]; exact List.mem_map.mpr ⟨p, hp, rfl⟩
    obtain ⟨q, hq, hqe⟩ := List.mem_map.mp this
    exact hqe ▸ hlt0 q hq
  have hn0 : h₀.get? s.heap.objs.size = none := ktu_new F (Nat.le_refl _)
  have hn1 : h₀.get? (s.heap.objs.size + 1) = none := ktu_new F (Nat.le_add_right _ _)
  refine call_enumT hls fun h' hE hI hsz hk => ?_
  refine wpAny_pyIter_enum hE ?_
  have W := KTurns.ofWalksU (elts := elts) (k := k) (pos := pos) (WalksT.enumerateD (prog := prog) (w := w) (A := A) (drawsT (A := A.in1) hh s.heap.objs.size l (Nat.ne_of_lt hlt) items) (s.heap.objs.size + 1) (Nat.succ_ne_self _) (by
    intro hm
    rcases List.mem_cons.mp hm with e | hm
    · exact Nat.succ_ne_self _ e
    · exact Nat.ne_of_gt (Nat.lt_succ_of_lt hlt) (List.mem_singleton.mp hm)) (List.Mem.head _)).toU
  refine ⟨_, _, _, _, _, _, _, m₀, news, J, rfl, W, ?_, ?_, ?_, ⟨⟨.none, hE⟩, hI, hls.at fun o e => hk l o e⟩, F.keeps hk, N.grown hk, h0, ?_, ?_⟩
  · intro hm
    rcases List.mem_cons.mp hm with e | hm
    · exact Nat.ne_of_lt (Nat.lt_succ_of_lt hLs) e
    · rcases List.mem_cons.mp hm with e | hm
      · exact Nat.ne_of_lt hLs e
      · exact Nat.ne_of_gt (Nat.lt_of_lt_of_le hlL F.above) (List.mem_singleton.mp hm)
  · intro b hb
    rcases List.mem_cons.mp hb with rfl | hb
    · exact hn1
    · rw [List.mem_singleton.mp hb]; exact hn0
  · intro p hp hb
    have h1 := hlt0 p hp
    rcases List.mem_cons.mp hb with e | hb
    · rw [e] at h1; exact Nat.lt_irrefl _ (Nat.lt_of_succ_lt h1)
    · rw [List.mem_singleton.mp hb] at h1; exact Nat.lt_irrefl _ h1
  · rintro i v m₁ news₁ h₁ tk₁ own hi ⟨T, vals, rfl, ⟨t, x, hx, rfl⟩, hT⟩ hJ hnw hown hget hall hst F₁ N₁
    obtain ⟨⟨old, hen⟩, hti, _⟩ := hst
    have hen' : ∃ oe : Obj, h₁.get? (s.heap.objs.size + 1) = some oe := ⟨_, hen⟩
    obtain ⟨oe, he⟩ := hen'
    obtain ⟨oi, hoi, _⟩ := hti
    have m1 : (s.heap.objs.size + 1, oe) ∈ own := hall _ (List.Mem.head _) hn1 oe he
    have m2 : (s.heap.objs.size, oi) ∈ own := hall _ (List.Mem.tail _ (List.Mem.head _)) hn0 oi hoi
    have N₂ : News h₀ env.locals h₁ ((s.heap.objs.size + 1, oe) :: (s.heap.objs.size, oi) :: news₁) := fun p hp => by
      rcases List.mem_cons.mp hp with rfl | hp
      · exact N₁ _ (List.mem_append_left _ m1)
      · rcases List.mem_cons.mp hp with rfl | hp
        · exact N₁ _ (List.mem_append_left _ m2)
        · exact N₁ _ (List.mem_append_right _ hp)
    refine wpAny_mono (turn s.heap.objs.size (s.heap.objs.size + 1) hlt0 (Nat.lt_succ_self _) i x T t m₁ news₁ h₁ tk₁ oe oi hx hJ hT F₁ N₂) (fun _ s₂ h₂ => wpAny_mono h₂ (fun f s₃ h₃ => ?_) fun _ _ e => e) fun _ _ e => e
    have fin : (∃ h' tk m' news', s₃ = { s with heap := h', toks := tk } ∧ Fr h₀ env.locals h' m' ∧ News h₀ env.locals h' ((s.heap.objs.size + 1, oe) :: (s.heap.objs.size, oi) :: news') ∧ J (i + 1) m' news') →
        LoopStepU h₀ env.locals [s.heap.objs.size + 1, s.heap.objs.size] own (J (i + 1)) { s with heap := h₁, toks := tk₁ } .next s₃ := by
      rintro ⟨h', tk, m', news', rfl, F', N', hJ'⟩
      refine ⟨rfl, h', tk, m', news', rfl, F', fun p hp => ?_, fun p hp hb => ?_, hJ'⟩
      · rcases List.mem_append.mp hp with hp | hp
        · obtain ⟨pa, po⟩ := p
          have h2 : h₁.get? pa = some po := hget _ hp
          have hpn : h₀.get? pa = none := (N₁ _ (List.mem_append_left _ hp)).2.2
          rcases List.mem_cons.mp (hown _ hp) with e | hm
          · have e' : pa = s.heap.objs.size + 1 := e
            subst e'
            rw [he] at h2
            cases h2
            exact N' _ (List.Mem.head _)
          · rcases List.mem_cons.mp hm with e | hm
            · have e' : pa = s.heap.objs.size := e
              subst e'
              rw [hoi] at h2
              cases h2
              exact N' _ (List.Mem.tail _ (List.Mem.head _))
            · have e' : pa = l := List.mem_singleton.mp hm
              subst e'
              rw [hol] at hpn
              cases hpn
        · exact N' _ (List.Mem.tail _ (List.Mem.tail _ hp))
      · have h1 := hlt1 _ _ _ hJ' p hp
        rcases List.mem_cons.mp hb with e | hb
        · rw [e] at h1; exact Nat.lt_irrefl _ (Nat.lt_of_succ_lt h1)
        · rw [List.mem_singleton.mp hb] at h1; exact Nat.lt_irrefl _ h1
    cases f with
    | ret v => exact .ret h₃
    | brk => exact .brk h₃
    | next => exact .next (fin h₃)
    | cont => exact .cont (fin h₃)
  · intro h' tk m' news' F' N' _ hJ
    exact done m' news' h' tk hJ F' N'
end
end Mine
namespace Mine
open PySem PySem.W PyProof.Rows PySem.Calls PySem.Spec
set_option maxRecDepth 100000
set_option maxHeartbeats 8000000
inductive PairsAre (h : Heap) : List Value → List (Int × Str) → Prop
  | nil : PairsAre h [] []
  | cons {p : Addr} {b : Int} {t : Tok} {c : Str} {u : Tok} {vs r} : h.IsTuple p #[.int b t, .str c u] → PairsAre h vs r → PairsAre h (.ref p :: vs) ((b, c) :: r)
inductive RowsAre (h : Heap) : List Value → List (List (Int × Str)) → Prop
  | nil : RowsAre h [] []
  | cons {a : Addr} {vs : List Value} {row us rest} : h.IsTuple a vs.toArray → PairsAre h vs row → RowsAre h us rest → RowsAre h (.ref a :: us) (row :: rest)
theorem PairsAre.get {h : Heap} : ∀ {vs : List Value} {row : List (Int × Str)}, PairsAre h vs row → ∀ (j : Nat) (v : Value), vs[j]? = some v → ∃ p b t c u, v = .ref p ∧ h.IsTuple p #[.int b t, .str c u] ∧ row.drop j = (b, c) :: row.drop (j + 1)
  | _, _, .nil, j, v, e => by simp at e
  | _, _, .cons hp r, 0, v, e => by
    simp at e
    exact ⟨_, _, _, _, _, e.symm, hp, by simp⟩
  | _, _, .cons hp r, j + 1, v, e => by
    obtain ⟨p, b, t, c, u, e1, e2, e3⟩ := PairsAre.get r j v (by simpa using e)
    exact ⟨p, b, t, c, u, e1, e2, by simpa using e3⟩
theorem PairsAre.len {h : Heap} : ∀ {vs : List Value} {row : List (Int × Str)}, PairsAre h vs row → vs.length = row.length
  | _, _, .nil => rfl
  | _, _, .cons _ r => congrArg (· + 1) r.len
theorem RowsAre.get {h : Heap} : ∀ {us : List Value} {rows : List (List (Int × Str))}, RowsAre h us rows → ∀ (i : Nat) (v : Value), us[i]? = some v → ∃ a vs row, v = .ref a ∧ h.IsTuple a vs.toArray ∧ PairsAre h vs row ∧ rows[i]? = some row
  | _, _, .nil, i, v, e => by simp at e
  | _, _, .cons ha hp r, 0, v, e => by
    simp at e
    exact ⟨_, _, _, e.symm, ha, hp, by simp⟩
  | _, _, .cons ha hp r, i + 1, v, e => by
    obtain ⟨a, vs, row, e1, e2, e3, e4⟩ := RowsAre.get r i v (by simpa using e)
    exact ⟨a, vs, row, e1, e2, e3, by simpa using e4⟩
theorem RowsAre.len {h : Heap} : ∀ {us : List Value} {rows : List (List (Int × Str))}, RowsAre h us rows → us.length = rows.length
  | _, _, .nil => rfl
  | _, _, .cons _ _ r => congrArg (· + 1) r.len
theorem fmFrom_len (x : Int) : ∀ (i : Int) (rows : List (List (Int × Str))), (fmFrom x i rows).length = rows.length
  | _, [] => rfl
  | i, _ :: r => congrArg (· + 1) (fmFrom_len x (i + 1) r)
theorem fmFrom_get (x : Int) : ∀ (a : Int) (rows : List (List (Int × Str))) (i : Nat) (row : List (Int × Str)), rows[i]? = some row → (fmFrom x a rows)[i]? = some (pickS x (a + (i : Int)) row)
  | _, [], i, row, e => by simp at e
  | a, t :: r, 0, row, e => by
    simp at e
    subst e
    simp [fmFrom]
  | a, t :: r, i + 1, row, e => by
    have h := fmFrom_get x (a + 1) r i row (by simpa using e)
    have e2 : a + 1 + (i : Int) = a + ((i + 1 : Nat) : Int) := by omega
    rw [e2] at h
    simpa [fmFrom] using h
theorem fm_take (x : Int) {i : Nat} {row : List (Int × Str)} (e : tabs[i]? = some row) : (fmFrom x 0 tabs).take (i + 1) = (fmFrom x 0 tabs).take i ++ [pickS x (i : Int) row] := by
  have h := fmFrom_get x 0 tabs i row e
  rw [Int.zero_add] at h
  rw [List.take_add_one, h]
  rfl
theorem StrsAre.snoc : ∀ {vs : List Value} {ys : List Str} {y : Str} {t : Tok}, StrsAre vs ys → StrsAre (vs ++ [.str y t]) (ys ++ [y])
  | _, _, y, t, .nil => .cons y t .nil
  | _, _, _, _, .cons z u r => .cons z u (StrsAre.snoc r)
/-- the names of a frame, written out -/
theorem fr_name {h₀ h : Heap} {L : Addr} {m : Str → Option Value} {a : Str} {v : Value} (F : Fr h₀ L h m) (e : m a = some v) : Fr h₀ L h (fun y => if y = a then some v else m y) := by
  have em : (fun y => if y = a then some v else m y) = m := by
    funext y
    by_cases h : y = a
    · rw [if_pos h, h, e]
    · rw [if_neg h]
  rw [em]
  exact F
theorem tab_ok {w : World} {h : Heap} (X : (Mine.hd.heap_39 w.params).In h) : ∃ us : List Value, h.IsTuple 61 us.toArray ∧ RowsAre h us tabs := by
  have hz : PySem.Challenge.rw_mq0213_01 = PySem.Challenge.rw_mq0213_01 := rfl
  revert hz X
  k_fill
  intro X hz
  refine ⟨_, ⟨_, X _ _ (by k_is), rfl, _, rfl⟩, ?_⟩
  repeat' (first | exact RowsAre.nil | exact PairsAre.nil | (refine RowsAre.cons ⟨_, X _ _ (by k_is), rfl, _, rfl⟩ ?_ ?_) | (refine PairsAre.cons ⟨_, X _ _ (by k_is), rfl, _, rfl⟩ ?_))
end Mine
namespace Mine
open PySem PySem.W PyProof.Rows PySem.Calls PySem.Spec
set_option maxRecDepth 100000
set_option maxHeartbeats 8000000
noncomputable def FmJ (x : Int) (pa : Addr) (news : List (Addr × Obj)) (i : Nat) (m : Str → Option Value) (n : List (Addr × Obj)) : Prop :=
  ∃ (vs : List Value) (nn : Nat), n = (pa, listOf vs.toArray nn) :: news ∧ StrsAre vs ((fmFrom x 0 tabs).take i) ∧ (∃ t, m "mode" = some (.int x t)) ∧ m "perm" = some (.ref pa)
section
variable {prog : Program} {w : World} {A : Around} {E : Value → Shared → Prop} {s : Shared} {env : Env} {h₀ : Heap} {body : List Stmt} {Q : Flow → Shared → Prop} {news : List (Addr × Obj)} {m₀ : Str → Option Value} {elts : List Expr} {k : Nat} {pos : Pos}
theorem fm_enum {x : Int} {t : Tok} {pa : Addr} {us : List Value} (hh : A.handled = none) (F : Fr h₀ env.locals s.heap m₀) (N : News h₀ env.locals s.heap ((pa, listOf #[] 0) :: news)) (hm : m₀ "mode" = some (.int x t)) (hp : m₀ "perm" = some (.ref pa)) (hus : h₀.IsTuple 61 us.toArray) (rows : RowsAre h₀ us tabs)
    (turn : ∀ (it e : Addr), pa < it → (∀ p ∈ news, p.1 < it) → it < e → ∀ (i : Nat) (a : Addr) (ws : List Value) (row : List (Int × Str)) (T : Addr) (t' tm : Tok) (m₁ : Str → Option Value) (vs : List Value) (nn : Nat) (h : Heap) (tk : Nat) (oe oi : Obj),
      h₀.IsTuple a ws.toArray → PairsAre h₀ ws row → tabs[i]? = some row → StrsAre vs ((fmFrom x 0 tabs).take i) → IsTup h T #[.int i t', .ref a] →
      Fr h₀ env.locals h (fun y => if y = "mode" then some (.int x tm) else if y = "perm" then some (.ref pa) else m₁ y) → News h₀ env.locals h ((e, oe) :: (it, oi) :: (pa, listOf vs.toArray nn) :: news) →
      wpAny (model prog w) A (assign (.Tuple elts k pos) env (.ref T)) (fun _ s₂ => wpAny (model prog w) A (execs body env) (EoPost h₀ env.locals e it oe oi (FmJ x pa news (i + 1)) { s with heap := h, toks := tk } Q) E s₂) E { s with heap := h, toks := tk })
    (done : ∀ (vs : List Value) (nn : Nat) (m₁ : Str → Option Value) (h : Heap) (tk : Nat), StrsAre vs (fmFrom x 0 tabs) → Fr h₀ env.locals h (fun y => if y = "perm" then some (.ref pa) else m₁ y) → News h₀ env.locals h ((pa, listOf vs.toArray nn) :: news) → Q .next { s with heap := h, toks := tk }) :
    wpAny (model prog w) A (call (.type "enumerate") [.ref 61]) (fun xv s₁ => wpAny (model prog w) A (pyIter xv) (fun it s₂ => TurnsAt prog w A h₀ env (.Tuple elts k pos) body Q E it s₂) E s₁) E s := by
  refine enum_loop (FmJ x pa news) hh hus F N ⟨[], 0, rfl, by simpa using StrsAre.nil, ⟨t, hm⟩, hp⟩ ?_ ?_ ?_
  · rintro i m n ⟨vs, nn, rfl, _⟩
    rfl
  · rintro it e hlt hie i v T t' m₁ news₁ h tk oe oi hv ⟨vs, nn, rfl, hS, ⟨tm, hm₁⟩, hp₁⟩ hT F₁ N₁
    obtain ⟨a, ws, row, rfl, ha, hps, hrow⟩ := rows.get i v (by simpa using hv)
    exact turn it e (hlt _ (List.Mem.head _)) (fun p hp => hlt p (List.Mem.tail _ hp)) hie i a ws row T t' tm m₁ vs nn h tk oe oi ha hps hrow hS hT (by
      have F₂ := fr_name (fr_name F₁ hp₁) (a := "mode") (v := .int x tm) (by
        show (if (("mode" : Str) = "perm") then some (Value.ref pa) else m₁ "mode") = some (.int x tm)
        rw [if_neg (by decide)]; exact hm₁)
      exact F₂) N₁
  · rintro m₁ news₁ h tk ⟨vs, nn, rfl, hS, _, hp₁⟩ F₁ N₁
    have e : us.toArray.size = (fmFrom x 0 tabs).length := by rw [fmFrom_len, List.size_toArray]; exact rows.len
    rw [e, List.take_length] at hS
    exact done vs nn m₁ h tk hS (fr_name F₁ hp₁) N₁
/-- the sign of one row, entry by entry -/
theorem pick_step {x i : Int} {row : List (Int × Str)} {j : Nat} {b : Int} {c : Str} (e : row.drop j = (b, c) :: row.drop (j + 1)) :
    pickS x i (row.drop j) = if (if i = 0 then Builtin.bitAnd x 61440 = b else Builtin.bitAnd x b = b) then c else pickS x i (row.drop (j + 1)) := by
  rw [e]
  rfl
theorem eo_next {pa e it : Addr} {oe oi : Obj} {x : Int} {i : Nat} {L : Addr} {s₁ : Shared} {h' : Heap} {tk : Nat} {m' : Str → Option Value} {vs : List Value} {nn : Nat} {row : List (Int × Str)} {c : Str} {u tm : Tok} {all : List (Addr × Obj)}
    (F : Fr h₀ L h' m') (N : News h₀ L h' all) (sub : ∀ p ∈ (e, oe) :: (it, oi) :: (pa, listOf (vs ++ [Value.str c u]).toArray nn) :: news, p ∈ all) (hS : StrsAre vs ((fmFrom x 0 tabs).take i)) (hrow : tabs[i]? = some row) (hc : pickS x (i : Int) row = c)
    (hm : m' "mode" = some (.int x tm)) (hp : m' "perm" = some (.ref pa)) : EoPost h₀ L e it oe oi (FmJ x pa news (i + 1)) s₁ Q .next { s₁ with heap := h', toks := tk } :=
  ⟨h', tk, m', (pa, listOf (vs ++ [Value.str c u]).toArray nn) :: news, rfl, F, fun p hp => N p (sub p hp), vs ++ [Value.str c u], nn, rfl, by rw [fm_take x hrow, hc]; exact StrsAre.snoc hS, ⟨tm, hm⟩, hp⟩
end
end Mine
namespace Mine
open PySem PySem.W PyProof.Rows PySem.Calls PySem.Spec
set_option maxRecDepth 100000
set_option maxHeartbeats 8000000
theorem strs_len0 : ∀ {vs : List Value} {ys : List Str}, StrsAre vs ys → vs.length = ys.length
  | _, _, .nil => rfl
  | _, _, .cons _ _ r => congrArg (· + 1) (strs_len0 r)
theorem strs_len {vs : List Value} {x : Int} {i : Nat} (h : StrsAre vs ((fmFrom x 0 tabs).take i)) : vs.length ≤ 10 := by
  rw [strs_len0 h, List.length_take, fmFrom_len]
  have : tabs.length = 10 := rfl
  omega
section
variable {prog : Program} {w : World} {A : Around} {E : Value → Shared → Prop} {s : Shared} {env : Env} {h₀ : Heap} {target : Expr} {body orelse : List Stmt} {Q : Flow → Shared → Prop} {news : List (Addr × Obj)} {m₀ : Str → Option Value}
theorem fm_inner {iter : Expr} {pos : Pos} {e it pa a : Addr} {oe oi : Obj} {x : Int} {i : Nat} {t' tm : Tok} {vs ws : List Value} {nn : Nat} {row : List (Int × Str)}
    (hh : A.handled = none) (ha : h₀.IsTuple a ws.toArray) (hps : PairsAre h₀ ws row) (F : Fr h₀ env.locals s.heap m₀) (N : News h₀ env.locals s.heap ((e, oe) :: (it, oi) :: (pa, listOf vs.toArray nn) :: news))
    (hm : m₀ "mode" = some (.int x tm)) (hp : m₀ "perm" = some (.ref pa)) (hx : m₀ "index" = some (.int (i : Int) t'))
    (hit : wpAny (model prog w) A (eval iter env) (fun xv s₁ => xv = .ref a ∧ s₁ = s) E s)
    (turn : ∀ (I : Addr), e < I → it < I → pa < I → (∀ p ∈ news, p.1 < I) → ∀ (p : Addr) (b : Int) (tb : Tok) (c : Str) (tc : Tok) (j : Nat) (m₁ : Str → Option Value) (h : Heap) (tk : Nat) (oI : Obj), IsTup h p #[.int b tb, .str c tc] →
      pickS x (i : Int) row = (if (if (i : Int) = 0 then Builtin.bitAnd x 61440 = b else Builtin.bitAnd x b = b) then c else pickS x (i : Int) (row.drop (j + 1))) →
      Fr h₀ env.locals h (fun y => if y = "mode" then some (.int x tm) else if y = "perm" then some (.ref pa) else if y = "index" then some (.int (i : Int) t') else m₁ y) → News h₀ env.locals h ((I, oI) :: (e, oe) :: (it, oi) :: (pa, listOf vs.toArray nn) :: news) →
      wpAny (model prog w) A (assign target env (.ref p)) (fun _ s₂ => wpAny (model prog w) A (execs body env) (ElPost h₀ env.locals I oI ((e, oe) :: (it, oi) :: (pa, listOf vs.toArray nn) :: news)
        (fun m => pickS x (i : Int) row = pickS x (i : Int) (row.drop (j + 1)) ∧ m "mode" = some (.int x tm) ∧ m "perm" = some (.ref pa) ∧ m "index" = some (.int (i : Int) t')) { s with heap := h, toks := tk } Q) E s₂) E { s with heap := h, toks := tk })
    (fin : ∀ (m₁ : Str → Option Value) (h : Heap) (tk : Nat), pickS x (i : Int) row = (if (i : Int) = 0 then Str.ofString "?" else Str.ofString "-") → Fr h₀ env.locals h (fun y => if y = "mode" then some (.int x tm) else if y = "perm" then some (.ref pa) else if y = "index" then some (.int (i : Int) t') else m₁ y) → News h₀ env.locals h ((e, oe) :: (it, oi) :: (pa, listOf vs.toArray nn) :: news) →
      wpAny (model prog w) A (execs orelse env) Q E { s with heap := h, toks := tk })
    (hs : ∀ x, foldedSetIterable iter env x = pure x := by intro _; rfl)
    (hE : PassesOwn (model prog w) A env E := by passes_own) :
    wpAny (model prog w) A (exec (.For target iter body orelse pos) env) Q E s := by
  have names : ∀ {h : Heap} {m₁ : Str → Option Value}, Fr h₀ env.locals h m₁ → m₁ "mode" = some (.int x tm) → m₁ "perm" = some (.ref pa) → m₁ "index" = some (.int (i : Int) t') →
      Fr h₀ env.locals h (fun y => if y = "mode" then some (.int x tm) else if y = "perm" then some (.ref pa) else if y = "index" then some (.int (i : Int) t') else m₁ y) := by
    intro h m₁ F₁ a1 a2 a3
    have em : (fun y : Str => if y = "mode" then some (.int x tm) else if y = "perm" then some (.ref pa) else if y = "index" then some (.int (i : Int) t') else m₁ y) = m₁ := by
      funext y
      by_cases e1 : y = "mode"
      · rw [if_pos e1, e1, a1]
      · rw [if_neg e1]
        by_cases e2 : y = "perm"
        · rw [if_pos e2, e2, a2]
        · rw [if_neg e2]
          by_cases e3 : y = "index"
          · rw [if_pos e3, e3, a3]
          · rw [if_neg e3]
    rw [em]
    exact F₁
  refine tup_else (fun j m => pickS x (i : Int) row = pickS x (i : Int) (row.drop j) ∧ m "mode" = some (.int x tm) ∧ m "perm" = some (.ref pa) ∧ m "index" = some (.int (i : Int) t')) hh ha F N ⟨by simp, hm, hp, hx⟩ hit ?_ ?_ hs hE
  · rintro I hlt j v m₁ h tk oI hv ⟨hj, a1, a2, a3⟩ F₁ N₁
    obtain ⟨p, b, tb, c, tc, rfl, hpt, hd⟩ := hps.get j v (by simpa using hv)
    exact turn I (hlt _ (List.Mem.head _)) (hlt _ (List.Mem.tail _ (List.Mem.head _))) (hlt _ (List.Mem.tail _ (List.Mem.tail _ (List.Mem.head _)))) (fun p hp => hlt p (List.Mem.tail _ (List.Mem.tail _ (List.Mem.tail _ hp)))) p b tb c tc j m₁ h tk oI
      (hpt.at fun o e => F₁.keep p o e) (hj.trans (pick_step hd)) (names F₁ a1 a2 a3) N₁
  · rintro m₁ h tk ⟨hj, a1, a2, a3⟩ F₁ N₁
    refine fin m₁ h tk ?_ (names F₁ a1 a2 a3) N₁
    rw [hj, List.size_toArray, hps.len, List.drop_length]
    rfl
end
section
variable {x i b y : Int} {c : Str} {P R : Str}
theorem pk_a (h : P = if (if i = 0 then Builtin.bitAnd x 61440 = b else Builtin.bitAnd x b = b) then c else R) (h0 : i = 0) (e : y = Builtin.bitAnd x 61440) (hb : y = b) : P = c := by
  exact h.trans (if_pos (by rw [if_pos h0]; exact e.symm.trans hb))
theorem pk_b (h : P = if (if i = 0 then Builtin.bitAnd x 61440 = b else Builtin.bitAnd x b = b) then c else R) (h0 : i ≠ 0) (hb : Builtin.bitAnd x b = b) : P = c := by
  exact h.trans (if_pos (by rw [if_neg h0]; exact hb))
theorem pk_c (h : P = if (if i = 0 then Builtin.bitAnd x 61440 = b else Builtin.bitAnd x b = b) then c else R) (h0 : i = 0) (e : y = Builtin.bitAnd x 61440) (hb : y ≠ b) : P = R := by
  exact h.trans (if_neg (by rw [if_pos h0]; exact fun q => hb (e.trans q)))
theorem pk_d (h : P = if (if i = 0 then Builtin.bitAnd x 61440 = b else Builtin.bitAnd x b = b) then c else R) (h0 : i ≠ 0) (hb : Builtin.bitAnd x b ≠ b) : P = R := by
  exact h.trans (if_neg (by rw [if_neg h0]; exact hb))
end
end Mine
namespace Mine
open PySem PySem.W PyProof.Rows PySem.Calls PySem.Spec
set_option maxRecDepth 100000
set_option maxHeartbeats 8000000
theorem pick_one (x i : Int) : ∀ (row : List (Int × Str)), (∀ p ∈ row, ∃ n, p.2 = ⟨#[n]⟩) → ∃ n, pickS x i row = ⟨#[n]⟩
  | [], _ => by
    unfold pickS
    split
    · exact ⟨63, by decide +kernel⟩
    · exact ⟨45, by decide +kernel⟩
  | (b, c) :: r, h => by
    have h1 := h _ (List.Mem.head _)
    have h2 := pick_one x i r fun p hp => h p (List.Mem.tail _ hp)
    show ∃ n, (if (if i = 0 then Builtin.bitAnd x 61440 = b else Builtin.bitAnd x b = b) then c else pickS x i r) = ⟨#[n]⟩
    by_cases q : (if i = 0 then Builtin.bitAnd x 61440 = b else Builtin.bitAnd x b = b)
    · rw [if_pos q]; exact h1
    · rw [if_neg q]; exact h2
theorem join_ten (a b c d e f g h i j : Nat) : Txt.join (Str.ofString "") [⟨#[a]⟩, ⟨#[b]⟩, ⟨#[c]⟩, ⟨#[d]⟩, ⟨#[e]⟩, ⟨#[f]⟩, ⟨#[g]⟩, ⟨#[h]⟩, ⟨#[i]⟩, ⟨#[j]⟩] = ⟨#[a, b, c, d, e, f, g, h, i, j]⟩ := by
  with_unfolding_all rfl
theorem tabs_one : ∀ row ∈ tabs, ∀ p ∈ row, ∃ n, p.2 = (⟨#[n]⟩ : Str) := by
  intro row hr p hp
  have h : (tabs.all fun row => row.all fun p => p.2.cps.size == 1) = true := by decide +kernel
  have h1 := List.all_eq_true.mp h row hr
  have h2 := List.all_eq_true.mp h1 p hp
  have h3 : p.2.cps.size = 1 := by simpa using h2
  obtain ⟨b, ⟨⟨l⟩⟩⟩ := p
  match l, h3 with
  | [n], _ => exact ⟨n, rfl⟩
theorem fm_cps (x : Int) : ∃ a b c d e f g h i j : Nat, fmFrom x 0 tabs = [⟨#[a]⟩, ⟨#[b]⟩, ⟨#[c]⟩, ⟨#[d]⟩, ⟨#[e]⟩, ⟨#[f]⟩, ⟨#[g]⟩, ⟨#[h]⟩, ⟨#[i]⟩, ⟨#[j]⟩] := by
  have one : ∀ row ∈ tabs, ∀ i : Int, ∃ n, pickS x i row = ⟨#[n]⟩ := fun row hr i => pick_one x i row (tabs_one row hr)
  have key : ∀ (rows : List (List (Int × Str))), (∀ row ∈ rows, ∀ i : Int, ∃ n, pickS x i row = ⟨#[n]⟩) → ∀ a : Int, ∃ ns : List Nat, ns.length = rows.length ∧ fmFrom x a rows = ns.map fun n => (⟨#[n]⟩ : Str) := by
    intro rows
    induction rows with
    | nil => intro _ _; exact ⟨[], rfl, rfl⟩
    | cons t r ih =>
      intro h a
      obtain ⟨n, hn⟩ := h t (List.Mem.head _) a
      obtain ⟨ns, hl, he⟩ := ih (fun row hr => h row (List.Mem.tail _ hr)) (a + 1)
      exact ⟨n :: ns, by simp [hl], by simp [fmFrom, hn, he]⟩
  obtain ⟨ns, hl, he⟩ := key tabs one 0
  have hl' : ns.length = 10 := hl
  match ns, hl' with
  | [a, b, c, d, e, f, g, h, i, j], _ => exact ⟨a, b, c, d, e, f, g, h, i, j, he⟩
theorem fm_len (x : Int) : (fmT x).length = 10 := by
  obtain ⟨a, b, c, d, e, f, g, h, i, j, he⟩ := fm_cps x
  unfold fmT
  rw [he]
  have := join_ten a b c d e f g h i j
  exact (congrArg Str.length this).trans rfl
theorem fm_sum (x : Int) : ((fmFrom x 0 tabs).map (·.length)).sum + (fmFrom x 0 tabs).length * (Str.ofString "").length ≤ 16777216 := by
  obtain ⟨a, b, c, d, e, f, g, h, i, j, he⟩ := fm_cps x
  rw [he]
  have e0 : (Str.ofString "").length = 0 := by decide +kernel
  rw [e0]
  exact (show (10 : Nat) + 10 * 0 ≤ 16777216 by decide)
end Mine
namespace Mine
open PySem PySem.W PyProof.Rows PySem.Calls PySem.Spec
set_option maxRecDepth 100000
set_option maxHeartbeats 8000000
theorem below_ne2 {news : List (Addr × Obj)} {L d : Nat} (h : ∀ p ∈ news, p.1 < L) (hd : L ≤ d) : ∀ p ∈ news, p.1 ≠ d := fun p hp => Nat.ne_of_lt (Nat.lt_of_lt_of_le (h p hp) hd)
local macro_rules | `(tactic| walk_at $s:str) => `(tactic| k_extra $s)
theorem words_CT5_0 : True := by
  k_with_none
  (k_with "call ref" => (k_here; (with_reducible show wpAny _ _ (call (Value.ref 28) _) _ _ _); k_dflt (refine' c_ifmt ?zqk1 ?zqk2 ?zqk3 ?zqk4 ?zqk5 ?zqkK ?zqkd ?zqku  ?_; (case zqk1 => k_asm); (case zqk2 => k_asm); (case zqk3 => k_asm); (case zqk4 => k_asm); (case zqk5 => k_asm); (case zqkK => first | exact rfl | assumption); (case zqkd => ktr_room); (case zqku => ktr_units);  k_whole); intro y9 t9 h9 tk9 e9 F9 N9; (try dsimp only)))
  (k_with "exec For Tuple Call" => (k_here; (rename Fr _ _ _ _ => lF'); (with_unfolding_all refine' For_turns lF' ?_; k_whole)))
  (k_with "exec For Tuple Call cons nil" => (k_here; (rename Fr _ _ _ _ => lF'); (with_unfolding_all refine' For_turns lF' ?_; k_whole)))
  (k_with "call type:enumerate" => (k_here; refine Stop.out ?_))
  (k_with "exec For Tuple Name" => (k_here; refine Stop.out ?_))
  (k_with "exec For Tuple Name cons cons" => (k_here; refine Stop.out ?_))
  (k_with "ElPost" => ((with_reducible show ElPost _ _ _ _ _ _ _ _ Flow.brk _); dsimp only [ElPost]))
  trivial
local macro_rules | `(tactic| k_all) => `(tactic| exact below_ne2 (by assumption) (by omega))
theorem c_fm {w : World} {mean : ExcName → Option Value} {mg mb : Str → Option Value} {news : List (Addr × Obj)} {dp un : Nat} {gd : Option (List Code)} {cn : Str} {cs : Scope} {a : Addr} {ccd : Value} {cl : List (Str × Addr)} {outer : List Env} {A₀ : Around} {base h₀ : Heap} {L : Addr} {m : Str → Option Value} {s : Shared} {Q E : Value → Shared → Prop}
    (B : Below A₀ base outer h₀) (F : Fr h₀ L s.heap m) (X : (Mine.hd.heap_39 w.params).In h₀) (N : News h₀ L s.heap news) (T : Top Mine.hd.view_39 (looseW Mine.hd.view_39 [Str.ofString "_filemode_table"]) mean mg mb h₀) (hk : cs.kind = .function) (hd : dp + 1 < recursionLimit) (hu : un + 32 < cLine)
    {x : Int} {t : Tok}
    
    (hret : ∀ (y : Str) (t : Tok) (h' : Heap) (tk' : Nat), y = fmT x → y.length = 10 → Fr h₀ L h' m → News h₀ L h' news → Q (.str y t) { s with heap := h', toks := tk' }) :
    wpAny (model PySem.Challenge.rw_mq0213_01.row.prog w) (ktrTop dp un gd cn cs L a ccd cl outer) (call (.ref 68) [.int x t]) Q E s := by
  w_top off
  revert X
  k_fill
  intro X
  refine wpAny_call ?_
  k_dflt cell_enter
  (repeat' (first | (k_unfold; (try dsimp only)) | walk1 | (dsimp only; walk1)))
  refine Stop.mk' ?_
  with_reducible rename Frag.In _ _ => X9
  obtain ⟨us, hus, rows⟩ := tab_ok X9
  with_reducible rename Fr _ _ _ _ => F9
  with_reducible rename News _ _ _ _ => N9
  k_dflt (refine fm_enum (by rfl) F9 N9 (by rfl) (by rfl) hus rows ?_ ?_)
  · clear F9 N9
    intro it e hpi hni hie i a ws row T t' tm m₁ vs nn h tk oe oi ha hps hrow hS hT F N
    have hvl : vs.length ≤ 10 := strs_len hS
    replace hpi := ltN hpi
    replace hie := ltN hie
    (repeat' (first | (k_unfold; (try dsimp only)) | walk1 | (dsimp only; walk1)))
    refine Stop.mk' ?_
    with_reducible rename Fr _ _ _ _ => F8
    with_reducible rename News _ _ _ _ => N8
    k_dflt (refine fm_inner (by rfl) ha hps F8 N8 (by rfl) (by rfl) (by rfl) ?_ ?_ ?_)
    · exact ld F8 (by rfl) ⟨rfl, rfl⟩
    · clear F8 N8
      intro I h1 h2 h3 h4 p b tb c tc j m₂ h tk oI hT hpk F N
      replace h1 := ltN h1
      replace h2 := ltN h2
      replace h3 := ltN h3
      (repeat' (first | (k_unfold; (try dsimp only)) | walk1 | (dsimp only; walk1)))
      all_goals (with_reducible rename Fr _ _ _ _ => F7)
      all_goals (with_reducible rename News _ _ _ _ => N7)
      all_goals first
        | ((simp only [List.push_toArray] at N7); (with_unfolding_all refine eo_next F7 N7 (fun p hp => List.Mem.tail _ hp) hS hrow ?_ (by rfl) (by rfl)); first | exact pk_a hpk (by assumption) (by assumption) (by assumption) | exact pk_b hpk (by assumption) (by assumption))
        | (refine ⟨_, _, _, rfl, F7, N7, ?_, by rfl, by rfl, by rfl⟩; first | exact pk_c hpk (by assumption) (by assumption) (by assumption) | exact pk_d hpk (by assumption) (by assumption))
    · clear F8 N8
      intro m₂ h tk hpk F N
      (repeat' (first | (k_unfold; (try dsimp only)) | walk1 | (dsimp only; walk1)))
      all_goals (with_reducible rename Fr _ _ _ _ => F7)
      all_goals (with_reducible rename News _ _ _ _ => N7)
      all_goals ((simp only [List.push_toArray] at N7); (with_unfolding_all refine eo_next F7 N7 (fun p hp => hp) hS hrow ?_ (by rfl) (by rfl)); first | exact hpk.trans (if_pos (by assumption)) | exact hpk.trans (if_neg (by assumption)))
  · clear F9 N9
    intro vs nn m₁ h tk hS F N
    (repeat' (first | (k_unfold; (try dsimp only)) | walk1 | (dsimp only; walk1)))
    refine join_list (items := vs.toArray) ⟨_, (N _ (List.Mem.head _)).1, rfl, _, rfl⟩ (by simpa using hS) (fm_sum x) ?_
    intro t7 k7
    (repeat' (first | (k_unfold; (try dsimp only)) | walk1 | (dsimp only; walk1)))
    exact hret _ _ _ _ rfl (fm_len x) (by k_asm) (cb_drop (by assumption) (fun p hp => List.Mem.tail _ hp))

theorem words_CT5_off : True := by k_with_none; trivial
end Mine
namespace Mine
set_option maxRecDepth 100000
set_option maxHeartbeats 8000000
open PySem PySem.Float64
/-- the grid of the 2 ^ (-48)s below 16 is made of floats -/
theorem grid {q : Nat} (hq : q ≤ 2 ^ 52) : ∃ t, V t = q * 2 ^ 1026 := by
  by_cases h0 : q = 0
  · exact ⟨0, by rw [V_zero, h0, Nat.zero_mul]⟩
  · have h1 := Nat.log2_self_le h0
    have h2 := Nat.lt_log2_self (n := q)
    have hl : q.log2 ≤ 52 := by
      by_cases h : q.log2 ≤ 52
      · exact h
      · have : 2 ^ 53 ≤ 2 ^ q.log2 := Nat.pow_le_pow_right (by decide) (by omega)
        omega
    have e52 : 2 ^ (52 - q.log2) * 2 ^ q.log2 = 2 ^ 52 := by rw [← Nat.pow_add]; congr 1; omega
    have e53 : 2 ^ (52 - q.log2) * 2 ^ (q.log2 + 1) = 2 ^ 53 := by rw [← Nat.pow_add]; congr 1; omega
    have a1 : 2 ^ 52 ≤ q * 2 ^ (52 - q.log2) := by
      rw [← e52, Nat.mul_comm q]
      exact Nat.mul_le_mul_left _ h1
    have a2 : q * 2 ^ (52 - q.log2) ≤ 2 ^ 53 := by
      rw [← e53, Nat.mul_comm q]
      exact Nat.mul_le_mul_left _ (Nat.le_of_lt h2)
    refine ⟨(1026 - (52 - q.log2)) * 2 ^ 52 + q * 2 ^ (52 - q.log2), ?_⟩
    rw [V_at a2 (.inl a1), Nat.mul_assoc, ← Nat.pow_add]
    congr 2
    omega
theorem big_no : ¬ (2 ^ 54 - 1) * 2 ^ 2045 ≤ 2 * (16 * 2 ^ 1074) := by decide +kernel
theorem pow48 : (2 : Nat) ^ 1074 = 2 ^ 48 * 2 ^ 1026 := by rw [← Nat.pow_add]
theorem rnd {r : UInt64} {sg : Bool} {W D : Nat} (h : Right r sg W D) (hD : 0 < D) (hW : W ≤ 16 * 2 ^ 1074 * D) :
    isFinite r = true ∧ -((D * 2 ^ 1026 : Nat) : Int) ≤ val r * D - sgn sg W ∧ val r * D - sgn sg W ≤ ((D * 2 ^ 1026 : Nat) : Int) := by
  obtain ⟨t, rfl, hle, hinf, hn⟩ := h
  have ht : t < infMag := by
    rcases Nat.lt_or_eq_of_le hle with h | h
    · exact h
    · have h2 := hinf.mp h
      exfalso
      apply big_no
      refine Nat.le_of_mul_le_mul_left (c := D) ?_ hD
      refine Nat.le_trans h2 ?_
      rw [show D * (2 * (16 * 2 ^ 1074)) = 2 * (16 * 2 ^ 1074 * D) by ac_rfl]
      exact Nat.mul_le_mul_left _ hW
  obtain ⟨m, e, hd, hv⟩ := decode_pack sg ht
  refine ⟨by unfold isFinite; rw [hd], ?_⟩
  rw [val_pack sg ht]
  have hq : W / (D * 2 ^ 1026) ≤ 2 ^ 52 := by
    apply Nat.div_le_of_le_mul
    refine Nat.le_trans hW ?_
    rw [pow48]
    rw [show D * 2 ^ 1026 * 2 ^ 52 = 16 * (2 ^ 48 * 2 ^ 1026) * D by rw [show (2 : Nat) ^ 52 = 16 * 2 ^ 48 by decide]; ac_rfl]
    exact Nat.le_refl _
  obtain ⟨t', ht'⟩ := grid hq
  have hd1 := (hn ht t').1
  rw [ht'] at hd1
  have hpos : 0 < D * 2 ^ 1026 := Nat.mul_pos hD (Nat.two_pow_pos _)
  have g1 := Nat.div_add_mod W (D * 2 ^ 1026)
  have g2 := Nat.mod_lt W hpos
  rw [show D * (W / (D * 2 ^ 1026) * 2 ^ 1026) = D * 2 ^ 1026 * (W / (D * 2 ^ 1026)) by ac_rfl] at hd1
  have key : dist W (D * V t) ≤ D * 2 ^ 1026 := by
    refine Nat.le_trans hd1 ?_
    unfold dist
    omega
  unfold dist at key
  generalize D * 2 ^ 1026 = U at *
  have e1 : sgn sg (V t) * (D : Int) - sgn sg W = sgn sg (D * V t) - sgn sg W := by rw [Nat.mul_comm, sgn_mul]
  rw [e1]
  generalize D * V t = Z at *
  unfold sgn
  cases sg <;> simp <;> omega
end Mine
namespace Mine
set_option maxRecDepth 100000
set_option maxHeartbeats 8000000
set_option exponentiation.threshold 3000
open PySem PySem.Float64
noncomputable def kN : Nat := 2 ^ 1074
noncomputable def uN : Nat := 2 ^ 1026
noncomputable def kk : Rat := (kN : Rat)
noncomputable def u : Rat := (uN : Rat) / kk
noncomputable def rv (x : UInt64) : Rat := (val x : Rat) / kk
theorem kN_pos : 0 < kN := Nat.two_pow_pos _
theorem kN_uN : kN = 281474976710656 * uN := pow48
theorem kk_pos : 0 < kk := Rat.natCast_pos.mpr kN_pos
theorem kk_ne : kk ≠ 0 := fun h => by have := kk_pos; rw [h] at this; exact Rat.lt_irrefl this
theorem rv_mul (x : UInt64) : rv x * kk = (val x : Rat) := Rat.div_mul_cancel kk_ne
theorem u_mul : u * kk = (uN : Rat) := Rat.div_mul_cancel kk_ne
theorem u_eq : u * 281474976710656 = 1 := by
  have h : u * 281474976710656 * kk = 1 * kk := by
    have h1 : (kN : Rat) = 281474976710656 * (uN : Rat) := by rw [kN_uN]; push_cast; rfl
    have h2 := u_mul
    unfold kk at h2 ⊢
    grind
  have := congrArg (· / kk) h
  simp only [Rat.mul_div_cancel kk_ne] at this
  exact this
theorem u_pos : 0 < u := by have := u_eq; grind
/-- bounds of ints over the scale -/
theorem down {a b : Rat} (h : a * kk ≤ b * kk) : a ≤ b := Rat.le_of_mul_le_mul_right h kk_pos
theorem up {a b : Rat} (h : a ≤ b) : a * kk ≤ b * kk := Rat.mul_le_mul_of_nonneg_right h (Rat.le_of_lt kk_pos)
theorem abs_up {x : UInt64} {n : Int} (h1 : -(n : Rat) ≤ rv x) (h2 : rv x ≤ (n : Rat)) : -(n * kN : Int) ≤ val x ∧ val x ≤ n * kN := by
  have a := up h1
  have b := up h2
  rw [rv_mul] at a b
  unfold kk at a b
  constructor
  · apply Rat.intCast_le_intCast.mp; push_cast; grind
  · apply Rat.intCast_le_intCast.mp; push_cast; grind
theorem fin_of {x : UInt64} (h : isFinite x = true) : ∃ a m e, decode x = .fin a m e := by
  unfold isFinite at h
  cases hd : decode x with
  | nan => rw [hd] at h; cases h
  | inf s => rw [hd] at h; cases h
  | fin a m e => exact ⟨a, m, e, rfl⟩
theorem fin_to {x : UInt64} {a : Bool} {m : Nat} {e : Int} (h : decode x = .fin a m e) : isFinite x = true := by
  unfold isFinite; rw [h]
theorem sgn_back (s : Int) : sgn (decide (s < 0)) s.natAbs = s := by
  unfold sgn
  by_cases h : s < 0
  · simp [h]; omega
  · simp [h]; omega
theorem near_one {r : UInt64} {s : Int} (h : Right r (decide (s < 0)) s.natAbs 1) (h1 : -(16 * kN : Int) ≤ s) (h2 : s ≤ 16 * kN) :
    isFinite r = true ∧ (s : Rat) / kk - u ≤ rv r ∧ rv r ≤ (s : Rat) / kk + u := by
  obtain ⟨f, a, b⟩ := rnd h (by decide) (by unfold kN at *; omega)
  rw [sgn_back, Nat.one_mul] at a b
  have a' := Rat.intCast_le_intCast.mpr a
  have b' := Rat.intCast_le_intCast.mpr b
  refine ⟨f, down ?_, down ?_⟩
  · have e1 := rv_mul r
    have e2 := u_mul
    have e3 : (s : Rat) / kk * kk = s := Rat.div_mul_cancel kk_ne
    change ((-(uN : Int) : Int) : Rat) ≤ _ at a'
    push_cast at a'
    grind
  · have e1 := rv_mul r
    have e2 := u_mul
    have e3 : (s : Rat) / kk * kk = s := Rat.div_mul_cancel kk_ne
    change _ ≤ ((uN : Int) : Rat) at b'
    push_cast at b'
    grind
theorem rv_zero (b : Bool) : isFinite (zero b) = true ∧ rv (zero b) = 0 := by
  cases b
  · exact ⟨by decide +kernel, by unfold rv; rw [show val (zero false) = 0 by decide +kernel]; simp [Rat.div_def]⟩
  · exact ⟨by decide +kernel, by unfold rv; rw [show val (zero true) = 0 by decide +kernel]; simp [Rat.div_def]⟩
theorem rv_add {x y : UInt64} (hx : isFinite x = true) (hy : isFinite y = true) (h1 : -16 ≤ rv x + rv y) (h2 : rv x + rv y ≤ 16) :
    isFinite (add x y) = true ∧ rv x + rv y - u ≤ rv (add x y) ∧ rv (add x y) ≤ rv x + rv y + u := by
  obtain ⟨a, m, e, dx⟩ := fin_of hx
  obtain ⟨b, k, f, dy⟩ := fin_of hy
  have hr := add_right dx dy
  have e1 := rv_mul x
  have e2 := rv_mul y
  have es : rv x + rv y = ((val x + val y : Int) : Rat) / kk := by
    unfold rv; push_cast; simp only [Rat.div_def]; grind
  by_cases h0 : val x + val y = 0
  · rw [hr.1 h0, es, h0]
    have := rv_zero (a && b)
    have hu := u_pos
    refine ⟨this.1, ?_, ?_⟩ <;> rw [this.2] <;> simp [Rat.div_def] <;> grind
  · have k1 := up h1
    have k2 := up h2
    have b1 : -(16 * kN : Int) ≤ val x + val y := by
      apply Rat.intCast_le_intCast.mp; push_cast; unfold kk at *; grind
    have b2 : val x + val y ≤ 16 * kN := by
      apply Rat.intCast_le_intCast.mp; push_cast; unfold kk at *; grind
    have := near_one (hr.2 h0) b1 b2
    rw [es]
    exact this
end Mine
namespace Mine
set_option maxRecDepth 100000
set_option maxHeartbeats 8000000
set_option exponentiation.threshold 3000
open PySem PySem.Float64
theorem rv_neg {y : UInt64} (hy : isFinite y = true) : isFinite (neg y) = true ∧ rv (neg y) = - rv y := by
  obtain ⟨b, k, f, dy⟩ := fin_of hy
  refine ⟨fin_to (neg_decode dy), ?_⟩
  unfold rv
  rw [neg_val dy]
  push_cast
  simp only [Rat.div_def]
  grind
theorem rv_sub {x y : UInt64} (hx : isFinite x = true) (hy : isFinite y = true) (h1 : -16 ≤ rv x - rv y) (h2 : rv x - rv y ≤ 16) :
    isFinite (sub x y) = true ∧ rv x - rv y - u ≤ rv (sub x y) ∧ rv (sub x y) ≤ rv x - rv y + u := by
  obtain ⟨hn, en⟩ := rv_neg hy
  have := rv_add hx hn (by rw [en]; grind) (by rw [en]; grind)
  rw [en] at this
  unfold sub
  grind
/-- what stands over a scale and is rounded -/
theorem near_D {r : UInt64} {sg : Bool} {W D : Nat} (h : Right r sg W D) (hD : 0 < D) (hW : W ≤ 16 * kN * D) :
    isFinite r = true ∧ (sgn sg W : Rat) - (D : Rat) * (u * kk) ≤ rv r * kk * D ∧ rv r * kk * D ≤ (sgn sg W : Rat) + (D : Rat) * (u * kk) := by
  obtain ⟨f, a, b⟩ := rnd h hD hW
  have a' := Rat.intCast_le_intCast.mpr a
  have b' := Rat.intCast_le_intCast.mpr b
  rw [rv_mul, u_mul]
  change ((-((D * uN : Nat) : Int) : Int) : Rat) ≤ _ at a'
  change _ ≤ (((D * uN : Nat) : Int) : Rat) at b'
  push_cast at a' b'
  exact ⟨f, by grind, by grind⟩
theorem div_kk {a b D : Rat} (hD : 0 < D) (h : a * kk * D ≤ b * kk * D) : a ≤ b := by
  have := Rat.le_of_mul_le_mul_right h hD
  exact down this
theorem sgn_prod (a b : Bool) (m k : Nat) : sgn (a != b) (m * k) = sgn a m * sgn b k := by
  unfold sgn
  cases a <;> cases b <;> simp <;> grind
theorem rv_mulf {x y : UInt64} (hx : isFinite x = true) (hy : isFinite y = true) (h1 : -16 ≤ rv x * rv y) (h2 : rv x * rv y ≤ 16) :
    isFinite (mul x y) = true ∧ rv x * rv y - u ≤ rv (mul x y) ∧ rv (mul x y) ≤ rv x * rv y + u := by
  obtain ⟨a, m, e, dx⟩ := fin_of hx
  obtain ⟨b, k, f, dy⟩ := fin_of hy
  have hr := mul_right dx dy
  have es : (sgn (a != b) ((val x).natAbs * (val y).natAbs) : Int) = val x * val y := by
    rw [sgn_prod, val_natAbs dx, val_natAbs dy, ← val_eq dx, ← val_eq dy]
  have ev : ((val x * val y : Int) : Rat) = rv x * rv y * kk * kk := by
    push_cast
    rw [← rv_mul x, ← rv_mul y]
    grind
  have k1 := up (up h1)
  have k2 := up (up h2)
  rw [← ev] at k1 k2
  have b1 : -(16 * kN * kN : Int) ≤ val x * val y := by
    apply Rat.intCast_le_intCast.mp; push_cast; unfold kk at k1; push_cast at k1; grind
  have b2 : val x * val y ≤ 16 * kN * kN := by
    apply Rat.intCast_le_intCast.mp; push_cast; unfold kk at k2; push_cast at k2; grind
  have hW : (val x).natAbs * (val y).natAbs ≤ 16 * kN * kN := by
    rw [← Int.natAbs_mul]
    have : ((16 * kN * kN : Nat) : Int) = 16 * kN * kN := by push_cast; rfl
    omega
  obtain ⟨g, p, q⟩ := near_D hr kN_pos hW
  rw [es, ev] at p q
  change _ - kk * _ ≤ _ at p
  change _ ≤ _ + kk * _ at q
  have e0 : ((2 ^ 1074 : Nat) : Rat) = kk := rfl
  rw [e0] at p q
  refine ⟨g, div_kk kk_pos ?_, div_kk kk_pos ?_⟩ <;> grind
theorem val_c6 : decode c6 = .fin false 6755399441055744 (-50) ∧ (val c6).natAbs = 6 * kN := by
  have h : decode c6 = .fin false 6755399441055744 (-50) := by with_unfolding_all rfl
  refine ⟨h, ?_⟩
  rw [val_natAbs h]
  unfold kN
  decide +kernel
theorem rv_div6 {x : UInt64} (hx : isFinite x = true) (h1 : -96 ≤ rv x) (h2 : rv x ≤ 96) :
    isFinite (div x c6) = true ∧ rv x / 6 - u ≤ rv (div x c6) ∧ rv (div x c6) ≤ rv x / 6 + u := by
  obtain ⟨a, m, e, dx⟩ := fin_of hx
  have hr := div_right dx val_c6.1 (by decide)
  rw [val_c6.2] at hr
  have es : (sgn (a != false) ((val x).natAbs * 2 ^ 1074) : Int) = val x * kN := by
    rw [sgn_mul, val_natAbs dx, show (a != false) = a by cases a <;> rfl, ← val_eq dx]
    rfl
  have k1 := up h1
  have k2 := up h2
  rw [rv_mul] at k1 k2
  have b1 : -(96 * kN : Int) ≤ val x := by
    apply Rat.intCast_le_intCast.mp; push_cast; unfold kk at k1; push_cast at k1; grind
  have b2 : val x ≤ 96 * kN := by
    apply Rat.intCast_le_intCast.mp; push_cast; unfold kk at k2; push_cast at k2; grind
  have hW : (val x).natAbs * 2 ^ 1074 ≤ 16 * kN * (6 * kN) := by
    have : (val x).natAbs ≤ 96 * kN := by omega
    have := Nat.mul_le_mul_right kN this
    rw [show 16 * kN * (6 * kN) = 96 * kN * kN by grind]
    exact this
  obtain ⟨g, p, q⟩ := near_D hr (by have := kN_pos; omega) hW
  rw [es] at p q
  push_cast at p q
  rw [← rv_mul x] at p q
  have e0 : (kN : Rat) = kk := rfl
  rw [e0] at p q
  have h6 : (0 : Rat) < 6 * kk := by have := kk_pos; grind
  refine ⟨g, div_kk h6 ?_, div_kk h6 ?_⟩ <;> grind
theorem rv_ofInt {i : Int} (h1 : -16 ≤ i) (h2 : i ≤ 16) : isFinite (ofInt i) = true ∧ (i : Rat) - u ≤ rv (ofInt i) ∧ rv (ofInt i) ≤ (i : Rat) + u := by
  have hr := ofInt_right i
  have hW : i.natAbs * 2 ^ 1074 ≤ 16 * kN * 1 := by
    have : i.natAbs ≤ 16 := by omega
    have := Nat.mul_le_mul_right kN this
    rw [Nat.mul_one]
    exact this
  obtain ⟨g, p, q⟩ := near_D hr (by decide) hW
  have es : (sgn (decide (i < 0)) (i.natAbs * 2 ^ 1074) : Int) = i * kN := by rw [sgn_mul, sgn_back]; rfl
  rw [es] at p q
  push_cast at p q
  have e0 : (kN : Rat) = kk := rfl
  rw [e0] at p q
  refine ⟨g, down ?_, down ?_⟩ <;> grind
theorem rv_qI {a b : Int} (ha : 0 ≤ a) (hb : 0 < b) (hab : a ≤ 16 * b) : isFinite (qI a b) = true ∧ (a : Rat) / b - u ≤ rv (qI a b) ∧ rv (qI a b) ≤ (a : Rat) / b + u := by
  have es : qI a b = ofFrac false a.natAbs b.natAbs := by
    unfold qI
    rw [show decide (a < 0) = false by simp; omega, show decide (b < 0) = false by simp; omega]
    rfl
  have hD : 0 < b.natAbs := by omega
  have hr : Right (ofFrac false a.natAbs b.natAbs) false (a.natAbs * 2 ^ 1074) b.natAbs := ofFrac_right hD rfl hD
  have hW : a.natAbs * 2 ^ 1074 ≤ 16 * kN * b.natAbs := by
    have : a.natAbs ≤ 16 * b.natAbs := by omega
    have := Nat.mul_le_mul_right kN this
    rw [show 16 * kN * b.natAbs = 16 * b.natAbs * kN by grind]
    exact this
  obtain ⟨g, p, q⟩ := near_D hr hD hW
  rw [← es] at g p q
  have e1 : (sgn false (a.natAbs * 2 ^ 1074) : Int) = a * kN := by
    rw [sgn_mul]
    unfold sgn
    simp only [Bool.false_eq_true, if_false]
    rw [Int.natAbs_of_nonneg ha]
    rfl
  rw [e1] at p q
  have e2 : ((b.natAbs : Nat) : Rat) = (b : Rat) := by
    rw [← Rat.intCast_natCast, Int.natAbs_of_nonneg (Int.le_of_lt hb)]
  rw [e2] at p q
  push_cast at p q
  have e0 : (kN : Rat) = kk := rfl
  rw [e0] at p q
  have hb' : (0 : Rat) < b := Rat.intCast_pos.mpr hb
  have hne : (b : Rat) ≠ 0 := fun h => by rw [h] at hb'; exact Rat.lt_irrefl hb'
  have e3 : (a : Rat) / b * b = a := Rat.div_mul_cancel hne
  refine ⟨g, div_kk hb' ?_, div_kk hb' ?_⟩
  · have e4 : ((a : Rat) / b - u) * kk * b = (a : Rat) / b * b * kk - b * (u * kk) := by generalize (a : Rat) / b = z; grind
    rw [e4, e3]
    exact p
  · have e4 : ((a : Rat) / b + u) * kk * b = (a : Rat) / b * b * kk + b * (u * kk) := by generalize (a : Rat) / b = z; grind
    rw [e4, e3]
    exact q
end Mine
namespace Mine
set_option maxRecDepth 100000
set_option maxHeartbeats 8000000
set_option exponentiation.threshold 3000
open PySem PySem.Float64
theorem floor_spec {m : Nat} {e : Int} (he : -1074 ≤ e) : ∃ F : Nat, floorOf false m e = F ∧ F * kN ≤ m * 2 ^ (e + 1074).toNat ∧ m * 2 ^ (e + 1074).toNat < (F + 1) * kN := by
  unfold floorOf
  by_cases h : e ≥ 0
  · rw [if_pos h]
    refine ⟨m * 2 ^ e.toNat, by unfold sgn; simp, ?_⟩
    have e1 : (e + 1074).toNat = e.toNat + 1074 := by omega
    have e2 : m * 2 ^ (e + 1074).toNat = m * 2 ^ e.toNat * kN := by rw [e1, Nat.pow_add, ← Nat.mul_assoc]; rfl
    rw [e2]
    refine ⟨Nat.le_refl _, ?_⟩
    rw [Nat.succ_mul]
    have := kN_pos
    omega
  · rw [if_neg h]
    have hk : kN = 2 ^ (-e).toNat * 2 ^ (e + 1074).toNat := by
      unfold kN
      rw [← Nat.pow_add]
      congr 1
      omega
    have hp : 0 < 2 ^ (-e).toNat := Nat.two_pow_pos _
    refine ⟨m / 2 ^ (-e).toNat, ?_, ?_, ?_⟩
    · unfold sgn
      simp only [Bool.false_eq_true, if_false]
      rw [show ((2 : Int) ^ (-e).toNat) = ((2 ^ (-e).toNat : Nat) : Int) by simp, Int.fdiv_eq_ediv_of_nonneg _ (by omega)]
      simp
    · rw [hk, ← Nat.mul_assoc]
      exact Nat.mul_le_mul_right _ (Nat.div_mul_le_self _ _)
    · rw [hk, ← Nat.mul_assoc]
      refine Nat.mul_lt_mul_of_pos_right ?_ (Nat.two_pow_pos _)
      have g1 := Nat.div_add_mod m (2 ^ (-e).toNat)
      have g2 := Nat.mod_lt m hp
      rw [Nat.succ_mul, Nat.mul_comm]
      omega
theorem rv_le_of {x : UInt64} {n : Int} (h : val x ≤ n * kN) : rv x ≤ (n : Rat) := by
  apply down
  rw [rv_mul]
  have := Rat.intCast_le_intCast.mpr h
  push_cast at this
  exact this
theorem le_rv_of {x : UInt64} {n : Int} (h : n * kN ≤ val x) : (n : Rat) ≤ rv x := by
  apply down
  rw [rv_mul]
  have := Rat.intCast_le_intCast.mpr h
  push_cast at this
  exact this
theorem lt_rv_of {x : UInt64} {n : Int} (h : n * kN < val x) : (n : Rat) < rv x := by
  apply Rat.not_le.mp
  intro h2
  have := up h2
  rw [rv_mul] at this
  have : val x ≤ n * kN := Rat.intCast_le_intCast.mp (by push_cast; exact this)
  omega
theorem rv_lt_of {x : UInt64} {n : Int} (h : val x < n * kN) : rv x < (n : Rat) := by
  apply Rat.not_le.mp
  intro h2
  have := up h2
  rw [rv_mul] at this
  have : n * kN ≤ val x := Rat.intCast_le_intCast.mp (by push_cast; exact this)
  omega
theorem trunc_at {x : UInt64} (hx : isFinite x = true) (h : -1 < rv x) : 0 ≤ Flt.toInt truncOf x ∧ (((Flt.toInt truncOf x : Int) : Rat) ≤ rv x ∧ rv x < ((Flt.toInt truncOf x : Int) : Rat) + 1 ∨ rv x ≤ 0 ∧ Flt.toInt truncOf x = 0) := by
  obtain ⟨a, m, e, dx⟩ := fin_of hx
  obtain ⟨F, hF, h1, h2⟩ := floor_spec (m := m) (decode_ge dx)
  have hv := val_eq dx
  have ht : Flt.toInt truncOf x = if a then -(F : Int) else F := by
    unfold Flt.toInt
    rw [dx]
    show truncOf a m e = _
    unfold truncOf ceilOf
    cases a
    · simpa using hF
    · simpa using hF
  cases a with
  | false =>
    rw [ht]
    simp only [Bool.false_eq_true, if_false]
    refine ⟨by omega, .inl ⟨le_rv_of ?_, ?_⟩⟩
    · rw [hv]; unfold sgn; simp only [Bool.false_eq_true, if_false]; exact_mod_cast h1
    · have := rv_lt_of (x := x) (n := (F : Int) + 1) (by rw [hv]; unfold sgn; simp only [Bool.false_eq_true, if_false]; exact_mod_cast h2)
      push_cast at this ⊢
      exact this
  | true =>
    have hneg : val x ≤ 0 * kN := by rw [hv]; unfold sgn; simp only [if_true]; omega
    have hF0 : F = 0 := by
      have : -1 * (kN : Int) < val x := by
        apply Int.not_le.mp
        intro c
        have := rv_le_of (x := x) (n := -1) c
        exact Rat.not_le.mpr h (by push_cast at this; exact this)
      rw [hv] at this
      unfold sgn at this
      simp only [if_true] at this
      have q : m * 2 ^ (e + 1074).toNat < kN := by omega
      rcases Nat.eq_zero_or_pos F with z | z
      · exact z
      · have := Nat.mul_le_mul_right kN z
        omega
    rw [ht, hF0]
    refine ⟨by simp, .inr ⟨?_, by simp⟩⟩
    have := rv_le_of hneg
    exact_mod_cast this
theorem half_at {n d N : Nat} (hd : 0 < d) (h : 2 * dist n (d * N) < d) : halfEven n d = N := by
  have h1 := halfEven_nearest n d hd N
  generalize halfEven n d = H at *
  have h2 : dist (d * H) (d * N) < d := by
    unfold dist at *
    omega
  rw [dist_mul] at h2
  have h3 : dist H N < 1 := by
    apply Nat.lt_of_mul_lt_mul_left (a := d)
    rw [Nat.mul_one]
    exact h2
  unfold dist at h3
  omega
theorem near_at {x : UInt64} (hx : isFinite x = true) {N : Nat} (h1 : (N : Rat) - 1 / 4 ≤ rv x) (h2 : rv x ≤ (N : Rat) + 1 / 4) : Flt.toInt nearestOf x = N := by
  obtain ⟨a, m, e, dx⟩ := fin_of hx
  have hv := val_eq dx
  have hn := val_natAbs dx
  have hs := shift_one m e 1074 (decode_ge dx)
  have hd := shift_pos m 1 e (by decide)
  have ht : Flt.toInt nearestOf x = sgn a (halfEven (shift m 1 e).1 (shift m 1 e).2) := by
    unfold Flt.toInt
    rw [dx]
    rfl
  rw [ht]
  generalize (shift m 1 e).1 = n at *
  generalize (shift m 1 e).2 = d at *
  have k1 := up h1
  have k2 := up h2
  rw [rv_mul] at k1 k2
  have b1 : (4 * N - 1) * kN ≤ 4 * val x := by
    apply Rat.intCast_le_intCast.mp; push_cast; unfold kk at k1; grind
  have b2 : 4 * val x ≤ (4 * N + 1) * kN := by
    apply Rat.intCast_le_intCast.mp; push_cast; unfold kk at k2; grind
  have hk := kN_pos
  change n * kN = _ at hs
  rw [show ((e + ((1074 : Nat) : Int)).toNat) = (e + 1074).toNat by rfl, ← hn] at hs
  -- 4 * n * k = 4 * |val| * d
  have fin : ∀ M : Nat, (4 * (M : Int) - 1) * kN ≤ 4 * ((val x).natAbs : Int) → 4 * ((val x).natAbs : Int) ≤ (4 * M + 1) * kN → halfEven n d = M := by
    intro M c1 c2
    apply half_at hd
    have c1' : (4 * M) * kN ≤ 4 * (val x).natAbs + kN := by
      have : (((4 * M) * kN : Nat) : Int) ≤ ((4 * (val x).natAbs + kN : Nat) : Int) := by push_cast; grind
      omega
    have c2' : 4 * (val x).natAbs ≤ (4 * M) * kN + kN := by
      have : ((4 * (val x).natAbs : Nat) : Int) ≤ ((4 * M * kN + kN : Nat) : Int) := by push_cast; grind
      omega
    have d1 := Nat.mul_le_mul_right d c1'
    have d2 := Nat.mul_le_mul_right d c2'
    have e1 : (4 * (val x).natAbs + kN) * d = (4 * n + d) * kN := by grind
    have e2 : 4 * (val x).natAbs * d = 4 * n * kN := by grind
    have e3 : (4 * M * kN + kN) * d = (4 * (d * M) + d) * kN := by grind
    have e4 : 4 * M * kN * d = 4 * (d * M) * kN := by grind
    rw [e4, e1] at d1
    rw [e2, e3] at d2
    have d1 := Nat.le_of_mul_le_mul_right d1 hk
    have d2 := Nat.le_of_mul_le_mul_right d2 hk
    unfold dist
    omega
  cases a with
  | false =>
    have hpos : ((val x).natAbs : Int) = val x := by rw [hn, hv]; unfold sgn; simp
    rw [fin N (by rw [hpos]; exact b1) (by rw [hpos]; exact b2)]
    unfold sgn
    simp
  | true =>
    have hneg : ((val x).natAbs : Int) = -val x := by rw [hn, hv]; unfold sgn; simp
    have hN : N = 0 := by
      rcases Nat.eq_zero_or_pos N with z | z
      · exact z
      · exfalso
        have : (1 : Int) * kN ≤ (4 * N - 1) * kN := Int.mul_le_mul_of_nonneg_right (by omega) (by omega)
        omega
    rw [hN] at b1 b2 ⊢
    rw [fin 0 (by rw [hneg]; simp only [Int.natCast_zero] at *; omega) (by rw [hneg]; simp only [Int.natCast_zero] at *; omega)]
    rfl
end Mine
namespace Mine
set_option maxRecDepth 100000
set_option maxHeartbeats 8000000
set_option exponentiation.threshold 3000
open PySem PySem.Float64
theorem dec_c1 : decode c1 = .fin false 4503599627370496 (-52) := by with_unfolding_all rfl
theorem rv_c1 : isFinite c1 = true ∧ rv c1 = 1 := by
  refine ⟨fin_to dec_c1, ?_⟩
  have h : val c1 = 1 * kN := by
    rw [val_eq dec_c1]
    unfold kN
    decide +kernel
  unfold rv
  rw [h]
  push_cast
  rw [show (kN : Rat) = kk from rfl]
  exact Rat.mul_div_cancel kk_ne
theorem rv_c6 : isFinite c6 = true ∧ rv c6 = 6 := by
  refine ⟨fin_to val_c6.1, ?_⟩
  have h : val c6 = 6 * kN := by
    rw [val_eq val_c6.1]
    unfold kN
    decide +kernel
  unfold rv
  rw [h]
  push_cast
  rw [show (kN : Rat) = kk from rfl]
  exact Rat.mul_div_cancel kk_ne
theorem fmod_eq {x y : UInt64} {a b : Bool} {m k : Nat} {e f : Int} (dx : decode x = .fin a m e) (dy : decode y = .fin b k f) (hk : k ≠ 0) :
    fmod x y = ofBin a (m * 2 ^ (e - min e f).toNat % (k * 2 ^ (f - min e f).toNat)) (min e f) := by
  unfold fmod
  rw [dx, dy]
  simp only
  rw [if_neg (by simpa using hk)]
  rfl
theorem fmod1 {x : UInt64} (hx : isFinite x = true) (h1 : -1 < rv x) (h2 : rv x < 1) :
    isFinite (fmod x c1) = true ∧ rv x - u ≤ rv (fmod x c1) ∧ rv (fmod x c1) ≤ rv x + u := by
  obtain ⟨a, m, e, dx⟩ := fin_of hx
  have he := decode_ge dx
  have hv := val_eq dx
  have hn := val_natAbs dx
  have q1 : (val x).natAbs < kN := by
    have c1 : -1 * (kN : Int) < val x := by
      apply Int.not_le.mp
      intro c
      have := rv_le_of (x := x) (n := -1) c
      exact Rat.not_le.mpr h1 (by push_cast at this; exact this)
    have c2 : val x < 1 * (kN : Int) := by
      apply Int.not_le.mp
      intro c
      have := le_rv_of (x := x) (n := 1) c
      exact Rat.not_le.mpr h2 (by push_cast at this; exact this)
    omega
  have hf : fmod x c1 = ofBin a (m * 2 ^ (e - min e (-52)).toNat % (4503599627370496 * 2 ^ (-52 - min e (-52)).toNat)) (min e (-52)) := by
    exact fmod_eq dx dec_c1 (by decide)
  have hlt : m * 2 ^ (e - min e (-52)).toNat < 4503599627370496 * 2 ^ (-52 - min e (-52)).toNat := by
    apply Nat.lt_of_mul_lt_mul_right (a := 2 ^ (min e (-52) + 1074).toNat)
    rw [Nat.mul_assoc, ← Nat.pow_add, Nat.mul_assoc, ← Nat.pow_add, show (e - min e (-52)).toNat + (min e (-52) + 1074).toNat = (e + 1074).toNat by omega, show (-52 - min e (-52)).toNat + (min e (-52) + 1074).toNat = 1022 by omega, ← hn]
    refine Nat.lt_of_lt_of_le q1 (Nat.le_of_eq ?_)
    unfold kN
    decide +kernel
  rw [Nat.mod_eq_of_lt hlt] at hf
  have hr : Right (fmod x c1) a (val x).natAbs 1 := by
    rw [hf]
    unfold ofBin
    refine ofFrac_right (shift_pos _ _ _ (by decide)) ?_ (by decide)
    have := shift_one (m * 2 ^ (e - min e (-52)).toNat) (min e (-52)) 1074 (by omega)
    rw [hn, Nat.mul_one]
    rw [Nat.mul_assoc m, ← Nat.pow_add, show (e - min e (-52)).toNat + (min e (-52) + ((1074 : Nat) : Int)).toNat = (e + 1074).toNat by omega] at this
    exact this
  obtain ⟨g, p, q⟩ := near_D hr (by decide) (by omega)
  have es : (sgn a (val x).natAbs : Int) = val x := by rw [hn, ← hv]
  rw [es, ← rv_mul x] at p q
  push_cast at p q
  refine ⟨g, down ?_, down ?_⟩ <;> grind
theorem zero_of {x : UInt64} (h : isZero x = true) : rv x = 0 := by
  unfold isZero at h
  have : val x = 0 := by
    unfold val
    split at h
    · rename_i s e hd
      rw [hd]
      unfold sgn
      simp
    · cases h
  unfold rv
  rw [this]
  simp [Rat.div_def]
theorem lt_zero {x : UInt64} (hx : isFinite x = true) : (lt x (zero false) = true → rv x ≤ 0) ∧ (lt x (zero false) = false → 0 ≤ rv x) := by
  obtain ⟨a, m, e, dx⟩ := fin_of hx
  have hz : decode (zero false) = .fin false 0 (-1074) := by with_unfolding_all rfl
  have hc := cmp_right dx hz
  have hz0 : val (zero false) = 0 := by decide +kernel
  rw [hz0] at hc
  unfold lt
  rw [hc]
  constructor
  · intro h
    have h : val x ≤ 0 * kN := by
      rcases Int.lt_trichotomy (val x) 0 with h' | h' | h'
      · omega
      · omega
      · rw [Int.compare_eq_gt.mpr h'] at h; cases h
    have := rv_le_of h
    push_cast at this
    exact this
  · intro h
    have h : 0 * (kN : Int) ≤ val x := by
      rcases Int.lt_trichotomy (val x) 0 with h' | h' | h'
      · rw [Int.compare_eq_lt.mpr h'] at h; cases h
      · omega
      · omega
    have := le_rv_of h
    push_cast at this
    exact this
theorem mod_at {x : UInt64} (hx : isFinite x = true) (h1 : -1 < rv x) (h2 : rv x < 1) :
    isFinite (divmod x c1).2 = true ∧ ((-u ≤ rv x ∧ rv x - u ≤ rv (divmod x c1).2 ∧ rv (divmod x c1).2 ≤ rv x + u) ∨ (rv x ≤ u ∧ rv x + 1 - 2 * u ≤ rv (divmod x c1).2 ∧ rv (divmod x c1).2 ≤ rv x + 1 + 2 * u)) := by
  obtain ⟨f, a, b⟩ := fmod1 hx h1 h2
  have hu := u_pos
  have hue := u_eq
  have hd : (divmod x c1).2 = if isZero (fmod x c1) then copysign (zero false) c1 else if lt c1 (zero false) != lt (fmod x c1) (zero false) then add (fmod x c1) c1 else fmod x c1 := by
    unfold divmod
    simp only
    split
    · rfl
    · split <;> rfl
  have hl : lt c1 (zero false) = false := by decide +kernel
  rw [hd, hl]
  by_cases hz : isZero (fmod x c1) = true
  · rw [if_pos hz]
    have z0 := zero_of hz
    have e : copysign (zero false) c1 = zero false := by decide +kernel
    rw [e, (rv_zero false).2]
    refine ⟨(rv_zero false).1, .inl ?_⟩
    grind
  · rw [if_neg hz]
    have hlz := lt_zero f
    cases hm : lt (fmod x c1) (zero false) with
    | true =>
      have hle := hlz.1 hm
      rw [if_pos (by rfl)]
      have := rv_add f rv_c1.1 (by rw [rv_c1.2]; grind) (by rw [rv_c1.2]; grind)
      rw [rv_c1.2] at this
      exact ⟨this.1, .inr (by grind)⟩
    | false =>
      have hle := hlz.2 hm
      rw [if_neg (by decide)]
      exact ⟨f, .inl (by grind)⟩
theorem grey_no {x : UInt64} (hx : isFinite x = true) (h : 0 < rv x) : (cmp x 0 == some .eq) = false := by
  obtain ⟨a, m, e, dx⟩ := fin_of hx
  have hz : decode 0 = .fin false 0 (-1074) := by with_unfolding_all rfl
  have hc := cmp_right dx hz
  have hz0 : val 0 = 0 := by decide +kernel
  rw [hz0] at hc
  rw [hc]
  have : 0 < val x := by
    apply Int.not_le.mp
    intro c
    have := rv_le_of (x := x) (n := 0) (by omega)
    push_cast at this
    exact Rat.not_le.mpr h this
  rw [Int.compare_eq_gt.mpr this]
  rfl
end Mine
namespace Mine
set_option maxRecDepth 100000
set_option maxHeartbeats 8000000
set_option exponentiation.threshold 3000
open PySem PySem.Float64
/-- the float x is the number q, less or more e of the small unit -/
noncomputable def Nr (x : UInt64) (q e : Rat) : Prop := isFinite x = true ∧ q - e * u ≤ rv x ∧ rv x ≤ q + e * u
theorem abs_prod {X d A b : Rat} (h1 : -A ≤ X) (h2 : X ≤ A) (h3 : -b ≤ d) (h4 : d ≤ b) : -(A * b) ≤ X * d ∧ X * d ≤ A * b := by
  have a1 : 0 ≤ A - X := by grind
  have a2 : 0 ≤ A + X := by grind
  have a3 : 0 ≤ b - d := by grind
  have a4 : 0 ≤ b + d := by grind
  have p1 := Rat.mul_nonneg a1 a4
  have p2 := Rat.mul_nonneg a2 a3
  have p3 := Rat.mul_nonneg a1 a3
  have p4 := Rat.mul_nonneg a2 a4
  constructor <;> grind
theorem prod_err {x y X Y a b A B : Rat} (hx1 : X - a ≤ x) (hx2 : x ≤ X + a) (hy1 : Y - b ≤ y) (hy2 : y ≤ Y + b) (hX1 : -A ≤ X) (hX2 : X ≤ A) (hY1 : -B ≤ Y) (hY2 : Y ≤ B) :
    X * Y - (A * b + B * a + a * b) ≤ x * y ∧ x * y ≤ X * Y + (A * b + B * a + a * b) := by
  have p1 := abs_prod (X := X) (d := y - Y) (A := A) (b := b) hX1 hX2 (by grind) (by grind)
  have p2 := abs_prod (X := Y) (d := x - X) (A := B) (b := a) hY1 hY2 (by grind) (by grind)
  have p3 := abs_prod (X := x - X) (d := y - Y) (A := a) (b := b) (by grind) (by grind) (by grind) (by grind)
  have e : x * y - X * Y = X * (y - Y) + Y * (x - X) + (x - X) * (y - Y) := by grind
  constructor <;> grind
theorem uu : u * u * 281474976710656 = u := by have := u_eq; grind
theorem Nr.mono {x : UInt64} {q e e' : Rat} (h : Nr x q e) (he : e ≤ e') : Nr x q e' := by
  have := Rat.mul_le_mul_of_nonneg_right he (Rat.le_of_lt u_pos)
  exact ⟨h.1, by have := h.2.1; grind, by have := h.2.2; grind⟩
theorem Nr.to {x : UInt64} {q q' e : Rat} (h : Nr x q e) (he : q = q') : Nr x q' e := he ▸ h
theorem Nr.add {x y : UInt64} {p q a b : Rat} (hx : Nr x p a) (hy : Nr y q b) (h1 : -15 ≤ p + q) (h2 : p + q ≤ 15) (hab : a + b ≤ 100000) : Nr (Float64.add x y) (p + q) (a + b + 1) := by
  have hu := u_eq
  have hp := u_pos
  have := Rat.mul_le_mul_of_nonneg_right hab (Rat.le_of_lt u_pos)
  obtain ⟨f, x1, x2⟩ := hx
  obtain ⟨g, y1, y2⟩ := hy
  have k := rv_add f g (by grind) (by grind)
  exact ⟨k.1, by grind, by grind⟩
theorem Nr.sub {x y : UInt64} {p q a b : Rat} (hx : Nr x p a) (hy : Nr y q b) (h1 : -15 ≤ p - q) (h2 : p - q ≤ 15) (hab : a + b ≤ 100000) : Nr (Float64.sub x y) (p - q) (a + b + 1) := by
  have hu := u_eq
  have hp := u_pos
  have := Rat.mul_le_mul_of_nonneg_right hab (Rat.le_of_lt u_pos)
  obtain ⟨f, x1, x2⟩ := hx
  obtain ⟨g, y1, y2⟩ := hy
  have k := rv_sub f g (by grind) (by grind)
  exact ⟨k.1, by grind, by grind⟩
theorem Nr.mul {x y : UInt64} {p q a b A B : Rat} (hx : Nr x p a) (hy : Nr y q b) (ha : 0 ≤ a) (hb : 0 ≤ b) (hA1 : -A ≤ p) (hA2 : p ≤ A) (hB1 : -B ≤ q) (hB2 : q ≤ B) (h1 : -15 ≤ p * q) (h2 : p * q ≤ 15) (hab : a * b ≤ 100000) (hs : A * b + B * a ≤ 100000) :
    Nr (Float64.mul x y) (p * q) (A * b + B * a + 2) := by
  have hu := u_eq
  have hp := u_pos
  have huu := uu
  obtain ⟨f, x1, x2⟩ := hx
  obtain ⟨g, y1, y2⟩ := hy
  have k := prod_err x1 x2 y1 y2 hA1 hA2 hB1 hB2
  have e1 : A * (b * u) + B * (a * u) + a * u * (b * u) = (A * b + B * a) * u + a * b * (u * u) := by grind
  rw [e1] at k
  have p1 := Rat.mul_le_mul_of_nonneg_right hab (Rat.le_of_lt (Rat.mul_pos hp hp))
  have p2 : a * b * (u * u) ≤ u := by grind
  have p3 := Rat.mul_le_mul_of_nonneg_right hs (Rat.le_of_lt hp)
  have r := rv_mulf f g (by grind) (by grind)
  exact ⟨r.1, by grind, by grind⟩
theorem Nr.div6 {x : UInt64} {p a : Rat} (hx : Nr x p a) (h1 : -90 ≤ p) (h2 : p ≤ 90) (hab : a ≤ 100000) : Nr (Float64.div x c6) (p / 6) (a / 6 + 1) := by
  have hu := u_eq
  have hp := u_pos
  have := Rat.mul_le_mul_of_nonneg_right hab (Rat.le_of_lt u_pos)
  obtain ⟨f, x1, x2⟩ := hx
  have k := rv_div6 f (by grind) (by grind)
  exact ⟨k.1, by grind, by grind⟩
theorem Nr.ofInt {i : Int} (h1 : -16 ≤ i) (h2 : i ≤ 16) : Nr (Float64.ofInt i) i 1 := by
  have k := rv_ofInt h1 h2
  exact ⟨k.1, by grind, by grind⟩
theorem Nr.qI {a b : Int} (ha : 0 ≤ a) (hb : 0 < b) (hab : a ≤ 16 * b) : Nr (qI a b) ((a : Rat) / b) 1 := by
  have k := rv_qI ha hb hab
  exact ⟨k.1, by grind, by grind⟩
theorem Nr.of {x : UInt64} {q : Rat} (f : isFinite x = true) (h : rv x = q) : Nr x q 0 := ⟨f, by rw [h]; grind, by rw [h]; grind⟩
theorem Nr.c1 : Nr c1 1 0 := .of rv_c1.1 rv_c1.2
theorem Nr.c6 : Nr c6 6 0 := .of rv_c6.1 rv_c6.2
theorem rv_int {x : UInt64} {n : Nat} (h : val x = n * kN) : rv x = n := by
  unfold rv
  rw [h]
  push_cast
  rw [show (kN : Rat) = kk from rfl]
  exact Rat.mul_div_cancel kk_ne
theorem Nr.c2 : Nr 4611686018427387904 2 0 := by
  have d : decode 4611686018427387904 = .fin false 4503599627370496 (-51) := by with_unfolding_all rfl
  refine .of (fin_to d) (rv_int (n := 2) ?_)
  rw [val_eq d]
  unfold kN
  decide +kernel
theorem Nr.c4 : Nr 4616189618054758400 4 0 := by
  have d : decode 4616189618054758400 = .fin false 4503599627370496 (-50) := by with_unfolding_all rfl
  refine .of (fin_to d) (rv_int (n := 4) ?_)
  rw [val_eq d]
  unfold kN
  decide +kernel
theorem frac_bd {a b : Int} (ha : 0 ≤ a) (hab : a ≤ b) (hb : 0 < b) : (0 : Rat) ≤ (a : Rat) / b ∧ (a : Rat) / b ≤ 1 := by
  have hb' : (0 : Rat) < b := Rat.intCast_pos.mpr hb
  have hne : (b : Rat) ≠ 0 := fun h => by rw [h] at hb'; exact Rat.lt_irrefl hb'
  have e := Rat.div_mul_cancel (a := (a : Rat)) hne
  constructor
  · apply Rat.le_of_mul_le_mul_right (c := (b : Rat)) _ hb'
    rw [e]
    have := Rat.intCast_nonneg.mpr ha
    grind
  · apply Rat.le_of_mul_le_mul_right (c := (b : Rat)) _ hb'
    rw [e]
    have := Rat.intCast_le_intCast.mpr hab
    grind
theorem div_mul' {a b : Int} (hb : 0 < b) : (a : Rat) / b * b = a := by
  have hb' : (0 : Rat) < b := Rat.intCast_pos.mpr hb
  have hne : (b : Rat) ≠ 0 := fun h => by rw [h] at hb'; exact Rat.lt_irrefl hb'
  exact Rat.div_mul_cancel hne
noncomputable def n0 (r g b : Int) : Int :=
  if r = mx3 r g b then g - b else if g = mx3 r g b then 2 * (mx3 r g b - mn3 r g b) + (b - r) else 4 * (mx3 r g b - mn3 r g b) + (r - g)
theorem n0_bd (r g b : Int) : -(mx3 r g b - mn3 r g b) ≤ n0 r g b ∧ n0 r g b ≤ 5 * (mx3 r g b - mn3 r g b) := by
  have := mx_ge r g b
  unfold n0
  split
  · omega
  · split <;> omega
theorem h0_near {r g b : Int} (hne : mn3 r g b ≠ mx3 r g b) : Nr (h0F r g b) ((n0 r g b : Rat) / ((mx3 r g b - mn3 r g b : Int) : Rat)) 4 := by
  have hm := mx_ge r g b
  unfold h0F n0
  generalize hM : mx3 r g b = M at *
  generalize hN : mn3 r g b = N at *
  have hd : 0 < M - N := by omega
  simp only
  generalize hR : M - N = R at *
  have hR' : (0 : Rat) < R := Rat.intCast_pos.mpr hd
  have key : ∀ a, 0 ≤ a → a ≤ R → Nr (qI a R) ((a : Rat) / R) 1 ∧ (0 : Rat) ≤ (a : Rat) / R ∧ (a : Rat) / R ≤ 1 := fun a h1 h2 => ⟨Nr.qI h1 hd (by omega), frac_bd h1 h2 hd⟩
  have hrr : (R : Rat) / R = 1 := by rw [Rat.div_def]; exact Rat.mul_inv_cancel _ (fun h => by rw [h] at hR'; exact Rat.lt_irrefl hR')
  obtain ⟨r1, r2, r3⟩ := key (M - r) (by omega) (by omega)
  obtain ⟨g1, g2, g3⟩ := key (M - g) (by omega) (by omega)
  obtain ⟨b1, b2, b3⟩ := key (M - b) (by omega) (by omega)
  split
  · refine ((b1.sub g1 (by grind) (by grind) (by grind)).mono (by grind)).to ?_
    push_cast
    simp only [Rat.div_def]
    grind
  · split
    · refine (((Nr.c2.add r1 (by grind) (by grind) (by grind)).sub b1 (by grind) (by grind) (by grind)).mono (by grind)).to ?_
      push_cast
      simp only [Rat.div_def] at *
      grind
    · refine (((Nr.c4.add g1 (by grind) (by grind) (by grind)).sub r1 (by grind) (by grind) (by grind)).mono (by grind)).to ?_
      push_cast
      simp only [Rat.div_def] at *
      grind
end Mine
namespace Mine
set_option maxRecDepth 100000
set_option maxHeartbeats 8000000
set_option exponentiation.threshold 3000
open PySem PySem.Float64
/-- an int near another over a small divisor is that other -/
theorem int_le {a b R : Int} {p q e : Rat} (hR : 0 < R) (hR15 : R ≤ 15) (ha : p * R = (a : Rat)) (hb : q * R = (b : Rat)) (h : p ≤ q + e * u) (he : e ≤ 1000) : a ≤ b := by
  apply Int.not_lt.mp
  intro c
  have c1 : (b : Rat) + 1 ≤ a := by
    have := Rat.intCast_le_intCast.mpr (show b + 1 ≤ a by omega)
    push_cast at this
    exact this
  have hp : (0 : Rat) ≤ R := Rat.le_of_lt (Rat.intCast_pos.mpr hR)
  have h15 : (R : Rat) ≤ 15 := by
    have := Rat.intCast_le_intCast.mpr hR15
    push_cast at this
    exact this
  have k := Rat.mul_le_mul_of_nonneg_right h hp
  have k2 := Rat.mul_le_mul_of_nonneg_right he (Rat.le_of_lt u_pos)
  have k3 := Rat.mul_le_mul_of_nonneg_right k2 hp
  have k4 := Rat.mul_le_mul_of_nonneg_left h15 (Rat.le_of_lt u_pos)
  have hu := u_eq
  grind
theorem hF_near {r g b : Int} (h15 : mx3 r g b - mn3 r g b ≤ 15) (hne : mn3 r g b ≠ mx3 r g b) : ∃ H : Int, (H = n0 r g b ∨ H = n0 r g b + 6 * (mx3 r g b - mn3 r g b)) ∧ 0 ≤ H ∧ H ≤ 6 * (mx3 r g b - mn3 r g b) ∧ Nr (hF r g b) ((H : Rat) / ((mx3 r g b - mn3 r g b : Int) : Rat) / 6) 4 := by
  have hm := mx_ge r g b
  have hb := n0_bd r g b
  have h0 := h0_near hne
  unfold hF
  rw [if_neg hne]
  generalize n0 r g b = n at *
  generalize h0F r g b = x at *
  have hd : 0 < mx3 r g b - mn3 r g b := by omega
  generalize mx3 r g b - mn3 r g b = R at *
  have hR' : (0 : Rat) < R := Rat.intCast_pos.mpr hd
  have hrr : (R : Rat) / R = 1 := by rw [Rat.div_def]; exact Rat.mul_inv_cancel _ (fun h => by rw [h] at hR'; exact Rat.lt_irrefl hR')
  have e1 := div_mul' (a := n) hd
  have l1 : (-1 : Rat) ≤ (n : Rat) / R := by
    apply Rat.le_of_mul_le_mul_right (c := (R : Rat)) _ hR'
    rw [e1]
    have := Rat.intCast_le_intCast.mpr hb.1
    push_cast at this
    grind
  have l2 : (n : Rat) / R ≤ 5 := by
    apply Rat.le_of_mul_le_mul_right (c := (R : Rat)) _ hR'
    rw [e1]
    have := Rat.intCast_le_intCast.mpr hb.2
    push_cast at this
    grind
  have hx := h0.div6 (by grind) (by grind) (by grind)
  have hu := u_eq
  have hp := u_pos
  have e0 : (0 : Rat) * R = ((0 : Int) : Rat) := by push_cast; grind
  obtain ⟨fx, x1, x2⟩ := hx
  obtain ⟨f, h | h⟩ := mod_at fx (by grind) (by grind)
  · have n1 : 0 ≤ n := int_le (p := 0) (q := (n : Rat) / R) (e := 20) hd h15 e0 e1 (by grind) (by grind)
    refine ⟨n, .inl rfl, n1, by omega, f, ?_, ?_⟩ <;> grind
  · have n1 : n ≤ 0 := int_le (p := (n : Rat) / R) (q := 0) (e := 20) hd h15 e1 e0 (by grind) (by grind)
    refine ⟨n + 6 * R, .inr rfl, by omega, by omega, f, ?_, ?_⟩
    · have : ((n + 6 * R : Int) : Rat) / R = n / R + 6 := by push_cast; simp only [Rat.div_def] at *; grind
      rw [this]
      grind
    · have : ((n + 6 * R : Int) : Rat) / R = n / R + 6 := by push_cast; simp only [Rat.div_def] at *; grind
      rw [this]
      grind
theorem x6_near {h : UInt64} {H R k : Int} {mir : Bool} (hR : 0 < R) (hH0 : 0 ≤ H) (hH6 : H ≤ 6 * R) (hk0 : 0 ≤ k) (hk5 : k ≤ 5) (hn : Nr h ((H : Rat) / R / 6) 4) :
    Nr (mul (hueF h mir k) c6) (((k * R + (if mir then 6 * R - H else H) : Int) : Rat) / R) 60 := by
  have hR' : (0 : Rat) < R := Rat.intCast_pos.mpr hR
  have hrr : (R : Rat) / R = 1 := by rw [Rat.div_def]; exact Rat.mul_inv_cancel _ (fun h => by rw [h] at hR'; exact Rat.lt_irrefl hR')
  have e1 := div_mul' (a := H) hR
  have l1 : (0 : Rat) ≤ (H : Rat) / R := by
    apply Rat.le_of_mul_le_mul_right (c := (R : Rat)) _ hR'
    rw [e1]
    have := Rat.intCast_le_intCast.mpr hH0
    push_cast at this
    grind
  have l2 : (H : Rat) / R ≤ 6 := by
    apply Rat.le_of_mul_le_mul_right (c := (R : Rat)) _ hR'
    rw [e1]
    have := Rat.intCast_le_intCast.mpr hH6
    push_cast at this
    grind
  have k1 : (0 : Rat) ≤ k := Rat.intCast_nonneg.mpr hk0
  have k2 : (k : Rat) ≤ 5 := by
    have := Rat.intCast_le_intCast.mpr hk5
    push_cast at this
    exact this
  have hk := (Nr.ofInt (i := k) (by omega) (by omega)).div6 (by grind) (by grind) (by grind)
  unfold hueF
  cases mir with
  | false =>
    simp only [Bool.false_eq_true, if_false]
    have a := hk.add hn (by grind) (by grind) (by grind)
    refine ((a.mul Nr.c6 (A := 15) (B := 6) (by grind) (by grind) (by grind) (by grind) (by grind) (by grind) (by grind) (by grind) (by grind) (by grind)).mono (by grind)).to ?_
    have : ((k * R + H : Int) : Rat) / R = k + H / R := by push_cast; simp only [Rat.div_def] at *; grind
    rw [this]
    grind
  | true =>
    simp only [if_true]
    have a := hk.add (Nr.c1.sub hn (by grind) (by grind) (by grind)) (by grind) (by grind) (by grind)
    refine ((a.mul Nr.c6 (A := 15) (B := 6) (by grind) (by grind) (by grind) (by grind) (by grind) (by grind) (by grind) (by grind) (by grind) (by grind)).mono (by grind)).to ?_
    have : ((k * R + (6 * R - H) : Int) : Rat) / R = k + 6 - H / R := by push_cast; simp only [Rat.div_def] at *; grind
    rw [this]
    grind
theorem near_int {x : UInt64} {n : Int} {e : Rat} (h : Nr x n e) (hn : 0 ≤ n) (he : e ≤ 100000) : isFinite x = true ∧ rn x = n := by
  have hu := u_eq
  have k2 := Rat.mul_le_mul_of_nonneg_right he (Rat.le_of_lt u_pos)
  obtain ⟨f, h1, h2⟩ := h
  refine ⟨f, ?_⟩
  obtain ⟨N, rfl⟩ := Int.eq_ofNat_of_zero_le hn
  rw [Rat.intCast_natCast] at h1 h2
  exact near_at f (by grind) (by grind)
end Mine
namespace Mine
set_option maxRecDepth 100000
set_option maxHeartbeats 8000000
set_option exponentiation.threshold 3000
open PySem PySem.Float64
theorem f_near {hu : UInt64} {N R : Int} (hR : 0 < R) (hR15 : R ≤ 15) (hN0 : 0 ≤ N) (hN : N ≤ 11 * R) (hx : Nr (mul hu c6) ((N : Rat) / R) 60) :
    0 ≤ iF hu ∧ iF hu ≤ 11 ∧ 0 ≤ N - iF hu * R ∧ N - iF hu * R ≤ R ∧ Nr (fF hu) (((N - iF hu * R : Int) : Rat) / R) 62 := by
  have hR' : (0 : Rat) < R := Rat.intCast_pos.mpr hR
  have hrr : (R : Rat) / R = 1 := by rw [Rat.div_def]; exact Rat.mul_inv_cancel _ (fun h => by rw [h] at hR'; exact Rat.lt_irrefl hR')
  have e1 := div_mul' (a := N) hR
  have l1 : (0 : Rat) ≤ (N : Rat) / R := by
    apply Rat.le_of_mul_le_mul_right (c := (R : Rat)) _ hR'
    rw [e1]
    have := Rat.intCast_le_intCast.mpr hN0
    push_cast at this
    grind
  have l2 : (N : Rat) / R ≤ 11 := by
    apply Rat.le_of_mul_le_mul_right (c := (R : Rat)) _ hR'
    rw [e1]
    have := Rat.intCast_le_intCast.mpr hN
    push_cast at this
    grind
  have hu' := u_eq
  have hp := u_pos
  obtain ⟨fx, x1, x2⟩ := hx
  have ht := trunc_at fx (by grind)
  unfold fF
  change 0 ≤ iF hu ∧ (((iF hu : Int) : Rat) ≤ rv (mul hu c6) ∧ rv (mul hu c6) < ((iF hu : Int) : Rat) + 1 ∨ rv (mul hu c6) ≤ 0 ∧ iF hu = 0) at ht
  generalize iF hu = i at *
  have ei : (i : Rat) * R = ((i * R : Int) : Rat) := by push_cast; rfl
  have ei1 : ((i : Rat) + 1) * R = ((i * R + R : Int) : Rat) := by push_cast; grind
  have a1 : i * R ≤ N := by
    rcases ht.2 with h | h
    · exact int_le (e := 60) hR hR15 ei e1 (by grind) (by grind)
    · rw [h.2]; omega
  have a2 : N ≤ i * R + R := by
    rcases ht.2 with h | h
    · exact int_le (e := 60) hR hR15 e1 ei1 (by grind) (by grind)
    · rw [h.2]
      have e0 : (0 : Rat) * R = ((0 : Int) : Rat) := by push_cast; grind
      have := int_le (e := 60) hR hR15 e1 e0 (by grind) (by grind)
      omega
  have a3 : i ≤ 11 := by
    apply Int.not_lt.mp
    intro c
    have := Int.mul_le_mul_of_nonneg_right (show (12 : Int) ≤ i by omega) (Int.le_of_lt hR)
    omega
  refine ⟨ht.1, a3, by omega, by omega, ?_⟩
  have b1 : (0 : Rat) ≤ i := Rat.intCast_nonneg.mpr ht.1
  have b2 : (i : Rat) ≤ 11 := by
    have := Rat.intCast_le_intCast.mpr a3
    push_cast at this
    exact this
  have hs := (Nr.sub (x := mul hu c6) ⟨fx, x1, x2⟩ (Nr.ofInt (i := i) (by omega) (by omega)) (by grind) (by grind) (by grind)).mono (e' := 62) (by grind)
  refine hs.to ?_
  push_cast
  simp only [Rat.div_def] at *
  grind
theorem pqt_near {s f : UInt64} {mx mn M : Int} (h0 : 0 ≤ mn) (h1 : mn < mx) (h15 : mx ≤ 15) (hM0 : 0 ≤ M) (hM : M ≤ mx - mn) (hs : Nr s (((mx - mn : Int) : Rat) / mx) 1) (hf : Nr f ((M : Rat) / ((mx - mn : Int) : Rat)) 62) :
    (isFinite (pF s mx) = true ∧ rn (pF s mx) = mn) ∧ (isFinite (qF s f mx) = true ∧ rn (qF s f mx) = mx - M) ∧ (isFinite (tF s f mx) = true ∧ rn (tF s f mx) = mn + M) := by
  have s1 := frac_bd (a := mx - mn) (b := mx) (by omega) (by omega) (by omega)
  have f1 := frac_bd (a := M) (b := mx - mn) hM0 hM (by omega)
  have es := div_mul' (a := mx - mn) (b := mx) (by omega)
  have ef := div_mul' (a := M) (b := mx - mn) (by omega)
  have v1 : (0 : Rat) ≤ mx := Rat.intCast_nonneg.mpr (by omega)
  have v2 : (mx : Rat) ≤ 15 := by
    have := Rat.intCast_le_intCast.mpr h15
    push_cast at this
    exact this
  have hv := Nr.ofInt (i := mx) (by omega) (by omega)
  generalize ((mx - mn : Int) : Rat) / mx = S at *
  generalize (M : Rat) / ((mx - mn : Int) : Rat) = F at *
  have prod : ∀ {x : UInt64} {q e : Rat}, Nr x q e → 0 ≤ e → e ≤ 100 → 0 ≤ q → q ≤ 1 → Nr (mul (ofInt mx) x) (mx * q) 2000 := by
    intro x q e hx he he' hq0 hq1
    have t1 : 0 ≤ (mx : Rat) * q := Rat.mul_nonneg v1 hq0
    have t2 := Rat.mul_le_mul_of_nonneg_left hq1 v1
    exact (hv.mul hx (A := 15) (B := 1) (by grind) (by grind) (by grind) (by grind) (by grind) (by grind) (by grind) (by grind) (by grind) (by grind)).mono (by grind)
  have hSF : ∀ {x : UInt64} {q e : Rat}, Nr x q e → 0 ≤ e → e ≤ 70 → 0 ≤ q → q ≤ 1 → Nr (Float64.sub c1 (mul s x)) (1 - S * q) 80 ∧ 0 ≤ S * q ∧ S * q ≤ 1 := by
    intro x q e hx he he' hq0 hq1
    have t1 : 0 ≤ S * q := Rat.mul_nonneg s1.1 hq0
    have t2 := Rat.mul_le_mul_of_nonneg_left hq1 s1.1
    have k := (hs.mul hx (A := 1) (B := 1) (by grind) (by grind) (by grind) (by grind) (by grind) (by grind) (by grind) (by grind) (by grind) (by grind)).mono (e' := 75) (by grind)
    exact ⟨(Nr.c1.sub k (by grind) (by grind) (by grind)).mono (by grind), t1, by grind⟩
  refine ⟨?_, ?_, ?_⟩
  · refine near_int (e := 2000) ?_ h0 (by grind)
    have k := prod (Nr.c1.sub hs (by grind) (by grind) (by grind)) (by grind) (by grind) (by grind) (by grind)
    refine k.to ?_
    push_cast at es
    grind
  · refine near_int (e := 2000) ?_ (by omega) (by grind)
    have k0 := hSF hf (by grind) (by grind) f1.1 f1.2
    have k := prod k0.1 (by grind) (by grind) (by grind) (by grind)
    refine k.to ?_
    push_cast at es ef ⊢
    grind
  · refine near_int (e := 2000) ?_ (by omega) (by grind)
    have k0 := hSF (Nr.c1.sub hf (by grind) (by grind) (by grind)) (by grind) (by grind) (by grind) (by grind)
    have k := prod k0.1 (by grind) (by grind) (by grind) (by grind)
    refine k.to ?_
    push_cast at es ef ⊢
    grind
theorem all_near {r g b k : Int} {mir : Bool} (hr : 0 ≤ r ∧ r ≤ 15) (hg : 0 ≤ g ∧ g ≤ 15) (hb : 0 ≤ b ∧ b ≤ 15) (hk : 0 ≤ k ∧ k < 6) (hne : mn3 r g b ≠ mx3 r g b) :
    ∃ i M H : Int, iF (hueF (hF r g b) mir k) = i ∧ (0 ≤ i ∧ i ≤ 11) ∧ (0 ≤ M ∧ M ≤ mx3 r g b - mn3 r g b) ∧ (H = n0 r g b ∨ H = n0 r g b + 6 * (mx3 r g b - mn3 r g b)) ∧ (0 ≤ H ∧ H ≤ 6 * (mx3 r g b - mn3 r g b)) ∧
      i * (mx3 r g b - mn3 r g b) + M = k * (mx3 r g b - mn3 r g b) + (if mir then 6 * (mx3 r g b - mn3 r g b) - H else H) ∧
      isFinite (mul (hueF (hF r g b) mir k) c6) = true ∧ grey (sF r g b) = false ∧
      (isFinite (pF (sF r g b) (mx3 r g b)) = true ∧ rn (pF (sF r g b) (mx3 r g b)) = mn3 r g b) ∧
      (isFinite (qF (sF r g b) (fF (hueF (hF r g b) mir k)) (mx3 r g b)) = true ∧ rn (qF (sF r g b) (fF (hueF (hF r g b) mir k)) (mx3 r g b)) = mx3 r g b - M) ∧
      (isFinite (tF (sF r g b) (fF (hueF (hF r g b) mir k)) (mx3 r g b)) = true ∧ rn (tF (sF r g b) (fF (hueF (hF r g b) mir k)) (mx3 r g b)) = mn3 r g b + M) := by
  have hm := mx_ge r g b
  have b0 : 0 ≤ mn3 r g b := by omega
  have b1 : mn3 r g b < mx3 r g b := by omega
  have b15 : mx3 r g b ≤ 15 := by omega
  obtain ⟨H, hH, hH0, hH6, hh⟩ := hF_near (r := r) (g := g) (b := b) (by omega) hne
  have hx := x6_near (mir := mir) (k := k) (R := mx3 r g b - mn3 r g b) (by omega) hH0 hH6 hk.1 (by omega) hh
  have hes : sF r g b = qI (mx3 r g b - mn3 r g b) (mx3 r g b) := by unfold sF; rw [if_neg hne]
  have hs : Nr (sF r g b) (((mx3 r g b - mn3 r g b : Int) : Rat) / (mx3 r g b : Int)) 1 := by rw [hes]; exact Nr.qI (by omega) (by omega) (by omega)
  have hkR : 0 ≤ k * (mx3 r g b - mn3 r g b) ∧ k * (mx3 r g b - mn3 r g b) ≤ 5 * (mx3 r g b - mn3 r g b) := ⟨Int.mul_nonneg hk.1 (by omega), Int.mul_le_mul_of_nonneg_right (by omega) (by omega)⟩
  have hf := f_near (hu := hueF (hF r g b) mir k) (R := mx3 r g b - mn3 r g b) (by omega) (by omega) (by split <;> omega) (by split <;> omega) hx
  obtain ⟨i0, i11, M0, MR, hf⟩ := hf
  have hp := pqt_near b0 b1 b15 M0 MR hs hf
  have hgr : grey (sF r g b) = false := by
    refine grey_no hs.1 ?_
    have es := div_mul' (a := mx3 r g b - mn3 r g b) (b := mx3 r g b) (by omega)
    have v2 : ((mx3 r g b : Int) : Rat) ≤ 15 := by
      have := Rat.intCast_le_intCast.mpr b15
      push_cast at this
      exact this
    have v1 : (1 : Rat) ≤ ((mx3 r g b - mn3 r g b : Int) : Rat) := by
      have := Rat.intCast_le_intCast.mpr (show (1 : Int) ≤ mx3 r g b - mn3 r g b by omega)
      push_cast at this ⊢
      exact this
    have s1 := frac_bd (a := mx3 r g b - mn3 r g b) (b := mx3 r g b) (by omega) (by omega) (by omega)
    have hs2 := hs.2.1
    have hu := u_eq
    generalize ((mx3 r g b - mn3 r g b : Int) : Rat) / (mx3 r g b : Int) = S at *
    have := Rat.mul_le_mul_of_nonneg_left v2 s1.1
    grind
  exact ⟨_, _, H, rfl, ⟨i0, i11⟩, ⟨M0, MR⟩, hH, ⟨hH0, hH6⟩, by omega, hx.1, hgr, hp.1, hp.2.1, hp.2.2⟩
end Mine
namespace Mine
set_option maxRecDepth 100000
set_option maxHeartbeats 8000000
open PySem PySem.Float64
/-- the three of the wheel's sector i -/
noncomputable def outD (i mx mn M : Int) : Int × Int × Int :=
  if i = 0 then (mx, mn + M, mn) else if i = 1 then (mx - M, mx, mn) else if i = 2 then (mn, mx, mn + M) else if i = 3 then (mn, mx - M, mx) else if i = 4 then (mn + M, mn, mx) else (mx, mn, mx - M)
theorem of6 {P : Int → Prop} (h0 : P 0) (h1 : P 1) (h2 : P 2) (h3 : P 3) (h4 : P 4) (h5 : P 5) {d : Int} (hd : 0 ≤ d ∧ d < 6) : P d := by
  obtain ⟨n, rfl⟩ := Int.eq_ofNat_of_zero_le hd.1
  have hn : n < 6 := Int.ofNat_lt.mp hd.2
  match n, hn with
  | 0, _ => exact h0
  | 1, _ => exact h1
  | 2, _ => exact h2
  | 3, _ => exact h3
  | 4, _ => exact h4
  | 5, _ => exact h5
theorem mod6b (j : Int) : 0 ≤ j % 6 ∧ j % 6 < 6 := ⟨Int.emod_nonneg _ (by decide), Int.emod_lt_of_pos _ (by decide)⟩
/-- one sector's end is the next one's start -/
theorem cont {X N : Int} (j : Int) : outD ((j + 1) % 6) X N 0 = outD (j % 6) X N (X - N) := by
  have a : X - 0 = X := Int.sub_zero X
  have b : N + 0 = N := Int.add_zero N
  have c : N + (X - N) = X := by omega
  have d : X - (X - N) = N := by omega
  rw [Int.add_emod]
  refine of6 (P := fun i => outD ((i + 1 % 6) % 6) X N 0 = outD i X N (X - N)) ?_ ?_ ?_ ?_ ?_ ?_ (mod6b j)
  · show (X - 0, X, N) = (X, N + (X - N), N); rw [a, c]
  · show (N, X, N + 0) = (X - (X - N), X, N); rw [b, d]
  · show (N, X - 0, X) = (N, X, N + (X - N)); rw [a, c]
  · show (N + 0, N, X) = (N, X - (X - N), X); rw [b, d]
  · show (X, N, X - 0) = (N + (X - N), N, X); rw [a, c]
  · show (X, N + 0, N) = (X, N, X - (X - N)); rw [b, d]
/-- the sector of a hue, and how far into it -/
theorem base {r g b H : Int} (hne : mn3 r g b ≠ mx3 r g b) (hH : H = n0 r g b ∨ H = n0 r g b + 6 * (mx3 r g b - mn3 r g b)) (h0 : 0 ≤ H ∧ H ≤ 6 * (mx3 r g b - mn3 r g b)) :
    ∃ j y : Int, (0 ≤ y ∧ y ≤ mx3 r g b - mn3 r g b) ∧ H = j * (mx3 r g b - mn3 r g b) + y ∧ outD (j % 6) (mx3 r g b) (mn3 r g b) y = (r, g, b) := by
  obtain ⟨m1, m2, m3, m4, m5, m6, hX, hN⟩ := mx_ge r g b
  unfold n0 at hH
  generalize mx3 r g b = X at *
  generalize mn3 r g b = N at *
  have hlt : N < X := by clear hX hN hH h0; omega
  clear hne
  by_cases c1 : r = X
  · rw [if_pos c1] at hH
    clear hX
    subst c1
    by_cases c : b = N
    · subst c
      clear hN
      rcases hH with hH | hH
      · exact ⟨0, g - b, ⟨by omega, by omega⟩, by omega, by show (r, b + (g - b), b) = _; rw [show b + (g - b) = g by omega]⟩
      · exact ⟨6, g - b, ⟨by omega, by omega⟩, by omega, by show (r, b + (g - b), b) = _; rw [show b + (g - b) = g by omega]⟩
    · have c' : g = N := by omega
      clear hN
      subst c'
      rcases hH with hH | hH
      · exfalso; omega
      · exact ⟨5, r - b, ⟨by omega, by omega⟩, by omega, by show (r, g, r - (r - b)) = _; rw [show r - (r - b) = b by omega]⟩
  · rw [if_neg c1] at hH
    by_cases c2 : g = X
    · rw [if_pos c2] at hH
      clear hX
      subst c2
      by_cases c : r = N
      · subst c
        clear hN
        rcases hH with hH | hH
        · exact ⟨2, b - r, ⟨by omega, by omega⟩, by omega, by show (r, g, r + (b - r)) = _; rw [show r + (b - r) = b by omega]⟩
        · exfalso; omega
      · have c' : b = N := by omega
        clear hN
        subst c'
        rcases hH with hH | hH
        · exact ⟨1, g - r, ⟨by omega, by omega⟩, by omega, by show (g - (g - r), g, b) = _; rw [show g - (g - r) = r by omega]⟩
        · exfalso; omega
    · rw [if_neg c2] at hH
      have c3 : b = X := by clear hN hH; omega
      clear hX
      subst c3
      by_cases c : g = N
      · subst c
        clear hN
        rcases hH with hH | hH
        · exact ⟨4, r - g, ⟨by omega, by omega⟩, by omega, by show (g + (r - g), g, b) = _; rw [show g + (r - g) = r by omega]⟩
        · exfalso; omega
      · have c' : r = N := by omega
        clear hN
        subst c'
        rcases hH with hH | hH
        · exact ⟨3, b - g, ⟨by omega, by omega⟩, by omega, by show (r, b - (b - g), b) = _; rw [show b - (b - g) = g by omega]⟩
        · exfalso; omega
theorem secA {r g b d M H : Int} (hne : mn3 r g b ≠ mx3 r g b) (hH : H = n0 r g b ∨ H = n0 r g b + 6 * (mx3 r g b - mn3 r g b)) (h0 : 0 ≤ H ∧ H ≤ 6 * (mx3 r g b - mn3 r g b)) (hM : 0 ≤ M ∧ M ≤ mx3 r g b - mn3 r g b)
    (hd : d * (mx3 r g b - mn3 r g b) + M = H) : outD (d % 6) (mx3 r g b) (mn3 r g b) M = (r, g, b) := by
  obtain ⟨j, y, hy, e, ho⟩ := base hne hH h0
  rw [← ho]
  clear ho hH h0
  generalize mx3 r g b = X at *
  generalize mn3 r g b = N at *
  have hR : 0 < X - N := by omega
  clear hne
  have k : (d - j) * (X - N) = y - M := by rw [Int.sub_mul]; omega
  clear hd e
  by_cases c1 : d = j
  · subst c1
    rw [Int.sub_self, Int.zero_mul] at k
    rw [show M = y by omega]
  · by_cases c2 : d = j + 1
    · subst c2
      rw [show j + 1 - j = 1 by omega, Int.one_mul] at k
      rw [show M = 0 by omega, show y = X - N by omega]
      exact cont j
    · by_cases c3 : j = d + 1
      · subst c3
        rw [show d - (d + 1) = -1 by omega, Int.neg_mul, Int.one_mul] at k
        rw [show y = 0 by omega, show M = X - N by omega]
        exact (cont d).symm
      · exfalso
        by_cases c4 : j < d
        · have := Int.mul_le_mul_of_nonneg_right (show 2 ≤ d - j by omega) (Int.le_of_lt hR)
          omega
        · have := Int.mul_le_mul_of_nonneg_right (show d - j ≤ -2 by omega) (Int.le_of_lt hR)
          omega
theorem mx_swap (r g b : Int) : mx3 r b g = mx3 r g b ∧ mn3 r b g = mn3 r g b := by
  obtain ⟨a1, a2, a3, a4, a5, a6, _, _⟩ := mx_ge r g b
  obtain ⟨b1, b2, b3, b4, b5, b6, _, _⟩ := mx_ge r b g
  exact ⟨Int.le_antisymm (mx_le a1 a3 a2) (mx_le b1 b3 b2), Int.le_antisymm (le_mn b4 b6 b5) (le_mn a4 a6 a5)⟩
theorem n0_swap {r g b : Int} (hne : mn3 r g b ≠ mx3 r g b) : n0 r b g = - n0 r g b ∨ n0 r b g = 6 * (mx3 r g b - mn3 r g b) - n0 r g b := by
  obtain ⟨m1, m2, m3, m4, m5, m6, hX, hN⟩ := mx_ge r g b
  unfold n0
  rw [(mx_swap r g b).1, (mx_swap r g b).2]
  generalize mx3 r g b = X at *
  generalize mn3 r g b = N at *
  by_cases c1 : r = X
  · rw [if_pos c1, if_pos c1]
    exact .inl (Int.neg_sub g b).symm
  · rw [if_neg c1, if_neg c1]
    refine .inr ?_
    by_cases c2 : g = X
    · by_cases c3 : b = X
      · rw [if_pos c2, if_pos c3]
        clear hX
        subst c2 c3
        have e : r = N := by omega
        clear hN
        omega
      · rw [if_pos c2, if_neg c3]
        clear hX hN
        omega
    · have c3 : b = X := by clear hN; omega
      rw [if_neg c2, if_pos c3]
      clear hX hN
      omega
theorem secB {r g b d M H : Int} {mir : Bool} (hne : mn3 r g b ≠ mx3 r g b) (hH : H = n0 r g b ∨ H = n0 r g b + 6 * (mx3 r g b - mn3 r g b)) (h0 : 0 ≤ H ∧ H ≤ 6 * (mx3 r g b - mn3 r g b)) (hM : 0 ≤ M ∧ M ≤ mx3 r g b - mn3 r g b)
    (hd : d * (mx3 r g b - mn3 r g b) + M = if mir then 6 * (mx3 r g b - mn3 r g b) - H else H) : outD (d % 6) (mx3 r g b) (mn3 r g b) M = (r, if mir = true then b else g, if mir = true then g else b) := by
  cases mir with
  | false =>
    simp only [Bool.false_eq_true, if_false] at hd ⊢
    exact secA hne hH h0 hM hd
  | true =>
    simp only [if_true] at hd ⊢
    have e := mx_swap r g b
    have k := secA (r := r) (g := b) (b := g) (d := d) (M := M) (H := 6 * (mx3 r g b - mn3 r g b) - H) (by rw [e.1, e.2]; exact hne) (by rw [e.1, e.2]; have := n0_swap hne; have hb := n0_bd r g b; have hb' := n0_bd r b g; rw [e.1, e.2] at hb'; omega) (by rw [e.1, e.2]; omega) (by rw [e.1, e.2]; exact hM) (by rw [e.1, e.2]; exact hd)
    rw [e.1, e.2] at k
    exact k
noncomputable def movD (p q r o k : Int) : Int × Int × Int :=
  let a := if k % 2 = 1 then o - p else p
  let b := if k % 2 = 1 then o - q else q
  let c := if k % 2 = 1 then o - r else r
  (pick3 a b c ((0 + k) % 3), pick3 a b c ((1 + k) % 3), pick3 a b c ((2 + k) % 3))
noncomputable def movE (a b c k : Int) : Int × Int × Int := (pick3 a b c ((0 + k) % 3), pick3 a b c ((1 + k) % 3), pick3 a b c ((2 + k) % 3))
theorem movD_e {p q r o k : Int} (h : k % 2 = 0) : movD p q r o k = movE p q r k := by
  have n : ¬ k % 2 = 1 := by omega
  show movE (if k % 2 = 1 then o - p else p) (if k % 2 = 1 then o - q else q) (if k % 2 = 1 then o - r else r) k = _
  rw [if_neg n, if_neg n, if_neg n]
theorem movD_o {p q r o k : Int} (h : k % 2 = 1) : movD p q r o k = movE (o - p) (o - q) (o - r) k := by
  show movE (if k % 2 = 1 then o - p else p) (if k % 2 = 1 then o - q else q) (if k % 2 = 1 then o - r else r) k = _
  rw [if_pos h, if_pos h, if_pos h]
/-- the three of a sector, each taken from greatest and least together: the sector across -/
theorem flip {mx mn M d : Int} (hi : 0 ≤ d ∧ d < 6) : (mx + mn - (outD d mx mn M).1, mx + mn - (outD d mx mn M).2.1, mx + mn - (outD d mx mn M).2.2) = outD ((d + 3) % 6) mx mn M := by
  have e1 : mx + mn - mx = mn := by omega
  have e2 : mx + mn - mn = mx := by omega
  have e3 : mx + mn - (mn + M) = mx - M := by omega
  have e4 : mx + mn - (mx - M) = mn + M := by omega
  refine of6 (P := fun d => (mx + mn - (outD d mx mn M).1, mx + mn - (outD d mx mn M).2.1, mx + mn - (outD d mx mn M).2.2) = outD ((d + 3) % 6) mx mn M) ?_ ?_ ?_ ?_ ?_ ?_ hi
  · show (mx + mn - mx, mx + mn - (mn + M), mx + mn - mn) = (mn, mx - M, mx); rw [e1, e2, e3]
  · show (mx + mn - (mx - M), mx + mn - mx, mx + mn - mn) = (mn + M, mn, mx); rw [e1, e2, e4]
  · show (mx + mn - mn, mx + mn - mx, mx + mn - (mn + M)) = (mx, mn, mx - M); rw [e1, e2, e3]
  · show (mx + mn - mn, mx + mn - (mx - M), mx + mn - mx) = (mx, mn + M, mn); rw [e1, e2, e4]
  · show (mx + mn - (mn + M), mx + mn - mn, mx + mn - mx) = (mx - M, mx, mn); rw [e1, e2, e3]
  · show (mx + mn - mx, mx + mn - mn, mx + mn - (mx - M)) = (mn, mx, mn + M); rw [e1, e2, e4]
/-- two sectors on: what each gets is what the one two places further on had -/
theorem turn2 {mx mn M d k : Int} (hi : 0 ≤ d ∧ d < 6) (hk : k = 0 ∨ k = 2 ∨ k = 4) : outD ((d + k) % 6) mx mn M = movE (outD d mx mn M).1 (outD d mx mn M).2.1 (outD d mx mn M).2.2 k := by
  rcases hk with rfl | rfl | rfl
  · exact of6 (P := fun d => outD ((d + 0) % 6) mx mn M = movE (outD d mx mn M).1 (outD d mx mn M).2.1 (outD d mx mn M).2.2 0) rfl rfl rfl rfl rfl rfl hi
  · exact of6 (P := fun d => outD ((d + 2) % 6) mx mn M = movE (outD d mx mn M).1 (outD d mx mn M).2.1 (outD d mx mn M).2.2 2) rfl rfl rfl rfl rfl rfl hi
  · exact of6 (P := fun d => outD ((d + 4) % 6) mx mn M = movE (outD d mx mn M).1 (outD d mx mn M).2.1 (outD d mx mn M).2.2 4) rfl rfl rfl rfl rfl rfl hi
theorem turn1 {mx mn M d k : Int} (hi : 0 ≤ d ∧ d < 6) (hk : k = 1 ∨ k = 3 ∨ k = 5) : outD ((d + k) % 6) mx mn M = movE (outD ((d + 3) % 6) mx mn M).1 (outD ((d + 3) % 6) mx mn M).2.1 (outD ((d + 3) % 6) mx mn M).2.2 k := by
  rcases hk with rfl | rfl | rfl
  · exact of6 (P := fun d => outD ((d + 1) % 6) mx mn M = movE (outD ((d + 3) % 6) mx mn M).1 (outD ((d + 3) % 6) mx mn M).2.1 (outD ((d + 3) % 6) mx mn M).2.2 1) rfl rfl rfl rfl rfl rfl hi
  · exact of6 (P := fun d => outD ((d + 3) % 6) mx mn M = movE (outD ((d + 3) % 6) mx mn M).1 (outD ((d + 3) % 6) mx mn M).2.1 (outD ((d + 3) % 6) mx mn M).2.2 3) rfl rfl rfl rfl rfl rfl hi
  · exact of6 (P := fun d => outD ((d + 5) % 6) mx mn M = movE (outD ((d + 3) % 6) mx mn M).1 (outD ((d + 3) % 6) mx mn M).2.1 (outD ((d + 3) % 6) mx mn M).2.2 5) rfl rfl rfl rfl rfl rfl hi
theorem secC {d k mx mn M : Int} (hk : 0 ≤ k ∧ k < 6) (hi : 0 ≤ d ∧ d < 6) : outD ((d + k) % 6) mx mn M = movD (outD d mx mn M).1 (outD d mx mn M).2.1 (outD d mx mn M).2.2 (mx + mn) k := by
  by_cases c : k % 2 = 1
  · rw [movD_o c, turn1 hi (by omega), ← flip hi]
  · rw [movD_e (by omega), turn2 hi (by omega)]
end Mine
namespace Mine
set_option maxRecDepth 100000
set_option maxHeartbeats 8000000
open PySem PySem.Float64
theorem movT_eq (p q r : Int) (mir : Bool) (k : Int) : movT [p, q, r] mir k = [(movD p (if mir = true then r else q) (if mir = true then q else r) (mx3 p q r + mn3 p q r) k).1, (movD p (if mir = true then r else q) (if mir = true then q else r) (mx3 p q r + mn3 p q r) k).2.1, (movD p (if mir = true then r else q) (if mir = true then q else r) (mx3 p q r + mn3 p q r) k).2.2] := rfl
theorem pick_bd {a b c k m n : Int} (ha : m ≤ a ∧ a ≤ n) (hb : m ≤ b ∧ b ≤ n) (hc : m ≤ c ∧ c ≤ n) : m ≤ pick3 a b c k ∧ pick3 a b c k ≤ n := by
  unfold pick3
  split
  · exact ha
  · split
    · exact hb
    · exact hc
theorem movD_bd {p q r m n k : Int} (hp : m ≤ p ∧ p ≤ n) (hq : m ≤ q ∧ q ≤ n) (hr : m ≤ r ∧ r ≤ n) : (m ≤ (movD p q r (n + m) k).1 ∧ (movD p q r (n + m) k).1 ≤ n) ∧ (m ≤ (movD p q r (n + m) k).2.1 ∧ (movD p q r (n + m) k).2.1 ≤ n) ∧ (m ≤ (movD p q r (n + m) k).2.2 ∧ (movD p q r (n + m) k).2.2 ≤ n) := by
  have one : ∀ x, (m ≤ x ∧ x ≤ n) → m ≤ (if k % 2 = 1 then n + m - x else x) ∧ (if k % 2 = 1 then n + m - x else x) ≤ n := by
    intro x hx
    split <;> omega
  exact ⟨pick_bd (one p hp) (one q hq) (one r hr), pick_bd (one p hp) (one q hq) (one r hr), pick_bd (one p hp) (one q hq) (one r hr)⟩
theorem oT_D {hu sa : UInt64} {va i mn M : Int} (hg : grey sa = false) (hi : iF hu = i) (h0 : 0 ≤ i) (hp : rn (pF sa va) = mn) (hq : rn (qF sa (fF hu) va) = va - M) (ht : rn (tF sa (fF hu) va) = mn + M) :
    oT hu sa va = [(outD (i % 6) va mn M).1, (outD (i % 6) va mn M).2.1, (outD (i % 6) va mn M).2.2] := by
  unfold oT
  rw [hg]
  simp only [Bool.false_eq_true, if_false]
  unfold outF
  simp only
  rw [hi, hp, hq, ht]
  exact of6 (P := fun i => (if i = 0 then [va, mn + M, mn] else if i = 1 then [va - M, va, mn] else if i = 2 then [mn, va, mn + M] else if i = 3 then [mn, va - M, va] else if i = 4 then [mn + M, mn, va] else [va, mn, va - M]) = [(outD i va mn M).1, (outD i va mn M).2.1, (outD i va mn M).2.2]) rfl rfl rfl rfl rfl rfl (mod6b i)
theorem ok_hue {p q r k : Int} {b : Bool} {hv sv : UInt64} {vv : Int} (bp : 0 ≤ p ∧ p ≤ 15) (bq : 0 ≤ q ∧ q ≤ 15) (br : 0 ≤ r ∧ r ≤ 15) (bk : 0 ≤ k ∧ k < 6) (eh : hv = hF p q r) (es : sv = sF p q r) (ev : vv = mx3 p q r) :
    (0 ≤ vv ∧ vv ≤ 15) ∧ okT (Float64.add (Float64.div (Float64.ofInt k) 4618441417868443648) (if b = true then Float64.sub 4607182418800017408 hv else hv)) sv vv = true ∧
    [o0T (Float64.add (Float64.div (Float64.ofInt k) 4618441417868443648) (if b = true then Float64.sub 4607182418800017408 hv else hv)) sv vv, o1T (Float64.add (Float64.div (Float64.ofInt k) 4618441417868443648) (if b = true then Float64.sub 4607182418800017408 hv else hv)) sv vv, o2T (Float64.add (Float64.div (Float64.ofInt k) 4618441417868443648) (if b = true then Float64.sub 4607182418800017408 hv else hv)) sv vv] = movT [p, q, r] b k ∧
    ∃ x y z : Int, movT [p, q, r] b k = [x, y, z] ∧ (0 ≤ x ∧ x ≤ 15) ∧ (0 ≤ y ∧ y ≤ 15) ∧ (0 ≤ z ∧ z ≤ 15) := by
  subst eh es ev
  have hm := mx_ge p q r
  change (0 ≤ mx3 p q r ∧ mx3 p q r ≤ 15) ∧ okT (hueF (hF p q r) b k) (sF p q r) (mx3 p q r) = true ∧ [o0T (hueF (hF p q r) b k) (sF p q r) (mx3 p q r), o1T (hueF (hF p q r) b k) (sF p q r) (mx3 p q r), o2T (hueF (hF p q r) b k) (sF p q r) (mx3 p q r)] = movT [p, q, r] b k ∧ _
  refine ⟨by omega, ?_⟩
  have hbd := movD_bd (p := p) (q := if b = true then r else q) (r := if b = true then q else r) (m := mn3 p q r) (n := mx3 p q r) (k := k) (by omega) (by split <;> omega) (by split <;> omega)
  have hex : ∃ x y z : Int, movT [p, q, r] b k = [x, y, z] ∧ (0 ≤ x ∧ x ≤ 15) ∧ (0 ≤ y ∧ y ≤ 15) ∧ (0 ≤ z ∧ z ≤ 15) := by
    rw [movT_eq]
    exact ⟨_, _, _, rfl, by omega, by omega, by omega⟩
  refine and_assoc.mp ⟨?_, hex⟩
  by_cases hne : mn3 p q r = mx3 p q r
  · have hs : sF p q r = 0 := by unfold sF; rw [if_pos hne]
    have hg : grey 0 = true := by decide +kernel
    rw [hs]
    refine ⟨by unfold okT; rw [hg]; rfl, ?_⟩
    have ho : oT (hueF (hF p q r) b k) 0 (mx3 p q r) = [mx3 p q r, mx3 p q r, mx3 p q r] := by unfold oT; rw [hg]; rfl
    unfold o0T o1T o2T
    rw [ho, movT_eq]
    have e1 : (movD p (if b = true then r else q) (if b = true then q else r) (mx3 p q r + mn3 p q r) k).1 = mx3 p q r := by omega
    have e2 : (movD p (if b = true then r else q) (if b = true then q else r) (mx3 p q r + mn3 p q r) k).2.1 = mx3 p q r := by omega
    have e3 : (movD p (if b = true then r else q) (if b = true then q else r) (mx3 p q r + mn3 p q r) k).2.2 = mx3 p q r := by omega
    rw [e1, e2, e3]
    rfl
  · obtain ⟨i, M, H, hi, hi0, hM, hH, hH0, heq, f6, hg, ⟨fp, rp⟩, ⟨fq, rq⟩, ⟨ft, rt⟩⟩ := all_near (mir := b) bp bq br bk hne
    constructor
    · unfold okT
      rw [hg, f6, fp, fq, ft, hi]
      simp only [Bool.false_or, Bool.and_true, Bool.true_and, decide_eq_true_eq]
      omega
    · have ho := oT_D hg hi hi0.1 rp rq rt
      unfold o0T o1T o2T
      rw [ho, movT_eq]
      have hd : (i - k) * (mx3 p q r - mn3 p q r) + M = if b then 6 * (mx3 p q r - mn3 p q r) - H else H := by rw [Int.sub_mul]; omega
      have hB := secB hne hH hH0 hM hd
      have hC := secC (d := (i - k) % 6) (k := k) (mx := mx3 p q r) (mn := mn3 p q r) (M := M) bk (by omega)
      rw [show ((i - k) % 6 + k) % 6 = i % 6 by omega, hB] at hC
      rw [hC]
      rfl
end Mine
namespace Mine
open PySem PySem.W PyProof.Rows PySem.Calls PySem.Spec
set_option maxRecDepth 100000
set_option maxHeartbeats 8000000
/-- no bit of the first n in both -/
noncomputable def disj : Nat → Int → Int → Bool
  | 0, y, z => decide (y = 0) && decide (z = 0)
  | n + 1, y, z => (decide (y % 2 = 0) || decide (z % 2 = 0)) && disj n (y / 2) (z / 2)
theorem and_add : ∀ (n : Nat) (x y z : Int), disj n y z = true → Builtin.bitAnd x (y + z) = Builtin.bitAnd x y + Builtin.bitAnd x z
  | 0, x, y, z, h => by
    simp only [disj, Bool.and_eq_true, decide_eq_true_eq] at h
    rw [h.1, h.2, show (0 : Int) + 0 = 0 from rfl, bitAnd_zero]
    rfl
  | n + 1, x, y, z, h => by
    simp only [disj, Bool.and_eq_true, Bool.or_eq_true, decide_eq_true_eq] at h
    have ih := and_add n (x / 2) (y / 2) (z / 2) h.2
    rw [kbt_halves x (y + z), kbt_halves x y, kbt_halves x z]
    have e : (y + z) / 2 = y / 2 + z / 2 := by omega
    rw [e, ih]
    split <;> split <;> split <;> omega
theorem and_bit {x : Int} (k : Nat) {m : Int} (hm : (2 : Int) ^ k = m) : Builtin.bitAnd x m = x / m % 2 * m := by
  rw [← hm]
  exact kbt_bit x k
theorem and_4095 (x : Int) : Builtin.bitAnd x 4095 = x % 4096 := kbt_mask x 12
theorem and_2112 (x : Int) : Builtin.bitAnd x 2112 = x / 64 % 2 * 64 + x / 2048 % 2 * 2048 := by
  rw [← and_bit 6 (by decide), ← and_bit 11 (by decide)]
  exact and_add 12 x 64 2048 (by decide)
theorem and_1032 (x : Int) : Builtin.bitAnd x 1032 = x / 8 % 2 * 8 + x / 1024 % 2 * 1024 := by
  rw [← and_bit 3 (by decide), ← and_bit 10 (by decide)]
  exact and_add 12 x 8 1024 (by decide)
theorem and_513 (x : Int) : Builtin.bitAnd x 513 = x / 1 % 2 * 1 + x / 512 % 2 * 512 := by
  rw [← and_bit 0 (by decide), ← and_bit 9 (by decide)]
  exact and_add 12 x 1 512 (by decide)
theorem and_61440 (x : Int) : Builtin.bitAnd x 61440 = x / 4096 % 16 * 4096 := by
  have h1 : Builtin.bitAnd x 65535 = Builtin.bitAnd x 4095 + Builtin.bitAnd x 61440 := and_add 16 x 4095 61440 (by decide)
  rw [bitAnd_m16, and_4095] at h1
  omega
noncomputable def gR (b : Int) : Nat := if b = 1 then 114 else 45
noncomputable def gW (b : Int) : Nat := if b = 1 then 119 else 45
noncomputable def gX (b t : Int) : Nat := if b = 1 ∧ t = 1 then 115 else if t = 1 then 83 else if b = 1 then 120 else 45
noncomputable def gT (b t : Int) : Nat := if b = 1 ∧ t = 1 then 116 else if t = 1 then 84 else if b = 1 then 120 else 45
theorem ite_str {p q : Prop} [Decidable p] [Decidable q] {a b : Str} {m n : Nat} (ha : a = ⟨#[m]⟩) (hb : b = ⟨#[n]⟩) (h : p ↔ q) : (if p then a else b) = (⟨#[if q then m else n]⟩ : Str) := by
  by_cases c : p
  · rw [if_pos c, if_pos (h.mp c), ha]
  · rw [if_neg c, if_neg (fun d => c (h.mpr d)), hb]
theorem s_r : Str.ofString "r" = ⟨#[114]⟩ := by decide +kernel
theorem s_w : Str.ofString "w" = ⟨#[119]⟩ := by decide +kernel
theorem s_s : Str.ofString "s" = ⟨#[115]⟩ := by decide +kernel
theorem s_S : Str.ofString "S" = ⟨#[83]⟩ := by decide +kernel
theorem s_x : Str.ofString "x" = ⟨#[120]⟩ := by decide +kernel
theorem s_t : Str.ofString "t" = ⟨#[116]⟩ := by decide +kernel
theorem s_T : Str.ofString "T" = ⟨#[84]⟩ := by decide +kernel
theorem s_d : Str.ofString "-" = ⟨#[45]⟩ := by decide +kernel
theorem pick_nil {x i : Int} (hi : i ≠ 0) : pickS x i [] = ⟨#[45]⟩ := by
  unfold pickS
  rw [if_neg hi]
  exact s_d
theorem pick_cons {x i b : Int} {c : Str} {r : List (Int × Str)} (hi : i ≠ 0) {q : Prop} [Decidable q] {m n : Nat} (hc : c = ⟨#[m]⟩) (hr : pickS x i r = ⟨#[n]⟩) (h : Builtin.bitAnd x b = b ↔ q) : pickS x i ((b, c) :: r) = ⟨#[if q then m else n]⟩ := by
  show (if (if i = 0 then Builtin.bitAnd x 61440 = b else Builtin.bitAnd x b = b) then c else pickS x i r) = _
  refine ite_str hc hr ?_
  rw [if_neg hi]
  exact h
theorem pick0 {x y : Int} (h : Builtin.bitAnd x 61440 = Builtin.bitAnd y 61440) : ∀ r, pickS x 0 r = pickS y 0 r
  | [] => rfl
  | (b, c) :: r => by
    show (if (if (0 : Int) = 0 then Builtin.bitAnd x 61440 = b else Builtin.bitAnd x b = b) then c else pickS x 0 r) = (if (if (0 : Int) = 0 then Builtin.bitAnd y 61440 = b else Builtin.bitAnd y b = b) then c else pickS y 0 r)
    simp only [if_true]
    rw [h, pick0 h r]
theorem bit_iff {x m : Int} (k : Nat) (hm : (2 : Int) ^ k = m) (h0 : 0 < m) : Builtin.bitAnd x m = m ↔ x / m % 2 = 1 := by
  rw [and_bit k hm]
  constructor
  · intro h
    rcases (show x / m % 2 = 0 ∨ x / m % 2 = 1 by omega) with c | c
    · rw [c] at h; omega
    · exact c
  · intro h
    rw [h, Int.one_mul]
noncomputable def row0 : List (Int × Str) := [(40960, "l"), (49152, "s"), (32768, "-"), (24576, "b"), (16384, "d"), (8192, "c"), (4096, "p")]
theorem fm_form {x : Int} {n : Nat} (hn : pickS x 0 row0 = ⟨#[n]⟩) :
    fmT x = ⟨#[n, gR (x / 256 % 2), gW (x / 128 % 2), gX (x / 64 % 2) (x / 2048 % 2), gR (x / 32 % 2), gW (x / 16 % 2), gX (x / 8 % 2) (x / 1024 % 2), gR (x / 4 % 2), gW (x / 2 % 2), gT (x / 1 % 2) (x / 512 % 2)]⟩ := by
  have r1 : pickS x 1 [(256, "r")] = ⟨#[gR (x / 256 % 2)]⟩ := pick_cons (by decide) s_r (pick_nil (by decide)) (bit_iff 8 (by decide) (by decide))
  have r2 : pickS x 2 [(128, "w")] = ⟨#[gW (x / 128 % 2)]⟩ := pick_cons (by decide) s_w (pick_nil (by decide)) (bit_iff 7 (by decide) (by decide))
  have r3 : pickS x 3 [(2112, "s"), (2048, "S"), (64, "x")] = ⟨#[gX (x / 64 % 2) (x / 2048 % 2)]⟩ := pick_cons (by decide) s_s (pick_cons (by decide) s_S (pick_cons (by decide) s_x (pick_nil (by decide)) (bit_iff 6 (by decide) (by decide))) (bit_iff 11 (by decide) (by decide))) (by rw [and_2112]; omega)
  have r4 : pickS x 4 [(32, "r")] = ⟨#[gR (x / 32 % 2)]⟩ := pick_cons (by decide) s_r (pick_nil (by decide)) (bit_iff 5 (by decide) (by decide))
  have r5 : pickS x 5 [(16, "w")] = ⟨#[gW (x / 16 % 2)]⟩ := pick_cons (by decide) s_w (pick_nil (by decide)) (bit_iff 4 (by decide) (by decide))
  have r6 : pickS x 6 [(1032, "s"), (1024, "S"), (8, "x")] = ⟨#[gX (x / 8 % 2) (x / 1024 % 2)]⟩ := pick_cons (by decide) s_s (pick_cons (by decide) s_S (pick_cons (by decide) s_x (pick_nil (by decide)) (bit_iff 3 (by decide) (by decide))) (bit_iff 10 (by decide) (by decide))) (by rw [and_1032]; omega)
  have r7 : pickS x 7 [(4, "r")] = ⟨#[gR (x / 4 % 2)]⟩ := pick_cons (by decide) s_r (pick_nil (by decide)) (bit_iff 2 (by decide) (by decide))
  have r8 : pickS x 8 [(2, "w")] = ⟨#[gW (x / 2 % 2)]⟩ := pick_cons (by decide) s_w (pick_nil (by decide)) (bit_iff 1 (by decide) (by decide))
  have r9 : pickS x 9 [(513, "t"), (512, "T"), (1, "x")] = ⟨#[gT (x / 1 % 2) (x / 512 % 2)]⟩ := pick_cons (by decide) s_t (pick_cons (by decide) s_T (pick_cons (by decide) s_x (pick_nil (by decide)) (bit_iff 0 (by decide) (by decide))) (bit_iff 9 (by decide) (by decide))) (by rw [and_513]; omega)
  have e : fmFrom x 0 tabs = [pickS x 0 row0, pickS x 1 [(256, "r")], pickS x 2 [(128, "w")], pickS x 3 [(2112, "s"), (2048, "S"), (64, "x")], pickS x 4 [(32, "r")], pickS x 5 [(16, "w")], pickS x 6 [(1032, "s"), (1024, "S"), (8, "x")], pickS x 7 [(4, "r")], pickS x 8 [(2, "w")], pickS x 9 [(513, "t"), (512, "T"), (1, "x")]] := rfl
  unfold fmT
  rw [e, hn, r1, r2, r3, r4, r5, r6, r7, r8, r9]
  exact join_ten _ _ _ _ _ _ _ _ _ _
theorem row0_one (x : Int) : ∃ n, pickS x 0 row0 = ⟨#[n]⟩ := pick_one x 0 row0 (tabs_one row0 (List.Mem.head _))
end Mine
namespace Mine
open PySem PySem.W PyProof.Rows PySem.Calls PySem.Spec
set_option maxRecDepth 100000
set_option maxHeartbeats 8000000
theorem bit01 (x : Int) : x % 2 = 0 ∨ x % 2 = 1 := by omega
theorem part_X {a b c d : Int} (ha : a = 0 ∨ a = 1) (hb : b = 0 ∨ b = 1) (hc : c = 0 ∨ c = 1) (hd : d = 0 ∨ d = 1) : partT ⟨#[gR a, gW b, gX c d]⟩ (Str.ofString "-xSs") = 4 * a + 2 * b + c + 8 * d := by
  rcases ha with rfl | rfl <;> rcases hb with rfl | rfl <;> rcases hc with rfl | rfl <;> rcases hd with rfl | rfl <;> decide +kernel
theorem part_T {a b c d : Int} (ha : a = 0 ∨ a = 1) (hb : b = 0 ∨ b = 1) (hc : c = 0 ∨ c = 1) (hd : d = 0 ∨ d = 1) : partT ⟨#[gR a, gW b, gT c d]⟩ (Str.ofString "-xTt") = 4 * a + 2 * b + c + 8 * d := by
  rcases ha with rfl | rfl <;> rcases hb with rfl | rfl <;> rcases hc with rfl | rfl <;> rcases hd with rfl | rfl <;> decide +kernel
theorem slice14 (a b c d e f g h i j : Nat) : Txt.slice ⟨#[a, b, c, d, e, f, g, h, i, j]⟩ (some 1) (some 4) = ⟨#[b, c, d]⟩ := by with_unfolding_all rfl
theorem slice47 (a b c d e f g h i j : Nat) : Txt.slice ⟨#[a, b, c, d, e, f, g, h, i, j]⟩ (some 4) (some 7) = ⟨#[e, f, g]⟩ := by with_unfolding_all rfl
theorem slice710 (a b c d e f g h i j : Nat) : Txt.slice ⟨#[a, b, c, d, e, f, g, h, i, j]⟩ (some 7) (some 10) = ⟨#[h, i, j]⟩ := by with_unfolding_all rfl
end Mine
namespace Mine
open PySem PySem.W PyProof.Rows PySem.Calls PySem.Spec
set_option maxRecDepth 100000
set_option maxHeartbeats 8000000
theorem of16 {P : Int → Prop} (h : ∀ i : Fin 16, P ((i.val : Nat) : Int)) {x : Int} (hx : 0 ≤ x ∧ x ≤ 15) : P x := by
  obtain ⟨n, rfl⟩ := Int.eq_ofNat_of_zero_le hx.1
  exact h ⟨n, by omega⟩
theorem four {x : Int} (h : 0 ≤ x ∧ x ≤ 15) : (0 ≤ x / 8 ∧ x / 8 ≤ 1) ∧ (0 ≤ x / 4 % 2 ∧ x / 4 % 2 ≤ 1) ∧ (0 ≤ x / 2 % 2 ∧ x / 2 % 2 ≤ 1) ∧ (0 ≤ x % 2 ∧ x % 2 ≤ 1) ∧ x % 8 = 4 * (x / 4 % 2) + 2 * (x / 2 % 2) + x % 2 :=
  of16 (P := fun x => (0 ≤ x / 8 ∧ x / 8 ≤ 1) ∧ (0 ≤ x / 4 % 2 ∧ x / 4 % 2 ≤ 1) ∧ (0 ≤ x / 2 % 2 ∧ x / 2 % 2 ≤ 1) ∧ (0 ≤ x % 2 ∧ x % 2 ≤ 1) ∧ x % 8 = 4 * (x / 4 % 2) + 2 * (x / 2 % 2) + x % 2) (by decide +kernel) h
theorem step {v m m' q b : Int} (e : m * 2 = m') (hm : 0 ≤ m) (h : v / m = 2 * q + b) (hb : 0 ≤ b ∧ b ≤ 1) : v / m' = q ∧ v / m % 2 = b := by
  rw [← e, ← Int.ediv_ediv_of_nonneg hm, h]
  omega
theorem bits12 {f a1 a2 a3 a4 b1 b2 b3 b4 c1 c2 c3 c4 v : Int} (hv : v = f * 4096 + ((4 * a1 + 2 * a2 + a3) * 64 + a4 * 2048 + ((4 * b1 + 2 * b2 + b3) * 8 + b4 * 1024 + ((4 * c1 + 2 * c2 + c3) * 1 + c4 * 512 + 0))))
    (ha : (0 ≤ a4 ∧ a4 ≤ 1) ∧ (0 ≤ a1 ∧ a1 ≤ 1) ∧ (0 ≤ a2 ∧ a2 ≤ 1) ∧ (0 ≤ a3 ∧ a3 ≤ 1)) (hb : (0 ≤ b4 ∧ b4 ≤ 1) ∧ (0 ≤ b1 ∧ b1 ≤ 1) ∧ (0 ≤ b2 ∧ b2 ≤ 1) ∧ (0 ≤ b3 ∧ b3 ≤ 1)) (hc : (0 ≤ c4 ∧ c4 ≤ 1) ∧ (0 ≤ c1 ∧ c1 ≤ 1) ∧ (0 ≤ c2 ∧ c2 ≤ 1) ∧ (0 ≤ c3 ∧ c3 ≤ 1)) :
    v / 4096 = f ∧ (v / 256 % 2 = a1 ∧ v / 128 % 2 = a2 ∧ v / 64 % 2 = a3 ∧ v / 2048 % 2 = a4) ∧ (v / 32 % 2 = b1 ∧ v / 16 % 2 = b2 ∧ v / 8 % 2 = b3 ∧ v / 1024 % 2 = b4) ∧ (v / 4 % 2 = c1 ∧ v / 2 % 2 = c2 ∧ v / 1 % 2 = c3 ∧ v / 512 % 2 = c4) := by
  have h0 : v / 1 = 2 * (2 * (2 * (2 * (2 * (2 * (2 * (2 * (2 * (2 * (2 * (2 * f + a4) + b4) + c4) + a1) + a2) + a3) + b1) + b2) + b3) + c1) + c2) + c3 := by clear ha hb hc; rw [Int.ediv_one]; omega
  clear hv
  obtain ⟨h1, p0⟩ := step (m' := 2) rfl (by decide) h0 hc.2.2.2
  obtain ⟨h2, p1⟩ := step (m' := 4) rfl (by decide) h1 hc.2.2.1
  obtain ⟨h3, p2⟩ := step (m' := 8) rfl (by decide) h2 hc.2.1
  obtain ⟨h4, p3⟩ := step (m' := 16) rfl (by decide) h3 hb.2.2.2
  obtain ⟨h5, p4⟩ := step (m' := 32) rfl (by decide) h4 hb.2.2.1
  obtain ⟨h6, p5⟩ := step (m' := 64) rfl (by decide) h5 hb.2.1
  obtain ⟨h7, p6⟩ := step (m' := 128) rfl (by decide) h6 ha.2.2.2
  obtain ⟨h8, p7⟩ := step (m' := 256) rfl (by decide) h7 ha.2.2.1
  obtain ⟨h9, p8⟩ := step (m' := 512) rfl (by decide) h8 ha.2.1
  obtain ⟨h10, p9⟩ := step (m' := 1024) rfl (by decide) h9 hc.1
  obtain ⟨h11, p10⟩ := step (m' := 2048) rfl (by decide) h10 hb.1
  obtain ⟨h12, p11⟩ := step (m' := 4096) rfl (by decide) h11 ha.1
  exact ⟨h12, ⟨p8, p7, p6, p11⟩, ⟨p5, p4, p3, p10⟩, p2, p1, p0, p9⟩
theorem mod_div (n : Int) {m k : Int} (hm : 0 < m) : n % (m * k) / m = n / m % k := by
  rw [Int.emod_def, Int.emod_def, Int.mul_assoc, Int.sub_eq_add_neg, ← Int.mul_neg, Int.add_mul_ediv_left _ _ (Int.ne_of_gt hm), Int.ediv_ediv_of_nonneg (Int.le_of_lt hm), Int.sub_eq_add_neg]
theorem part_n {n R m M : Int} (hm : (m = 64 ∧ M = 2048) ∨ (m = 8 ∧ M = 1024) ∨ (m = 1 ∧ M = 512)) (hR : R = n % 4096) : R / m % 8 + R / M * 8 % 16 = 4 * (n / (4 * m) % 2) + 2 * (n / (2 * m) % 2) + n / m % 2 + 8 * (n / M % 2) := by
  have two : ∀ t : Int, t % 2 * 8 % 16 = 8 * (t % 2) := fun t => by omega
  have e : R / m % 8 = n / m % 8 ∧ R / M * 8 % 16 = 8 * (n / M % 2) := by
    rw [← two]
    rcases hm with ⟨rfl, rfl⟩ | ⟨rfl, rfl⟩ | ⟨rfl, rfl⟩
    · have a : R / 64 = n / 64 % 64 := hR ▸ mod_div n (m := 64) (k := 64) (by decide)
      have b : R / 2048 = n / 2048 % 2 := hR ▸ mod_div n (m := 2048) (k := 2) (by decide)
      rw [a, b, Int.emod_emod_of_dvd _ (by decide)]
      exact ⟨rfl, rfl⟩
    · have a : R / 8 = n / 8 % 512 := hR ▸ mod_div n (m := 8) (k := 512) (by decide)
      have b : R / 1024 = n / 1024 % 4 := hR ▸ mod_div n (m := 1024) (k := 4) (by decide)
      rw [a, b, Int.emod_emod_of_dvd _ (by decide)]
      exact ⟨rfl, by omega⟩
    · have a : R / 1 = n / 1 % 4096 := hR ▸ mod_div n (m := 1) (k := 4096) (by decide)
      have b : R / 512 = n / 512 % 8 := hR ▸ mod_div n (m := 512) (k := 8) (by decide)
      rw [a, b, Int.emod_emod_of_dvd _ (by decide)]
      exact ⟨rfl, by omega⟩
  have p : (0 : Int) ≤ m := by rcases hm with ⟨rfl, _⟩ | ⟨rfl, _⟩ | ⟨rfl, _⟩ <;> decide
  have e3 : n / (4 * m) = n / m / 4 := by rw [Int.mul_comm, Int.ediv_ediv_of_nonneg p]
  have e4 : n / (2 * m) = n / m / 2 := by rw [Int.mul_comm, Int.ediv_ediv_of_nonneg p]
  rw [e.1, e.2, e3, e4]
  clear e e3 e4 hm
  generalize n / m = t
  omega
theorem bit_bd {a b c d : Int} : (0 ≤ 4 * (a % 2) + 2 * (b % 2) + c % 2 + 8 * (d % 2) ∧ 4 * (a % 2) + 2 * (b % 2) + c % 2 + 8 * (d % 2) ≤ 15) := by omega
theorem part_all {n R : Int} {X : Str} {a b c : Int} (qr : R = Builtin.bitAnd n 4095) (qf : X = fmT n) (_h0 : 0 ≤ R) (_h1 : R < 4096)
    (q0 : a = partT (Txt.slice X (some 1) (some 4)) (Str.ofString "-xSs")) (q1 : b = partT (Txt.slice X (some 4) (some 7)) (Str.ofString "-xSs")) (q2 : c = partT (Txt.slice X (some 7) (some 10)) (Str.ofString "-xTt")) :
    ∃ p q r : Int, (0 ≤ p ∧ p ≤ 15) ∧ (0 ≤ q ∧ q ≤ 15) ∧ (0 ≤ r ∧ r ≤ 15) ∧ p = a ∧ q = b ∧ r = c ∧ R / 64 % 8 + R / 2048 * 8 % 16 = p ∧ R / 8 % 8 + R / 1024 * 8 % 16 = q ∧ R / 1 % 8 + R / 512 * 8 % 16 = r := by
  obtain ⟨k, hk⟩ := row0_one n
  rw [qf, fm_form hk] at q0 q1 q2
  rw [slice14, part_X (bit01 _) (bit01 _) (bit01 _) (bit01 _)] at q0
  rw [slice47, part_X (bit01 _) (bit01 _) (bit01 _) (bit01 _)] at q1
  rw [slice710, part_T (bit01 _) (bit01 _) (bit01 _) (bit01 _)] at q2
  rw [and_4095] at qr
  refine ⟨a, b, c, q0 ▸ bit_bd, q1 ▸ bit_bd, q2 ▸ bit_bd, rfl, rfl, rfl, ?_, ?_, ?_⟩
  · rw [q0]; exact part_n (.inl ⟨rfl, rfl⟩) qr
  · rw [q1]; exact part_n (.inr (.inl ⟨rfl, rfl⟩)) qr
  · rw [q2]; exact part_n (.inr (.inr ⟨rfl, rfl⟩)) qr
theorem block_X {x : Int} (h : 0 ≤ x ∧ x ≤ 15) : blockT x (Str.ofString "-xSs") = ⟨#[gR (x / 4 % 2), gW (x / 2 % 2), gX (x % 2) (x / 8)]⟩ :=
  of16 (P := fun x => blockT x (Str.ofString "-xSs") = ⟨#[gR (x / 4 % 2), gW (x / 2 % 2), gX (x % 2) (x / 8)]⟩) (by decide +kernel) h
theorem block_T {x : Int} (h : 0 ≤ x ∧ x ≤ 15) : blockT x (Str.ofString "-xTt") = ⟨#[gR (x / 4 % 2), gW (x / 2 % 2), gT (x % 2) (x / 8)]⟩ :=
  of16 (P := fun x => blockT x (Str.ofString "-xTt") = ⟨#[gR (x / 4 % 2), gW (x / 2 % 2), gT (x % 2) (x / 8)]⟩) (by decide +kernel) h
theorem item0 (a b c d e f g h i j : Nat) : Txt.item ⟨#[a, b, c, d, e, f, g, h, i, j]⟩ 0 = ⟨#[a]⟩ := by with_unfolding_all rfl
theorem join3 (b c d e f g h i j : Nat) : Txt.join (Str.ofString "") [⟨#[b, c, d]⟩, ⟨#[e, f, g]⟩, ⟨#[h, i, j]⟩] = ⟨#[b, c, d, e, f, g, h, i, j]⟩ := by with_unfolding_all rfl
theorem app10 (a b c d e f g h i j : Nat) : (⟨#[a]⟩ : Str) ++ (⟨#[b, c, d, e, f, g, h, i, j]⟩ : Str) = ⟨#[a, b, c, d, e, f, g, h, i, j]⟩ := by with_unfolding_all rfl
theorem txt_ok {n F x y z : Int} {X Y B0 B1 B2 : Str} (qf : X = fmT n) (eF : F = Builtin.bitAnd n 61440) (bx : 0 ≤ x ∧ x ≤ 15) (bY : 0 ≤ y ∧ y ≤ 15) (bz : 0 ≤ z ∧ z ≤ 15) (e0 : B0 = blockT x (Str.ofString "-xSs")) (e1 : B1 = blockT y (Str.ofString "-xSs")) (e2 : B2 = blockT z (Str.ofString "-xTt"))
    (eY : Y = fmT (F + (x % 8 * 64 + x / 8 * 2048 + (y % 8 * 8 + y / 8 * 1024 + (z % 8 * 1 + z / 8 * 512 + 0))))) :
    Txt.item X 0 ++ Txt.join (Str.ofString "") [B0, B1, B2] = Y ∧ (Txt.item X 0).length + (Txt.join (Str.ofString "") [B0, B1, B2]).length ≤ sizeLine := by
  obtain ⟨k, hk⟩ := row0_one n
  rw [and_61440] at eF
  obtain ⟨x4, x1, x2, x3, ex⟩ := four bx
  obtain ⟨y4, y1, y2, y3, ey⟩ := four bY
  obtain ⟨z4, z1, z2, z3, ez⟩ := four bz
  rw [ex, ey, ez, eF] at eY
  have hv : ∃ v, v = n / 4096 % 16 * 4096 + ((4 * (x / 4 % 2) + 2 * (x / 2 % 2) + x % 2) * 64 + x / 8 * 2048 + ((4 * (y / 4 % 2) + 2 * (y / 2 % 2) + y % 2) * 8 + y / 8 * 1024 + ((4 * (z / 4 % 2) + 2 * (z / 2 % 2) + z % 2) * 1 + z / 8 * 512 + 0))) := ⟨_, rfl⟩
  obtain ⟨v, hv⟩ := hv
  rw [← hv] at eY
  obtain ⟨hf, ⟨a1, a2, a3, a4⟩, ⟨b1, b2, b3, b4⟩, c1, c2, c3, c4⟩ := bits12 hv ⟨x4, x1, x2, x3⟩ ⟨y4, y1, y2, y3⟩ ⟨z4, z1, z2, z3⟩
  have hk' : pickS v 0 row0 = ⟨#[k]⟩ := by
    rw [← hk]
    apply pick0
    rw [and_61440, and_61440, hf, Int.emod_emod]
  rw [fm_form hk', a1, a2, a3, a4, b1, b2, b3, b4, c1, c2, c3, c4] at eY
  rw [fm_form hk] at qf
  rw [block_X bx] at e0
  rw [block_X bY] at e1
  rw [block_T bz] at e2
  rw [qf, eY, e0, e1, e2, item0, join3, app10]
  refine ⟨rfl, ?_⟩
  show (1 : Nat) + 9 ≤ sizeLine
  decide
end Mine
namespace Mine
open PySem PySem.W PyProof.Rows PySem.Calls PySem.Spec
set_option maxRecDepth 100000
set_option maxHeartbeats 8000000
section
variable {prog : Program} {w : World} {A : Around} {E : Value → Shared → Prop} {s : Shared} {env : Env} {h₀ : Heap} {x : Str} {body : List Stmt} {L : Addr} {m₀ : Str → Option Value}

noncomputable def OrPost (h₀ : Heap) (L : Addr) (m₀ : Str → Option Value) (N₀ : List (Addr × Obj)) (s : Shared) (xv : Value) (s₁ : Shared) : Prop :=
  ∃ (l : Addr) (vs : List Value) (ns : List Int) (nn : Nat) (h' : Heap) (tk : Nat), xv = .ref l ∧ s₁ = { s with heap := h', toks := tk } ∧ Fr h₀ L h' m₀ ∧ News h₀ L h' ((l, listOf vs.toArray nn) :: N₀) ∧ IntsAre vs ns ∧ (∀ p ∈ N₀, p.1 < l)
theorem join_or {M : Model} {N₀ : List (Addr × Obj)} {tr : Sem Value} {Q : Value → Shared → Prop} (_F : Fr h₀ L s.heap m₀) (_N : News h₀ L s.heap N₀) (h1 : wpAny M A tr (OrPost h₀ L m₀ N₀ s) E s)
    (h2 : ∀ (l : Addr) (vs : List Value) (ns : List Int) (nn : Nat) (h' : Heap) (tk : Nat), Fr h₀ L h' m₀ → News h₀ L h' ((l, listOf vs.toArray nn) :: N₀) → IntsAre vs ns → (∀ p ∈ N₀, p.1 < l) → Q (.ref l) { s with heap := h', toks := tk }) : wpAny M A tr Q E s :=
  wpAny_mono h1 (fun xv s₁ h => by obtain ⟨l, vs, ns, nn, h', tk, rfl, rfl, F, N, I, o⟩ := h; exact h2 l vs ns nn h' tk F N I o) fun _ _ e => e

noncomputable def IsCell (o : Obj) : Prop := ∃ x, o.data = .cell x
noncomputable def Cells3 (c : Obj × Obj × Obj) : Prop := IsCell c.1 ∧ IsCell c.2.1 ∧ IsCell c.2.2
noncomputable def Led6 (l lr aM aT aR aU : Addr) (ol orr oU : Obj) (c : Obj × Obj × Obj) : List (Addr × Obj) := [(l, ol), (lr, orr), (aM, c.1), (aT, c.2.1), (aR, c.2.2), (aU, oU)]
theorem outer_loop {l lr aM aT aR aU : Addr} {vs : List Value} {ns : List Int} {nn : Nat} {orr oM oT oR oU : Obj} {Q : Flow → Shared → Prop} (stored : List Str)
    (hh : A.handled = none) (F : Fr h₀ env.locals s.heap m₀) (N : News h₀ env.locals s.heap [(l, listOf vs.toArray nn), (lr, orr), (aM, oM), (aT, oT), (aR, oR), (aU, oU)]) (hi : IntsAre vs ns) (hM : IsCell oM) (hT : IsCell oT) (hR : IsCell oR)
    (turn : ∀ (I : Addr) (n : Int) (t : Tok) (u : Str → Option Value) (h : Heap) (tk : Nat) (oI oM oT oR : Obj) (xM xT xR : Option Value), oM.data = .cell xM → oT.data = .cell xT → oR.data = .cell xR → AllLt I [(l, listOf vs.toArray nn), (lr, orr), (aM, oM), (aT, oT), (aR, oR), (aU, oU)] →
      Fr h₀ env.locals h (fun y => if y = x then some (.int n t) else if stored.contains y then u y else m₀ y) → News h₀ env.locals h [(I, oI), (l, listOf vs.toArray nn), (lr, orr), (aM, oM), (aT, oT), (aR, oR), (aU, oU)] →
      wpAny (model prog w) A (execs body env) (KxPost h₀ env.locals I oI (Led6 l lr aM aT aR aU (listOf vs.toArray nn) orr oU) Cells3 x stored m₀ { s with heap := h, toks := tk } Q) E { s with heap := h, toks := tk })
    (done : ∀ (h : Heap) (tk : Nat) (m : Str → Option Value) (nx : List (Addr × Obj)), Fr h₀ env.locals h m → News h₀ env.locals h nx → Q .next { s with heap := h, toks := tk }) :
    wpAny (model prog w) A (pyIter (.ref l)) (fun it s₂ => LoopAtV prog w A h₀ env x body Q E it s₂) E s := by
  refine kx_list (vs := vs) (nn := nn) (Led6 l lr aM aT aR aU (listOf vs.toArray nn) orr oU) Cells3 stored (oM, oT, oR) hh (fun c => List.Mem.head _) (fun c => rfl) F N ⟨hM, hT, hR⟩ ?_ ?_
  · rintro I hlt ⟨cM, cT, cR⟩ v u h tk oI hv ⟨⟨xM, eM⟩, ⟨xT, eT⟩, ⟨xR, eR⟩⟩ F₁ N₁
    obtain ⟨n, t, rfl⟩ := hi.all v hv
    have hlt' : AllLt I [(l, listOf vs.toArray nn), (lr, orr), (aM, cM), (aT, cT), (aR, cR), (aU, oU)] := by
      have := allLt_of hlt
      exact this
    exact turn I n t u h tk oI cM cT cR xM xT xR eM eT eR hlt' F₁ N₁
  · intro c u h tk _ F₁ N₁
    exact done h tk _ _ F₁ N₁
end
end Mine
namespace Mine
open PySem PySem.W PyProof.Rows PySem.Calls PySem.Spec
set_option maxRecDepth 100000
set_option maxHeartbeats 8000000
section
variable {prog : Program} {w : World} {A : Around} {E : Value → Shared → Prop} {s : Shared} {h₀ : Heap} {L : Addr} {news : List (Addr × Obj)}
/-- two lists of the ledger that hold the same three ints -/
theorem ne3 {da db : Addr} {oa ob : Obj} {x y z : Int} {t₁ t₂ t₃ u₁ u₂ u₃ : Tok} {na nb : Nat} {Q : Value → Shared → Prop} (N : News h₀ L s.heap news) (ha : (da, oa) ∈ news) (hb : (db, ob) ∈ news)
    (ca : oa.cls = .type "list") (cb : ob.cls = .type "list") (va : oa.data = .seq [.int x t₁, .int y t₂, .int z t₃].toArray na) (vb : ob.data = .seq [.int x u₁, .int y u₂, .int z u₃].toArray nb) (hu : A.units + 64 < cLine) (h : Q (.bool false) s) :
    wpAny (model prog w) A (compareOp .NotEq (.ref da) (.ref db)) Q E s := by
  refine ne_intsK (ns := [x, y, z]) (ms := [x, y, z]) ⟨oa, (N _ ha).1, ca, na, va⟩ (.cons _ _ (.cons _ _ (.cons _ _ .nil))) ⟨ob, (N _ hb).1, cb, nb, vb⟩ (.cons _ _ (.cons _ _ (.cons _ _ .nil))) hu ?_
  simpa using h
end
end Mine
namespace Mine
open PySem PySem.W PyProof.Rows PySem.Calls PySem.Spec
set_option maxRecDepth 100000
set_option maxHeartbeats 8000000
section
variable {prog : Program} {w : World} {A : Around} {E : Value → Shared → Prop} {s : Shared} {env : Env} {h₀ : Heap} {x : Str} {body : List Stmt} {m₀ : Str → Option Value} {Q : Flow → Shared → Prop}
noncomputable def Led9 (D0 D3 I l lr aM aT aR aU : Addr) (o0 o3 oI ol orr oT oR oU : Obj) (c : Obj) : List (Addr × Obj) := [(D0, o0), (D3, o3), (I, oI), (l, ol), (lr, orr), (aM, c), (aT, oT), (aR, oR), (aU, oU)]
theorem mid_loop {D0 D1 D2 D3 I l lr aM aT aR aU : Addr} {o1 o2 o3 oI ol orr oM oT oR oU : Obj} (stored : List Str)
    (hh : A.handled = none) (F : Fr h₀ env.locals s.heap m₀) (N : News h₀ env.locals s.heap [(D0, { cls := .type "tuple", data := .seq #[.bool false, .bool true] }), (D1, o1), (D2, o2), (D3, o3), (I, oI), (l, ol), (lr, orr), (aM, oM), (aT, oT), (aR, oR), (aU, oU)]) (hM : IsCell oM)
    (turn : ∀ (J : Addr) (b : Bool) (u : Str → Option Value) (h : Heap) (tk : Nat) (oJ oM : Obj) (xM : Option Value), oM.data = .cell xM → AllLt J [(D0, { cls := .type "tuple", data := .seq #[.bool false, .bool true] }), (D3, o3), (I, oI), (l, ol), (lr, orr), (aM, oM), (aT, oT), (aR, oR), (aU, oU)] →
      Fr h₀ env.locals h (fun y => if y = x then some (.bool b) else if stored.contains y then u y else m₀ y) → News h₀ env.locals h [(J, oJ), (D0, { cls := .type "tuple", data := .seq #[.bool false, .bool true] }), (D3, o3), (I, oI), (l, ol), (lr, orr), (aM, oM), (aT, oT), (aR, oR), (aU, oU)] →
      wpAny (model prog w) A (execs body env) (KxPost h₀ env.locals J oJ (Led9 D0 D3 I l lr aM aT aR aU { cls := .type "tuple", data := .seq #[.bool false, .bool true] } o3 oI ol orr oT oR oU) IsCell x stored m₀ { s with heap := h, toks := tk } Q) E { s with heap := h, toks := tk })
    (done : ∀ (oM : Obj) (xM : Option Value) (u : Str → Option Value) (h : Heap) (tk : Nat), oM.data = .cell xM → Fr h₀ env.locals h (fun y => if y = x then u y else if stored.contains y then u y else m₀ y) → News h₀ env.locals h [(D0, { cls := .type "tuple", data := .seq #[.bool false, .bool true] }), (D3, o3), (I, oI), (l, ol), (lr, orr), (aM, oM), (aT, oT), (aR, oR), (aU, oU)] → Q .next { s with heap := h, toks := tk }) :
    wpAny (model prog w) A (pyIter (.ref D0)) (fun it s₂ => LoopAtV prog w A h₀ env x body Q E it s₂) E s := by
  have N' : News h₀ env.locals s.heap (Led9 D0 D3 I l lr aM aT aR aU { cls := .type "tuple", data := .seq #[.bool false, .bool true] } o3 oI ol orr oT oR oU oM) := cb_drop N (by
    intro p hp
    rcases List.mem_cons.mp hp with rfl | hp
    · exact List.Mem.head _
    · exact List.Mem.tail _ (List.Mem.tail _ (List.Mem.tail _ hp)))
  refine kx_tuple (vs := [.bool false, .bool true]) (nn := 0) (Led9 D0 D3 I l lr aM aT aR aU { cls := .type "tuple", data := .seq #[.bool false, .bool true] } o3 oI ol orr oT oR oU) IsCell stored oM hh rfl rfl (fun c => List.Mem.head _) (fun c => rfl) F N' hM ?_ ?_
  · rintro J hlt c v u h tk oJ hv ⟨xM, eM⟩ F₁ N₁
    have hv' : ∃ b : Bool, v = .bool b := by
      rcases List.mem_cons.mp hv with rfl | hv
      · exact ⟨_, rfl⟩
      · rcases List.mem_cons.mp hv with rfl | hv
        · exact ⟨_, rfl⟩
        · cases hv
    obtain ⟨b, rfl⟩ := hv'
    have hlt' := allLt_of hlt
    exact turn J b u h tk oJ c xM eM hlt' F₁ N₁
  · rintro c u h tk ⟨xM, eM⟩ F₁ N₁
    exact done c xM u h tk eM F₁ N₁

noncomputable def Led10 (J D0 D3 I l lr aM aT aR aU : Addr) (oJ o0 o3 oI ol orr oT oR oU : Obj) (c : Obj) : List (Addr × Obj) := [(J, oJ), (D0, o0), (D3, o3), (I, oI), (l, ol), (lr, orr), (aM, c), (aT, oT), (aR, oR), (aU, oU)]
theorem in_loop {r J D0 D3 I l lr aM aT aR aU : Addr} {oJ o0 o3 oI ol orr oM oT oR oU : Obj} {t₀ u₀ v₀ : Tok} (stored : List Str)
    (hh : A.handled = none) (hr : IsRange s.heap r 0 6 1 t₀ u₀ v₀) (F : Fr h₀ env.locals s.heap m₀) (N : News h₀ env.locals s.heap [(J, oJ), (D0, o0), (D3, o3), (I, oI), (l, ol), (lr, orr), (aM, oM), (aT, oT), (aR, oR), (aU, oU)]) (hM : IsCell oM)
    (turn : ∀ (K : Addr) (k : Int) (t : Tok) (u : Str → Option Value) (h : Heap) (tk : Nat) (oK oM : Obj) (xM : Option Value), (0 ≤ k ∧ k < 6) → oM.data = .cell xM → AllLt K [(J, oJ), (D0, o0), (D3, o3), (I, oI), (l, ol), (lr, orr), (aM, oM), (aT, oT), (aR, oR), (aU, oU)] →
      Fr h₀ env.locals h (fun y => if y = x then some (.int k t) else if stored.contains y then u y else m₀ y) → News h₀ env.locals h [(K, oK), (J, oJ), (D0, o0), (D3, o3), (I, oI), (l, ol), (lr, orr), (aM, oM), (aT, oT), (aR, oR), (aU, oU)] →
      wpAny (model prog w) A (execs body env) (KxPost h₀ env.locals K oK (Led10 J D0 D3 I l lr aM aT aR aU oJ o0 o3 oI ol orr oT oR oU) IsCell x stored m₀ { s with heap := h, toks := tk } Q) E { s with heap := h, toks := tk })
    (done : ∀ (oM : Obj) (xM : Option Value) (u : Str → Option Value) (h : Heap) (tk : Nat), oM.data = .cell xM → Fr h₀ env.locals h (fun y => if y = x then u y else if stored.contains y then u y else m₀ y) → News h₀ env.locals h [(J, oJ), (D0, o0), (D3, o3), (I, oI), (l, ol), (lr, orr), (aM, oM), (aT, oT), (aR, oR), (aU, oU)] → Q .next { s with heap := h, toks := tk }) :
    wpAny (model prog w) A (pyIter (.ref r)) (fun it s₂ => LoopAtV prog w A h₀ env x body Q E it s₂) E s := by
  refine kx_range (n := 6) (Led10 J D0 D3 I l lr aM aT aR aU oJ o0 o3 oI ol orr oT oR oU) IsCell stored oM hh hr (by decide) (by decide) (fun c => rfl) F N hM ?_ ?_
  · rintro K hlt c k t u h tk oK h0 h6 ⟨xM, eM⟩ F₁ N₁
    have hlt' := allLt_of hlt
    exact turn K k t u h tk oK c xM ⟨h0, h6⟩ eM hlt' F₁ N₁
  · rintro c u h tk ⟨xM, eM⟩ F₁ N₁
    exact done c xM u h tk eM F₁ N₁
end
end Mine
namespace Mine
open PySem PySem.W PyProof.Rows PySem.Calls PySem.Spec
set_option maxRecDepth 100000
set_option maxHeartbeats 8000000
theorem kx_next {σ : Type} {h₀ : Heap} {L I : Addr} {oI : Obj} {Led : σ → List (Addr × Obj)} {Facts : σ → Prop} {x : Str} {stored : List Str} {m₀ : Str → Option Value} {s₁ : Shared} {Q : Flow → Shared → Prop} (c : σ) {h' : Heap} {tk : Nat} {m' : Str → Option Value} {all : List (Addr × Obj)}
    (F : Fr h₀ L h' m') (N : News h₀ L h' all) (sub : ∀ p ∈ (I, oI) :: Led c, p ∈ all) (hf : Facts c) (fr : ∀ z, z ≠ x → stored.contains z = false → m' z = m₀ z) : KxPost h₀ L I oI Led Facts x stored m₀ s₁ Q .next { s₁ with heap := h', toks := tk } :=
  ⟨c, h', tk, m', all, rfl, hf, F, N, sub, fr⟩
section
variable {prog : Program} {w : World} {A : Around} {E : Value → Shared → Prop} {s : Shared}
/-- two ways of a conditional expression that both give a float -/
noncomputable def FltIs (X : UInt64) (s : Shared) (v : Value) (s₁ : Shared) : Prop := ∃ t tk, v = .float X t ∧ s₁ = { s with toks := tk }
theorem joinF {M : Model} {tr : Sem Value} {b : Bool} {X Y : UInt64} {Q : Value → Shared → Prop} (h1 : b = true → wpAny M A tr (FltIs X s) E s) (h0 : b = false → wpAny M A tr (FltIs Y s) E s)
    (h2 : ∀ t tk, Q (.float (if b = true then X else Y) t) { s with toks := tk }) : wpAny M A tr Q E s := by
  cases b with
  | true => exact wpAny_mono (h1 rfl) (fun v s₁ h => by obtain ⟨t, tk, rfl, rfl⟩ := h; exact h2 t tk) fun _ _ e => e
  | false => exact wpAny_mono (h0 rfl) (fun v s₁ h => by obtain ⟨t, tk, rfl, rfl⟩ := h; exact h2 t tk) fun _ _ e => e
theorem round_rnd {x : Value} {n : Int} {Q : Value → Shared → Prop} (hA : A.handled = none) (hr : Rnd x n) (h : ∀ t tk, Q (.int n t) { s with toks := tk }) : wpAny (model prog w) A (call (.builtin "round") [x]) Q E s := by
  cases hr with
  | int n t => exact call_round_int (h _ _)
  | flt f t hf =>
    refine Flt.call_round_float hA (fun c => ?_) (fun c => ?_) (fun _ => h _ _)
    · rw [Flt.not_nan_of_finite hf] at c; cases c
    · rw [Flt.not_inf_of_finite hf] at c; cases c
end
section
variable {prog : Program} {w : World} {A : Around} {E : Value → Shared → Prop} {s : Shared} {h₀ : Heap} {L : Addr} {m : Str → Option Value} {env : Env}
noncomputable def TupAt (ax : Addr) (its : Array Value) (news : List (Addr × Obj)) : Prop := ∃ o, (ax, o) ∈ news ∧ o.cls = .type "tuple" ∧ ∃ n, o.data = .seq its n
theorem TupAt.tup {h : Heap} {ax : Addr} {its : Array Value} {news : List (Addr × Obj)} (x : TupAt ax its news) (N : News h₀ L h news) : h.IsTuple ax its := by
  obtain ⟨o, hm, r⟩ := x
  exact ⟨o, (N _ hm).1, r⟩
noncomputable def SrcT (prog : Program) (w : World) (A : Around) (h₀ : Heap) (L : Addr) (m : Str → Option Value) (env : Env) (elt : Expr) (x : Str) (scope : Scope) (cl : List (Str × Addr)) (Fin : Shared → List Value → List (Addr × Obj) → Prop) (xv : Value) (s₁ : Shared) : Prop :=
  ∃ ax its news, xv = .ref ax ∧ A.handled = none ∧ Fr h₀ L s₁.heap m ∧ News h₀ L s₁.heap news ∧ TupAt ax its news ∧ its.size ≤ sizeLine ∧
    ∀ s₂ : Shared, (∃ h, s₂ = { s₁ with heap := h }) → LCg.CompRest prog w A h₀ L m env elt x scope cl s₂ (TupAt ax its) (fun i v => its[i]? = some v) (Fin s₂) its.size 0 [] news
theorem ListComp_tup {elt iter : Expr} {x : Str} {px : Pos} {scope : Scope} {cl : List (Str × Addr)} {pos : Pos} {Q : Value → Shared → Prop} (_F₀ : Fr h₀ L s.heap m)
    (hclos : closureFor scope env = pure cl) (hcell : ∀ y ∈ scope.names, y.2 ≠ .cell) (hkind : scope.kind = .function)
    (hnames : ∀ y ∈ scope.names, y.2 = .local → scope.names.lookup y.1 = some .local) (hx : scope.names.lookup x = some .local)
    (h : wpAny (model prog w) A (eval iter env) (SrcT prog w A h₀ L m env elt x scope cl (fun s₂ => LCg.FinE h₀ L m s₂ Q)) E s)
    (hs : ∀ x, foldedSetIterable iter env x = pure x := by intro _; rfl) :
    wpAny (model prog w) A (eval (.ListComp elt [⟨.Name x px, iter, [], 0⟩] scope pos) env) Q E s := by
  rw [eval_ListComp]
  refine wpAny_comprehension_free (use := none) rfl hs hclos hkind hnames (wpAny_mono h (fun xv s₁ h₁ => ?_) fun _ _ e => e)
  obtain ⟨ax, its, news, rfl, hh, F, N, S, hsz, R⟩ := h₁
  have hl := S.tup N
  have hlt : ax < s₁.heap.objs.size := by obtain ⟨_, e, _⟩ := hl; exact Heap.lt_size e
  refine wpAny_pyIter_tuple hl ?_
  have up : ∀ b o, s₁.heap.get? b = some o → (s₁.heap.push { cls := .type "tuple_iterator", data := .fields #[.ref ax, .int 0 0] }).get? b = some o := fun b o e => Heap.get?_push_of_some _ e
  refine LCg.block_U (Walks.tuple hh s₁.heap.objs.size ax (Nat.ne_of_lt hlt) its) hsz (fun i h st => by obtain ⟨o, e, _⟩ := st.1; exact ⟨o, e⟩)
    (fun i h h' o nw st e e' k N S => ⟨by obtain ⟨o', q, r⟩ := st.1; rw [e] at q; cases q; exact ⟨o, e', r⟩, S.tup N⟩) hcell hkind hx ⟨⟨_, Heap.get?_push_size _ rfl, rfl, rfl⟩, hl.push _⟩ (fun b hb => ?_)
    (F.keeps up) (N.grown up) (Nat.ne_of_lt F.ns.lt) (next_is_new F) (fun p hp => Nat.ne_of_lt (Heap.lt_size (N p hp).1)) S (R _ ⟨_, rfl⟩) ?_
  · show b < (s₁.heap.push _).objs.size
    rw [Heap.size_push]
    rcases List.mem_cons.mp hb with rfl | hb
    · exact Nat.lt_succ_self _
    · rw [List.mem_singleton.mp hb]; exact Nat.lt_succ_of_lt hlt
  · intro D C h tk m' ys news' F' N' o1 hn hC₀ hD₀ hCL hDL hCD offC fin
    refine ⟨m', hn, fun h'' hs'' => fin D h'' tk (F'.change hs'' hCL hC₀) (fun p hp => ?_) o1⟩
    refine ⟨hs''.extBut _ _ ?_ (N' p hp).1, (N' p hp).2⟩
    rcases List.mem_cons.mp hp with rfl | hp
    · exact Ne.symm hCD
    · exact offC p hp
theorem srcT3 {elt : Expr} {x : Str} {scope : Scope} {cl : List (Str × Addr)} {Fin : Shared → List Value → List (Addr × Obj) → Prop} {D : Addr} {a b c : Value} {news : List (Addr × Obj)} {s₁ : Shared}
    (hh : A.handled = none) (F : Fr h₀ L s₁.heap m) (N : News h₀ L s₁.heap ((D, { cls := .type "tuple", data := .seq #[a, b, c] }) :: news))
    (h : ∀ g, LCg.CompRest prog w A h₀ L m env elt x scope cl { s₁ with heap := g } (TupAt D #[a, b, c]) (fun i v => #[a, b, c][i]? = some v) (Fin { s₁ with heap := g }) 3 0 [] ((D, { cls := .type "tuple", data := .seq #[a, b, c] }) :: news)) :
    SrcT prog w A h₀ L m env elt x scope cl Fin (.ref D) s₁ := ⟨D, #[a, b, c], _, rfl, hh, F, N, ⟨_, List.Mem.head _, rfl, _, rfl⟩, by show 3 ≤ sizeLine; decide, fun _ ⟨g, e⟩ => e ▸ h g⟩
end
end Mine
namespace Mine
open PySem PySem.W PyProof.Rows PySem.Calls PySem.Spec
set_option maxRecDepth 100000
set_option maxHeartbeats 8000000
local macro_rules | `(tactic| walk_at $s:str) => `(tactic| k_extra $s)
theorem words_FULL_0 : True := by
  k_with_none
  (k_with "call ref" => (k_here; (with_reducible show wpAny _ _ (call (Value.ref 21) _) _ _ _); k_dflt (refine' c_imode ?zqk1 ?zqk2 ?zqk3 ?zqk4 ?zqk5 ?zqkK ?zqkd ?zqku  ?_; (case zqk1 => k_asm); (case zqk2 => k_asm); (case zqk3 => k_asm); (case zqk4 => k_asm); (case zqk5 => k_asm); (case zqkK => first | exact rfl | assumption); (case zqkd => ktr_room); (case zqku => ktr_units);  k_whole); intro y9 t9 h9 tk9 e9 a9 b9 F9 N9; (try dsimp only)))
  (k_with "call ref" => (k_here; (with_reducible show wpAny _ _ (call (Value.ref 28) _) _ _ _); k_dflt (refine' c_ifmt ?zqk1 ?zqk2 ?zqk3 ?zqk4 ?zqk5 ?zqkK ?zqkd ?zqku  ?_; (case zqk1 => k_asm); (case zqk2 => k_asm); (case zqk3 => k_asm); (case zqk4 => k_asm); (case zqk5 => k_asm); (case zqkK => first | exact rfl | assumption); (case zqkd => ktr_room); (case zqku => ktr_units);  k_whole); intro y9 t9 h9 tk9 e9 F9 N9; (try dsimp only)))
  (k_with "call ref" => (k_here; (with_reducible show wpAny _ _ (call (Value.ref 68) _) _ _ _); k_dflt (refine' c_fm ?zqk1 ?zqk2 ?zqk3 ?zqk4 ?zqk5 ?zqkK ?zqkd ?zqku  ?_; (case zqk1 => k_asm); (case zqk2 => k_asm); (case zqk3 => k_asm); (case zqk4 => k_asm); (case zqk5 => k_asm); (case zqkK => first | exact rfl | assumption); (case zqkd => ktr_room); (case zqku => ktr_units);  k_whole); intro y9 t9 h9 tk9 e9 a9 F9 N9; (try dsimp only)))
  (k_with "call ref" => (k_here; (with_reducible show wpAny _ _ (call (Value.ref 89) _) _ _ _); k_dflt (refine' c_part ?zqk1 ?zqk2 ?zqk3 ?zqk4 ?zqk5 ?zqkK ?zqkd ?zqku ?zqp0 ?zqp1 ?_; (case zqk1 => k_asm); (case zqk2 => k_asm); (case zqk3 => k_asm); (case zqk4 => k_asm); (case zqk5 => k_asm); (case zqkK => first | exact rfl | assumption); (case zqkd => ktr_room); (case zqku => ktr_units); (case zqp0 => first | assumption | omega | k_mem | rfl | exact slice10 (by assumption)); (case zqp1 => first | assumption | omega | k_mem | rfl | exact slice10 (by assumption)); k_whole); intro y9 t9 h9 tk9 e9 F9 N9; (try dsimp only)))
  (k_with "call ref" => (k_here; (with_reducible show wpAny _ _ (call (Value.ref 96) _) _ _ _); k_dflt (refine' c_block ?zqk1 ?zqk2 ?zqk3 ?zqk4 ?zqk5 ?zqkK ?zqkd ?zqku ?zqp0 ?zqp1 ?_; (case zqk1 => k_asm); (case zqk2 => k_asm); (case zqk3 => k_asm); (case zqk4 => k_asm); (case zqk5 => k_asm); (case zqkK => first | exact rfl | assumption); (case zqkd => ktr_room); (case zqku => ktr_units); (case zqp0 => first | assumption | omega | k_mem | rfl | exact slice10 (by assumption)); (case zqp1 => first | assumption | omega | k_mem | rfl | exact slice10 (by assumption)); k_whole); intro y9 t9 h9 tk9 e9 a9 F9 N9; (try dsimp only)))
  (k_with "call ref" => (k_here; (with_reducible show wpAny _ _ (call (Value.ref 75) _) _ _ _); k_dflt (refine' c_rgb ?zqk1 ?zqk2 ?zqk3 ?zqk4 ?zqk5 ?zqkK ?zqkd ?zqku ?zqp0 ?zqp1 ?zqp2 ?_; (case zqk1 => k_asm); (case zqk2 => k_asm); (case zqk3 => k_asm); (case zqk4 => k_asm); (case zqk5 => k_asm); (case zqkK => first | exact rfl | assumption); (case zqkd => ktr_room); (case zqku => ktr_units); (case zqp0 => first | assumption | omega | k_mem | rfl | exact slice10 (by assumption)); (case zqp1 => first | assumption | omega | k_mem | rfl | exact slice10 (by assumption)); (case zqp2 => first | assumption | omega | k_mem | rfl | exact slice10 (by assumption)); k_whole); intro D9 x9 y9 z9 t9 u9 v9 h9 tk9 e9 e8 e7 F9 N9 l9; (try k_lt l9); (try dsimp only)))
  (k_with "call ref" => (k_here; (with_reducible show wpAny _ _ (call (Value.ref 82) _) _ _ _); k_dflt (refine' c_hsv ?zqk1 ?zqk2 ?zqk3 ?zqk4 ?zqk5 ?zqkK ?zqkd ?zqku ?zqp0 ?zqp1 ?_; (case zqk1 => k_asm); (case zqk2 => k_asm); (case zqk3 => k_asm); (case zqk4 => k_asm); (case zqk5 => k_asm); (case zqkK => first | exact rfl | assumption); (case zqkd => ktr_room); (case zqku => ktr_units); (case zqp0 => first | assumption | omega | k_mem | rfl | exact slice10 (by assumption)); (case zqp1 => first | assumption | omega | k_mem | rfl | exact slice10 (by assumption)); k_whole); intro D9 x9 y9 z9 h9 tk9 r9 r8 r7 F9 N9 l9; (try k_lt l9); (try dsimp only)))
  (k_with "call ref" => (k_here; (with_reducible show wpAny _ _ (call (Value.ref 101) _) _ _ _); k_dflt (refine' c_mov ?zqk1 ?zqk2 ?zqk3 ?zqk4 ?zqk5 ?zqkK ?zqkd ?zqku ?zqp0 ?zqp1 ?_; (case zqk1 => k_asm); (case zqk2 => k_asm); (case zqk3 => k_asm); (case zqk4 => k_asm); (case zqk5 => k_asm); (case zqkK => first | exact rfl | assumption); (case zqkd => ktr_room); (case zqku => ktr_units); (case zqp0 => first | assumption | omega | k_mem | rfl | exact slice10 (by assumption)); (case zqp1 => first | assumption | omega | k_mem | rfl | exact slice10 (by assumption)); k_whole); intro D9 x9 y9 z9 t9 u9 v9 c9 h9 tk9 e9 F9 N9; (try dsimp only)))
  (k_with "binaryOp Sub int int" => (k_here; (with_reducible show wpAny _ _ (binaryOp Operator.Sub (Value.int (OfNat.ofNat _) _) (Value.int (OfNat.ofNat _) _)) _ _ _); (refine' subLit ?zqe ?_; (case zqe => ((try simp only [Int.reduceSub]); exact rfl)); k_whole)))
  (k_with "binaryOp Add int int" => (k_here; (with_reducible show wpAny _ _ (binaryOp Operator.Add (Value.int (OfNat.ofNat _) _) (Value.int (OfNat.ofNat _) _)) _ _ _); (refine' addLit ?zqe ?_; (case zqe => ((try simp only [Int.reduceAdd]); exact rfl)); k_whole)))
  (k_with "binaryOp Mult int int" => (k_here; first | ((with_reducible show wpAny _ _ (binaryOp Operator.Mult (Value.int (OfNat.ofNat _) _) (Value.int (OfNat.ofNat _) _)) _ _ _); (refine' mulLit ?zqe ?zqf ?_; (case zqe => ((try simp only [Int.reduceMul]); exact rfl)); (case zqf => decide); k_whole)) | ((with_reducible show wpAny _ _ (binaryOp Operator.Mult (Value.int _ _) (Value.int (OfNat.ofNat _) _)) _ _ _); (refine' mulR ?zqf ?_; (case zqf => decide); k_whole))))
  (k_with "binaryOp Pow int int" => (k_here; (with_reducible show wpAny _ _ (binaryOp Operator.Pow (Value.int (OfNat.ofNat _) _) (Value.int (OfNat.ofNat _) _)) _ _ _); (refine' powLit ?zqe ?zqf ?zqg ?zqi ?_; (case zqe => ((try simp only [Int.reduceToNat, Int.reducePow]); exact rfl)); (case zqf => decide); (case zqg => decide); (case zqi => decide); k_whole)))
  (k_with "binaryOp FloorDiv int int" => (k_here; (with_reducible show wpAny _ _ (binaryOp Operator.FloorDiv (Value.int _ _) (Value.int (OfNat.ofNat _) _)) _ _ _); (refine' fdivL ?zqe ?zqf ?_; (case zqe => decide); (case zqf => decide); k_whole)))
  (k_with "binaryOp Mod int int" => (k_here; (with_reducible show wpAny _ _ (binaryOp Operator.Mod (Value.int _ _) (Value.int (OfNat.ofNat _) _)) _ _ _); (refine' fmodL ?zqe ?_; (case zqe => decide); k_whole)))
  (k_with "eval ListComp" => (k_here; k_dflt (refine LCg.ListComp_U (F₀ := by k_asm) (by with_unfolding_all rfl) (by decide) (by rfl) (by decide) (by rfl) ?_); k_dflt lcg_toSrc))
  (k_with "exec Assign cons ListComp" => (k_here; k_dflt (refine LCg.Assign_ListComp_U (F₀ := by k_asm) (by rfl) (by with_unfolding_all rfl) (by with_unfolding_all rfl) (by decide) (by rfl) (by decide) (by rfl) (by rfl) (by rfl) ?_); k_dflt lcg_toSrc))
  (k_with "CompSrc" => (k_here; k_dflt (first | (refine LCg.CompSrc.ledger (by rfl) (by k_asm) (by k_asm) (by k_mem) (by first | size_fits | exact Nat.le_of_ble_eq_true rfl) ?_; intro g'; lcg_lit) | (refine LCg.CompSrc.range (by rfl) (by k_asm) (by k_asm) (by assumption) (by first | decide | rfl) (by first | rfl | decide) (by first | size_fits | exact Nat.le_of_ble_eq_true rfl) ?_; intro g'; lcg_lit))))
  (k_with "CompRest" => (with_unfolding_all first | (first | refine comp_succ (c := 0) (by rfl) ?_ | refine comp_succ (c := 1) (by rfl) ?_ | refine comp_succ (c := 2) (by rfl) ?_); intro t' I' oI' C' oC' D' m' h' tk' E' hC' hx' F' N' off'))
  (k_with "CompEnd" => (k_here; (rename News _ _ _ _ => nE'); (refine' LCg.CompEnd.intro ?zqf nE' _ ?zqsub ?zqoff ?zqsrc ?_; (case zqoff => assumption); (case zqf => assumption); (case zqsub => lcg_sub); (case zqsrc => first | lcg_src | exact ⟨_, by k_mem, rfl, _, rfl⟩); k_whole)))
  (k_with "FinE" => ((unfold LCg.FinE); intro D' h' tk' F' N' o1'; (replace o1' := off1X o1'); (try simp only [Off1X, and_true] at o1'); (repeat (obtain ⟨_, o1'⟩ := o1')); (try (repeat (with_reducible rename LCg.NsObj _ _ => z9; clear z9))); (try (repeat (with_reducible rename LCg.Off3 _ _ _ _ => z9; clear z9))); (try (repeat (with_reducible rename InElt _ _ => z9; clear z9))); (try (repeat (with_reducible rename IsRange _ _ _ _ _ _ _ _ => z9; clear z9))); (try simp only [List.nil_append, List.cons_append] at N'); (try dsimp only)))
  (k_with "FinA" => ((unfold LCg.FinA); intro D' h' tk' F' N' o1'; (replace o1' := off1X o1'); (try simp only [Off1X, and_true] at o1'); (repeat (obtain ⟨_, o1'⟩ := o1')); (try (repeat (with_reducible rename LCg.NsObj _ _ => z9; clear z9))); (try (repeat (with_reducible rename LCg.Off3 _ _ _ _ => z9; clear z9))); (try (repeat (with_reducible rename InElt _ _ => z9; clear z9))); (try (repeat (with_reducible rename IsRange _ _ _ _ _ _ _ _ => z9; clear z9))); (try simp only [List.nil_append, List.cons_append] at N'); (try dsimp only)))
  trivial
local macro_rules | `(tactic| k_ne) => `(tactic| (refine neN ?_; (try dsimp only); first | (with_reducible exact NeX.out (by assumption)) | (with_reducible exact NeX.symm (by assumption)) | omega))
theorem words_FULL_1 : True := by
  (k_with "subscriptTail Name Slice str ref" => (k_here; (with_reducible show wpAny _ _ (subscriptTail _ (Expr.Slice (some _) (some _) none _) _ _) _ _ _); (with_reducible rename Fr _ _ _ _ => F'); (with_reducible rename News _ _ _ _ => N'); (refine slice_strN_ss (hsz := ?zqhsz) (s := ⟨_, _, _, _, _⟩) F' N' ?_); (case zqhsz => exact len10 (by assumption)); intro _ _ _ _ _))
  (k_with "compareOp NotEq ref ref" => (k_here; refine Stop.out ?_))
  (k_with "exec For Name BoolOp cons nil" => (k_here; (rename Fr _ _ _ _ => lF'); (with_unfolding_all refine' For_invVF lF' ?zqk1 ?zqk2 ?_; (case zqk1 => exact rfl); (case zqk2 => exact rfl); k_whole); refine Stop.out ?_))
  (k_with "exec For Name Tuple cons nil" => (k_here; (rename Fr _ _ _ _ => lF'); (with_unfolding_all refine' For_invVF lF' ?zqk1 ?zqk2 ?_; (case zqk1 => exact rfl); (case zqk2 => exact rfl); k_whole)))
  (k_with "exec For Name Call cons nil" => (k_here; (rename Fr _ _ _ _ => lF'); (with_unfolding_all refine' For_invVF lF' ?zqk1 ?zqk2 ?_; (case zqk1 => exact rfl); (case zqk2 => exact rfl); k_whole)))
  (k_with "pyIter ref" => (k_here; (with_reducible show wpAny _ _ (pyIter (Value.ref _)) (fun it s₂ => LoopAtV _ _ _ _ _ _ _ _ _ it s₂) _ _); refine Stop.out ?_))
  (k_with "subscriptTail Name Constant ref int" => (k_here; (with_reducible show wpAny _ _ (subscriptTail _ _ (Value.ref _) (Value.int (OfNat.ofNat _) _)) _ _ _); (with_unfolding_all refine' itemL ?zqk1 ?zqk2 ?zqk3 ?zqk4 ?zqk5 ?zqk6 ?zqk7 ?_ ?zqk9; (case zqk1 => k_asm); (case zqk2 => k_mem); (case zqk3 => rfl); (case zqk4 => rfl); (case zqk5 => decide); (case zqk6 => decide); (case zqk7 => rfl); (case zqk9 => with_unfolding_all rfl); k_whole)))
  (k_with "subscriptTail Name Name ref int" => (k_here; (with_reducible show wpAny _ _ (subscriptTail _ _ (Value.ref _) (Value.int (OfNat.ofNat _) _)) _ _ _); (with_unfolding_all refine' itemL ?zqk1 ?zqk2 ?zqk3 ?zqk4 ?zqk5 ?zqk6 ?zqk7 ?_ ?zqk9; (case zqk1 => k_asm); (case zqk2 => k_mem); (case zqk3 => rfl); (case zqk4 => rfl); (case zqk5 => decide); (case zqk6 => decide); (case zqk7 => rfl); (case zqk9 => with_unfolding_all rfl); k_whole)))
  (k_with "eval IfExp" => (k_here; refine Stop.out ?_))
  (k_with "call ref" => (k_here; (with_reducible show wpAny _ _ (call (Value.ref 82) _) _ _ _); refine Stop.out ?_))
  (k_with "call builtin:round" => (k_here; (refine' round_rnd ?zqa ?zqb ?_; (case zqa => exact rfl); (case zqb => assumption); k_whole); intro t' tk'; (try dsimp only)))
  (k_with "eval ListComp" => (k_here; (with_reducible show wpAny _ _ (eval (Expr.ListComp _ [⟨_, Expr.Call (Expr.Name (Str.ofString "hsv_to_rgb") _) _ _ _, _, _⟩] _ _) _) _ _ _); k_dflt (refine ListComp_tup (by k_asm) (by with_unfolding_all rfl) (by decide) (by rfl) (by decide) (by rfl) ?_)))
  (k_with "CompRest" => (with_unfolding_all first | (first | refine comp_succV (i := 0) (by rfl) ?_ | refine comp_succV (i := 1) (by rfl) ?_ | refine comp_succV (i := 2) (by rfl) ?_); intro I' oI' C' oC' D' m' h' tk' E' hC' hx' F' N' off'))
  (k_with "binaryOp Add str str" => (k_here; refine Stop.out ?_))
  (k_with "compareOp NotEq str str" => (k_here; (with_reducible refine ne_same ?_)))
  trivial
local macro_rules | `(tactic| lcg_sub) => `(tactic| (intro p9 h9; (repeat (first | exact h9 | (refine List.Mem.tail _ ?_))); done))
theorem main : PySem.Challenge.rw_mq0213_01.Holds := Mine.hd (by
  w_on
  w_strict (k_go0; (all_goals try k_fold); (repeat' (first | (k_unfold; (try dsimp only)) | walk1 | (dsimp only; walk1))))
  refine Stop.mk' ?_
  rename Fr _ _ _ _ => F1
  rename News _ _ _ _ => N1
  refine join_or F1 N1 ?_ ?_
  · (repeat' (first | (k_unfold; (try dsimp only)) | walk1 | (dsimp only; walk1)))
    · refine ⟨_, _, _, _, _, _, rfl, rfl, by assumption, cb_drop (by assumption) (by intro p hp; rcases List.mem_cons.mp hp with rfl | hp; exact List.Mem.head _; exact List.Mem.tail _ (List.Mem.tail _ hp)), by assumption, ?_⟩
      (repeat' (first | exact List.forall_mem_nil _ | refine List.forall_mem_cons.mpr ⟨?_, ?_⟩)) <;> (dsimp only; refine ltN ?_; omega)
    · refine ⟨_, [_], [36180], _, _, _, rfl, rfl, by assumption, cb_drop (by assumption) (by intro p hp; rcases List.mem_cons.mp hp with rfl | hp; exact List.Mem.head _; exact List.Mem.tail _ (List.Mem.tail _ (List.Mem.tail _ hp))), ?_, ?_⟩
      · exact IntsAre.cons _ _ .nil
      · (repeat' (first | exact List.forall_mem_nil _ | refine List.forall_mem_cons.mpr ⟨?_, ?_⟩)) <;> (dsimp only; refine ltN ?_; omega)
  · intro l vs ns nn h5 tk5 F5 N5 I5 o5
    k_lt o5
    k_dflt (refine outer_loop ["rights", "parts", "text", "read", "h", "s", "v", "mirrored", "k", "hue", "moved", "number", "blocks"] (by rfl) F5 N5 I5 ⟨_, by assumption⟩ ⟨_, by assumption⟩ ⟨_, by assumption⟩ ?_ ?_)
    · intro I n t u h tk oI oM oT oR xM xT xR eM eT eR ho F N
      simp only [AllLt, and_true] at ho
      clear F1 N1 F5 N5
      (repeat' (first | (k_unfold; (try dsimp only)) | walk1 | (dsimp only; walk1)))
      refine Stop.mk' ?_
      with_reducible rename _ = Builtin.bitAnd _ 4095 => qr
      with_reducible rename _ = fmT _ => qf
      with_reducible rename _ = partT (Txt.slice _ (some 1) (some 4)) _ => q0
      with_reducible rename _ = partT (Txt.slice _ (some 4) (some 7)) _ => q1
      with_reducible rename _ = partT (Txt.slice _ (some 7) (some 10)) _ => q2
      obtain ⟨p, q, r, bp, bq, br, e0, e1, e2, f0, f1, f2⟩ := part_all qr qf (by assumption) (by assumption) q0 q1 q2
      with_reducible rename News _ _ _ _ => N2
      rw [f0, f1, f2] at N2
      clear q0 q1 q2 f0 f1 f2
      subst e0 e1 e2
      refine ne3 N2 (by k_mem) (by k_mem) (by rfl) (by rfl) (by rfl) (by rfl) (by units_room) ?_
      (repeat' (first | (k_unfold; (try dsimp only)) | walk1 | (dsimp only; walk1)))
      refine Stop.mk' ?_
      (try (repeat (with_reducible rename LCg.NsObj _ _ => z9; clear z9))); (try (repeat (with_reducible rename LCg.Off3 _ _ _ _ => z9; clear z9))); (try (repeat (with_reducible rename InElt _ _ => z9; clear z9))); (try (repeat (with_reducible rename IsRange _ _ _ _ _ _ _ _ => z9; clear z9)))
      with_reducible rename _ = hF _ _ _ => eh
      with_reducible rename _ = sF _ _ _ => es
      with_reducible rename _ = mx3 _ _ _ => ev
      obtain ⟨hv, ehv⟩ : ∃ z, z = hF p q r := ⟨_, rfl⟩
      obtain ⟨sv, esv⟩ : ∃ z, z = sF p q r := ⟨_, rfl⟩
      obtain ⟨vv, evv⟩ : ∃ z, z = mx3 p q r := ⟨_, rfl⟩
      have e3 := ehv.trans eh.symm
      have e4 := esv.trans es.symm
      have e5 := evv.trans ev.symm
      clear eh es ev
      subst e3 e4 e5
      with_reducible rename Fr _ _ _ _ => F2
      with_reducible rename News _ _ _ _ => N3
      k_dflt (refine mid_loop ["k", "hue", "moved", "number", "blocks"] (by rfl) F2 N3 ⟨_, by assumption⟩ ?_ ?_)
      · clear F2 N3
        intro J b u h tk oJ oM xM eM ho F N
        simp only [AllLt, and_true] at ho
        (repeat' (first | (k_unfold; (try dsimp only)) | walk1 | (dsimp only; walk1)))
        refine Stop.mk' ?_
        with_reducible rename Fr _ _ _ _ => F4
        with_reducible rename News _ _ _ _ => N4
        k_dflt (refine in_loop ["hue", "moved", "number", "blocks"] (by rfl) (by assumption) F4 N4 ⟨_, by assumption⟩ ?_ ?_)
        · clear F4 N4
          intro K k t u h tk oK oM xM bk eM ho F N
          simp only [AllLt, and_true] at ho
          (try (repeat (with_reducible rename LCg.NsObj _ _ => z9; clear z9))); (try (repeat (with_reducible rename LCg.Off3 _ _ _ _ => z9; clear z9))); (try (repeat (with_reducible rename InElt _ _ => z9; clear z9))); (try (repeat (with_reducible rename IsRange _ _ _ _ _ _ _ _ => z9; clear z9)))
          (repeat' (first | (k_unfold; (try dsimp only)) | walk1 | (dsimp only; walk1)))
          refine Stop.mk' ?_
          refine joinF (b := b) (X := Float64.sub 4607182418800017408 hv) (Y := hv) ?_ ?_ ?_
          · intro hb
            subst hb
            with_unfolding_all refine IfExp_ ?_
            (repeat' (first | (k_unfold; (try dsimp only)) | walk1 | (dsimp only; walk1)))
            all_goals exact ⟨_, _, rfl, rfl⟩
          · intro hb
            subst hb
            with_unfolding_all refine IfExp_ ?_
            (repeat' (first | (k_unfold; (try dsimp only)) | walk1 | (dsimp only; walk1)))
            all_goals exact ⟨_, _, rfl, rfl⟩
          intro t6 tk6
          (repeat' (first | (k_unfold; (try dsimp only)) | walk1 | (dsimp only; walk1)))
          refine Stop.mk' ?_
          obtain ⟨bv, okv, eqv, mx, my, mz, emv, bmx, bmy, bmz⟩ := ok_hue (b := b) bp bq br bk ehv esv evv
          k_dflt (refine' c_hsv ?k1 ?k2 ?k3 ?k4 ?k5 ?kK ?kd ?ku bv okv ?_; (case k1 => k_asm); (case k2 => k_asm); (case k3 => k_asm); (case k4 => k_asm); (case k5 => k_asm); (case kK => first | exact rfl | assumption); (case kd => ktr_room); (case ku => ktr_units); k_whole)
          intro D9 x9 y9 z9 h9 tk9 r9 r8 r7 F9 N9 l9
          k_lt l9
          rw [emv] at eqv
          injection eqv with g0 eqv
          injection eqv with g1 eqv
          injection eqv with g2 _
          rw [g0] at r9
          rw [g1] at r8
          rw [g2] at r7
          clear g0 g1 g2 okv
          k_dflt (refine srcT3 (by rfl) F9 N9 ?_)
          intro g7
          (repeat' (first | (k_unfold; (try dsimp only)) | walk1 | (dsimp only; walk1)))
          refine Stop.mk' ?_
          with_reducible rename [_, _, _] = movT _ _ _ => e9
          rw [emv] at e9
          injection e9 with g0 e9
          injection e9 with g1 e9
          injection e9 with g2 _
          have g0' := g0.symm
          have g1' := g1.symm
          have g2' := g2.symm
          clear g0 g1 g2
          subst g0' g1' g2'
          with_reducible rename News _ _ _ _ => N8
          refine ne3 N8 (by k_mem) (by k_mem) (by rfl) (by rfl) (by rfl) (by rfl) (by units_room) ?_
          (repeat' (first | (k_unfold; (try dsimp only)) | walk1 | (dsimp only; walk1)))
          refine Stop.mk' ?_
          with_reducible rename _ = blockT mx _ => eb0
          with_reducible rename _ = blockT my _ => eb1
          with_reducible rename _ = blockT mz _ => eb2
          with_reducible rename _ = fmT (_ + _) => eY
          with_reducible rename _ = Builtin.bitAnd _ 61440 => eF
          obtain ⟨eT, lT⟩ := txt_ok qf eF bmx bmy bmz eb0 eb1 eb2 eY
          refine add_str ?_ lT
          intro t7 tk7
          rw [eT]
          (repeat' (first | (k_unfold; (try dsimp only)) | walk1 | (dsimp only; walk1)))
          with_reducible rename Fr _ _ _ _ => F8
          with_reducible rename News _ _ _ _ => N9
          with_unfolding_all refine kx_next _ F8 N9 (by (dsimp only [Led10]; lcg_sub)) ⟨_, by assumption⟩ ?_
          (intro z h1 h2; (have h3 := h2); (simp only [List.contains_cons, List.contains_nil, Bool.or_false, Bool.or_eq_false_iff, beq_eq_false_iff_ne, ne_eq] at h2); (simp only [h1, h2, h3, if_false, Bool.false_eq_true]))
        · intro oM xM u h tk eM F N
          (repeat' (first | (k_unfold; (try dsimp only)) | walk1 | (dsimp only; walk1)))
          with_reducible rename Fr _ _ _ _ => F8
          with_reducible rename News _ _ _ _ => N9
          with_unfolding_all refine kx_next _ F8 N9 (by (dsimp only [Led9]; lcg_sub)) ⟨_, by assumption⟩ ?_
          (intro z h1 h2; (have h3 := h2); (simp only [List.contains_cons, List.contains_nil, Bool.or_false, Bool.or_eq_false_iff, beq_eq_false_iff_ne, ne_eq] at h2); (have h4 : (["hue", "moved", "number", "blocks"] : List Str).contains z = false := (by simp only [List.contains_cons, List.contains_nil, Bool.or_false, Bool.or_eq_false_iff, beq_eq_false_iff_ne, ne_eq, h2, not_false_eq_true, and_self])); (simp only [h1, h2, h3, h4, if_false, Bool.false_eq_true]))
      · intro oM xM u h tk eM F N
        (repeat' (first | (k_unfold; (try dsimp only)) | walk1 | (dsimp only; walk1)))
        with_reducible rename Fr _ _ _ _ => F8
        with_reducible rename News _ _ _ _ => N9
        with_unfolding_all refine kx_next (_, _, _) F8 N9 (by (dsimp only [Led6]; lcg_sub)) ⟨⟨_, by assumption⟩, ⟨_, by assumption⟩, ⟨_, by assumption⟩⟩ ?_
        (intro z h1 h2; (have h3 := h2); (simp only [List.contains_cons, List.contains_nil, Bool.or_false, Bool.or_eq_false_iff, beq_eq_false_iff_ne, ne_eq] at h2); (have h4 : (["hue", "moved", "number", "blocks"] : List Str).contains z = false := (by simp only [List.contains_cons, List.contains_nil, Bool.or_false, Bool.or_eq_false_iff, beq_eq_false_iff_ne, ne_eq, h2, not_false_eq_true, and_self])); (have h5 : (["k", "hue", "moved", "number", "blocks"] : List Str).contains z = false := (by simp only [List.contains_cons, List.contains_nil, Bool.or_false, Bool.or_eq_false_iff, beq_eq_false_iff_ne, ne_eq, h2, not_false_eq_true, and_self])); (simp only [h1, h2, h3, h4, h5, if_false, Bool.false_eq_true]))
    · intro h tk m nx F N
      k_steps)
theorem words_FULL_off : True := by k_with_none; trivial
end Mine
theorem PySem.Challenge.cw_mq0213_01_holds : PySem.Challenge.rw_mq0213_01.Holds :=
  Mine.main
