import PyProof.Rows.All
import Wide.All
import OpenK.AllK
import Wide.FinOn
import Lean
import PySem.Challenge.RW_aw5012_01
open PySem PySem.W PyProof.Rows
set_option Elab.async false
set_option maxRecDepth 100000
set_option maxHeartbeats 8000000
namespace Mine
open_top hd for PySem.Challenge.rw_aw5012_01
abbrev Led := List (Addr × Obj)
abbrev PG : Program := PySem.Challenge.rw_aw5012_01.row.prog
def bl (n : Int) : Int := (Builtin.Int.intBits n : Int)
structure F4 where
  s : Int
  m : Int
  e : Int
  b : Int
def F4.wf (x : F4) : Prop := (x.s = 0 ∨ x.s = 1) ∧ 0 < x.m ∧ x.m % 2 = 1 ∧ x.b = bl x.m
abbrev tupO (vs : Array Value) (n : Nat) : Obj := { cls := .type "tuple", data := .seq vs n }
inductive MV (news : Led) : Value → F4 → Prop
  | zero : MV news (.ref 22) ⟨0, 0, 0, 0⟩
  | made {a : Addr} {s m e b : Int} {ts tm te tb : Tok} {n : Nat} : (a, ({ cls := .type "tuple", data := .seq #[.int s ts, .int m tm, .int e te, .int b tb] n } : Obj)) ∈ news → F4.wf ⟨s, m, e, b⟩ → MV news (.ref a) ⟨s, m, e, b⟩
theorem MV.mono {news news' : Led} {v : Value} {x : F4} (h : MV news v x) (hs : ∀ p ∈ news, p ∈ news') : MV news' v x := by
  cases h with
  | zero => exact .zero
  | made h k => exact .made (hs _ h) k
/-- what a call of f with vs does, seen from any caller: a ledger that holds the old one, a value that is Out -/
def Does (w : World) (f : Addr) (vs : List Value) (news : Led) (Out : Led → Value → Prop) (sz : Nat) : Prop :=
  ∀ (p : Program) (loose : List Str) (mean : ExcName → Option Value) (mg mb : Str → Option Value) (dp un : Nat) (gd : Option (List Code)) (cn : Str) (cs : Scope) (a : Addr) (ccd : Value) (cl : List (Str × Addr)) (outer : List Env) (A₀ : Around) (base h₀ : Heap) (L : Addr) (m : Str → Option Value) (s : Shared) (Q E : Value → Shared → Prop),
    Below A₀ base outer h₀ → Fr h₀ L s.heap m → (Mine.hd.heap_39 w.params).In h₀ → News h₀ L s.heap news → Top p loose mean mg mb h₀ → cs.kind = .function → dp + sz < recursionLimit → un + 8 * sz + 200 < cLine →
    (∀ r news' h' tk', Fr h₀ L h' m → News h₀ L h' news' → (∀ q ∈ news, q ∈ news') → Out news' r → Q r { s with heap := h', toks := tk' }) →
    wpAny (model PG w) (ktrTop dp un gd cn cs L a ccd cl outer) (call (.ref f) vs) Q E s
theorem readsK {K : Frag} {h₀ h : Heap} {L a : Addr} {m : Str → Option Value} {o : Obj} {vs : Array Value} {n : Nat} {xs : List PyData} {as : List Addr} (F : Fr h₀ L h m) (X : K.In h₀) (ho : K.lookup a = some o) (hc : o.cls = .type "tuple")
    (hd : o.data = .seq vs n) (hi : ReadsAll h vs.toList xs as) : Reads h (.ref a) (.tuple xs) as := reads_tuple_at (F.keep _ _ (X _ _ ho)) hc hd hi
theorem retE {h₀ : Heap} {L : Addr} {m : Str → Option Value} {news : Led} {s : Shared} {Q : Value → Shared → Prop} {Out : Led → Value → Prop} {r : Value} {news' : Led} {h' : Heap} {tk' : Nat}
    (hret : ∀ r news' h' tk', Fr h₀ L h' m → News h₀ L h' news' → (∀ q ∈ news, q ∈ news') → Out news' r → Q r { s with heap := h', toks := tk' })
    (F : Fr h₀ L h' m) (N : News h₀ L h' news') (S : ∀ q ∈ news, q ∈ news') (O : Out news' r) : Q r { s with heap := h', toks := tk' } := hret r news' h' tk' F N S O
def tz (n : Nat) : Nat := if h : n = 0 ∨ n % 2 = 1 then 0 else tz (n / 2) + 1
termination_by n
decreasing_by omega
theorem tz_spec (n : Nat) (hn : n ≠ 0) : ∃ o, n = 2 ^ tz n * (2 * o + 1) := by
  induction n using Nat.strongRecOn with
  | _ n ih =>
    unfold tz
    by_cases h : n = 0 ∨ n % 2 = 1
    · rw [dif_pos h]
      exact ⟨n / 2, by rw [Nat.pow_zero, Nat.one_mul]; omega⟩
    · rw [dif_neg h]
      obtain ⟨o, ho⟩ := ih (n / 2) (by omega) (by omega)
      refine ⟨o, ?_⟩
      rw [Nat.pow_succ, Nat.mul_comm (2 ^ _) 2, Nat.mul_assoc, ← ho]
      omega
theorem tz_of (t o : Nat) : tz (2 ^ t * (2 * o + 1)) = t := by
  induction t with
  | zero => unfold tz; rw [dif_pos (by right; rw [Nat.pow_zero, Nat.one_mul]; omega)]
  | succ t ih =>
    have hp : 0 < 2 ^ t * (2 * o + 1) := Nat.mul_pos (Nat.two_pow_pos t) (by omega)
    have e : 2 ^ (t + 1) * (2 * o + 1) = 2 * (2 ^ t * (2 * o + 1)) := by rw [Nat.pow_succ, Nat.mul_comm (2 ^ t) 2, Nat.mul_assoc]
    rw [e]
    unfold tz
    rw [dif_neg (by omega)]
    rw [show 2 * (2 ^ t * (2 * o + 1)) / 2 = 2 ^ t * (2 * o + 1) by omega, ih]
def od (n : Nat) : Nat := n / 2 ^ tz n
theorem od_of (t o : Nat) : od (2 ^ t * (2 * o + 1)) = 2 * o + 1 := by
  unfold od
  rw [tz_of, Nat.mul_div_cancel_left _ (Nat.two_pow_pos t)]
theorem bl_scale (t : Nat) (m : Nat) (hm : 0 < m) : Builtin.Int.intBits ((2 ^ t * m : Nat) : Int) = Builtin.Int.intBits (m : Int) + t := by
  have h1 := @intBits_le_iff
  have a : ∀ x : Nat, Builtin.Int.intBits (m : Int) ≤ x ↔ Builtin.Int.intBits ((2 ^ t * m : Nat) : Int) ≤ x + t := by
    intro x
    rw [h1, h1, Int.natAbs_natCast, Int.natAbs_natCast, Nat.add_comm x t, Nat.pow_add]
    exact (Nat.mul_lt_mul_left (Nat.two_pow_pos t)).symm
  have c := (a (Builtin.Int.intBits (m : Int))).mp (Nat.le_refl _)
  have lo : t ≤ Builtin.Int.intBits ((2 ^ t * m : Nat) : Int) := by
    rcases Nat.lt_or_ge (Builtin.Int.intBits ((2 ^ t * m : Nat) : Int)) t with h | h
    · have := h1.mp (Nat.le_of_lt h)
      rw [Int.natAbs_natCast] at this
      exact absurd this (by
        have := Nat.mul_le_mul_left (2 ^ t) hm
        omega)
    · exact h
  have d := (a (Builtin.Int.intBits ((2 ^ t * m : Nat) : Int) - t)).mpr (by omega)
  omega
def sg (s : Int) : Int := if s = 0 then 1 else -1
def enc (k e : Int) : F4 := if k = 0 then ⟨0, 0, 0, 0⟩ else ⟨if k < 0 then 1 else 0, (od k.natAbs : Int), e + tz k.natAbs, bl (od k.natAbs : Int)⟩
theorem enc_zero (e : Int) : enc 0 e = ⟨0, 0, 0, 0⟩ := if_pos rfl
theorem enc_of (s e : Int) (t o : Nat) (hs : s = 0 ∨ s = 1) : enc (sg s * ((2 ^ t * (2 * o + 1) : Nat) : Int)) e = ⟨s, ((2 * o + 1 : Nat) : Int), e + t, bl ((2 * o + 1 : Nat) : Int)⟩ := by
  have hp : 0 < 2 ^ t * (2 * o + 1) := Nat.mul_pos (Nat.two_pow_pos t) (by omega)
  have ht := tz_of t o
  have ho := od_of t o
  generalize 2 ^ t * (2 * o + 1) = n at hp ht ho
  unfold enc sg
  have hp' : (0 : Int) < n := by omega
  rcases hs with rfl | rfl
  · rw [if_pos rfl, Int.one_mul, if_neg (by omega), if_neg (by omega), Int.natAbs_natCast, ht, ho]
  · rw [show (if (1 : Int) = 0 then (1 : Int) else -1) = -1 from rfl, Int.neg_mul, Int.one_mul, if_neg (by omega), if_pos (by omega), Int.natAbs_neg, Int.natAbs_natCast, ht, ho]
theorem sg_cases {s : Int} (hs : s = 0 ∨ s = 1) : s = 0 ∧ sg s = 1 ∨ s = 1 ∧ sg s = -1 := by
  rcases hs with rfl | rfl
  · exact .inl ⟨rfl, rfl⟩
  · exact .inr ⟨rfl, rfl⟩
/-- a tuple in normal form is the code of its number -/
theorem enc_wf {s m e b : Int} (h : F4.wf ⟨s, m, e, b⟩) (j : Nat) : enc (sg s * m * 2 ^ j) (e - j) = ⟨s, m, e, b⟩ := by
  obtain ⟨hs, hm, ho, hb⟩ := h
  dsimp only at hs hm ho hb
  obtain ⟨o, rfl⟩ : ∃ o : Nat, m = ((2 * o + 1 : Nat) : Int) := ⟨(m / 2).toNat, by omega⟩
  have := enc_of s (e - j) j o hs
  rw [show e - (j : Int) + (j : Int) = e by omega] at this
  rw [hb, ← this, Int.mul_assoc]
  congr 2
  rw [Int.mul_comm, Int.natCast_mul (2 ^ j), Int.natCast_pow]
  rfl
theorem enc_out (k e : Int) (hk : k ≠ 0) : ∃ (s m b : Int) (j : Nat), enc k e = ⟨s, m, e + j, b⟩ ∧ F4.wf ⟨s, m, e + j, b⟩ ∧ k = sg s * m * 2 ^ j := by
  obtain ⟨o, ho⟩ := tz_spec k.natAbs (by omega)
  generalize tz k.natAbs = t at ho
  have key : ∀ s : Int, (s = 0 ∨ s = 1) → k = sg s * ((2 ^ t * (2 * o + 1) : Nat) : Int) → ∃ (s m b : Int) (j : Nat), enc k e = ⟨s, m, e + j, b⟩ ∧ F4.wf ⟨s, m, e + j, b⟩ ∧ k = sg s * m * 2 ^ j := by
    intro s hs hk
    refine ⟨s, ((2 * o + 1 : Nat) : Int), bl ((2 * o + 1 : Nat) : Int), t, ?_, ⟨hs, ?_, ?_, rfl⟩, ?_⟩
    · rw [hk]; exact enc_of s e t o hs
    · dsimp only; omega
    · dsimp only; omega
    · rw [hk, Int.mul_assoc]
      congr 1
      rw [Int.natCast_mul (2 ^ t), Int.natCast_pow]
      exact Int.mul_comm _ _
  by_cases h : k < 0
  · exact key 1 (.inr rfl) (by rw [show sg 1 = -1 from rfl]; omega)
  · exact key 0 (.inl rfl) (by rw [show sg 0 = 1 from rfl]; omega)
theorem pow_pos' (j : Nat) : (0 : Int) < 2 ^ j := kbt_pos j
theorem pow_add' (i j : Nat) : (2 : Int) ^ (i + j) = 2 ^ i * 2 ^ j := Int.pow_add 2 i j
theorem enc_scale (k e : Int) (j : Nat) : enc (k * 2 ^ j) (e - j) = enc k e := by
  by_cases hk : k = 0
  · subst hk; rw [Int.zero_mul, enc_zero, enc_zero]
  · obtain ⟨s, m, b, i, h1, h2, h3⟩ := enc_out k e hk
    rw [h1, ← enc_wf h2 (i + j), h3, pow_add', ← Int.mul_assoc]
    congr 1
    omega
theorem enc_scale' (k e : Int) (j : Nat) : enc (k * 2 ^ j) e = enc k (e + j) := by
  have := enc_scale k (e + j) j
  rwa [show e + (j : Int) - j = e by omega] at this
theorem enc_inj (a b e : Int) : enc a e = enc b e ↔ a = b := by
  constructor
  · intro h
    by_cases ha : a = 0
    · by_cases hb : b = 0
      · rw [ha, hb]
      · obtain ⟨s, m, b', i, h1, h2, h3⟩ := enc_out b e hb
        rw [ha, enc_zero, h1] at h
        have := congrArg F4.m h
        have h2 := h2.2.1
        dsimp only at this h2
        omega
    · obtain ⟨s, m, b', i, h1, h2, h3⟩ := enc_out a e ha
      by_cases hb : b = 0
      · rw [hb, enc_zero, h1] at h
        have := congrArg F4.m h
        have h2 := h2.2.1
        dsimp only at this h2
        omega
      · obtain ⟨s', m', b'', i', h1', h2', h3'⟩ := enc_out b e hb
        rw [h1, h1'] at h
        have e1 := congrArg F4.s h
        have e2 := congrArg F4.m h
        have e3 := congrArg F4.e h
        dsimp only at e1 e2 e3
        have : i = i' := by omega
        rw [h3, h3', e1, e2, this]
  · rintro rfl; rfl
theorem enc_m_zero (k e : Int) : (enc k e).m = 0 ↔ k = 0 := by
  constructor
  · intro h
    by_cases hk : k = 0
    · exact hk
    · obtain ⟨s, m, b', i, h1, h2, h3⟩ := enc_out k e hk
      rw [h1] at h
      have h2 := h2.2.1
      dsimp only at h h2
      omega
  · rintro rfl; rw [enc_zero]
-- what _normalize makes of a mantissa that is not rounded
theorem nat_of_pos {m : Int} (h : 0 < m) : ∃ t o : Nat, m = ((2 ^ t * (2 * o + 1) : Nat) : Int) ∧ m.toNat = 2 ^ t * (2 * o + 1) := by
  obtain ⟨o, ho⟩ := tz_spec m.toNat (by omega)
  exact ⟨_, o, by omega, ho⟩
theorem trail {m : Int} (h : 0 < m) : (Builtin.Int.intBits (Builtin.bitAnd m (-m)) : Int) - 1 = (tz m.toNat : Int) := by
  obtain ⟨t, o, h1, h2⟩ := nat_of_pos h
  rw [h2, tz_of]
  have e : m = 2 ^ t * (2 * (o : Int) + 1) := by rw [h1, Int.natCast_mul, Int.natCast_pow]; rfl
  rw [e, kbt_low]
  have := bl_scale t 1 (by decide)
  rw [Nat.mul_one, Int.natCast_pow] at this
  rw [show ((2 : Nat) : Int) = 2 from rfl] at this
  rw [this, show Builtin.Int.intBits ((1 : Nat) : Int) = 1 from by decide]
  omega
theorem norm_odd {s m e : Int} (hs : s = 0 ∨ s = 1) (hm : 0 < m) (ho : m % 2 = 1) : (⟨s, m, e, bl m⟩ : F4) = enc (sg s * m) e := by
  have := enc_wf (s := s) (m := m) (e := e) (b := bl m) ⟨hs, hm, ho, rfl⟩ 0
  rw [← this]
  simp
theorem norm_even {s m e : Int} (hs : s = 0 ∨ s = 1) (hm : 0 < m) : (⟨s, m.fdiv (2 ^ tz m.toNat), e + tz m.toNat, bl m - tz m.toNat⟩ : F4) = enc (sg s * m) e := by
  obtain ⟨t, o, h1, h2⟩ := nat_of_pos hm
  rw [h2, tz_of]
  rw [h1, enc_of s e t o hs]
  have e1 : ((2 ^ t * (2 * o + 1) : Nat) : Int).fdiv (2 ^ t) = ((2 * o + 1 : Nat) : Int) := by
    rw [Int.fdiv_eq_ediv_of_nonneg _ (Int.le_of_lt (pow_pos' t)), Int.natCast_mul, Int.natCast_pow]
    exact Int.mul_ediv_cancel_left _ (Int.ne_of_gt (pow_pos' t))
  have e2 : bl ((2 ^ t * (2 * o + 1) : Nat) : Int) - t = bl ((2 * o + 1 : Nat) : Int) := by
    unfold bl
    rw [bl_scale t (2 * o + 1) (by omega)]
    omega
  rw [e1, e2]
theorem even_one {m : Int} (hm : 0 < m) (h : m.fdiv (2 ^ tz m.toNat) = 1) : bl m - tz m.toNat = 1 := by
  obtain ⟨t, o, h1, h2⟩ := nat_of_pos hm
  rw [h2, tz_of] at h ⊢
  rw [h1] at h ⊢
  rw [Int.fdiv_eq_ediv_of_nonneg _ (Int.le_of_lt (pow_pos' t)), Int.natCast_mul, Int.natCast_pow] at h
  rw [show ((2 : Nat) : Int) = 2 from rfl, Int.mul_ediv_cancel_left _ (Int.ne_of_gt (pow_pos' t))] at h
  unfold bl
  rw [bl_scale t (2 * o + 1) (by omega), h]
  rw [show Builtin.Int.intBits 1 = 1 from by decide]
  omega
theorem even_pos {m : Int} (hm : 0 < m) : 0 < m.fdiv (2 ^ tz m.toNat) ∧ m.fdiv (2 ^ tz m.toNat) % 2 = 1 := by
  obtain ⟨t, o, h1, h2⟩ := nat_of_pos hm
  rw [h2, tz_of]
  rw [h1]
  rw [Int.fdiv_eq_ediv_of_nonneg _ (Int.le_of_lt (pow_pos' t)), Int.natCast_mul, Int.natCast_pow]
  rw [show ((2 : Nat) : Int) = 2 from rfl, Int.mul_ediv_cancel_left _ (Int.ne_of_gt (pow_pos' t))]
  omega
def OutI (c : Int) : Led → Value → Prop := fun _ r => ∃ t, r = .int c t
def OutB (c : Bool) : Led → Value → Prop := fun _ r => r = .bool c
def OutM (x : F4) : Led → Value → Prop := fun l r => MV l r x
inductive IV (news : Led) : Value → F4 → F4 → Prop
  | mk {a : Addr} {v u : Value} {n : Nat} {x y : F4} : (a, ({ cls := .type "tuple", data := .seq #[v, u] n } : Obj)) ∈ news → MV news v x → MV news u y → IV news (.ref a) x y
theorem IV.mono {news news' : Led} {v : Value} {x y : F4} (h : IV news v x y) (hs : ∀ p ∈ news, p ∈ news') : IV news' v x y := by
  cases h with
  | mk h k l => exact .mk (hs _ h) (k.mono hs) (l.mono hs)
def OutP (x y : F4) : Led → Value → Prop := fun l r => IV l r x y
inductive Spl : Led → Led → Led → Prop
  | cons {e : Addr × Obj} {l pre rest : Led} : Spl l pre rest → Spl (e :: l) (e :: pre) rest
  | nil {l : Led} : Spl l [] l
theorem Spl.eq {l pre rest : Led} (h : Spl l pre rest) : l = pre ++ rest := by
  induction h with
  | cons _ ih => rw [ih]; rfl
  | nil => rfl
theorem news_app {h₀ h : Heap} {L : Addr} {pre rest rest' : Led} (N : News h₀ L h rest') (hs : ∀ q ∈ pre ++ rest, q ∈ rest') : News h₀ L h (pre ++ rest') := by
  intro p hp
  rcases List.mem_append.mp hp with h | h
  · exact N p (hs p (List.mem_append.mpr (.inl h)))
  · exact N p h
section
variable {w : World} {f : Addr} {vs : List Value} {news pre rest : Led} {Out : Led → Value → Prop} {sz : Nat} {p : Program} {loose : List Str} {mean : ExcName → Option Value} {mg mb : Str → Option Value} {dp un : Nat} {gd : Option (List Code)} {cn : Str} {cs : Scope} {a : Addr} {ccd : Value} {cl : List (Str × Addr)} {outer : List Env} {A₀ : Around} {base h₀ : Heap} {L : Addr} {m : Str → Option Value} {s : Shared} {Q E : Value → Shared → Prop}
theorem use (D : Does w f vs news Out sz) (S : Spl news pre rest) (B : Below A₀ base outer h₀) (F : Fr h₀ L s.heap m) (X : (Mine.hd.heap_39 w.params).In h₀) (N : News h₀ L s.heap news) (T : Top p loose mean mg mb h₀) (hk : cs.kind = .function)
    (hd : dp + sz < recursionLimit) (hu : un + 8 * sz + 200 < cLine)
    (ret : ∀ r rest' h' tk', Fr h₀ L h' m → News h₀ L h' (pre ++ rest') → (∀ q ∈ rest, q ∈ rest') → Out rest' r → Q r { s with heap := h', toks := tk' }) :
    wpAny (model PG w) (ktrTop dp un gd cn cs L a ccd cl outer) (call (.ref f) vs) Q E s := by
  obtain rfl := S.eq
  exact D p loose mean mg mb dp un gd cn cs a ccd cl outer A₀ base h₀ L m s Q E B F X N T hk hd hu fun r news' h' tk' F' N' hs ho =>
    ret r news' h' tk' F' (news_app N' hs) (fun q hq => hs q (List.mem_append.mpr (.inr hq))) ho
theorem useI {c : Int} (D : Does w f vs news (OutI c) sz) (B : Below A₀ base outer h₀) (F : Fr h₀ L s.heap m) (X : (Mine.hd.heap_39 w.params).In h₀) (N : News h₀ L s.heap news) (T : Top p loose mean mg mb h₀) (hk : cs.kind = .function)
    (hd : dp + sz < recursionLimit) (hu : un + 8 * sz + 200 < cLine)
    (ret : ∀ t h' tk', Fr h₀ L h' m → News h₀ L h' news → Q (.int c t) { s with heap := h', toks := tk' }) :
    wpAny (model PG w) (ktrTop dp un gd cn cs L a ccd cl outer) (call (.ref f) vs) Q E s :=
  D p loose mean mg mb dp un gd cn cs a ccd cl outer A₀ base h₀ L m s Q E B F X N T hk hd hu fun r news' h' tk' F' N' hs ho => by
    obtain ⟨t, rfl⟩ := ho
    exact ret t h' tk' F' (cb_drop N' hs)
theorem useB {c : Bool} (D : Does w f vs news (OutB c) sz) (B : Below A₀ base outer h₀) (F : Fr h₀ L s.heap m) (X : (Mine.hd.heap_39 w.params).In h₀) (N : News h₀ L s.heap news) (T : Top p loose mean mg mb h₀) (hk : cs.kind = .function)
    (hd : dp + sz < recursionLimit) (hu : un + 8 * sz + 200 < cLine)
    (ret : ∀ h' tk', Fr h₀ L h' m → News h₀ L h' news → Q (.bool c) { s with heap := h', toks := tk' }) :
    wpAny (model PG w) (ktrTop dp un gd cn cs L a ccd cl outer) (call (.ref f) vs) Q E s :=
  D p loose mean mg mb dp un gd cn cs a ccd cl outer A₀ base h₀ L m s Q E B F X N T hk hd hu fun r news' h' tk' F' N' hs ho => by
    obtain rfl : r = .bool c := ho
    exact ret h' tk' F' (cb_drop N' hs)
end
example : PySem.Challenge.rw_aw5012_01 = PySem.Challenge.rw_aw5012_01 ∧ Mine.hd.heap_39 = Mine.hd.heap_39 := by
  k_fill
  exact ⟨rfl, rfl⟩
local macro_rules | `(tactic| ked_read) => `(tactic| (refine' readsK ?F ?X ?l ?c ?d ?i; (case F => k_asm); (case X => k_asm); (case l => k_is); (case c => rfl); (case d => rfl); (case i => ked_reads)))
local macro_rules | `(tactic| units_room) => `(tactic| (have hcL' := cLine_is; (try simp only [units_in1, units_deeper, Around.mark_units]); (try dsimp only [ktrTop]); omega))
local macro_rules | `(tactic| k_mem) => `(tactic| (show (_ : CbAddr × CbObj) ∈ (_ : CbLed); ktr_member))
local macro_rules | `(tactic| ktr_rel) => `(tactic| (refine' kd_use ?kuh ?kus; (case kus => with_reducible assumption); (case kuh => first | with_reducible assumption | ktr_rel)))
local macro_rules | `(tactic| ktn_ord) => `(tactic| (intro q9 h9; (repeat' (refine' List.Mem.tail _ ?_)); ktr_rel))
local macro_rules | `(tactic| ktn_ord) => `(tactic| first | exact fun _ h => h | exact fun _ h => List.mem_cons_of_mem _ h | assumption | (intro q9 h9; simp only [List.mem_cons, h9, or_true]; done))
local macro_rules | `(tactic| k_dec) => `(tactic| (law_clear; (try simp only [bne_iff_ne, beq_iff_eq, Bool.not_eq_true', Bool.not_eq_false', bne_eq_false_iff_eq, beq_eq_false_iff_ne, decide_eq_true_eq, decide_eq_false_iff_not, Bool.and_eq_true, Bool.or_eq_true, Bool.and_eq_false_iff, Bool.or_eq_false_iff, Bool.not_eq_true, ne_eq, Decidable.not_not]) <;> omega))
local macro_rules | `(tactic| walk_at "ite") => `(tactic| (k_openite; first
  | (refine ite_pos (by k_dec) ?_)
  | (refine ite_neg (by k_dec) ?_)))
local macro_rules | `(tactic| walk_at "eval Name") => `(tactic| (k_here; k_dflt (refine' nameX_K ?F ?X ?T ?e ?_ ?a ?b; (case F => k_asm); (case X => k_asm); (case T => k_asm); (case a => rfl); (case b => rfl); (case e => k_is); k_whole)))
local macro_rules | `(tactic| walk_at "eval Name") => `(tactic| (k_here; k_dflt (refine' nameX_L ?F ?v ?_ ?a ?b; (case F => k_asm); (case a => rfl); (case b => kernel_rfl); (case v => rfl); k_whole)))
theorem outM_made {a : Addr} {s m e b : Int} {ts tm te tb : Tok} {n : Nat} {news : Led} {x : F4} (hx : x = ⟨s, m, e, b⟩ ∧ F4.wf ⟨s, m, e, b⟩)
    (hm : (a, ({ cls := .type "tuple", data := .seq #[.int s ts, .int m tm, .int e te, .int b tb] n } : Obj)) ∈ news) : OutM x news (.ref a) := by
  obtain ⟨rfl, hw⟩ := hx
  exact MV.made hm hw
theorem outM_zero {news : Led} {k e : Int} (hk : k = 0) : OutM (enc k e) news (.ref 22) := by
  subst hk
  rw [enc_zero]
  exact MV.zero
theorem odd_of_and {m : Int} (h : Builtin.bitAnd m 1 ≠ 0) : m % 2 = 1 := by
  rw [bitAnd_m1] at h
  omega
theorem even_of_and {m : Int} (h : Builtin.bitAnd m 1 = 0) : m % 2 = 0 := by
  rw [bitAnd_m1] at h
  omega
theorem norm_e2 {s m e b : Int} (hs : s = 0 ∨ s = 1) (hm : 0 ≤ m) (h0 : m ≠ 0) (hb : b = bl m) (ho : Builtin.bitAnd m 1 ≠ 0) : enc (sg s * m) e = ⟨s, m, e, b⟩ ∧ F4.wf ⟨s, m, e, b⟩ := by
  subst hb
  exact ⟨(norm_odd hs (by omega) (odd_of_and ho)).symm, hs, by dsimp only; omega, odd_of_and ho, rfl⟩
theorem norm_e1 {s m e : Int} (hs : s = 0 ∨ s = 1) (ho : Builtin.bitAnd m 1 ≠ 0) (h1 : m = 1) : enc (sg s * m) e = ⟨s, m, e, 1⟩ ∧ F4.wf ⟨s, m, e, 1⟩ := by
  subst h1
  exact norm_e2 hs (by decide) (by decide) (by decide) ho
theorem norm_e4 {s m e b : Int} (hs : s = 0 ∨ s = 1) (hm : 0 ≤ m) (h0 : m ≠ 0) (hb : b = bl m) : enc (sg s * m) e = ⟨s, m.fdiv (2 ^ (tz m.toNat : Int).toNat), e + tz m.toNat, b - tz m.toNat⟩ ∧ F4.wf ⟨s, m.fdiv (2 ^ (tz m.toNat : Int).toNat), e + tz m.toNat, b - tz m.toNat⟩ := by
  subst hb
  rw [Int.toNat_natCast]
  have h := norm_even (e := e) hs (show 0 < m by omega)
  have p := even_pos (show 0 < m by omega)
  refine ⟨h.symm, hs, p.1, p.2, ?_⟩
  dsimp only
  have : F4.wf (enc (sg s * m) e) := by
    obtain ⟨s', m', b', j, e1, e2, _⟩ := enc_out (sg s * m) e (by
      rcases sg_cases hs with ⟨_, q⟩ | ⟨_, q⟩ <;> rw [q] <;> omega)
    rw [e1]; exact e2
  rw [← h] at this
  exact this.2.2.2
theorem norm_e3 {s m e b : Int} (hs : s = 0 ∨ s = 1) (hm : 0 ≤ m) (h0 : m ≠ 0) (hb : b = bl m) (h1 : m.fdiv (2 ^ (tz m.toNat : Int).toNat) = 1) : enc (sg s * m) e = ⟨s, m.fdiv (2 ^ (tz m.toNat : Int).toNat), e + tz m.toNat, 1⟩ ∧ F4.wf ⟨s, m.fdiv (2 ^ (tz m.toNat : Int).toNat), e + tz m.toNat, 1⟩ := by
  have h := norm_e4 (e := e) hs hm h0 hb
  rw [Int.toNat_natCast] at h h1
  rw [Int.toNat_natCast]
  have q := even_one (show 0 < m by omega) h1
  rw [← hb] at q
  rw [q] at h
  exact h
theorem does_trailing (w : World) (news : Led) (n : Int) (t : Tok) (hn : 0 ≤ n) : Does w 21 [.int n t] news (OutI (tz n.toNat)) 3 := by
  unfold Does
  intro p loose mean mg mb dp un gd cn cs a ccd cl outer A₀ base h₀ L m s Q E B F X N T hk hd hu hret
  (refine wpAny_call ?_; k_dflt (refine' code_def ?k1 ?k2 ?k3 ?k4 ?k5 ?kA ?kF ?kK ?k6 ?k7 ?k8 ?k9 ?kB ?_ ?c2 ?c3 ?c4 ?c5; (case kA => exact rfl); (case kF => exact rfl); (case kK => assumption); (case k1 => k_asm); (case k2 => k_asm); (case k3 => k_asm); (case k4 => k_asm); (case k5 => k_asm); (case k6 => k_is); (case k7 => k_is); (case k8 => ktr_room); (case k9 => first | exact BindsTo.of_eq rfl | exact binds_K (by k_in) rfl (by k_is) rfl rfl rfl); (case c5 => decide); (case kB => exact locs rfl); (case c2 => exact rfl); (case c3 => exact rfl); (case c4 => exact rfl); k_whole; intro g' L' h' FG' F' N' B' X' T'; (try dsimp only); (try k_fold)); k_steps)
  all_goals (refine retE hret (by k_asm) (by k_asm) (by ktn_ord) ?_)
  · exact ⟨_, congrArg (Value.int · _) (trail (by omega))⟩
  · have h0 : n = 0 := by omega
    subst h0
    exact ⟨_, congrArg (Value.int · _) (by rw [show Int.toNat 0 = 0 from rfl]; unfold tz; rfl)⟩
local macro_rules | `(tactic| walk_at "call ref") => `(tactic| (k_here; (with_reducible show wpAny _ _ (call (Value.ref 21) [Value.int _ _]) _ _ _); k_dflt (refine' useI (does_trailing _ _ _ _ ?p1) ?B ?F ?X ?N ?T ?hk ?hd ?hu ?_; (case F => k_asm); (case N => k_asm); (case p1 => first | assumption | omega); (case B => k_asm); (case X => k_asm); (case T => k_asm); (case hk => first | exact rfl | assumption); (case hd => ktr_room); (case hu => ktr_units); k_whole; intro t9 h9 tk9 F9 N9; (try k_sweep))))
theorem does_norm0 (w : World) (news : Led) (sign man exp bc prec : Int) (rnd : Str) (t1 t2 t3 t4 t5 t6 : Tok) (hs : sign = 0 ∨ sign = 1) (hm : 0 ≤ man) (hb : bc = bl man) (hp : bc ≤ prec) :
    Does w 38 [.int sign t1, .int man t2, .int exp t3, .int bc t4, .int prec t5, .str rnd t6] news (OutM (enc (sg sign * man) exp)) 5 := by
  unfold Does
  intro p loose mean mg mb dp un gd cn cs a ccd cl outer A₀ base h₀ L m s Q E B F X N T hk hd hu hret
  (refine wpAny_call ?_; k_dflt (refine' code_def ?k1 ?k2 ?k3 ?k4 ?k5 ?kA ?kF ?kK ?k6 ?k7 ?k8 ?k9 ?kB ?_ ?c2 ?c3 ?c4 ?c5; (case kA => exact rfl); (case kF => exact rfl); (case kK => assumption); (case k1 => k_asm); (case k2 => k_asm); (case k3 => k_asm); (case k4 => k_asm); (case k5 => k_asm); (case k6 => k_is); (case k7 => k_is); (case k8 => ktr_room); (case k9 => first | exact BindsTo.of_eq rfl | exact binds_K (by k_in) rfl (by k_is) rfl rfl rfl); (case c5 => decide); (case kB => exact locs rfl); (case c2 => exact rfl); (case c3 => exact rfl); (case c4 => exact rfl); k_whole; intro g' L' h' FG' F' N' B' X' T'; (try dsimp only); (try k_fold)); k_steps)
  all_goals (refine retE hret (by k_asm) (by k_asm) (by ktn_ord) ?_)
  · exact outM_made (norm_e1 hs (by assumption) (by assumption)) (.head _)
  · exact outM_made (norm_e2 hs hm (by assumption) hb (by assumption)) (.head _)
  · exact outM_made (norm_e3 hs hm (by assumption) hb (by assumption)) (.head _)
  · exact outM_made (norm_e4 hs hm (by assumption) hb) (.head _)
  · have : man = 0 := by assumption
    exact outM_zero (by rw [this, Int.mul_zero])
local macro_rules | `(tactic| walk_at "call ref") => `(tactic| (k_here; (with_reducible show wpAny _ _ (call (Value.ref 38) [Value.int _ _, Value.int _ _, Value.int _ _, Value.int _ _, Value.int _ _, Value.str _ _]) _ _ _); k_dflt (refine' use (does_norm0 _ _ _ _ _ _ _ _ _ _ _ _ _ _ ?p1 ?p2 ?p3 ?p4) ?S ?B ?F ?X ?N ?T ?hk ?hd ?hu ?_; (case F => k_asm); (case N => k_asm); (case p1 => first | assumption | omega); (case p2 => first | assumption | omega); (case p3 => first | assumption | rfl); (case p4 => first | assumption | omega); (case S => repeat' constructor); (case B => k_asm); (case X => k_asm); (case T => k_asm); (case hk => first | exact rfl | assumption); (case hd => ktr_room); (case hu => ktr_units); k_whole; intro r9 l9 h9 tk9 F9 N9 S9 O9; (try simp only [List.nil_append, List.cons_append] at N9); (try unfold OutM at O9); (try unfold OutP at O9); (try k_sweep))))
theorem does_normalize (w : World) (news : Led) (sign man exp bc prec : Int) (rnd : Str) (t1 t2 t3 t4 t5 t6 : Tok) (hs : sign = 0 ∨ sign = 1) (hm : 0 ≤ man) (hb : bc = bl man) (hp : bc ≤ prec) :
    Does w 45 [.int sign t1, .int man t2, .int exp t3, .int bc t4, .int prec t5, .str rnd t6] news (OutM (enc (sg sign * man) exp)) 7 := by
  unfold Does
  intro p loose mean mg mb dp un gd cn cs a ccd cl outer A₀ base h₀ L m s Q E B F X N T hk hd hu hret
  have hb2 : bc = (Builtin.Int.intBits man : Int) := hb
  (refine wpAny_call ?_; k_dflt (refine' code_def ?k1 ?k2 ?k3 ?k4 ?k5 ?kA ?kF ?kK ?k6 ?k7 ?k8 ?k9 ?kB ?_ ?c2 ?c3 ?c4 ?c5; (case kA => exact rfl); (case kF => exact rfl); (case kK => assumption); (case k1 => k_asm); (case k2 => k_asm); (case k3 => k_asm); (case k4 => k_asm); (case k5 => k_asm); (case k6 => k_is); (case k7 => k_is); (case k8 => ktr_room); (case k9 => first | exact BindsTo.of_eq rfl | exact binds_K (by k_in) rfl (by k_is) rfl rfl rfl); (case c5 => decide); (case kB => exact locs rfl); (case c2 => exact rfl); (case c3 => exact rfl); (case c4 => exact rfl); k_whole; intro g' L' h' FG' F' N' B' X' T'; (try dsimp only); (try k_fold)); k_steps)
  all_goals (refine retE hret (by k_asm) (by k_asm) (by ktn_ord) ?_)
  all_goals assumption
local macro_rules | `(tactic| walk_at "call ref") => `(tactic| (k_here; (with_reducible show wpAny _ _ (call (Value.ref 45) [Value.int _ _, Value.int _ _, Value.int _ _, Value.int _ _, Value.int _ _, Value.str _ _]) _ _ _); k_dflt (refine' use (does_normalize _ _ _ _ _ _ _ _ _ _ _ _ _ _ ?p1 ?p2 ?p3 ?p4) ?S ?B ?F ?X ?N ?T ?hk ?hd ?hu ?_; (case F => k_asm); (case N => k_asm); (case p1 => first | assumption | omega | decide); (case p2 => first | assumption | omega); (case p3 => first | assumption | rfl); (case p4 => first | assumption | omega); (case S => repeat' constructor); (case B => k_asm); (case X => k_asm); (case T => k_asm); (case hk => first | exact rfl | assumption); (case hd => ktr_room); (case hu => ktr_units); k_whole; intro r9 l9 h9 tk9 F9 N9 S9 O9; (try simp only [List.nil_append, List.cons_append] at N9); (try unfold OutM at O9); (try unfold OutP at O9); (try k_sweep))))
theorem fme_two {s m e : Int} (hs : s = 0 ∨ s = 1) (hm : 0 < m) (h1 : Builtin.bitAnd m 1 = 0) (h2 : Builtin.bitAnd m 2 ≠ 0) :
    enc (sg s * m) e = ⟨s, m.fdiv (2 ^ Int.toNat 1), e + 1, (Builtin.Int.intBits m : Int) - 1⟩ ∧ F4.wf ⟨s, m.fdiv (2 ^ Int.toNat 1), e + 1, (Builtin.Int.intBits m : Int) - 1⟩ := by
  have q := norm_e4 (e := e) (b := bl m) hs (by omega) (by omega) rfl
  have h1 := even_of_and h1
  have hk := kbt_bit m 1
  rw [show (2 : Int) ^ 1 = 2 from rfl] at hk
  rw [hk] at h2
  have ht : tz m.toNat = 1 := by
    have := tz_of 1 ((m / 2 - 1) / 2).toNat
    rw [Nat.pow_one, show 2 * (2 * ((m / 2 - 1) / 2).toNat + 1) = m.toNat by omega] at this
    exact this
  rw [ht] at q
  exact q
theorem outM_eq {k k' e : Int} {news : Led} {r : Value} (h : OutM (enc k e) news r) (q : k = k') : OutM (enc k' e) news r := q ▸ h
theorem sg1 (x : Int) : sg 1 * -x = x := by
  rw [show sg 1 = -1 from rfl]; omega
theorem sg0 (x : Int) : sg 0 * x = x := by
  rw [show sg 0 = 1 from rfl]; omega
theorem does_fme (w : World) (news : Led) (man exp : Int) (t1 t2 : Tok) : Does w 53 [.int man t1, .int exp t2] news (OutM (enc man exp)) 8 := by
  unfold Does
  intro p loose mean mg mb dp un gd cn cs a ccd cl outer A₀ base h₀ L m s Q E B F X N T hk hd hu hret
  (refine wpAny_call ?_; k_dflt (refine' code_def ?k1 ?k2 ?k3 ?k4 ?k5 ?kA ?kF ?kK ?k6 ?k7 ?k8 ?k9 ?kB ?_ ?c2 ?c3 ?c4 ?c5; (case kA => exact rfl); (case kF => exact rfl); (case kK => assumption); (case k1 => k_asm); (case k2 => k_asm); (case k3 => k_asm); (case k4 => k_asm); (case k5 => k_asm); (case k6 => k_is); (case k7 => k_is); (case k8 => ktr_room); (case k9 => first | exact BindsTo.of_eq rfl | exact binds_K (by k_in) rfl (by k_is) rfl rfl rfl); (case c5 => decide); (case kB => exact locs rfl); (case c2 => exact rfl); (case c3 => exact rfl); (case c4 => exact rfl); k_whole; intro g' L' h' FG' F' N' B' X' T'; (try dsimp only); (try k_fold)); k_steps)
  all_goals (refine retE hret (by k_asm) (by k_asm) (by ktn_ord) ?_)
  · exact outM_eq (outM_made (norm_e2 (.inr rfl) (by omega) (by omega) rfl (by assumption)) (.head _)) (sg1 _)
  · exact outM_eq (outM_made (fme_two (.inr rfl) (by omega) (by assumption) (by assumption)) (.head _)) (sg1 _)
  · exact outM_eq (outM_made (norm_e4 (.inr rfl) (by omega) (by omega) rfl) (.head _)) (sg1 _)
  · exact outM_eq (outM_made (norm_e2 (.inl rfl) (by omega) (by omega) rfl (by assumption)) (.head _)) (sg0 _)
  · exact outM_eq (outM_made (fme_two (.inl rfl) (by omega) (by assumption) (by assumption)) (.head _)) (sg0 _)
  · exact outM_eq (outM_made (norm_e4 (.inl rfl) (by omega) (by omega) rfl) (.head _)) (sg0 _)
  · exact outM_zero (by assumption)
local macro_rules | `(tactic| walk_at "call ref") => `(tactic| (k_here; (with_reducible show wpAny _ _ (call (Value.ref 53) [Value.int _ _, Value.int _ _]) _ _ _); k_dflt (refine' use (does_fme _ _ _ _ _ _) ?S ?B ?F ?X ?N ?T ?hk ?hd ?hu ?_; (case F => k_asm); (case N => k_asm); (case S => repeat' constructor); (case B => k_asm); (case X => k_asm); (case T => k_asm); (case hk => first | exact rfl | assumption); (case hd => ktr_room); (case hu => ktr_units); k_whole; intro r9 l9 h9 tk9 F9 N9 S9 O9; (try simp only [List.nil_append, List.cons_append] at N9); (try unfold OutM at O9); (try unfold OutP at O9); (try k_sweep))))
def sgn (k : Int) : Int := if k = 0 then 0 else if k < 0 then -1 else 1
theorem enc_made {s m e b k ex : Int} (h : (⟨s, m, e, b⟩ : F4) = enc k ex) (hw : F4.wf ⟨s, m, e, b⟩) : ∃ j : Nat, e = ex + j ∧ k = sg s * m * 2 ^ j ∧ k ≠ 0 := by
  by_cases hk : k = 0
  · subst hk
    rw [enc_zero] at h
    have := congrArg F4.m h
    have := hw.2.1
    dsimp only at *
    omega
  · obtain ⟨s', m', b', j, h1, h2, h3⟩ := enc_out k ex hk
    rw [h1] at h
    have e1 := congrArg F4.s h
    have e2 := congrArg F4.m h
    have e3 := congrArg F4.e h
    dsimp only at e1 e2 e3
    exact ⟨j, e3, by rw [e1, e2, h3], hk⟩
theorem enc_zero_made {k ex : Int} (h : (⟨0, 0, 0, 0⟩ : F4) = enc k ex) : k = 0 := (enc_m_zero k ex).mp (by rw [← h])
theorem sgn_made {s m k : Int} {j : Nat} (hs : s = 0 ∨ s = 1) (hm : 0 < m) (hk : k = sg s * m * 2 ^ j) : sgn k = sg s ∧ (k < 0 ↔ s = 1) := by
  have hp := Int.mul_pos hm (pow_pos' j)
  rw [Int.mul_assoc] at hk
  generalize m * 2 ^ j = z at hp hk
  unfold sgn
  rcases sg_cases hs with ⟨rfl, q⟩ | ⟨rfl, q⟩ <;> rw [q] at hk ⊢
  · rw [if_neg (by omega), if_neg (by omega)]; exact ⟨rfl, by omega⟩
  · rw [if_neg (by omega), if_pos (by omega)]; exact ⟨rfl, by omega⟩
theorem mv_enc {news : Led} {v : Value} {k ex : Int} (h : MV news v (enc k ex)) :
    (v = .ref 22 ∧ k = 0) ∨ ∃ (a : Addr) (s m b : Int) (ts tm te tb : Tok) (n j : Nat), v = .ref a ∧ (a, ({ cls := .type "tuple", data := .seq #[.int s ts, .int m tm, .int (ex + j) te, .int b tb] n } : Obj)) ∈ news ∧ (s = 0 ∨ s = 1) ∧ 0 < m ∧ m % 2 = 1 ∧ b = bl m ∧ k = sg s * m * 2 ^ j ∧ k ≠ 0 := by
  generalize hx : enc k ex = x at h
  rcases h with _ | ⟨hM, hw⟩
  · exact .inl ⟨rfl, enc_zero_made hx.symm⟩
  · obtain ⟨j, e1, e2, e3⟩ := enc_made hx.symm hw
    subst e1
    exact .inr ⟨_, _, _, _, _, _, _, _, _, j, rfl, hM, hw.1, hw.2.1, hw.2.2.1, hw.2.2.2, e2, e3⟩
theorem does_sign (w : World) (news : Led) (v : Value) (k ex : Int) (hx : MV news v (enc k ex)) : Does w 118 [v] news (OutI (sgn k)) 3 := by
  unfold Does
  intro p loose mean mg mb dp un gd cn cs a ccd cl outer A₀ base h₀ L m s Q E B F X N T hk hd hu hret
  obtain ⟨rfl, hk0⟩ | ⟨va, vs, vm, vb, ts, tm, te, tb, vn, vj, rfl, hM, hsg, hpos, hodd, hbl, hkv, hk0⟩ := mv_enc hx
  · (refine wpAny_call ?_; k_dflt (refine' code_def ?k1 ?k2 ?k3 ?k4 ?k5 ?kA ?kF ?kK ?k6 ?k7 ?k8 ?k9 ?kB ?_ ?c2 ?c3 ?c4 ?c5; (case kA => exact rfl); (case kF => exact rfl); (case kK => assumption); (case k1 => k_asm); (case k2 => k_asm); (case k3 => k_asm); (case k4 => k_asm); (case k5 => k_asm); (case k6 => k_is); (case k7 => k_is); (case k8 => ktr_room); (case k9 => first | exact BindsTo.of_eq rfl | exact binds_K (by k_in) rfl (by k_is) rfl rfl rfl); (case c5 => decide); (case kB => exact locs rfl); (case c2 => exact rfl); (case c3 => exact rfl); (case c4 => exact rfl); k_whole; intro g' L' h' FG' F' N' B' X' T'; (try dsimp only); (try k_fold)); k_steps)
    all_goals (refine retE hret (by k_asm) (by k_asm) (by ktn_ord) ?_)
    all_goals exact ⟨_, congrArg (Value.int · _) (by subst hk0; rfl)⟩
  · have hq := (sgn_made hsg hpos hkv).1
    clear hx
    rcases hsg with hsg | hsg <;> subst hsg
    all_goals (refine wpAny_call ?_; k_dflt (refine' code_def ?k1 ?k2 ?k3 ?k4 ?k5 ?kA ?kF ?kK ?k6 ?k7 ?k8 ?k9 ?kB ?_ ?c2 ?c3 ?c4 ?c5; (case kA => exact rfl); (case kF => exact rfl); (case kK => assumption); (case k1 => k_asm); (case k2 => k_asm); (case k3 => k_asm); (case k4 => k_asm); (case k5 => k_asm); (case k6 => k_is); (case k7 => k_is); (case k8 => ktr_room); (case k9 => first | exact BindsTo.of_eq rfl | exact binds_K (by k_in) rfl (by k_is) rfl rfl rfl); (case c5 => decide); (case kB => exact locs rfl); (case c2 => exact rfl); (case c3 => exact rfl); (case c4 => exact rfl); k_whole; intro g' L' h' FG' F' N' B' X' T'; (try dsimp only); (try k_fold)); k_steps)
    all_goals (refine retE hret (by k_asm) (by k_asm) (by ktn_ord) ?_)
    all_goals exact ⟨_, congrArg (Value.int · _) (by rw [hq]; rfl)⟩
local macro_rules | `(tactic| ktr_rel) => `(tactic| first
  | assumption
  | exact MV.zero
  | (refine' MV.mono ?mh ?ms; (case ms => with_reducible assumption); (case mh => ktr_rel))
  | (refine' MV.mono ?mh (fun _ hq => List.mem_cons_of_mem _ hq); (case mh => ktr_rel))
  | (refine' IV.mono ?mh ?ms; (case ms => with_reducible assumption); (case mh => ktr_rel))
  | (refine' IV.mono ?mh (fun _ hq => List.mem_cons_of_mem _ hq); (case mh => ktr_rel)))
local macro_rules | `(tactic| walk_at "call ref") => `(tactic| (k_here; (with_reducible show wpAny _ _ (call (Value.ref 118) [_]) _ _ _); k_dflt (refine' useI (does_sign _ _ _ _ _ ?p1) ?B ?F ?X ?N ?T ?hk ?hd ?hu ?_; (case F => k_asm); (case N => k_asm); (case p1 => ktr_rel); (case B => k_asm); (case X => k_asm); (case T => k_asm); (case hk => first | exact rfl | assumption); (case hd => ktr_room); (case hu => ktr_units); k_whole; intro t9 h9 tk9 F9 N9; (try k_sweep))))
theorem neg_made {s m e b k ex : Int} {j : Nat} (hs : s = 0 ∨ s = 1) (hm : 0 < m) (ho : m % 2 = 1) (hb : b = bl m) (hk : k = sg s * m * 2 ^ j) (he : e = ex + j) : enc (-k) ex = ⟨1 - s, m, e, b⟩ ∧ F4.wf ⟨1 - s, m, e, b⟩ := by
  have hw : F4.wf ⟨1 - s, m, e, b⟩ := ⟨by dsimp only; omega, hm, ho, hb⟩
  have q := enc_wf hw j
  refine ⟨?_, hw⟩
  rw [← q, hk, he]
  have : sg (1 - s) = - sg s := by rcases hs with rfl | rfl <;> rfl
  rw [this, Int.neg_mul, Int.neg_mul]
  congr 1
  omega
theorem does_neg1 (w : World) (news : Led) (v : Value) (k ex : Int) (hx : MV news v (enc k ex)) : Does w 111 [v] news (OutM (enc (-k) ex)) 3 := by
  unfold Does
  intro p loose mean mg mb dp un gd cn cs a ccd cl outer A₀ base h₀ L m s Q E B F X N T hk hd hu hret
  obtain ⟨rfl, hk0⟩ | ⟨va, vs, vm, vb, ts, tm, te, tb, vn, vj, rfl, hM, hsg, hpos, hodd, hbl, hkv, hk0⟩ := mv_enc hx
  · (refine wpAny_call ?_; k_dflt (refine' code_def ?k1 ?k2 ?k3 ?k4 ?k5 ?kA ?kF ?kK ?k6 ?k7 ?k8 ?k9 ?kB ?_ ?c2 ?c3 ?c4 ?c5; (case kA => exact rfl); (case kF => exact rfl); (case kK => assumption); (case k1 => k_asm); (case k2 => k_asm); (case k3 => k_asm); (case k4 => k_asm); (case k5 => k_asm); (case k6 => k_is); (case k7 => k_is); (case k8 => ktr_room); (case k9 => first | exact BindsTo.of_eq rfl | exact binds_K (by k_in) rfl (by k_is) rfl rfl rfl); (case c5 => decide); (case kB => exact locs rfl); (case c2 => exact rfl); (case c3 => exact rfl); (case c4 => exact rfl); k_whole; intro g' L' h' FG' F' N' B' X' T'; (try dsimp only); (try k_fold)); k_steps)
    all_goals (refine retE hret (by k_asm) (by k_asm) (by ktn_ord) ?_)
    all_goals exact outM_zero (by omega)
  · clear hx
    (refine wpAny_call ?_; k_dflt (refine' code_def ?k1 ?k2 ?k3 ?k4 ?k5 ?kA ?kF ?kK ?k6 ?k7 ?k8 ?k9 ?kB ?_ ?c2 ?c3 ?c4 ?c5; (case kA => exact rfl); (case kF => exact rfl); (case kK => assumption); (case k1 => k_asm); (case k2 => k_asm); (case k3 => k_asm); (case k4 => k_asm); (case k5 => k_asm); (case k6 => k_is); (case k7 => k_is); (case k8 => ktr_room); (case k9 => first | exact BindsTo.of_eq rfl | exact binds_K (by k_in) rfl (by k_is) rfl rfl rfl); (case c5 => decide); (case kB => exact locs rfl); (case c2 => exact rfl); (case c3 => exact rfl); (case c4 => exact rfl); k_whole; intro g' L' h' FG' F' N' B' X' T'; (try dsimp only); (try k_fold)); k_steps)
    all_goals (refine retE hret (by k_asm) (by k_asm) (by ktn_ord) ?_)
    all_goals exact outM_made (neg_made hsg hpos hodd hbl hkv rfl) (.head _)
theorem does_neg3 (w : World) (news : Led) (v : Value) (k ex : Int) (t : Tok) (rnd : Str) (tr : Tok) (hx : MV news v (enc k ex)) : Does w 111 [v, .int 0 t, .str rnd tr] news (OutM (enc (-k) ex)) 3 := by
  unfold Does
  intro p loose mean mg mb dp un gd cn cs a ccd cl outer A₀ base h₀ L m s Q E B F X N T hk hd hu hret
  obtain ⟨rfl, hk0⟩ | ⟨va, vs, vm, vb, ts, tm, te, tb, vn, vj, rfl, hM, hsg, hpos, hodd, hbl, hkv, hk0⟩ := mv_enc hx
  · (refine wpAny_call ?_; k_dflt (refine' code_def ?k1 ?k2 ?k3 ?k4 ?k5 ?kA ?kF ?kK ?k6 ?k7 ?k8 ?k9 ?kB ?_ ?c2 ?c3 ?c4 ?c5; (case kA => exact rfl); (case kF => exact rfl); (case kK => assumption); (case k1 => k_asm); (case k2 => k_asm); (case k3 => k_asm); (case k4 => k_asm); (case k5 => k_asm); (case k6 => k_is); (case k7 => k_is); (case k8 => ktr_room); (case k9 => first | exact BindsTo.of_eq rfl | exact binds_K (by k_in) rfl (by k_is) rfl rfl rfl); (case c5 => decide); (case kB => exact locs rfl); (case c2 => exact rfl); (case c3 => exact rfl); (case c4 => exact rfl); k_whole; intro g' L' h' FG' F' N' B' X' T'; (try dsimp only); (try k_fold)); k_steps)
    all_goals (refine retE hret (by k_asm) (by k_asm) (by ktn_ord) ?_)
    all_goals exact outM_zero (by omega)
  · clear hx
    (refine wpAny_call ?_; k_dflt (refine' code_def ?k1 ?k2 ?k3 ?k4 ?k5 ?kA ?kF ?kK ?k6 ?k7 ?k8 ?k9 ?kB ?_ ?c2 ?c3 ?c4 ?c5; (case kA => exact rfl); (case kF => exact rfl); (case kK => assumption); (case k1 => k_asm); (case k2 => k_asm); (case k3 => k_asm); (case k4 => k_asm); (case k5 => k_asm); (case k6 => k_is); (case k7 => k_is); (case k8 => ktr_room); (case k9 => first | exact BindsTo.of_eq rfl | exact binds_K (by k_in) rfl (by k_is) rfl rfl rfl); (case c5 => decide); (case kB => exact locs rfl); (case c2 => exact rfl); (case c3 => exact rfl); (case c4 => exact rfl); k_whole; intro g' L' h' FG' F' N' B' X' T'; (try dsimp only); (try k_fold)); k_steps)
    all_goals (refine retE hret (by k_asm) (by k_asm) (by ktn_ord) ?_)
    all_goals exact outM_made (neg_made hsg hpos hodd hbl hkv rfl) (.head _)
theorem does_pos (w : World) (news : Led) (v : Value) (x : F4) (t : Tok) (rnd : Str) (tr : Tok) (hx : MV news v x) : Does w 103 [v, .int 0 t, .str rnd tr] news (OutM x) 3 := by
  unfold Does
  intro p loose mean mg mb dp un gd cn cs a ccd cl outer A₀ base h₀ L m s Q E B F X N T hk hd hu hret
  rcases hx with _ | ⟨hM, hw⟩
  · (refine wpAny_call ?_; k_dflt (refine' code_def ?k1 ?k2 ?k3 ?k4 ?k5 ?kA ?kF ?kK ?k6 ?k7 ?k8 ?k9 ?kB ?_ ?c2 ?c3 ?c4 ?c5; (case kA => exact rfl); (case kF => exact rfl); (case kK => assumption); (case k1 => k_asm); (case k2 => k_asm); (case k3 => k_asm); (case k4 => k_asm); (case k5 => k_asm); (case k6 => k_is); (case k7 => k_is); (case k8 => ktr_room); (case k9 => first | exact BindsTo.of_eq rfl | exact binds_K (by k_in) rfl (by k_is) rfl rfl rfl); (case c5 => decide); (case kB => exact locs rfl); (case c2 => exact rfl); (case c3 => exact rfl); (case c4 => exact rfl); k_whole; intro g' L' h' FG' F' N' B' X' T'; (try dsimp only); (try k_fold)); k_steps)
    all_goals (refine retE hret (by k_asm) (by k_asm) (by ktn_ord) ?_)
    all_goals exact MV.zero
  · (refine wpAny_call ?_; k_dflt (refine' code_def ?k1 ?k2 ?k3 ?k4 ?k5 ?kA ?kF ?kK ?k6 ?k7 ?k8 ?k9 ?kB ?_ ?c2 ?c3 ?c4 ?c5; (case kA => exact rfl); (case kF => exact rfl); (case kK => assumption); (case k1 => k_asm); (case k2 => k_asm); (case k3 => k_asm); (case k4 => k_asm); (case k5 => k_asm); (case k6 => k_is); (case k7 => k_is); (case k8 => ktr_room); (case k9 => first | exact BindsTo.of_eq rfl | exact binds_K (by k_in) rfl (by k_is) rfl rfl rfl); (case c5 => decide); (case kB => exact locs rfl); (case c2 => exact rfl); (case c3 => exact rfl); (case c4 => exact rfl); k_whole; intro g' L' h' FG' F' N' B' X' T'; (try dsimp only); (try k_fold)); k_steps)
    all_goals (refine retE hret (by k_asm) (by k_asm) (by ktn_ord) ?_)
    all_goals exact MV.made hM hw
local macro_rules | `(tactic| walk_at "call ref") => `(tactic| (k_here; (with_reducible show wpAny _ _ (call (Value.ref 111) [_]) _ _ _); k_dflt (refine' use (does_neg1 _ _ _ _ _ ?p1) ?S ?B ?F ?X ?N ?T ?hk ?hd ?hu ?_; (case F => k_asm); (case N => k_asm); (case p1 => ktr_rel); (case S => repeat' constructor); (case B => k_asm); (case X => k_asm); (case T => k_asm); (case hk => first | exact rfl | assumption); (case hd => ktr_room); (case hu => ktr_units); k_whole; intro r9 l9 h9 tk9 F9 N9 S9 O9; (try simp only [List.nil_append, List.cons_append] at N9); (try unfold OutM at O9); (try unfold OutP at O9); (try k_sweep))))
local macro_rules | `(tactic| walk_at "call ref") => `(tactic| (k_here; (with_reducible show wpAny _ _ (call (Value.ref 111) [_, Value.int 0 _, Value.str _ _]) _ _ _); k_dflt (refine' use (does_neg3 _ _ _ _ _ _ _ _ ?p1) ?S ?B ?F ?X ?N ?T ?hk ?hd ?hu ?_; (case F => k_asm); (case N => k_asm); (case p1 => ktr_rel); (case S => repeat' constructor); (case B => k_asm); (case X => k_asm); (case T => k_asm); (case hk => first | exact rfl | assumption); (case hd => ktr_room); (case hu => ktr_units); k_whole; intro r9 l9 h9 tk9 F9 N9 S9 O9; (try simp only [List.nil_append, List.cons_append] at N9); (try unfold OutM at O9); (try unfold OutP at O9); (try k_sweep))))
local macro_rules | `(tactic| walk_at "call ref") => `(tactic| (k_here; (with_reducible show wpAny _ _ (call (Value.ref 103) [_, Value.int 0 _, Value.str _ _]) _ _ _); k_dflt (refine' use (does_pos _ _ _ _ _ _ _ ?p1) ?S ?B ?F ?X ?N ?T ?hk ?hd ?hu ?_; (case F => k_asm); (case N => k_asm); (case p1 => ktr_rel); (case S => repeat' constructor); (case B => k_asm); (case X => k_asm); (case T => k_asm); (case hk => first | exact rfl | assumption); (case hd => ktr_room); (case hu => ktr_units); k_whole; intro r9 l9 h9 tk9 F9 N9 S9 O9; (try simp only [List.nil_append, List.cons_append] at N9); (try unfold OutM at O9); (try unfold OutP at O9); (try k_sweep))))
theorem mant_le {s m k : Int} {j : Nat} (hs : s = 0 ∨ s = 1) (hm : 0 < m) (hk : k = sg s * m * 2 ^ j) : m.natAbs ≤ k.natAbs := by
  have hp := pow_pos' j
  have h1 : m * 1 ≤ m * 2 ^ j := Int.mul_le_mul_of_nonneg_left (by omega) (by omega)
  rw [Int.mul_assoc] at hk
  generalize m * 2 ^ j = z at h1 hk
  rcases sg_cases hs with ⟨rfl, q⟩ | ⟨rfl, q⟩ <;> rw [q] at hk <;> omega
theorem mant_bits {s m k : Int} {j n : Nat} (hs : s = 0 ∨ s = 1) (hm : 0 < m) (hk : k = sg s * m * 2 ^ j) (hb : k.natAbs < 2 ^ n) : Builtin.Int.intBits m ≤ n :=
  intBits_le_iff.mpr (Nat.lt_of_le_of_lt (mant_le hs hm hk) hb)
theorem sg_xor {s t : Int} (hs : s = 0 ∨ s = 1) (ht : t = 0 ∨ t = 1) : (Builtin.bitXor s t = 0 ∨ Builtin.bitXor s t = 1) ∧ sg (Builtin.bitXor s t) = sg s * sg t := by
  rcases hs with rfl | rfl <;> rcases ht with rfl | rfl <;> exact ⟨by decide, by decide⟩
theorem mul_val {s m k s' m' k' : Int} {j j' : Nat} (hs : s = 0 ∨ s = 1) (hs' : s' = 0 ∨ s' = 1) (hk : k = sg s * m * 2 ^ j) (hk' : k' = sg s' * m' * 2 ^ j') :
    sg (Builtin.bitXor s s') * (m * m') * 2 ^ (j + j') = k * k' := by
  rw [(sg_xor hs hs').2, hk, hk', pow_add']
  generalize (2 : Int) ^ j = x
  generalize (2 : Int) ^ j' = y
  generalize sg s = z
  generalize sg s' = u
  grind
theorem mul_end {s m k s' m' k' ex ex' : Int} {j j' : Nat} (hs : s = 0 ∨ s = 1) (hs' : s' = 0 ∨ s' = 1) (hm : 0 < m) (hm' : 0 < m') (ho : m % 2 = 1) (ho' : m' % 2 = 1) (hk : k = sg s * m * 2 ^ j) (hk' : k' = sg s' * m' * 2 ^ j') :
    enc (k * k') (ex + ex') = ⟨Builtin.bitXor s s', m * m', ex + j + (ex' + j'), (Builtin.Int.intBits (m * m') : Int)⟩ ∧ F4.wf ⟨Builtin.bitXor s s', m * m', ex + j + (ex' + j'), (Builtin.Int.intBits (m * m') : Int)⟩ := by
  have hw : F4.wf ⟨Builtin.bitXor s s', m * m', ex + j + (ex' + j'), (Builtin.Int.intBits (m * m') : Int)⟩ := by
    refine ⟨(sg_xor hs hs').1, Int.mul_pos hm hm', ?_, rfl⟩
    dsimp only
    rw [Int.mul_emod, ho, ho']; rfl
  refine ⟨?_, hw⟩
  rw [← enc_wf hw (j + j'), mul_val hs hs' hk hk']
  congr 1
  omega
theorem mul_norm {s m k s' m' k' ex ex' : Int} {j j' : Nat} {news : Led} {r : Value} (hs : s = 0 ∨ s = 1) (hs' : s' = 0 ∨ s' = 1) (hk : k = sg s * m * 2 ^ j) (hk' : k' = sg s' * m' * 2 ^ j')
    (h : MV news r (enc (sg (Builtin.bitXor s s') * (m * m')) (ex + j + (ex' + j')))) : OutM (enc (k * k') (ex + ex')) news r := by
  rw [← mul_val hs hs' hk hk', enc_scale']
  rw [show ex + ex' + ((j + j' : Nat) : Int) = ex + j + (ex' + j') by omega]
  exact h
theorem intMulOk_small {a b : Int} (ha : a.natAbs < 2 ^ 64) (hb : b.natAbs < 2 ^ 64) : IntMulOk a b := IntMulOk.of_le (intBits_le_iff.mpr ha) (intBits_le_iff.mpr hb) (by decide)
theorem bits_mul_small {a b : Int} (ha : a.natAbs < 2 ^ 64) (hb : b.natAbs < 2 ^ 64) : (Builtin.Int.intBits (a * b) : Int) ≤ 400 := by
  have := intBits_mul_le (intBits_le_iff.mpr ha) (intBits_le_iff.mpr hb)
  omega
theorem does_mul2 (w : World) (news : Led) (v u : Value) (k ex k' ex' : Int) (t5 : Tok) (rnd : Str) (t6 : Tok) (hv : MV news v (enc k ex)) (hu : MV news u (enc k' ex')) (hbk : k.natAbs < 2 ^ 64) (hbk' : k'.natAbs < 2 ^ 64) :
    Does w 142 [v, u] news (OutM (enc (k * k') (ex + ex'))) 9 := by
  unfold Does
  intro p loose mean mg mb dp un gd cn cs a ccd cl outer A₀ base h₀ L m s Q E B F X N T hk hd hu hret
  rename MV news v _ => hxv
  rename MV news u _ => hxu
  obtain ⟨rfl, hk0⟩ | ⟨va, vs, vm, vb, ts, tm, te, tb, vn, vj, rfl, hM, hsg, hpos, hodd, hbl, hkv, hk0⟩ := mv_enc hxv
  · obtain ⟨rfl, hk0'⟩ | ⟨va', vs', vm', vb', ts', tm', te', tb', vn', vj', rfl, hM', hsg', hpos', hodd', hbl', hkv', hk0'⟩ := mv_enc hxu
    · clear hxv hxu
      (refine wpAny_call ?_; k_dflt (refine' code_def ?k1 ?k2 ?k3 ?k4 ?k5 ?kA ?kF ?kK ?k6 ?k7 ?k8 ?k9 ?kB ?_ ?c2 ?c3 ?c4 ?c5; (case kA => exact rfl); (case kF => exact rfl); (case kK => assumption); (case k1 => k_asm); (case k2 => k_asm); (case k3 => k_asm); (case k4 => k_asm); (case k5 => k_asm); (case k6 => k_is); (case k7 => k_is); (case k8 => ktr_room); (case k9 => first | exact BindsTo.of_eq rfl | exact binds_K (by k_in) rfl (by k_is) rfl rfl rfl); (case c5 => decide); (case kB => exact locs rfl); (case c2 => exact rfl); (case c3 => exact rfl); (case c4 => exact rfl); k_whole; intro g' L' h' FG' F' N' B' X' T'; (try dsimp only); (try k_fold)); k_steps)
      all_goals (refine retE hret (by k_asm) (by k_asm) (by ktn_ord) ?_)
      all_goals exact outM_zero (by rw [hk0, Int.zero_mul])
    · have hok : IntMulOk 0 vm' := intMulOk_small (by decide) (Nat.lt_of_le_of_lt (mant_le hsg' hpos' hkv') hbk')
      clear hxv hxu
      (refine wpAny_call ?_; k_dflt (refine' code_def ?k1 ?k2 ?k3 ?k4 ?k5 ?kA ?kF ?kK ?k6 ?k7 ?k8 ?k9 ?kB ?_ ?c2 ?c3 ?c4 ?c5; (case kA => exact rfl); (case kF => exact rfl); (case kK => assumption); (case k1 => k_asm); (case k2 => k_asm); (case k3 => k_asm); (case k4 => k_asm); (case k5 => k_asm); (case k6 => k_is); (case k7 => k_is); (case k8 => ktr_room); (case k9 => first | exact BindsTo.of_eq rfl | exact binds_K (by k_in) rfl (by k_is) rfl rfl rfl); (case c5 => decide); (case kB => exact locs rfl); (case c2 => exact rfl); (case c3 => exact rfl); (case c4 => exact rfl); k_whole; intro g' L' h' FG' F' N' B' X' T'; (try dsimp only); (try k_fold)); k_steps)
      all_goals (refine retE hret (by k_asm) (by k_asm) (by ktn_ord) ?_)
      all_goals exact outM_zero (by rw [hk0, Int.zero_mul])
  · obtain ⟨rfl, hk0'⟩ | ⟨va', vs', vm', vb', ts', tm', te', tb', vn', vj', rfl, hM', hsg', hpos', hodd', hbl', hkv', hk0'⟩ := mv_enc hxu
    · have hok : IntMulOk vm 0 := intMulOk_small (Nat.lt_of_le_of_lt (mant_le hsg hpos hkv) hbk) (by decide)
      clear hxv hxu
      (refine wpAny_call ?_; k_dflt (refine' code_def ?k1 ?k2 ?k3 ?k4 ?k5 ?kA ?kF ?kK ?k6 ?k7 ?k8 ?k9 ?kB ?_ ?c2 ?c3 ?c4 ?c5; (case kA => exact rfl); (case kF => exact rfl); (case kK => assumption); (case k1 => k_asm); (case k2 => k_asm); (case k3 => k_asm); (case k4 => k_asm); (case k5 => k_asm); (case k6 => k_is); (case k7 => k_is); (case k8 => ktr_room); (case k9 => first | exact BindsTo.of_eq rfl | exact binds_K (by k_in) rfl (by k_is) rfl rfl rfl); (case c5 => decide); (case kB => exact locs rfl); (case c2 => exact rfl); (case c3 => exact rfl); (case c4 => exact rfl); k_whole; intro g' L' h' FG' F' N' B' X' T'; (try dsimp only); (try k_fold)); k_steps)
      all_goals (refine retE hret (by k_asm) (by k_asm) (by ktn_ord) ?_)
      all_goals exact outM_zero (by rw [hk0', Int.mul_zero])
    · have hok : IntMulOk vm vm' := intMulOk_small (Nat.lt_of_le_of_lt (mant_le hsg hpos hkv) hbk) (Nat.lt_of_le_of_lt (mant_le hsg' hpos' hkv') hbk')
      have hbits := bits_mul_small (Nat.lt_of_le_of_lt (mant_le hsg hpos hkv) hbk) (Nat.lt_of_le_of_lt (mant_le hsg' hpos' hkv') hbk')
      have hx := (sg_xor hsg hsg').1
      have hmp := Int.mul_pos hpos hpos'
      clear hxv hxu
      (refine wpAny_call ?_; k_dflt (refine' code_def ?k1 ?k2 ?k3 ?k4 ?k5 ?kA ?kF ?kK ?k6 ?k7 ?k8 ?k9 ?kB ?_ ?c2 ?c3 ?c4 ?c5; (case kA => exact rfl); (case kF => exact rfl); (case kK => assumption); (case k1 => k_asm); (case k2 => k_asm); (case k3 => k_asm); (case k4 => k_asm); (case k5 => k_asm); (case k6 => k_is); (case k7 => k_is); (case k8 => ktr_room); (case k9 => first | exact BindsTo.of_eq rfl | exact binds_K (by k_in) rfl (by k_is) rfl rfl rfl); (case c5 => decide); (case kB => exact locs rfl); (case c2 => exact rfl); (case c3 => exact rfl); (case c4 => exact rfl); k_whole; intro g' L' h' FG' F' N' B' X' T'; (try dsimp only); (try k_fold)); k_steps)
      all_goals (refine retE hret (by k_asm) (by k_asm) (by ktn_ord) ?_)
      all_goals exact outM_made (mul_end hsg hsg' hpos hpos' hodd hodd' hkv hkv') (.head _)

theorem does_mul0 (w : World) (news : Led) (v u : Value) (k ex k' ex' : Int) (t5 : Tok) (rnd : Str) (t6 : Tok) (hv : MV news v (enc k ex)) (hu : MV news u (enc k' ex')) (hbk : k.natAbs < 2 ^ 64) (hbk' : k'.natAbs < 2 ^ 64) :
    Does w 142 [v, u, .int 0 t5, .str rnd t6] news (OutM (enc (k * k') (ex + ex'))) 9 := by
  unfold Does
  intro p loose mean mg mb dp un gd cn cs a ccd cl outer A₀ base h₀ L m s Q E B F X N T hk hd hu hret
  rename MV news v _ => hxv
  rename MV news u _ => hxu
  obtain ⟨rfl, hk0⟩ | ⟨va, vs, vm, vb, ts, tm, te, tb, vn, vj, rfl, hM, hsg, hpos, hodd, hbl, hkv, hk0⟩ := mv_enc hxv
  · obtain ⟨rfl, hk0'⟩ | ⟨va', vs', vm', vb', ts', tm', te', tb', vn', vj', rfl, hM', hsg', hpos', hodd', hbl', hkv', hk0'⟩ := mv_enc hxu
    · clear hxv hxu
      (refine wpAny_call ?_; k_dflt (refine' code_def ?k1 ?k2 ?k3 ?k4 ?k5 ?kA ?kF ?kK ?k6 ?k7 ?k8 ?k9 ?kB ?_ ?c2 ?c3 ?c4 ?c5; (case kA => exact rfl); (case kF => exact rfl); (case kK => assumption); (case k1 => k_asm); (case k2 => k_asm); (case k3 => k_asm); (case k4 => k_asm); (case k5 => k_asm); (case k6 => k_is); (case k7 => k_is); (case k8 => ktr_room); (case k9 => first | exact BindsTo.of_eq rfl | exact binds_K (by k_in) rfl (by k_is) rfl rfl rfl); (case c5 => decide); (case kB => exact locs rfl); (case c2 => exact rfl); (case c3 => exact rfl); (case c4 => exact rfl); k_whole; intro g' L' h' FG' F' N' B' X' T'; (try dsimp only); (try k_fold)); k_steps)
      all_goals (refine retE hret (by k_asm) (by k_asm) (by ktn_ord) ?_)
      all_goals exact outM_zero (by rw [hk0, Int.zero_mul])
    · have hok : IntMulOk 0 vm' := intMulOk_small (by decide) (Nat.lt_of_le_of_lt (mant_le hsg' hpos' hkv') hbk')
      clear hxv hxu
      (refine wpAny_call ?_; k_dflt (refine' code_def ?k1 ?k2 ?k3 ?k4 ?k5 ?kA ?kF ?kK ?k6 ?k7 ?k8 ?k9 ?kB ?_ ?c2 ?c3 ?c4 ?c5; (case kA => exact rfl); (case kF => exact rfl); (case kK => assumption); (case k1 => k_asm); (case k2 => k_asm); (case k3 => k_asm); (case k4 => k_asm); (case k5 => k_asm); (case k6 => k_is); (case k7 => k_is); (case k8 => ktr_room); (case k9 => first | exact BindsTo.of_eq rfl | exact binds_K (by k_in) rfl (by k_is) rfl rfl rfl); (case c5 => decide); (case kB => exact locs rfl); (case c2 => exact rfl); (case c3 => exact rfl); (case c4 => exact rfl); k_whole; intro g' L' h' FG' F' N' B' X' T'; (try dsimp only); (try k_fold)); k_steps)
      all_goals (refine retE hret (by k_asm) (by k_asm) (by ktn_ord) ?_)
      all_goals exact outM_zero (by rw [hk0, Int.zero_mul])
  · obtain ⟨rfl, hk0'⟩ | ⟨va', vs', vm', vb', ts', tm', te', tb', vn', vj', rfl, hM', hsg', hpos', hodd', hbl', hkv', hk0'⟩ := mv_enc hxu
    · have hok : IntMulOk vm 0 := intMulOk_small (Nat.lt_of_le_of_lt (mant_le hsg hpos hkv) hbk) (by decide)
      clear hxv hxu
      (refine wpAny_call ?_; k_dflt (refine' code_def ?k1 ?k2 ?k3 ?k4 ?k5 ?kA ?kF ?kK ?k6 ?k7 ?k8 ?k9 ?kB ?_ ?c2 ?c3 ?c4 ?c5; (case kA => exact rfl); (case kF => exact rfl); (case kK => assumption); (case k1 => k_asm); (case k2 => k_asm); (case k3 => k_asm); (case k4 => k_asm); (case k5 => k_asm); (case k6 => k_is); (case k7 => k_is); (case k8 => ktr_room); (case k9 => first | exact BindsTo.of_eq rfl | exact binds_K (by k_in) rfl (by k_is) rfl rfl rfl); (case c5 => decide); (case kB => exact locs rfl); (case c2 => exact rfl); (case c3 => exact rfl); (case c4 => exact rfl); k_whole; intro g' L' h' FG' F' N' B' X' T'; (try dsimp only); (try k_fold)); k_steps)
      all_goals (refine retE hret (by k_asm) (by k_asm) (by ktn_ord) ?_)
      all_goals exact outM_zero (by rw [hk0', Int.mul_zero])
    · have hok : IntMulOk vm vm' := intMulOk_small (Nat.lt_of_le_of_lt (mant_le hsg hpos hkv) hbk) (Nat.lt_of_le_of_lt (mant_le hsg' hpos' hkv') hbk')
      have hbits := bits_mul_small (Nat.lt_of_le_of_lt (mant_le hsg hpos hkv) hbk) (Nat.lt_of_le_of_lt (mant_le hsg' hpos' hkv') hbk')
      have hx := (sg_xor hsg hsg').1
      have hmp := Int.mul_pos hpos hpos'
      clear hxv hxu
      (refine wpAny_call ?_; k_dflt (refine' code_def ?k1 ?k2 ?k3 ?k4 ?k5 ?kA ?kF ?kK ?k6 ?k7 ?k8 ?k9 ?kB ?_ ?c2 ?c3 ?c4 ?c5; (case kA => exact rfl); (case kF => exact rfl); (case kK => assumption); (case k1 => k_asm); (case k2 => k_asm); (case k3 => k_asm); (case k4 => k_asm); (case k5 => k_asm); (case k6 => k_is); (case k7 => k_is); (case k8 => ktr_room); (case k9 => first | exact BindsTo.of_eq rfl | exact binds_K (by k_in) rfl (by k_is) rfl rfl rfl); (case c5 => decide); (case kB => exact locs rfl); (case c2 => exact rfl); (case c3 => exact rfl); (case c4 => exact rfl); k_whole; intro g' L' h' FG' F' N' B' X' T'; (try dsimp only); (try k_fold)); k_steps)
      all_goals (refine retE hret (by k_asm) (by k_asm) (by ktn_ord) ?_)
      all_goals exact outM_made (mul_end hsg hsg' hpos hpos' hodd hodd' hkv hkv') (.head _)

theorem does_mul4 (w : World) (news : Led) (v u : Value) (k ex k' ex' : Int) (t5 : Tok) (rnd : Str) (t6 : Tok) (hv : MV news v (enc k ex)) (hu : MV news u (enc k' ex')) (hbk : k.natAbs < 2 ^ 64) (hbk' : k'.natAbs < 2 ^ 64) :
    Does w 142 [v, u, .int 400 t5, .str rnd t6] news (OutM (enc (k * k') (ex + ex'))) 9 := by
  unfold Does
  intro p loose mean mg mb dp un gd cn cs a ccd cl outer A₀ base h₀ L m s Q E B F X N T hk hd hu hret
  rename MV news v _ => hxv
  rename MV news u _ => hxu
  obtain ⟨rfl, hk0⟩ | ⟨va, vs, vm, vb, ts, tm, te, tb, vn, vj, rfl, hM, hsg, hpos, hodd, hbl, hkv, hk0⟩ := mv_enc hxv
  · obtain ⟨rfl, hk0'⟩ | ⟨va', vs', vm', vb', ts', tm', te', tb', vn', vj', rfl, hM', hsg', hpos', hodd', hbl', hkv', hk0'⟩ := mv_enc hxu
    · clear hxv hxu
      (refine wpAny_call ?_; k_dflt (refine' code_def ?k1 ?k2 ?k3 ?k4 ?k5 ?kA ?kF ?kK ?k6 ?k7 ?k8 ?k9 ?kB ?_ ?c2 ?c3 ?c4 ?c5; (case kA => exact rfl); (case kF => exact rfl); (case kK => assumption); (case k1 => k_asm); (case k2 => k_asm); (case k3 => k_asm); (case k4 => k_asm); (case k5 => k_asm); (case k6 => k_is); (case k7 => k_is); (case k8 => ktr_room); (case k9 => first | exact BindsTo.of_eq rfl | exact binds_K (by k_in) rfl (by k_is) rfl rfl rfl); (case c5 => decide); (case kB => exact locs rfl); (case c2 => exact rfl); (case c3 => exact rfl); (case c4 => exact rfl); k_whole; intro g' L' h' FG' F' N' B' X' T'; (try dsimp only); (try k_fold)); k_steps)
      all_goals (refine retE hret (by k_asm) (by k_asm) (by ktn_ord) ?_)
      all_goals exact outM_zero (by rw [hk0, Int.zero_mul])
    · have hok : IntMulOk 0 vm' := intMulOk_small (by decide) (Nat.lt_of_le_of_lt (mant_le hsg' hpos' hkv') hbk')
      clear hxv hxu
      (refine wpAny_call ?_; k_dflt (refine' code_def ?k1 ?k2 ?k3 ?k4 ?k5 ?kA ?kF ?kK ?k6 ?k7 ?k8 ?k9 ?kB ?_ ?c2 ?c3 ?c4 ?c5; (case kA => exact rfl); (case kF => exact rfl); (case kK => assumption); (case k1 => k_asm); (case k2 => k_asm); (case k3 => k_asm); (case k4 => k_asm); (case k5 => k_asm); (case k6 => k_is); (case k7 => k_is); (case k8 => ktr_room); (case k9 => first | exact BindsTo.of_eq rfl | exact binds_K (by k_in) rfl (by k_is) rfl rfl rfl); (case c5 => decide); (case kB => exact locs rfl); (case c2 => exact rfl); (case c3 => exact rfl); (case c4 => exact rfl); k_whole; intro g' L' h' FG' F' N' B' X' T'; (try dsimp only); (try k_fold)); k_steps)
      all_goals (refine retE hret (by k_asm) (by k_asm) (by ktn_ord) ?_)
      all_goals exact outM_zero (by rw [hk0, Int.zero_mul])
  · obtain ⟨rfl, hk0'⟩ | ⟨va', vs', vm', vb', ts', tm', te', tb', vn', vj', rfl, hM', hsg', hpos', hodd', hbl', hkv', hk0'⟩ := mv_enc hxu
    · have hok : IntMulOk vm 0 := intMulOk_small (Nat.lt_of_le_of_lt (mant_le hsg hpos hkv) hbk) (by decide)
      clear hxv hxu
      (refine wpAny_call ?_; k_dflt (refine' code_def ?k1 ?k2 ?k3 ?k4 ?k5 ?kA ?kF ?kK ?k6 ?k7 ?k8 ?k9 ?kB ?_ ?c2 ?c3 ?c4 ?c5; (case kA => exact rfl); (case kF => exact rfl); (case kK => assumption); (case k1 => k_asm); (case k2 => k_asm); (case k3 => k_asm); (case k4 => k_asm); (case k5 => k_asm); (case k6 => k_is); (case k7 => k_is); (case k8 => ktr_room); (case k9 => first | exact BindsTo.of_eq rfl | exact binds_K (by k_in) rfl (by k_is) rfl rfl rfl); (case c5 => decide); (case kB => exact locs rfl); (case c2 => exact rfl); (case c3 => exact rfl); (case c4 => exact rfl); k_whole; intro g' L' h' FG' F' N' B' X' T'; (try dsimp only); (try k_fold)); k_steps)
      all_goals (refine retE hret (by k_asm) (by k_asm) (by ktn_ord) ?_)
      all_goals exact outM_zero (by rw [hk0', Int.mul_zero])
    · have hok : IntMulOk vm vm' := intMulOk_small (Nat.lt_of_le_of_lt (mant_le hsg hpos hkv) hbk) (Nat.lt_of_le_of_lt (mant_le hsg' hpos' hkv') hbk')
      have hbits := bits_mul_small (Nat.lt_of_le_of_lt (mant_le hsg hpos hkv) hbk) (Nat.lt_of_le_of_lt (mant_le hsg' hpos' hkv') hbk')
      have hx := (sg_xor hsg hsg').1
      have hmp := Int.mul_pos hpos hpos'
      clear hxv hxu
      (refine wpAny_call ?_; k_dflt (refine' code_def ?k1 ?k2 ?k3 ?k4 ?k5 ?kA ?kF ?kK ?k6 ?k7 ?k8 ?k9 ?kB ?_ ?c2 ?c3 ?c4 ?c5; (case kA => exact rfl); (case kF => exact rfl); (case kK => assumption); (case k1 => k_asm); (case k2 => k_asm); (case k3 => k_asm); (case k4 => k_asm); (case k5 => k_asm); (case k6 => k_is); (case k7 => k_is); (case k8 => ktr_room); (case k9 => first | exact BindsTo.of_eq rfl | exact binds_K (by k_in) rfl (by k_is) rfl rfl rfl); (case c5 => decide); (case kB => exact locs rfl); (case c2 => exact rfl); (case c3 => exact rfl); (case c4 => exact rfl); k_whole; intro g' L' h' FG' F' N' B' X' T'; (try dsimp only); (try k_fold)); k_steps)
      all_goals (refine retE hret (by k_asm) (by k_asm) (by ktn_ord) ?_)
      all_goals exact mul_norm hsg hsg' hkv hkv' (by assumption)

local macro_rules | `(tactic| walk_at "call ref") => `(tactic| (k_here; (with_reducible show wpAny _ _ (call (Value.ref 142) [_, _]) _ _ _); k_dflt (refine' use (does_mul2 _ _ _ _ _ _ _ _ 0 (Str.ofString "d") 0 ?p1 ?p2 ?p3 ?p4) ?S ?B ?F ?X ?N ?T ?hk ?hd ?hu ?_; (case F => k_asm); (case N => k_asm); (case p1 => ktr_rel); (case p2 => ktr_rel); (case p3 => first | assumption | omega); (case p4 => first | assumption | omega); (case S => repeat' constructor); (case B => k_asm); (case X => k_asm); (case T => k_asm); (case hk => first | exact rfl | assumption); (case hd => ktr_room); (case hu => ktr_units); k_whole; intro r9 l9 h9 tk9 F9 N9 S9 O9; (try simp only [List.nil_append, List.cons_append] at N9); (try unfold OutM at O9); (try unfold OutP at O9); (try k_sweep))))
local macro_rules | `(tactic| walk_at "call ref") => `(tactic| (k_here; (with_reducible show wpAny _ _ (call (Value.ref 142) [_, _, Value.int 0 _, Value.str _ _]) _ _ _); k_dflt (refine' use (does_mul0 _ _ _ _ _ _ _ _ _ _ _ ?p1 ?p2 ?p3 ?p4) ?S ?B ?F ?X ?N ?T ?hk ?hd ?hu ?_; (case F => k_asm); (case N => k_asm); (case p1 => ktr_rel); (case p2 => ktr_rel); (case p3 => first | assumption | omega); (case p4 => first | assumption | omega); (case S => repeat' constructor); (case B => k_asm); (case X => k_asm); (case T => k_asm); (case hk => first | exact rfl | assumption); (case hd => ktr_room); (case hu => ktr_units); k_whole; intro r9 l9 h9 tk9 F9 N9 S9 O9; (try simp only [List.nil_append, List.cons_append] at N9); (try unfold OutM at O9); (try unfold OutP at O9); (try k_sweep))))
local macro_rules | `(tactic| walk_at "call ref") => `(tactic| (k_here; (with_reducible show wpAny _ _ (call (Value.ref 142) [_, _, Value.int 400 _, Value.str _ _]) _ _ _); k_dflt (refine' use (does_mul4 _ _ _ _ _ _ _ _ _ _ _ ?p1 ?p2 ?p3 ?p4) ?S ?B ?F ?X ?N ?T ?hk ?hd ?hu ?_; (case F => k_asm); (case N => k_asm); (case p1 => ktr_rel); (case p2 => ktr_rel); (case p3 => first | assumption | omega); (case p4 => first | assumption | omega); (case S => repeat' constructor); (case B => k_asm); (case X => k_asm); (case T => k_asm); (case hk => first | exact rfl | assumption); (case hd => ktr_room); (case hu => ktr_units); k_whole; intro r9 l9 h9 tk9 F9 N9 S9 O9; (try simp only [List.nil_append, List.cons_append] at N9); (try unfold OutM at O9); (try unfold OutP at O9); (try k_sweep))))
theorem mant_exp {s m k : Int} {j n : Nat} (hs : s = 0 ∨ s = 1) (hm : 0 < m) (hk : k = sg s * m * 2 ^ j) (hb : k.natAbs < 2 ^ n) : j < n := by
  rcases Nat.lt_or_ge j n with h | h
  · exact h
  · exfalso
    have h2 : 2 ^ n ≤ 2 ^ j := Nat.pow_le_pow_right (by decide) h
    have h3 : (2 : Int) ^ j = ((2 ^ j : Nat) : Int) := by rw [Int.natCast_pow]; rfl
    have h1 : 1 * 2 ^ j ≤ m * 2 ^ j := Int.mul_le_mul_of_nonneg_right (show (1 : Int) ≤ m by omega) (Int.le_of_lt (pow_pos' j))
    rw [Int.mul_assoc] at hk
    rw [Int.one_mul] at h1
    rw [h3] at h1 hk
    generalize m * ((2 ^ j : Nat) : Int) = z at h1 hk
    rcases sg_cases hs with ⟨rfl, q⟩ | ⟨rfl, q⟩ <;> rw [q] at hk <;> omega
theorem pow_off {ex : Int} {j j' : Nat} (h : ex + j' ≤ ex + j) : (2 : Int) ^ (ex + (j : Int) - (ex + (j' : Int))).toNat * 2 ^ j' = 2 ^ j := by
  rw [← pow_add']
  congr 1
  omega
theorem pow_off2 {ex : Int} {j j' : Nat} (h : ex + j' ≤ ex + j) : (2 : Int) ^ (-(ex + (j' : Int) - (ex + (j : Int)))).toNat * 2 ^ j' = 2 ^ j := by
  rw [← pow_add']
  congr 1
  omega
theorem add_fin {K P ex : Int} {j : Nat} {news : Led} {r : Value} (h : MV news r (enc P (ex + j))) (hv : K = P * 2 ^ j) : OutM (enc K ex) news r := by
  rw [hv, enc_scale']
  exact h
theorem sgA : sg 0 = 1 := rfl
theorem sgB : sg 1 = -1 := rfl
theorem add_gt {ex vs T vm vm' : Int} {vj vj' : Nat} (h : ex + (vj' : Int) ≤ ex + vj) (hv : vs = 0 ∨ vs = 1) (hT : T = 0 ∨ T = 1) :
    (vs = T → sg vs * vm * 2 ^ vj + sg T * vm' * 2 ^ vj' = sg vs * (vm' + vm * 2 ^ (ex + (vj : Int) - (ex + (vj' : Int))).toNat) * 2 ^ vj')
    ∧ (vs ≠ T → vs ≠ 0 → sg vs * vm * 2 ^ vj + sg T * vm' * 2 ^ vj' = sg 0 * (vm' - vm * 2 ^ (ex + (vj : Int) - (ex + (vj' : Int))).toNat) * 2 ^ vj'
      ∧ sg vs * vm * 2 ^ vj + sg T * vm' * 2 ^ vj' = sg 1 * -(vm' - vm * 2 ^ (ex + (vj : Int) - (ex + (vj' : Int))).toNat) * 2 ^ vj')
    ∧ (vs ≠ T → vs = 0 → sg vs * vm * 2 ^ vj + sg T * vm' * 2 ^ vj' = sg 0 * (vm * 2 ^ (ex + (vj : Int) - (ex + (vj' : Int))).toNat - vm') * 2 ^ vj'
      ∧ sg vs * vm * 2 ^ vj + sg T * vm' * 2 ^ vj' = sg 1 * -(vm * 2 ^ (ex + (vj : Int) - (ex + (vj' : Int))).toNat - vm') * 2 ^ vj') := by
  rw [← pow_off h]
  generalize (2 : Int) ^ (ex + (vj : Int) - (ex + (vj' : Int))).toNat = d
  generalize (2 : Int) ^ vj' = y
  rcases hv with rfl | rfl <;> rcases hT with rfl | rfl <;> simp only [sgA, sgB] <;> refine ⟨?_, ?_, ?_⟩ <;> grind
theorem add_lt {ex vs T vm vm' : Int} {vj vj' : Nat} (h : ex + (vj : Int) ≤ ex + vj') (hv : vs = 0 ∨ vs = 1) (hT : T = 0 ∨ T = 1) :
    (vs = T → sg vs * vm * 2 ^ vj + sg T * vm' * 2 ^ vj' = sg vs * (vm + vm' * 2 ^ (-(ex + (vj : Int) - (ex + (vj' : Int)))).toNat) * 2 ^ vj)
    ∧ (vs ≠ T → T ≠ 0 → sg vs * vm * 2 ^ vj + sg T * vm' * 2 ^ vj' = sg 0 * (vm - vm' * 2 ^ (-(ex + (vj : Int) - (ex + (vj' : Int)))).toNat) * 2 ^ vj
      ∧ sg vs * vm * 2 ^ vj + sg T * vm' * 2 ^ vj' = sg 1 * -(vm - vm' * 2 ^ (-(ex + (vj : Int) - (ex + (vj' : Int)))).toNat) * 2 ^ vj)
    ∧ (vs ≠ T → T = 0 → sg vs * vm * 2 ^ vj + sg T * vm' * 2 ^ vj' = sg 0 * (vm' * 2 ^ (-(ex + (vj : Int) - (ex + (vj' : Int)))).toNat - vm) * 2 ^ vj
      ∧ sg vs * vm * 2 ^ vj + sg T * vm' * 2 ^ vj' = sg 1 * -(vm' * 2 ^ (-(ex + (vj : Int) - (ex + (vj' : Int)))).toNat - vm) * 2 ^ vj) := by
  rw [← pow_off2 h]
  generalize (2 : Int) ^ (-(ex + (vj : Int) - (ex + (vj' : Int)))).toNat = d
  generalize (2 : Int) ^ vj = y
  rcases hv with rfl | rfl <;> rcases hT with rfl | rfl <;> simp only [sgA, sgB] <;> refine ⟨?_, ?_, ?_⟩ <;> grind
theorem add_eq {ex vs T vm vm' : Int} {vj vj' : Nat} (h : ex + (vj : Int) - (ex + vj') = 0) (hv : vs = 0 ∨ vs = 1) (hT : T = 0 ∨ T = 1) :
    (vs = T → sg vs * vm * 2 ^ vj + sg T * vm' * 2 ^ vj' = sg vs * (vm' + vm) * 2 ^ vj')
    ∧ (vs ≠ T → vs ≠ 0 → sg vs * vm * 2 ^ vj + sg T * vm' * 2 ^ vj' = sg 0 * (vm' - vm) * 2 ^ vj'
      ∧ sg vs * vm * 2 ^ vj + sg T * vm' * 2 ^ vj' = sg 1 * -(vm' - vm) * 2 ^ vj')
    ∧ (vs ≠ T → vs = 0 → sg vs * vm * 2 ^ vj + sg T * vm' * 2 ^ vj' = sg 0 * (vm - vm') * 2 ^ vj'
      ∧ sg vs * vm * 2 ^ vj + sg T * vm' * 2 ^ vj' = sg 1 * -(vm - vm') * 2 ^ vj') := by
  obtain rfl : vj = vj' := by omega
  generalize (2 : Int) ^ vj = y
  rcases hv with rfl | rfl <;> rcases hT with rfl | rfl <;> simp only [sgA, sgB] <;> refine ⟨?_, ?_, ?_⟩ <;> grind
theorem fd_of {K : Frag} {a : Addr} {oc : Value} {od : Option Addr} {osl : Array (Option Value)} {fd : FuncData} {o : Obj} (hfd : K.lookup a = some ⟨oc, od, .func fd, osl⟩) (e : K.lookup a = some o) : (⟨oc, od, .func fd, osl⟩ : Obj) = o := Option.some.inj (hfd.symm.trans e)
local macro_rules | `(tactic| walk_at "binaryOp LShift int int") => `(tactic| (with_reducible refine' lshift_int_small ?sa ?sb ?sc ?_; (case sa => omega); (case sb => omega); (case sc => assumption)))
theorem does_addG (w : World) (news : Led) (v u : Value) (k k' ex b : Int) (tp tr tb : Tok) (rnd : Str) (args : List Value) {oc : Value} {od : Option Addr} {osl : Array (Option Value)} {fd : FuncData} (hfd : (Mine.hd.heap_39 w.params).lookup 126 = some ⟨oc, od, .func fd, osl⟩)
    (hbind : ∀ s : Shared, (Mine.hd.heap_39 w.params).In s.heap → BindsTo s fd ⟨args, []⟩ [(Str.ofString "s", v), (Str.ofString "t", u), (Str.ofString "prec", .int 0 tp), (Str.ofString "rnd", .str rnd tr), (Str.ofString "_sub", .int b tb)])
    (hv : MV news v (enc k ex)) (hu : MV news u (enc k' ex)) (hbk : k.natAbs < 2 ^ 64) (hbk' : k'.natAbs < 2 ^ 64) (hb : b = 0 ∨ b = 1) :
    Does w 126 args news (OutM (enc (k + sg b * k') ex)) 9 := by
  have e2 := fd_of hfd (by k_is)
  clear hfd
  have e3 := congrArg Obj.data e2
  injection e3 with e4
  clear e2
  subst e4
  unfold Does
  intro p loose mean mg mb dp un gd cn cs a ccd cl outer A₀ base h₀ L m s Q E B F X N T hk hd hu hret
  rename MV news v _ => hxv
  rename MV news u _ => hxu
  obtain ⟨rfl, hk0⟩ | ⟨va, vs, vm, vb, ts, tm, te, tb, vn, vj, rfl, hM, hsg, hpos, hodd, hbl, hkv, hk0⟩ := mv_enc hxv
  · obtain ⟨rfl, hk0'⟩ | ⟨va', vs', vm', vb', ts', tm', te', tb', vn', vj', rfl, hM', hsg', hpos', hodd', hbl', hkv', hk0'⟩ := mv_enc hxu
    · (refine wpAny_call ?_; k_dflt (refine' code_def ?k1 ?k2 ?k3 ?k4 ?k5 ?kA ?kF ?kK ?k6 ?k7 ?k8 ?k9 ?kB ?_ ?c2 ?c3 ?c4 ?c5; (case kA => exact rfl); (case kF => exact rfl); (case kK => assumption); (case k1 => k_asm); (case k2 => k_asm); (case k3 => k_asm); (case k4 => k_asm); (case k5 => k_asm); (case k6 => k_is); (case k7 => k_is); (case k8 => ktr_room); (case k9 => exact hbind _ (by k_in)); (case c5 => decide); (case kB => exact locs rfl); (case c2 => exact rfl); (case c3 => exact rfl); (case c4 => exact rfl); k_whole; intro g' L' h' FG' F' N' B' X' T'; (try dsimp only); (try k_fold)); k_steps)
      all_goals (refine retE hret (by k_asm) (by k_asm) (by ktn_ord) ?_)
      · exact outM_eq (by assumption) (by rw [hk0, hk0']; simp)
      · exact outM_zero (by rw [hk0, hk0']; simp)
    · have hx := sg_xor hsg' hb
      have hx1 := hx.1
      (refine wpAny_call ?_; k_dflt (refine' code_def ?k1 ?k2 ?k3 ?k4 ?k5 ?kA ?kF ?kK ?k6 ?k7 ?k8 ?k9 ?kB ?_ ?c2 ?c3 ?c4 ?c5; (case kA => exact rfl); (case kF => exact rfl); (case kK => assumption); (case k1 => k_asm); (case k2 => k_asm); (case k3 => k_asm); (case k4 => k_asm); (case k5 => k_asm); (case k6 => k_is); (case k7 => k_is); (case k8 => ktr_room); (case k9 => exact hbind _ (by k_in)); (case c5 => decide); (case kB => exact locs rfl); (case c2 => exact rfl); (case c3 => exact rfl); (case c4 => exact rfl); k_whole; intro g' L' h' FG' F' N' B' X' T'; (try dsimp only); (try k_fold)); k_steps)
      all_goals (refine retE hret (by k_asm) (by k_asm) (by ktn_ord) ?_)
      all_goals exact add_fin (by assumption) (by rw [hk0, hkv', hx.2, Int.zero_add, ← Int.mul_assoc, ← Int.mul_assoc, Int.mul_comm (sg b)])
  · obtain ⟨rfl, hk0'⟩ | ⟨va', vs', vm', vb', ts', tm', te', tb', vn', vj', rfl, hM', hsg', hpos', hodd', hbl', hkv', hk0'⟩ := mv_enc hxu
    · (refine wpAny_call ?_; k_dflt (refine' code_def ?k1 ?k2 ?k3 ?k4 ?k5 ?kA ?kF ?kK ?k6 ?k7 ?k8 ?k9 ?kB ?_ ?c2 ?c3 ?c4 ?c5; (case kA => exact rfl); (case kF => exact rfl); (case kK => assumption); (case k1 => k_asm); (case k2 => k_asm); (case k3 => k_asm); (case k4 => k_asm); (case k5 => k_asm); (case k6 => k_is); (case k7 => k_is); (case k8 => ktr_room); (case k9 => exact hbind _ (by k_in)); (case c5 => decide); (case kB => exact locs rfl); (case c2 => exact rfl); (case c3 => exact rfl); (case c4 => exact rfl); k_whole; intro g' L' h' FG' F' N' B' X' T'; (try dsimp only); (try k_fold)); k_steps)
      all_goals (refine retE hret (by k_asm) (by k_asm) (by ktn_ord) ?_)
      all_goals exact add_fin (by assumption) (by rw [hk0', hkv, Int.mul_zero, Int.add_zero])
    · have hj := mant_exp hsg hpos hkv hbk
      have hP1 := Int.mul_pos hpos (pow_pos' (ex + (vj : Int) - (ex + (vj' : Int))).toNat)
      have hP2 := Int.mul_pos hpos' (pow_pos' (-(ex + (vj : Int) - (ex + (vj' : Int)))).toNat)
      have hj' := mant_exp hsg' hpos' hkv' hbk'
      have hbm : vm.natAbs < 2 ^ 64 := Nat.lt_of_le_of_lt (mant_le hsg hpos hkv) hbk
      have hbm' : vm'.natAbs < 2 ^ 64 := Nat.lt_of_le_of_lt (mant_le hsg' hpos' hkv') hbk'
      have hx := sg_xor hsg' hb
      have hx1 := hx.1
      have hsum : k + sg b * k' = sg vs * vm * 2 ^ vj + sg (Builtin.bitXor vs' b) * vm' * 2 ^ vj' := by rw [hkv, hkv', hx.2, ← Int.mul_assoc, ← Int.mul_assoc, Int.mul_comm (sg b)]
      (refine wpAny_call ?_; k_dflt (refine' code_def ?k1 ?k2 ?k3 ?k4 ?k5 ?kA ?kF ?kK ?k6 ?k7 ?k8 ?k9 ?kB ?_ ?c2 ?c3 ?c4 ?c5; (case kA => exact rfl); (case kF => exact rfl); (case kK => assumption); (case k1 => k_asm); (case k2 => k_asm); (case k3 => k_asm); (case k4 => k_asm); (case k5 => k_asm); (case k6 => k_is); (case k7 => k_is); (case k8 => ktr_room); (case k9 => exact hbind _ (by k_in)); (case c5 => decide); (case kB => exact locs rfl); (case c2 => exact rfl); (case c3 => exact rfl); (case c4 => exact rfl); k_whole; intro g' L' h' FG' F' N' B' X' T'; (try dsimp only); (try k_fold)); k_steps)
      all_goals (refine retE hret (by k_asm) (by k_asm) (by ktn_ord) ?_)
      all_goals (refine add_fin (by assumption) ?_; rw [hsum])
      · exact (add_gt (by omega) hsg hx1).1 (by assumption)
      · exact ((add_gt (by omega) hsg hx1).2.1 (by assumption) (by assumption)).1
      · exact ((add_gt (by omega) hsg hx1).2.1 (by assumption) (by assumption)).2
      · exact ((add_gt (by omega) hsg hx1).2.2 (by assumption) (by assumption)).1
      · exact ((add_gt (by omega) hsg hx1).2.2 (by assumption) (by assumption)).2
      · exact (add_lt (by omega) hsg hx1).1 (by assumption)
      · exact ((add_lt (by omega) hsg hx1).2.1 (by assumption) (by assumption)).1
      · exact ((add_lt (by omega) hsg hx1).2.1 (by assumption) (by assumption)).2
      · exact ((add_lt (by omega) hsg hx1).2.2 (by assumption) (by assumption)).1
      · exact ((add_lt (by omega) hsg hx1).2.2 (by assumption) (by assumption)).2
      · exact (add_eq (by assumption) hsg hx1).1 (by assumption)
      · exact ((add_eq (by assumption) hsg hx1).2.1 (by assumption) (by assumption)).1
      · exact ((add_eq (by assumption) hsg hx1).2.1 (by assumption) (by assumption)).2
      · exact ((add_eq (by assumption) hsg hx1).2.2 (by assumption) (by assumption)).1
      · exact ((add_eq (by assumption) hsg hx1).2.2 (by assumption) (by assumption)).2
theorem does_add2 (w : World) (news : Led) (v u : Value) (k k' ex : Int) (hv : MV news v (enc k ex)) (hu : MV news u (enc k' ex)) (hbk : k.natAbs < 2 ^ 64) (hbk' : k'.natAbs < 2 ^ 64) :
    Does w 126 [v, u] news (OutM (enc (k + k') ex)) 9 := by
  have h := does_addG (oc := _) (od := _) (osl := _) (fd := _) w news v u k k' ex 0 392 210 393 (Str.ofString "d") [v, u] (by k_is) (fun s X => binds_K X rfl (by k_is) rfl rfl rfl) hv hu hbk hbk' (.inl rfl)
  rwa [sgA, Int.one_mul] at h
theorem does_add4 (w : World) (news : Led) (v u : Value) (k k' ex : Int) (t5 : Tok) (rnd : Str) (t6 : Tok) (hv : MV news v (enc k ex)) (hu : MV news u (enc k' ex)) (hbk : k.natAbs < 2 ^ 64) (hbk' : k'.natAbs < 2 ^ 64) :
    Does w 126 [v, u, .int 0 t5, .str rnd t6] news (OutM (enc (k + k') ex)) 9 := by
  have h := does_addG (oc := _) (od := _) (osl := _) (fd := _) w news v u k k' ex 0 t5 t6 393 rnd [v, u, .int 0 t5, .str rnd t6] (by k_is) (fun s X => binds_K X rfl (by k_is) rfl rfl rfl) hv hu hbk hbk' (.inl rfl)
  rwa [sgA, Int.one_mul] at h
theorem does_add5 (w : World) (news : Led) (v u : Value) (k k' ex : Int) (t5 : Tok) (rnd : Str) (t6 t7 : Tok) (hv : MV news v (enc k ex)) (hu : MV news u (enc k' ex)) (hbk : k.natAbs < 2 ^ 64) (hbk' : k'.natAbs < 2 ^ 64) :
    Does w 126 [v, u, .int 0 t5, .str rnd t6, .int 1 t7] news (OutM (enc (k - k') ex)) 9 := by
  have h := does_addG (oc := _) (od := _) (osl := _) (fd := _) w news v u k k' ex 1 t5 t6 t7 rnd [v, u, .int 0 t5, .str rnd t6, .int 1 t7] (by k_is) (fun s X => by first | exact BindsTo.of_eq rfl | exact binds_K X rfl (by k_is) rfl rfl rfl) hv hu hbk hbk' (.inr rfl)
  rwa [sgB, Int.neg_mul, Int.one_mul, ← Int.sub_eq_add_neg] at h
local macro_rules | `(tactic| walk_at "call ref") => `(tactic| (k_here; (with_reducible show wpAny _ _ (call (Value.ref 126) [_, _]) _ _ _); k_dflt (refine' use (does_add2 _ _ _ _ _ _ _ ?p1 ?p2 ?p3 ?p4) ?S ?B ?F ?X ?N ?T ?hk ?hd ?hu ?_; (case F => k_asm); (case N => k_asm); (case p1 => ktr_rel); (case p2 => ktr_rel); (case p3 => first | assumption | omega); (case p4 => first | assumption | omega); (case S => repeat' constructor); (case B => k_asm); (case X => k_asm); (case T => k_asm); (case hk => first | exact rfl | assumption); (case hd => ktr_room); (case hu => ktr_units); k_whole; intro r9 l9 h9 tk9 F9 N9 S9 O9; (try simp only [List.nil_append, List.cons_append] at N9); (try unfold OutM at O9); (try unfold OutP at O9); (try k_sweep))))
local macro_rules | `(tactic| walk_at "call ref") => `(tactic| (k_here; (with_reducible show wpAny _ _ (call (Value.ref 126) [_, _, Value.int 0 _, Value.str _ _]) _ _ _); k_dflt (refine' use (does_add4 _ _ _ _ _ _ _ _ _ _ ?p1 ?p2 ?p3 ?p4) ?S ?B ?F ?X ?N ?T ?hk ?hd ?hu ?_; (case F => k_asm); (case N => k_asm); (case p1 => ktr_rel); (case p2 => ktr_rel); (case p3 => first | assumption | omega); (case p4 => first | assumption | omega); (case S => repeat' constructor); (case B => k_asm); (case X => k_asm); (case T => k_asm); (case hk => first | exact rfl | assumption); (case hd => ktr_room); (case hu => ktr_units); k_whole; intro r9 l9 h9 tk9 F9 N9 S9 O9; (try simp only [List.nil_append, List.cons_append] at N9); (try unfold OutM at O9); (try unfold OutP at O9); (try k_sweep))))
local macro_rules | `(tactic| walk_at "call ref") => `(tactic| (k_here; (with_reducible show wpAny _ _ (call (Value.ref 126) [_, _, Value.int 0 _, Value.str _ _, Value.int 1 _]) _ _ _); k_dflt (refine' use (does_add5 _ _ _ _ _ _ _ _ _ _ _ ?p1 ?p2 ?p3 ?p4) ?S ?B ?F ?X ?N ?T ?hk ?hd ?hu ?_; (case F => k_asm); (case N => k_asm); (case p1 => ktr_rel); (case p2 => ktr_rel); (case p3 => first | assumption | omega); (case p4 => first | assumption | omega); (case S => repeat' constructor); (case B => k_asm); (case X => k_asm); (case T => k_asm); (case hk => first | exact rfl | assumption); (case hd => ktr_room); (case hu => ktr_units); k_whole; intro r9 l9 h9 tk9 F9 N9 S9 O9; (try simp only [List.nil_append, List.cons_append] at N9); (try unfold OutM at O9); (try unfold OutP at O9); (try k_sweep))))
def OutS (c : Int) : Led → Value → Prop := fun l r => ∃ (a : Addr) (t : Tok) (v1 v2 v3 : Value) (n : Nat), r = .ref a ∧ (a, ({ cls := .type "tuple", data := .seq #[.int c t, v1, v2, v3] n } : Obj)) ∈ l
theorem does_normR (w : World) (news : Led) (sign man exp bc : Int) (t1 t2 t3 t4 t5 t6 : Tok) (hs : sign = 0 ∨ sign = 1) (hm : 0 < man) :
    Does w 38 [.int sign t1, .int man t2, .int exp t3, .int bc t4, .int 5 t5, .str (Str.ofString "f") t6] news (OutS sign) 5 := by
  unfold Does
  intro p loose mean mg mb dp un gd cn cs a ccd cl outer A₀ base h₀ L m s Q E B F X N T hk hd hu hret
  have hf1 : 0 ≤ man.fdiv (2 ^ (bc - 5).toNat) := Int.fdiv_nonneg (by omega) (Int.le_of_lt (pow_pos' _))
  have hf2 : 0 ≤ -((-man).fdiv (2 ^ (bc - 5).toNat)) := by
    have := Int.fdiv_neg_of_neg_of_pos (a := -man) (b := 2 ^ (bc - 5).toNat) (by omega) (pow_pos' _)
    omega
  rcases hs with hs | hs <;> subst hs
  all_goals (refine wpAny_call ?_; k_dflt (refine' code_def ?k1 ?k2 ?k3 ?k4 ?k5 ?kA ?kF ?kK ?k6 ?k7 ?k8 ?k9 ?kB ?_ ?c2 ?c3 ?c4 ?c5; (case kA => exact rfl); (case kF => exact rfl); (case kK => assumption); (case k1 => k_asm); (case k2 => k_asm); (case k3 => k_asm); (case k4 => k_asm); (case k5 => k_asm); (case k6 => k_is); (case k7 => k_is); (case k8 => ktr_room); (case k9 => first | exact BindsTo.of_eq rfl | exact binds_K (by k_in) rfl (by k_is) rfl rfl rfl); (case c5 => decide); (case kB => exact locs rfl); (case c2 => exact rfl); (case c3 => exact rfl); (case c4 => exact rfl); k_whole; intro g' L' h' FG' F' N' B' X' T'; (try dsimp only); (try k_fold)); k_steps)
  all_goals (refine retE hret (by k_asm) (by k_asm) (by ktn_ord) ?_)
  all_goals exact ⟨_, _, _, _, _, _, rfl, .head _⟩
local macro_rules | `(tactic| walk_at "call ref") => `(tactic| (k_here; (with_reducible show wpAny _ _ (call (Value.ref 38) [Value.int _ _, Value.int _ _, Value.int _ _, Value.int _ _, Value.int 5 _, Value.str (Str.ofString "f") _]) _ _ _); k_dflt (refine' use (does_normR _ _ _ _ _ _ _ _ _ _ _ _ ?p1 ?p2) ?S ?B ?F ?X ?N ?T ?hk ?hd ?hu ?_; (case F => k_asm); (case N => k_asm); (case p1 => first | assumption | omega | decide); (case p2 => first | assumption | omega); (case S => repeat' constructor); (case B => k_asm); (case X => k_asm); (case T => k_asm); (case hk => first | exact rfl | assumption); (case hd => ktr_room); (case hu => ktr_units); k_whole; intro r9 l9 h9 tk9 F9 N9 S9 O9; (try simp only [List.nil_append, List.cons_append] at N9); (try unfold OutM at O9); (try unfold OutP at O9); (try k_sweep))))
theorem does_normalizeR (w : World) (news : Led) (sign man exp bc : Int) (t1 t2 t3 t4 t5 t6 : Tok) (hs : sign = 0 ∨ sign = 1) (hm : 0 < man) (hb : bc = bl man) :
    Does w 45 [.int sign t1, .int man t2, .int exp t3, .int bc t4, .int 5 t5, .str (Str.ofString "f") t6] news (OutS sign) 7 := by
  unfold Does
  intro p loose mean mg mb dp un gd cn cs a ccd cl outer A₀ base h₀ L m s Q E B F X N T hk hd hu hret
  have hb2 : bc = (Builtin.Int.intBits man : Int) := hb
  (refine wpAny_call ?_; k_dflt (refine' code_def ?k1 ?k2 ?k3 ?k4 ?k5 ?kA ?kF ?kK ?k6 ?k7 ?k8 ?k9 ?kB ?_ ?c2 ?c3 ?c4 ?c5; (case kA => exact rfl); (case kF => exact rfl); (case kK => assumption); (case k1 => k_asm); (case k2 => k_asm); (case k3 => k_asm); (case k4 => k_asm); (case k5 => k_asm); (case k6 => k_is); (case k7 => k_is); (case k8 => ktr_room); (case k9 => first | exact BindsTo.of_eq rfl | exact binds_K (by k_in) rfl (by k_is) rfl rfl rfl); (case c5 => decide); (case kB => exact locs rfl); (case c2 => exact rfl); (case c3 => exact rfl); (case c4 => exact rfl); k_whole; intro g' L' h' FG' F' N' B' X' T'; (try dsimp only); (try k_fold)); k_steps)
  all_goals (refine retE hret (by k_asm) (by k_asm) (by ktn_ord) ?_)
  all_goals assumption
local macro_rules | `(tactic| walk_at "call ref") => `(tactic| (k_here; (with_reducible show wpAny _ _ (call (Value.ref 45) [Value.int _ _, Value.int _ _, Value.int _ _, Value.int _ _, Value.int 5 _, Value.str (Str.ofString "f") _]) _ _ _); k_dflt (refine' use (does_normalizeR _ _ _ _ _ _ _ _ _ _ _ _ ?p1 ?p2 ?p3) ?S ?B ?F ?X ?N ?T ?hk ?hd ?hu ?_; (case F => k_asm); (case N => k_asm); (case p1 => first | assumption | omega | decide); (case p2 => first | assumption | omega); (case p3 => first | assumption | rfl); (case S => repeat' constructor); (case B => k_asm); (case X => k_asm); (case T => k_asm); (case hk => first | exact rfl | assumption); (case hd => ktr_room); (case hu => ktr_units); k_whole; intro r9 l9 h9 tk9 F9 N9 S9 O9; (try simp only [List.nil_append, List.cons_append] at N9); (try unfold OutM at O9); (try unfold OutP at O9); (try k_sweep))))
theorem sub5_ne {vm vm' : Int} {D : Nat} (h : 0 < D) (ho : vm' % 2 = 1) : vm * 2 ^ D ≠ vm' := by
  intro e
  obtain ⟨d, rfl⟩ : ∃ d, D = d + 1 := ⟨D - 1, by omega⟩
  rw [Int.pow_succ, ← Int.mul_assoc] at e
  generalize vm * 2 ^ d = z at e
  omega
theorem sub5_sign {k k' S P : Int} {j : Nat} (h : k + sg 1 * k' = sg S * P * 2 ^ j) (hS : S = 0 ∨ S = 1) (hP : 0 < P) : (if k < k' then (1 : Int) else 0) = S := by
  have hp := Int.mul_pos hP (pow_pos' j)
  rw [Int.mul_assoc, sgB] at h
  generalize P * 2 ^ j = z at h hp
  rcases sg_cases hS with ⟨rfl, q⟩ | ⟨rfl, q⟩ <;> rw [q] at h
  · rw [if_neg (by omega)]
  · rw [if_pos (by omega)]
theorem outS_eq {c c' : Int} {l : Led} {r : Value} (h : OutS c l r) (e : c' = c) : OutS c' l r := e ▸ h
theorem does_sub5 (w : World) (news : Led) (va va' : Addr) (vs vm vb vm' vb' ex k k' : Int) (vj vj' : Nat) (ts tm te tb ts' tm' te' tb' t5 t6 t7 : Tok) (vn vn' : Nat)
    (hM : (va, ({ cls := .type "tuple", data := .seq #[.int vs ts, .int vm tm, .int (ex + vj) te, .int vb tb] vn } : Obj)) ∈ news)
    (hM' : (va', ({ cls := .type "tuple", data := .seq #[.int vs ts', .int vm' tm', .int (ex + vj') te', .int vb' tb'] vn' } : Obj)) ∈ news)
    (hsg : vs = 0 ∨ vs = 1) (hpos : 0 < vm) (hpos' : 0 < vm') (hodd : vm % 2 = 1) (hodd' : vm' % 2 = 1) (hkv : k = sg vs * vm * 2 ^ vj) (hkv' : k' = sg vs * vm' * 2 ^ vj') (hne : (vj : Int) ≠ vj')
    (hj : vj < 64) (hj' : vj' < 64) (hbm : vm.natAbs < 2 ^ 64) (hbm' : vm'.natAbs < 2 ^ 64) :
    Does w 126 [.ref va, .ref va', .int 5 t5, .str (Str.ofString "f") t6, .int 1 t7] news (OutS (if k < k' then 1 else 0)) 9 := by
  unfold Does
  intro p loose mean mg mb dp un gd cn cs a ccd cl outer A₀ base h₀ L m s Q E B F X N T hk hd hu hret
  have hP1 := Int.mul_pos hpos (pow_pos' (ex + (vj : Int) - (ex + (vj' : Int))).toNat)
  have hP2 := Int.mul_pos hpos' (pow_pos' (-(ex + (vj : Int) - (ex + (vj' : Int)))).toNat)
  have hx := sg_xor hsg (.inr rfl : (1 : Int) = 0 ∨ (1 : Int) = 1)
  have hx1 := hx.1
  have hsum : k + sg 1 * k' = sg vs * vm * 2 ^ vj + sg (Builtin.bitXor vs 1) * vm' * 2 ^ vj' := by rw [hkv, hkv', hx.2, ← Int.mul_assoc, ← Int.mul_assoc, Int.mul_comm (sg 1)]
  rcases Int.lt_or_gt_of_ne hne with hlt | hlt
  · have hn2 := sub5_ne (vm := vm') (vm' := vm) (D := (-(ex + (vj : Int) - (ex + (vj' : Int)))).toNat) (by omega) hodd
    rcases hsg with hsg | hsg <;> subst hsg
    all_goals (refine wpAny_call ?_; k_dflt (refine' code_def ?k1 ?k2 ?k3 ?k4 ?k5 ?kA ?kF ?kK ?k6 ?k7 ?k8 ?k9 ?kB ?_ ?c2 ?c3 ?c4 ?c5; (case kA => exact rfl); (case kF => exact rfl); (case kK => assumption); (case k1 => k_asm); (case k2 => k_asm); (case k3 => k_asm); (case k4 => k_asm); (case k5 => k_asm); (case k6 => k_is); (case k7 => k_is); (case k8 => ktr_room); (case k9 => first | exact BindsTo.of_eq rfl | exact binds_K (by k_in) rfl (by k_is) rfl rfl rfl); (case c5 => decide); (case kB => exact locs rfl); (case c2 => exact rfl); (case c3 => exact rfl); (case c4 => exact rfl); k_whole; intro g' L' h' FG' F' N' B' X' T'; (try dsimp only); (try k_fold)); k_steps)
    all_goals (refine retE hret (by k_asm) (by k_asm) (by ktn_ord) ?_)
    · exact outS_eq (by assumption) (sub5_sign (hsum.trans ((add_lt (ex := ex) (by omega) (.inl rfl) hx1).2.1 (by decide) (by decide)).1) (.inl rfl) (by omega))
    · exact outS_eq (by assumption) (sub5_sign (hsum.trans ((add_lt (ex := ex) (by omega) (.inl rfl) hx1).2.1 (by decide) (by decide)).2) (.inr rfl) (by omega))
    · exact outS_eq (by assumption) (sub5_sign (hsum.trans ((add_lt (ex := ex) (by omega) (.inr rfl) hx1).2.2 (by decide) (by decide)).1) (.inl rfl) (by omega))
    · exact outS_eq (by assumption) (sub5_sign (hsum.trans ((add_lt (ex := ex) (by omega) (.inr rfl) hx1).2.2 (by decide) (by decide)).2) (.inr rfl) (by omega))
  · have hn2 := sub5_ne (vm := vm) (vm' := vm') (D := (ex + (vj : Int) - (ex + (vj' : Int))).toNat) (by omega) hodd'
    rcases hsg with hsg | hsg <;> subst hsg
    all_goals (refine wpAny_call ?_; k_dflt (refine' code_def ?k1 ?k2 ?k3 ?k4 ?k5 ?kA ?kF ?kK ?k6 ?k7 ?k8 ?k9 ?kB ?_ ?c2 ?c3 ?c4 ?c5; (case kA => exact rfl); (case kF => exact rfl); (case kK => assumption); (case k1 => k_asm); (case k2 => k_asm); (case k3 => k_asm); (case k4 => k_asm); (case k5 => k_asm); (case k6 => k_is); (case k7 => k_is); (case k8 => ktr_room); (case k9 => first | exact BindsTo.of_eq rfl | exact binds_K (by k_in) rfl (by k_is) rfl rfl rfl); (case c5 => decide); (case kB => exact locs rfl); (case c2 => exact rfl); (case c3 => exact rfl); (case c4 => exact rfl); k_whole; intro g' L' h' FG' F' N' B' X' T'; (try dsimp only); (try k_fold)); k_steps)
    all_goals (refine retE hret (by k_asm) (by k_asm) (by ktn_ord) ?_)
    · exact outS_eq (by assumption) (sub5_sign (hsum.trans ((add_gt (ex := ex) (by omega) (.inl rfl) hx1).2.2 (by decide) (by decide)).1) (.inl rfl) (by omega))
    · exact outS_eq (by assumption) (sub5_sign (hsum.trans ((add_gt (ex := ex) (by omega) (.inl rfl) hx1).2.2 (by decide) (by decide)).2) (.inr rfl) (by omega))
    · exact outS_eq (by assumption) (sub5_sign (hsum.trans ((add_gt (ex := ex) (by omega) (.inr rfl) hx1).2.1 (by decide) (by decide)).1) (.inl rfl) (by omega))
    · exact outS_eq (by assumption) (sub5_sign (hsum.trans ((add_gt (ex := ex) (by omega) (.inr rfl) hx1).2.1 (by decide) (by decide)).2) (.inr rfl) (by omega))
local macro_rules | `(tactic| walk_at "call ref") => `(tactic| (k_here; (with_reducible show wpAny _ _ (call (Value.ref 126) [Value.ref _, Value.ref _, Value.int 5 _, Value.str (Str.ofString "f") _, Value.int 1 _]) _ _ _); k_dflt (refine' use (does_sub5 _ _ _ _ _ _ _ _ _ _ _ _ _ _ _ _ _ _ _ _ _ _ _ _ _ _ _ ?q1 ?q2 ?q3 ?q4 ?q5 ?q6 ?q7 ?q8 ?q9 ?p1 ?p2 ?p3 ?p4 ?p5) ?S ?B ?F ?X ?N ?T ?hk ?hd ?hu ?_; (case F => k_asm); (case N => k_asm); (case q1 => assumption); (case q2 => assumption); (case q3 => assumption); (case q4 => assumption); (case q5 => assumption); (case q6 => assumption); (case q7 => assumption); (case q8 => assumption); (case q9 => assumption); (case p1 => omega); (case p2 => assumption); (case p3 => assumption); (case p4 => assumption); (case p5 => assumption); (case S => repeat' constructor); (case B => k_asm); (case X => k_asm); (case T => k_asm); (case hk => first | exact rfl | assumption); (case hd => ktr_room); (case hu => ktr_units); k_whole; intro r9 l9 h9 tk9 F9 N9 S9 O9; (try simp only [List.nil_append, List.cons_append] at N9); (try unfold OutM at O9); (try unfold OutP at O9); (try k_sweep))))
theorem does_sub4 (w : World) (news : Led) (v u : Value) (k k' ex : Int) (t5 : Tok) (rnd : Str) (t6 : Tok) (hv : MV news v (enc k ex)) (hu : MV news u (enc k' ex)) (hbk : k.natAbs < 2 ^ 64) (hbk' : k'.natAbs < 2 ^ 64) :
    Does w 134 [v, u, .int 0 t5, .str rnd t6] news (OutM (enc (k - k') ex)) 11 := by
  unfold Does
  intro p loose mean mg mb dp un gd cn cs a ccd cl outer A₀ base h₀ L m s Q E B F X N T hk hd hu hret
  (refine wpAny_call ?_; k_dflt (refine' code_def ?k1 ?k2 ?k3 ?k4 ?k5 ?kA ?kF ?kK ?k6 ?k7 ?k8 ?k9 ?kB ?_ ?c2 ?c3 ?c4 ?c5; (case kA => exact rfl); (case kF => exact rfl); (case kK => assumption); (case k1 => k_asm); (case k2 => k_asm); (case k3 => k_asm); (case k4 => k_asm); (case k5 => k_asm); (case k6 => k_is); (case k7 => k_is); (case k8 => ktr_room); (case k9 => first | exact BindsTo.of_eq rfl | exact binds_K (by k_in) rfl (by k_is) rfl rfl rfl); (case c5 => decide); (case kB => exact locs rfl); (case c2 => exact rfl); (case c3 => exact rfl); (case c4 => exact rfl); k_whole; intro g' L' h' FG' F' N' B' X' T'; (try dsimp only); (try k_fold)); k_steps)
  all_goals (refine retE hret (by k_asm) (by k_asm) (by ktn_ord) ?_)
  all_goals assumption
theorem does_sub4r (w : World) (news : Led) (va va' : Addr) (vs vm vb vm' vb' ex k k' : Int) (vj vj' : Nat) (ts tm te tb ts' tm' te' tb' t5 t6 : Tok) (vn vn' : Nat)
    (hM : (va, ({ cls := .type "tuple", data := .seq #[.int vs ts, .int vm tm, .int (ex + vj) te, .int vb tb] vn } : Obj)) ∈ news)
    (hM' : (va', ({ cls := .type "tuple", data := .seq #[.int vs ts', .int vm' tm', .int (ex + vj') te', .int vb' tb'] vn' } : Obj)) ∈ news)
    (hsg : vs = 0 ∨ vs = 1) (hpos : 0 < vm) (hpos' : 0 < vm') (hodd : vm % 2 = 1) (hodd' : vm' % 2 = 1) (hkv : k = sg vs * vm * 2 ^ vj) (hkv' : k' = sg vs * vm' * 2 ^ vj') (hne : (vj : Int) ≠ vj')
    (hj : vj < 64) (hj' : vj' < 64) (hbm : vm.natAbs < 2 ^ 64) (hbm' : vm'.natAbs < 2 ^ 64) :
    Does w 134 [.ref va, .ref va', .int 5 t5, .str (Str.ofString "f") t6] news (OutS (if k < k' then 1 else 0)) 11 := by
  unfold Does
  intro p loose mean mg mb dp un gd cn cs a ccd cl outer A₀ base h₀ L m s Q E B F X N T hk hd hu hret
  (refine wpAny_call ?_; k_dflt (refine' code_def ?k1 ?k2 ?k3 ?k4 ?k5 ?kA ?kF ?kK ?k6 ?k7 ?k8 ?k9 ?kB ?_ ?c2 ?c3 ?c4 ?c5; (case kA => exact rfl); (case kF => exact rfl); (case kK => assumption); (case k1 => k_asm); (case k2 => k_asm); (case k3 => k_asm); (case k4 => k_asm); (case k5 => k_asm); (case k6 => k_is); (case k7 => k_is); (case k8 => ktr_room); (case k9 => first | exact BindsTo.of_eq rfl | exact binds_K (by k_in) rfl (by k_is) rfl rfl rfl); (case c5 => decide); (case kB => exact locs rfl); (case c2 => exact rfl); (case c3 => exact rfl); (case c4 => exact rfl); k_whole; intro g' L' h' FG' F' N' B' X' T'; (try dsimp only); (try k_fold)); k_steps)
  all_goals (refine retE hret (by k_asm) (by k_asm) (by ktn_ord) ?_)
  all_goals assumption
local macro_rules | `(tactic| walk_at "call ref") => `(tactic| (k_here; (with_reducible show wpAny _ _ (call (Value.ref 134) [_, _, Value.int 0 _, Value.str _ _]) _ _ _); k_dflt (refine' use (does_sub4 _ _ _ _ _ _ _ _ _ _ ?p1 ?p2 ?p3 ?p4) ?S ?B ?F ?X ?N ?T ?hk ?hd ?hu ?_; (case F => k_asm); (case N => k_asm); (case p1 => ktr_rel); (case p2 => ktr_rel); (case p3 => first | assumption | omega); (case p4 => first | assumption | omega); (case S => repeat' constructor); (case B => k_asm); (case X => k_asm); (case T => k_asm); (case hk => first | exact rfl | assumption); (case hd => ktr_room); (case hu => ktr_units); k_whole; intro r9 l9 h9 tk9 F9 N9 S9 O9; (try simp only [List.nil_append, List.cons_append] at N9); (try unfold OutM at O9); (try unfold OutP at O9); (try k_sweep))))
local macro_rules | `(tactic| walk_at "call ref") => `(tactic| (k_here; (with_reducible show wpAny _ _ (call (Value.ref 134) [Value.ref _, Value.ref _, Value.int 5 _, Value.str (Str.ofString "f") _]) _ _ _); k_dflt (refine' use (does_sub4r _ _ _ _ _ _ _ _ _ _ _ _ _ _ _ _ _ _ _ _ _ _ _ _ _ _ ?q1 ?q2 ?q3 ?q4 ?q5 ?q6 ?q7 ?q8 ?q9 ?p1 ?p2 ?p3 ?p4 ?p5) ?S ?B ?F ?X ?N ?T ?hk ?hd ?hu ?_; (case F => k_asm); (case N => k_asm); (case q1 => assumption); (case q2 => assumption); (case q3 => assumption); (case q4 => assumption); (case q5 => assumption); (case q6 => assumption); (case q7 => assumption); (case q8 => assumption); (case q9 => assumption); (case p1 => omega); (case p2 => assumption); (case p3 => assumption); (case p4 => assumption); (case p5 => assumption); (case S => repeat' constructor); (case B => k_asm); (case X => k_asm); (case T => k_asm); (case hk => first | exact rfl | assumption); (case hd => ktr_room); (case hu => ktr_units); k_whole; intro r9 l9 h9 tk9 F9 N9 S9 O9; (try simp only [List.nil_append, List.cons_append] at N9); (try unfold OutM at O9); (try unfold OutP at O9); (try k_sweep); (obtain ⟨a9, t9, v19, v29, v39, n9, e9, m9⟩ := O9); subst e9)))
def F4.py (x : F4) : PyData := .tuple [.int x.s, .int x.m, .int x.e, .int x.b]
theorem readsAll4 {h : Heap} {s m e b : Int} {ts tm te tb : Tok} : ReadsAll h (#[Value.int s ts, Value.int m tm, Value.int e te, Value.int b tb] : Array Value).toList [.int s, .int m, .int e, .int b] [] :=
  .cons (as := []) (.int _ _) (.cons (as := []) (.int _ _) (.cons (as := []) (.int _ _) (.cons (as := []) (.int _ _) .nil)))
theorem reads_z {w : World} {h₀ h : Heap} {L : Addr} {m : Str → Option Value} (F : Fr h₀ L h m) (X : (Mine.hd.heap_39 w.params).In h₀) : Reads h (.ref 22) (F4.py ⟨0, 0, 0, 0⟩) [] :=
  readsK F X (by k_is) rfl rfl readsAll4
theorem reads_nan {w : World} {h₀ h : Heap} {L : Addr} {m : Str → Option Value} (F : Fr h₀ L h m) (X : (Mine.hd.heap_39 w.params).In h₀) : Reads h (.ref 24) (F4.py ⟨0, 0, -123, -1⟩) [] :=
  readsK F X (by k_is) rfl rfl readsAll4
theorem reads_inf {w : World} {h₀ h : Heap} {L : Addr} {m : Str → Option Value} (F : Fr h₀ L h m) (X : (Mine.hd.heap_39 w.params).In h₀) : Reads h (.ref 25) (F4.py ⟨0, 0, -456, -2⟩) [] :=
  readsK F X (by k_is) rfl rfl readsAll4
theorem reads_ninf {w : World} {h₀ h : Heap} {L : Addr} {m : Str → Option Value} (F : Fr h₀ L h m) (X : (Mine.hd.heap_39 w.params).In h₀) : Reads h (.ref 26) (F4.py ⟨1, 0, -789, -3⟩) [] :=
  readsK F X (by k_is) rfl rfl readsAll4
theorem MV.reads {w : World} {h₀ h : Heap} {L : Addr} {m : Str → Option Value} {news : Led} {v : Value} {x : F4} (F : Fr h₀ L h m) (X : (Mine.hd.heap_39 w.params).In h₀) (N : News h₀ L h news) (hv : MV news v x) : Reads h v x.py [] := by
  cases hv with
  | zero => exact reads_z F X
  | made hm _ => exact reads_tuple_at (N.get hm) rfl rfl readsAll4
def pyP (x y : F4) : PyData := .tuple [x.py, y.py]
theorem IV.reads {w : World} {h₀ h : Heap} {L : Addr} {m : Str → Option Value} {news : Led} {v : Value} {x y : F4} (F : Fr h₀ L h m) (X : (Mine.hd.heap_39 w.params).In h₀) (N : News h₀ L h news) (hv : IV news v x y) : Reads h v (pyP x y) [] := by
  cases hv with
  | mk hm h1 h2 => exact reads_tuple_at (N.get hm) rfl rfl (.cons (as := []) (h1.reads F X N) (.cons (as := []) (h2.reads F X N) .nil))
def F4.beq (x y : F4) : Bool := x.s == y.s && (x.m == y.m && (x.e == y.e && x.b == y.b))
theorem F4.beq_iff (x y : F4) : F4.beq x y = true ↔ x = y := by
  cases x; cases y; simp [F4.beq]
theorem F4.beq_enc (a b e : Int) : F4.beq (enc a e) (enc b e) = decide (a = b) := by
  rw [Bool.eq_iff_iff, F4.beq_iff, enc_inj, decide_eq_true_iff]
theorem py_eqv (x y : F4) : PyData.eqv x.py y.py = F4.beq x y := by
  simp [F4.py, PyData.eqv, PyData.eqvAll, F4.beq]
theorem pyP_eqv (x y x' y' : F4) : PyData.eqv (pyP x y) (pyP x' y') = (F4.beq x x' && F4.beq y y') := by
  simp only [pyP, PyData.eqv, PyData.eqvAll, py_eqv, Bool.and_true]
theorem py_shaped (x : F4) : SeqAt.shaped x.py = true := by
  simp [F4.py, SeqAt.shaped, PyData.canLay0, PyData.canLayAll0, PyData.depth, PyData.depthAll]
theorem pyP_shaped (x y : F4) : SeqAt.shaped (pyP x y) = true := by
  simp [pyP, F4.py, SeqAt.shaped, PyData.canLay0, PyData.canLayAll0, PyData.depth, PyData.depthAll]
section
variable {w : World} {A : Around} {E : Value → Shared → Prop} {s : Shared} {h₀ : Heap} {L : Addr} {m : Str → Option Value} {news : Led} {v u : Value} {x y x' y' : F4} {k k' ex : Int} {Q : Value → Shared → Prop}
theorem eq_mv (F : Fr h₀ L s.heap m) (X : (Mine.hd.heap_39 w.params).In h₀) (N : News h₀ L s.heap news) (hv : MV news v x) (hu : MV news u y) (hr : A.units + 64 < cLine) (h : Q (.bool (F4.beq x y)) s) : wpAny (model PG w) A (compareOp .Eq v u) Q E s :=
  eq_dataH (hv.reads F X N) (hu.reads F X N) (py_shaped _) (py_shaped _) hr (by rw [py_eqv]; exact h)
theorem ne_mv (F : Fr h₀ L s.heap m) (X : (Mine.hd.heap_39 w.params).In h₀) (N : News h₀ L s.heap news) (hv : MV news v x) (hu : MV news u y) (hr : A.units + 64 < cLine) (h : Q (.bool (!F4.beq x y)) s) : wpAny (model PG w) A (compareOp .NotEq v u) Q E s :=
  ne_dataH (hv.reads F X N) (hu.reads F X N) (py_shaped _) (py_shaped _) hr (by rw [py_eqv]; exact h)
theorem eq_iv (F : Fr h₀ L s.heap m) (X : (Mine.hd.heap_39 w.params).In h₀) (N : News h₀ L s.heap news) (hv : IV news v x y) (hu : IV news u x' y') (hr : A.units + 64 < cLine) (h : Q (.bool (F4.beq x x' && F4.beq y y')) s) : wpAny (model PG w) A (compareOp .Eq v u) Q E s :=
  eq_dataH (hv.reads F X N) (hu.reads F X N) (pyP_shaped _ _) (pyP_shaped _ _) hr (by rw [pyP_eqv]; exact h)
theorem ne_iv (F : Fr h₀ L s.heap m) (X : (Mine.hd.heap_39 w.params).In h₀) (N : News h₀ L s.heap news) (hv : IV news v x y) (hu : IV news u x' y') (hr : A.units + 64 < cLine) (h : Q (.bool (!(F4.beq x x' && F4.beq y y'))) s) : wpAny (model PG w) A (compareOp .NotEq v u) Q E s :=
  ne_dataH (hv.reads F X N) (hu.reads F X N) (pyP_shaped _ _) (pyP_shaped _ _) hr (by rw [pyP_eqv]; exact h)
theorem MV.b_nonneg (hv : MV news v x) : 0 ≤ x.b := by
  cases hv with
  | zero => exact Int.le_refl _
  | made _ hw =>
    have := hw.2.2.2
    dsimp only at this ⊢
    rw [this]
    exact Int.natCast_nonneg _
theorem enc_eq_zero (k ex : Int) : F4.beq (enc k ex) ⟨0, 0, 0, 0⟩ = decide (k = 0) := by
  rw [← enc_zero ex]
  exact F4.beq_enc k 0 ex
theorem eq_fzero (F : Fr h₀ L s.heap m) (X : (Mine.hd.heap_39 w.params).In h₀) (N : News h₀ L s.heap news) (hv : MV news v (enc k ex)) (hr : A.units + 64 < cLine) (h : Q (.bool (decide (k = 0))) s) : wpAny (model PG w) A (compareOp .Eq v (.ref 22)) Q E s :=
  eq_mv F X N hv MV.zero hr (by rw [enc_eq_zero k ex]; exact h)
theorem eq_spec {c : Addr} {z : F4} (hc : Reads s.heap (.ref c) z.py []) (hz : z.b < 0) (F : Fr h₀ L s.heap m) (X : (Mine.hd.heap_39 w.params).In h₀) (N : News h₀ L s.heap news) (hv : MV news v x) (hr : A.units + 64 < cLine) (h : Q (.bool false) s) :
    wpAny (model PG w) A (compareOp .Eq v (.ref c)) Q E s :=
  eq_dataH (hv.reads F X N) hc (py_shaped _) (py_shaped _) hr (by
    rw [py_eqv, show F4.beq x z = false from by
      rw [← Bool.not_eq_true, F4.beq_iff]
      rintro rfl
      have := hv.b_nonneg
      omega]
    exact h)
theorem eq_nan (F : Fr h₀ L s.heap m) (X : (Mine.hd.heap_39 w.params).In h₀) (N : News h₀ L s.heap news) (hv : MV news v x) (hr : A.units + 64 < cLine) (h : Q (.bool false) s) : wpAny (model PG w) A (compareOp .Eq v (.ref 24)) Q E s :=
  eq_spec (reads_nan F X) (by decide) F X N hv hr h
theorem eq_inf (F : Fr h₀ L s.heap m) (X : (Mine.hd.heap_39 w.params).In h₀) (N : News h₀ L s.heap news) (hv : MV news v x) (hr : A.units + 64 < cLine) (h : Q (.bool false) s) : wpAny (model PG w) A (compareOp .Eq v (.ref 25)) Q E s :=
  eq_spec (reads_inf F X) (by decide) F X N hv hr h
theorem eq_ninf (F : Fr h₀ L s.heap m) (X : (Mine.hd.heap_39 w.params).In h₀) (N : News h₀ L s.heap news) (hv : MV news v x) (hr : A.units + 64 < cLine) (h : Q (.bool false) s) : wpAny (model PG w) A (compareOp .Eq v (.ref 26)) Q E s :=
  eq_spec (reads_ninf F X) (by decide) F X N hv hr h
end
local macro_rules | `(tactic| walk_at "compareOp Eq") => `(tactic| (k_here; (with_reducible show wpAny _ _ (compareOp CmpOp.Eq _ (Value.ref 22)) _ _ _); k_dflt (refine' eq_fzero ?F ?X ?N ?v ?r ?_; (case F => k_asm); (case X => k_asm); (case N => k_asm); (case v => ktr_rel); (case r => units_room); k_whole)))
local macro_rules | `(tactic| walk_at "compareOp Eq") => `(tactic| (k_here; (with_reducible show wpAny _ _ (compareOp CmpOp.Eq _ (Value.ref 24)) _ _ _); k_dflt (refine' eq_nan ?F ?X ?N ?v ?r ?_; (case F => k_asm); (case X => k_asm); (case N => k_asm); (case v => ktr_rel); (case r => units_room); k_whole)))
local macro_rules | `(tactic| walk_at "compareOp Eq") => `(tactic| (k_here; (with_reducible show wpAny _ _ (compareOp CmpOp.Eq _ (Value.ref 25)) _ _ _); k_dflt (refine' eq_inf ?F ?X ?N ?v ?r ?_; (case F => k_asm); (case X => k_asm); (case N => k_asm); (case v => ktr_rel); (case r => units_room); k_whole)))
local macro_rules | `(tactic| walk_at "compareOp Eq") => `(tactic| (k_here; (with_reducible show wpAny _ _ (compareOp CmpOp.Eq _ (Value.ref 26)) _ _ _); k_dflt (refine' eq_ninf ?F ?X ?N ?v ?r ?_; (case F => k_asm); (case X => k_asm); (case N => k_asm); (case v => ktr_rel); (case r => units_room); k_whole)))
local macro_rules | `(tactic| walk_at "compareOp Eq ref ref") => `(tactic| (k_here; (with_reducible show wpAny _ _ (compareOp CmpOp.Eq _ (Value.ref 22)) _ _ _); k_dflt (refine' eq_fzero ?F ?X ?N ?v ?r ?_; (case F => k_asm); (case X => k_asm); (case N => k_asm); (case v => ktr_rel); (case r => units_room); k_whole)))
theorem sgn_sub_lt {k k' : Int} (h : k < k') : sgn (k - k') = -1 := by
  unfold sgn; rw [if_neg (by omega), if_pos (by omega)]
theorem sgn_sub_gt {k k' : Int} (h : k' < k) : sgn (k - k') = 1 := by
  unfold sgn; rw [if_neg (by omega), if_neg (by omega)]
theorem mag_lt {m m' : Int} {j j' : Nat} (hm : 0 < m) (hm' : 0 < m') (h : bl m + j < bl m' + j') : m * 2 ^ j < m' * 2 ^ j' := by
  unfold bl at h
  have h1 : m.natAbs < 2 ^ Builtin.Int.intBits m := intBits_le_iff.mp (Nat.le_refl _)
  have hb : 0 < Builtin.Int.intBits m' := by
    rcases Nat.eq_zero_or_pos (Builtin.Int.intBits m') with h0 | h0
    · have := intBits_le_iff.mp (Nat.le_of_eq h0)
      rw [Nat.pow_zero] at this
      omega
    · exact h0
  have h2 : 2 ^ (Builtin.Int.intBits m' - 1) ≤ m'.natAbs := by
    rcases Nat.lt_or_ge m'.natAbs (2 ^ (Builtin.Int.intBits m' - 1)) with h0 | h0
    · have := intBits_le_iff.mpr h0
      omega
    · exact h0
  generalize Builtin.Int.intBits m = b at h h1
  generalize Builtin.Int.intBits m' = b' at h h2 hb
  have e1 : m.natAbs * 2 ^ j < 2 ^ b * 2 ^ j := (Nat.mul_lt_mul_right (Nat.two_pow_pos j)).mpr h1
  have e2 : 2 ^ (b' - 1) * 2 ^ j' ≤ m'.natAbs * 2 ^ j' := Nat.mul_le_mul_right _ h2
  rw [← Nat.pow_add] at e1 e2
  have e3 : 2 ^ (b + j) ≤ 2 ^ (b' - 1 + j') := Nat.pow_le_pow_right (by decide) (by omega)
  have e4 : m.natAbs * 2 ^ j < m'.natAbs * 2 ^ j' := by omega
  have e5 : ((m.natAbs * 2 ^ j : Nat) : Int) < ((m'.natAbs * 2 ^ j' : Nat) : Int) := by exact_mod_cast e4
  rw [Int.natCast_mul, Int.natCast_mul, Int.natCast_pow, Int.natCast_pow] at e5
  rw [show (m.natAbs : Int) = m by omega, show (m'.natAbs : Int) = m' by omega] at e5
  exact e5
section
variable {vs vs' vm vm' k k' ex : Int} {vj vj' : Nat}
theorem cmp_signs (hsg : vs = 0 ∨ vs = 1) (hsg' : vs' = 0 ∨ vs' = 1) (hpos : 0 < vm) (hpos' : 0 < vm') (hkv : k = sg vs * vm * 2 ^ vj) (hkv' : k' = sg vs' * vm' * 2 ^ vj') (h : vs ≠ vs') : (vs = 0 → sgn (k - k') = 1) ∧ (vs ≠ 0 → sgn (k - k') = -1) := by
  have p1 := Int.mul_pos hpos (pow_pos' vj)
  have p2 := Int.mul_pos hpos' (pow_pos' vj')
  rw [Int.mul_assoc] at hkv hkv'
  generalize vm * 2 ^ vj = z at *
  generalize vm' * 2 ^ vj' = z' at *
  rcases sg_cases hsg with ⟨rfl, q⟩ | ⟨rfl, q⟩ <;> rcases sg_cases hsg' with ⟨rfl, q'⟩ | ⟨rfl, q'⟩ <;> rw [q] at hkv <;> rw [q'] at hkv'
  · exact absurd rfl h
  · exact ⟨fun _ => sgn_sub_gt (by omega), fun h => absurd rfl h⟩
  · exact ⟨fun h => absurd h (by decide), fun _ => sgn_sub_lt (by omega)⟩
  · exact absurd rfl h
/-- the numbers' order by their sizes' -/
theorem cmp_size (hsg : vs = 0 ∨ vs = 1) (hkv : k = sg vs * vm * 2 ^ vj) (hkv' : k' = sg vs * vm' * 2 ^ vj') :
    (vm * 2 ^ vj < vm' * 2 ^ vj' → (vs = 0 → sgn (k - k') = -1) ∧ (vs ≠ 0 → sgn (k - k') = 1)) ∧ (vm' * 2 ^ vj' < vm * 2 ^ vj → (vs = 0 → sgn (k - k') = 1) ∧ (vs ≠ 0 → sgn (k - k') = -1)) := by
  rw [Int.mul_assoc] at hkv hkv'
  generalize vm * 2 ^ vj = z at *
  generalize vm' * 2 ^ vj' = z' at *
  rcases sg_cases hsg with ⟨rfl, q⟩ | ⟨rfl, q⟩ <;> rw [q] at hkv hkv'
  · exact ⟨fun h => ⟨fun _ => sgn_sub_lt (by omega), fun h => absurd rfl h⟩, fun h => ⟨fun _ => sgn_sub_gt (by omega), fun h => absurd rfl h⟩⟩
  · exact ⟨fun h => ⟨fun h => absurd h (by decide), fun _ => sgn_sub_gt (by omega)⟩, fun h => ⟨fun h => absurd h (by decide), fun _ => sgn_sub_lt (by omega)⟩⟩
theorem size_exp (hj : ex + (vj : Int) = ex + (vj' : Int)) (h : vm < vm') : vm * 2 ^ vj < vm' * 2 ^ vj' := by
  obtain rfl : vj = vj' := by omega
  exact Int.mul_lt_mul_of_pos_right h (pow_pos' vj)
end
theorem exp_lt_ne {vm vm' : Int} {j j' : Nat} (ho : vm % 2 = 1) (h : j < j') : vm * 2 ^ j ≠ vm' * 2 ^ j' := by
  intro e
  obtain ⟨d, rfl⟩ : ∃ d, j' = d + j := ⟨j' - j, by omega⟩
  rw [pow_add', ← Int.mul_assoc] at e
  have := Int.eq_of_mul_eq_mul_right (Int.ne_of_gt (pow_pos' j)) e
  exact sub5_ne (vm := vm') (vm' := vm) (D := d) (by omega) ho this.symm
theorem exp_ne {vm vm' vs k k' ex : Int} {vj vj' : Nat} (hsg : vs = 0 ∨ vs = 1) (hodd : vm % 2 = 1) (hodd' : vm' % 2 = 1) (hkv : k = sg vs * vm * 2 ^ vj) (hkv' : k' = sg vs * vm' * 2 ^ vj') (h : ex + (vj : Int) ≠ ex + (vj' : Int)) : k ≠ k' := by
  have key : vm * 2 ^ vj ≠ vm' * 2 ^ vj' := by
    rcases Nat.lt_or_gt_of_ne (show vj ≠ vj' by omega) with q | q
    · exact exp_lt_ne hodd q
    · exact fun e => exp_lt_ne hodd' q e.symm
  rw [Int.mul_assoc] at hkv hkv'
  generalize vm * 2 ^ vj = z at *
  generalize vm' * 2 ^ vj' = z' at *
  rcases sg_cases hsg with ⟨rfl, q⟩ | ⟨rfl, q⟩ <;> rw [q] at hkv hkv' <;> omega
theorem ite_one {c : Prop} [Decidable c] (h : (if c then (1 : Int) else 0) ≠ 0) : c := by
  by_cases hc : c
  · exact hc
  · rw [if_neg hc] at h; exact absurd rfl h
theorem ite_nil {c : Prop} [Decidable c] (h : (if c then (1 : Int) else 0) = 0) : ¬ c := by
  intro hc
  rw [if_pos hc] at h; exact absurd h (by decide)
theorem does_cmp (w : World) (news : Led) (v u : Value) (k k' ex : Int) (hv : MV news v (enc k ex)) (hu : MV news u (enc k' ex)) (hbk : k.natAbs < 2 ^ 64) (hbk' : k'.natAbs < 2 ^ 64) :
    Does w 60 [v, u] news (OutI (sgn (k - k'))) 13 := by
  unfold Does
  intro p loose mean mg mb dp un gd cn cs a ccd cl outer A₀ base h₀ L m s Q E B F X N T hk hd hu hret
  rename MV news v _ => hxv
  rename MV news u _ => hxu
  obtain ⟨rfl, hk0⟩ | ⟨va, vs, vm, vb, ts, tm, te, tb, vn, vj, rfl, hM, hsg, hpos, hodd, hbl, hkv, hk0⟩ := mv_enc hxv
  · obtain ⟨rfl, hk0'⟩ | ⟨va', vs', vm', vb', ts', tm', te', tb', vn', vj', rfl, hM', hsg', hpos', hodd', hbl', hkv', hk0'⟩ := mv_enc hxu
    · (refine wpAny_call ?_; k_dflt (refine' code_def ?k1 ?k2 ?k3 ?k4 ?k5 ?kA ?kF ?kK ?k6 ?k7 ?k8 ?k9 ?kB ?_ ?c2 ?c3 ?c4 ?c5; (case kA => exact rfl); (case kF => exact rfl); (case kK => assumption); (case k1 => k_asm); (case k2 => k_asm); (case k3 => k_asm); (case k4 => k_asm); (case k5 => k_asm); (case k6 => k_is); (case k7 => k_is); (case k8 => ktr_room); (case k9 => first | exact BindsTo.of_eq rfl | exact binds_K (by k_in) rfl (by k_is) rfl rfl rfl); (case c5 => decide); (case kB => exact locs rfl); (case c2 => exact rfl); (case c3 => exact rfl); (case c4 => exact rfl); k_whole; intro g' L' h' FG' F' N' B' X' T'; (try dsimp only); (try k_fold)); k_steps)
      all_goals (refine retE hret (by k_asm) (by k_asm) (by ktn_ord) ?_)
      all_goals exact ⟨_, congrArg (Value.int · _) (by rw [hk0, hk0']; rfl)⟩
    · (refine wpAny_call ?_; k_dflt (refine' code_def ?k1 ?k2 ?k3 ?k4 ?k5 ?kA ?kF ?kK ?k6 ?k7 ?k8 ?k9 ?kB ?_ ?c2 ?c3 ?c4 ?c5; (case kA => exact rfl); (case kF => exact rfl); (case kK => assumption); (case k1 => k_asm); (case k2 => k_asm); (case k3 => k_asm); (case k4 => k_asm); (case k5 => k_asm); (case k6 => k_is); (case k7 => k_is); (case k8 => ktr_room); (case k9 => first | exact BindsTo.of_eq rfl | exact binds_K (by k_in) rfl (by k_is) rfl rfl rfl); (case c5 => decide); (case kB => exact locs rfl); (case c2 => exact rfl); (case c3 => exact rfl); (case c4 => exact rfl); k_whole; intro g' L' h' FG' F' N' B' X' T'; (try dsimp only); (try k_fold)); k_steps)
      all_goals (refine retE hret (by k_asm) (by k_asm) (by ktn_ord) ?_)
      all_goals exact ⟨_, congrArg (Value.int · _) (by rw [hk0]; unfold sgn; split <;> split <;> (try split) <;> omega)⟩
  · obtain ⟨rfl, hk0'⟩ | ⟨va', vs', vm', vb', ts', tm', te', tb', vn', vj', rfl, hM', hsg', hpos', hodd', hbl', hkv', hk0'⟩ := mv_enc hxu
    · (refine wpAny_call ?_; k_dflt (refine' code_def ?k1 ?k2 ?k3 ?k4 ?k5 ?kA ?kF ?kK ?k6 ?k7 ?k8 ?k9 ?kB ?_ ?c2 ?c3 ?c4 ?c5; (case kA => exact rfl); (case kF => exact rfl); (case kK => assumption); (case k1 => k_asm); (case k2 => k_asm); (case k3 => k_asm); (case k4 => k_asm); (case k5 => k_asm); (case k6 => k_is); (case k7 => k_is); (case k8 => ktr_room); (case k9 => first | exact BindsTo.of_eq rfl | exact binds_K (by k_in) rfl (by k_is) rfl rfl rfl); (case c5 => decide); (case kB => exact locs rfl); (case c2 => exact rfl); (case c3 => exact rfl); (case c4 => exact rfl); k_whole; intro g' L' h' FG' F' N' B' X' T'; (try dsimp only); (try k_fold)); k_steps)
      all_goals (refine retE hret (by k_asm) (by k_asm) (by ktn_ord) ?_)
      all_goals exact ⟨_, congrArg (Value.int · _) (by rw [hk0', Int.sub_zero])⟩
    · have hj := mant_exp hsg hpos hkv hbk
      have hj' := mant_exp hsg' hpos' hkv' hbk'
      have hbm : vm.natAbs < 2 ^ 64 := Nat.lt_of_le_of_lt (mant_le hsg hpos hkv) hbk
      have hbm' : vm'.natAbs < 2 ^ 64 := Nat.lt_of_le_of_lt (mant_le hsg' hpos' hkv') hbk'
      by_cases hsv : vs = vs'
      · subst hsv
        have hz := cmp_size hsg hkv hkv'
        have hmg := mag_lt (j := vj) (j' := vj') hpos hpos'
        have hmg' := mag_lt (j := vj') (j' := vj) hpos' hpos
        rw [← hbl, ← hbl'] at hmg hmg'
        (refine wpAny_call ?_; k_dflt (refine' code_def ?k1 ?k2 ?k3 ?k4 ?k5 ?kA ?kF ?kK ?k6 ?k7 ?k8 ?k9 ?kB ?_ ?c2 ?c3 ?c4 ?c5; (case kA => exact rfl); (case kF => exact rfl); (case kK => assumption); (case k1 => k_asm); (case k2 => k_asm); (case k3 => k_asm); (case k4 => k_asm); (case k5 => k_asm); (case k6 => k_is); (case k7 => k_is); (case k8 => ktr_room); (case k9 => first | exact BindsTo.of_eq rfl | exact binds_K (by k_in) rfl (by k_is) rfl rfl rfl); (case c5 => decide); (case kB => exact locs rfl); (case c2 => exact rfl); (case c3 => exact rfl); (case c4 => exact rfl); k_whole; intro g' L' h' FG' F' N' B' X' T'; (try dsimp only); (try k_fold)); k_steps)
        all_goals (refine retE hret (by k_asm) (by k_asm) (by ktn_ord) ?_)
        all_goals (refine ⟨_, congrArg (Value.int · _) ?_⟩)
        · obtain rfl : vj = vj' := by omega
          have : vm = vm' := by assumption
          rw [hkv, hkv', this, Int.sub_self]; rfl
        · exact ((hz.2 (size_exp (Eq.symm (by assumption)) (by assumption))).2 (by assumption)).symm
        · exact ((hz.2 (size_exp (Eq.symm (by assumption)) (by assumption))).1 (by assumption)).symm
        · exact ((hz.1 (size_exp (by assumption) (by omega))).2 (by assumption)).symm
        · exact ((hz.1 (size_exp (by assumption) (by omega))).1 (by assumption)).symm
        · exact ((hz.1 (hmg (by omega))).2 (by assumption)).symm
        · exact ((hz.2 (hmg' (by omega))).2 (by assumption)).symm
        · exact (sgn_sub_lt (ite_one (by assumption))).symm
        · have h1 := ite_nil (c := k < k') (by assumption)
          have h2 := exp_ne (ex := ex) hsg hodd hodd' hkv hkv' (by assumption)
          exact (sgn_sub_gt (by omega)).symm
        · exact ((hz.1 (hmg (by omega))).1 (by assumption)).symm
        · exact ((hz.2 (hmg' (by omega))).1 (by assumption)).symm
        · exact (sgn_sub_lt (ite_one (by assumption))).symm
        · have h1 := ite_nil (c := k < k') (by assumption)
          have h2 := exp_ne (ex := ex) hsg hodd hodd' hkv hkv' (by assumption)
          exact (sgn_sub_gt (by omega)).symm
      · have hz := cmp_signs hsg hsg' hpos hpos' hkv hkv' hsv
        (refine wpAny_call ?_; k_dflt (refine' code_def ?k1 ?k2 ?k3 ?k4 ?k5 ?kA ?kF ?kK ?k6 ?k7 ?k8 ?k9 ?kB ?_ ?c2 ?c3 ?c4 ?c5; (case kA => exact rfl); (case kF => exact rfl); (case kK => assumption); (case k1 => k_asm); (case k2 => k_asm); (case k3 => k_asm); (case k4 => k_asm); (case k5 => k_asm); (case k6 => k_is); (case k7 => k_is); (case k8 => ktr_room); (case k9 => first | exact BindsTo.of_eq rfl | exact binds_K (by k_in) rfl (by k_is) rfl rfl rfl); (case c5 => decide); (case kB => exact locs rfl); (case c2 => exact rfl); (case c3 => exact rfl); (case c4 => exact rfl); k_whole; intro g' L' h' FG' F' N' B' X' T'; (try dsimp only); (try k_fold)); k_steps)
        all_goals (refine retE hret (by k_asm) (by k_asm) (by ktn_ord) ?_)
        · exact ⟨_, congrArg (Value.int · _) (hz.2 (by assumption)).symm⟩
        · exact ⟨_, congrArg (Value.int · _) (hz.1 (by assumption)).symm⟩
local macro_rules | `(tactic| walk_at "call ref") => `(tactic| (k_here; (with_reducible show wpAny _ _ (call (Value.ref 60) [_, _]) _ _ _); k_dflt (refine' useI (does_cmp _ _ _ _ _ _ _ ?p1 ?p2 ?p3 ?p4) ?B ?F ?X ?N ?T ?hk ?hd ?hu ?_; (case F => k_asm); (case N => k_asm); (case p1 => ktr_rel); (case p2 => ktr_rel); (case p3 => first | assumption | omega); (case p4 => first | assumption | omega); (case B => k_asm); (case X => k_asm); (case T => k_asm); (case hk => first | exact rfl | assumption); (case hd => ktr_room); (case hu => ktr_units); k_whole; intro t9 h9 tk9 F9 N9; (try k_sweep))))
theorem sgn_lt (k k' : Int) : decide (sgn (k - k') < 0) = decide (k < k') := by
  rw [decide_eq_decide]; unfold sgn; split
  · omega
  · split <;> omega
theorem sgn_le (k k' : Int) : decide (sgn (k - k') ≤ 0) = decide (k ≤ k') := by
  rw [decide_eq_decide]; unfold sgn; split
  · omega
  · split <;> omega
theorem sgn_gt (k k' : Int) : decide (0 < sgn (k - k')) = decide (k' < k) := by
  rw [decide_eq_decide]; unfold sgn; split
  · omega
  · split <;> omega
theorem sgn_ge (k k' : Int) : decide (0 ≤ sgn (k - k')) = decide (k' ≤ k) := by
  rw [decide_eq_decide]; unfold sgn; split
  · omega
  · split <;> omega
theorem outB_eq {c c' : Bool} {l : Led} {r : Value} (h : OutB c l r) (e : c = c') : OutB c' l r := e ▸ h
theorem MV.handed {news : Led} {v : Value} {x : F4} (h : MV news v x) : handedIn v = true := by cases h <;> rfl
theorem does_lt (w : World) (news : Led) (v u : Value) (k k' ex : Int) (hv : MV news v (enc k ex)) (hu : MV news u (enc k' ex)) (hbk : k.natAbs < 2 ^ 64) (hbk' : k'.natAbs < 2 ^ 64) :
    Does w 67 [v, u] news (OutB (decide (k < k'))) 15 := by
  unfold Does
  intro p loose mean mg mb dp un gd cn cs a ccd cl outer A₀ base h₀ L m s Q E B F X N T hk hd hu hret
  rename MV news v _ => hxv
  rename MV news u _ => hxu
  (refine wpAny_call ?_; k_dflt (refine' code_def ?k1 ?k2 ?k3 ?k4 ?k5 ?kA ?kF ?kK ?k6 ?k7 ?k8 ?k9 ?kB ?_ ?c2 ?c3 ?c4 ?c5; (case kA => exact rfl); (case kF => exact rfl); (case kK => assumption); (case k1 => k_asm); (case k2 => k_asm); (case k3 => k_asm); (case k4 => k_asm); (case k5 => k_asm); (case k6 => k_is); (case k7 => k_is); (case k8 => ktr_room); (case k9 => first | exact BindsTo.of_eq rfl | exact binds_K (by k_in) rfl (by k_is) rfl rfl rfl); (case c5 => decide); (case kB => exact locs rfl); (case c2 => exact rfl); (case c3 => exact rfl); (case c4 => exact rfl); k_whole; intro g' L' h' FG' F' N' B' X' T'; (try dsimp only); (try k_fold)); k_steps)
  all_goals (refine retE hret (by k_asm) (by k_asm) (by ktn_ord) ?_)
  all_goals exact outB_eq rfl (sgn_lt k k')
theorem does_le (w : World) (news : Led) (v u : Value) (k k' ex : Int) (hv : MV news v (enc k ex)) (hu : MV news u (enc k' ex)) (hbk : k.natAbs < 2 ^ 64) (hbk' : k'.natAbs < 2 ^ 64) :
    Does w 74 [v, u] news (OutB (decide (k ≤ k'))) 15 := by
  unfold Does
  intro p loose mean mg mb dp un gd cn cs a ccd cl outer A₀ base h₀ L m s Q E B F X N T hk hd hu hret
  rename MV news v _ => hxv
  rename MV news u _ => hxu
  (refine wpAny_call ?_; k_dflt (refine' code_def ?k1 ?k2 ?k3 ?k4 ?k5 ?kA ?kF ?kK ?k6 ?k7 ?k8 ?k9 ?kB ?_ ?c2 ?c3 ?c4 ?c5; (case kA => exact rfl); (case kF => exact rfl); (case kK => assumption); (case k1 => k_asm); (case k2 => k_asm); (case k3 => k_asm); (case k4 => k_asm); (case k5 => k_asm); (case k6 => k_is); (case k7 => k_is); (case k8 => ktr_room); (case k9 => first | exact BindsTo.of_eq rfl | exact binds_K (by k_in) rfl (by k_is) rfl rfl rfl); (case c5 => decide); (case kB => exact locs rfl); (case c2 => exact rfl); (case c3 => exact rfl); (case c4 => exact rfl); k_whole; intro g' L' h' FG' F' N' B' X' T'; (try dsimp only); (try k_fold)); k_steps)
  all_goals (refine retE hret (by k_asm) (by k_asm) (by ktn_ord) ?_)
  all_goals exact outB_eq rfl (sgn_le k k')
theorem does_gt (w : World) (news : Led) (v u : Value) (k k' ex : Int) (hv : MV news v (enc k ex)) (hu : MV news u (enc k' ex)) (hbk : k.natAbs < 2 ^ 64) (hbk' : k'.natAbs < 2 ^ 64) :
    Does w 81 [v, u] news (OutB (decide (k' < k))) 15 := by
  unfold Does
  intro p loose mean mg mb dp un gd cn cs a ccd cl outer A₀ base h₀ L m s Q E B F X N T hk hd hu hret
  rename MV news v _ => hxv
  rename MV news u _ => hxu
  (refine wpAny_call ?_; k_dflt (refine' code_def ?k1 ?k2 ?k3 ?k4 ?k5 ?kA ?kF ?kK ?k6 ?k7 ?k8 ?k9 ?kB ?_ ?c2 ?c3 ?c4 ?c5; (case kA => exact rfl); (case kF => exact rfl); (case kK => assumption); (case k1 => k_asm); (case k2 => k_asm); (case k3 => k_asm); (case k4 => k_asm); (case k5 => k_asm); (case k6 => k_is); (case k7 => k_is); (case k8 => ktr_room); (case k9 => first | exact BindsTo.of_eq rfl | exact binds_K (by k_in) rfl (by k_is) rfl rfl rfl); (case c5 => decide); (case kB => exact locs rfl); (case c2 => exact rfl); (case c3 => exact rfl); (case c4 => exact rfl); k_whole; intro g' L' h' FG' F' N' B' X' T'; (try dsimp only); (try k_fold)); k_steps)
  all_goals (refine retE hret (by k_asm) (by k_asm) (by ktn_ord) ?_)
  all_goals exact outB_eq rfl (sgn_gt k k')
theorem does_ge (w : World) (news : Led) (v u : Value) (k k' ex : Int) (hv : MV news v (enc k ex)) (hu : MV news u (enc k' ex)) (hbk : k.natAbs < 2 ^ 64) (hbk' : k'.natAbs < 2 ^ 64) :
    Does w 88 [v, u] news (OutB (decide (k' ≤ k))) 15 := by
  unfold Does
  intro p loose mean mg mb dp un gd cn cs a ccd cl outer A₀ base h₀ L m s Q E B F X N T hk hd hu hret
  rename MV news v _ => hxv
  rename MV news u _ => hxu
  (refine wpAny_call ?_; k_dflt (refine' code_def ?k1 ?k2 ?k3 ?k4 ?k5 ?kA ?kF ?kK ?k6 ?k7 ?k8 ?k9 ?kB ?_ ?c2 ?c3 ?c4 ?c5; (case kA => exact rfl); (case kF => exact rfl); (case kK => assumption); (case k1 => k_asm); (case k2 => k_asm); (case k3 => k_asm); (case k4 => k_asm); (case k5 => k_asm); (case k6 => k_is); (case k7 => k_is); (case k8 => ktr_room); (case k9 => first | exact BindsTo.of_eq rfl | exact binds_K (by k_in) rfl (by k_is) rfl rfl rfl); (case c5 => decide); (case kB => exact locs rfl); (case c2 => exact rfl); (case c3 => exact rfl); (case c4 => exact rfl); k_whole; intro g' L' h' FG' F' N' B' X' T'; (try dsimp only); (try k_fold)); k_steps)
  all_goals (refine retE hret (by k_asm) (by k_asm) (by ktn_ord) ?_)
  all_goals exact outB_eq rfl (sgn_ge k k')
local macro_rules | `(tactic| walk_at "call ref") => `(tactic| (k_here; (with_reducible show wpAny _ _ (call (Value.ref 67) [_, _]) _ _ _); k_dflt (refine' useB (does_lt _ _ _ _ _ _ _ ?p1 ?p2 ?p3 ?p4) ?B ?F ?X ?N ?T ?hk ?hd ?hu ?_; (case F => k_asm); (case N => k_asm); (case p1 => ktr_rel); (case p2 => ktr_rel); (case p3 => first | assumption | omega); (case p4 => first | assumption | omega); (case B => k_asm); (case X => k_asm); (case T => k_asm); (case hk => first | exact rfl | assumption); (case hd => ktr_room); (case hu => ktr_units); k_whole; intro h9 tk9 F9 N9; (try k_sweep))))
local macro_rules | `(tactic| walk_at "call ref") => `(tactic| (k_here; (with_reducible show wpAny _ _ (call (Value.ref 74) [_, _]) _ _ _); k_dflt (refine' useB (does_le _ _ _ _ _ _ _ ?p1 ?p2 ?p3 ?p4) ?B ?F ?X ?N ?T ?hk ?hd ?hu ?_; (case F => k_asm); (case N => k_asm); (case p1 => ktr_rel); (case p2 => ktr_rel); (case p3 => first | assumption | omega); (case p4 => first | assumption | omega); (case B => k_asm); (case X => k_asm); (case T => k_asm); (case hk => first | exact rfl | assumption); (case hd => ktr_room); (case hu => ktr_units); k_whole; intro h9 tk9 F9 N9; (try k_sweep))))
local macro_rules | `(tactic| walk_at "call ref") => `(tactic| (k_here; (with_reducible show wpAny _ _ (call (Value.ref 81) [_, _]) _ _ _); k_dflt (refine' useB (does_gt _ _ _ _ _ _ _ ?p1 ?p2 ?p3 ?p4) ?B ?F ?X ?N ?T ?hk ?hd ?hu ?_; (case F => k_asm); (case N => k_asm); (case p1 => ktr_rel); (case p2 => ktr_rel); (case p3 => first | assumption | omega); (case p4 => first | assumption | omega); (case B => k_asm); (case X => k_asm); (case T => k_asm); (case hk => first | exact rfl | assumption); (case hd => ktr_room); (case hu => ktr_units); k_whole; intro h9 tk9 F9 N9; (try k_sweep))))
local macro_rules | `(tactic| walk_at "call ref") => `(tactic| (k_here; (with_reducible show wpAny _ _ (call (Value.ref 88) [_, _]) _ _ _); k_dflt (refine' useB (does_ge _ _ _ _ _ _ _ ?p1 ?p2 ?p3 ?p4) ?B ?F ?X ?N ?T ?hk ?hd ?hu ?_; (case F => k_asm); (case N => k_asm); (case p1 => ktr_rel); (case p2 => ktr_rel); (case p3 => first | assumption | omega); (case p4 => first | assumption | omega); (case B => k_asm); (case X => k_asm); (case T => k_asm); (case hk => first | exact rfl | assumption); (case hd => ktr_room); (case hu => ktr_units); k_whole; intro h9 tk9 F9 N9; (try k_sweep))))
local macro_rules | `(tactic| k_handed) => `(tactic| (refine' MV.handed (x := ?hx) ?hm; (case hm => ktr_rel)))
theorem my_item {w : World} {A : Around} {E : Value → Shared → Prop} {s : Shared} {h₀ : Heap} {L l : Addr} {news : Led} {value slice : PySem.Expr} {vs : List Value} {n : Nat} {k : Int} {u : Tok} {v : Value} {Q : Value → Shared → Prop}
    (N : News h₀ L s.heap news) (hm : (l, listOf vs.toArray n) ∈ news) (h0 : 0 ≤ k) (hhi : k < 2 ^ 63) (hx : vs[k.toNat]? = some v) (h : Q v s)
    (hs : subscripted slice false (.ref l) (.int k u) = operate [.ref l, .int k u] (getItem (.ref l) (.int k u))) :
    wpAny (model PG w) A (subscriptTail value slice (.ref l) (.int k u)) Q E s :=
  tail_any (News.isList N hm).typeIs slot_list_getitem.lookup (wpAny_getItem_list (News.isList N hm) h0 hhi (by simpa using hx) h) hs
section
local macro_rules | `(tactic| walk_at "subscriptTail") => `(tactic| (k_here; (with_reducible show wpAny _ _ (subscriptTail _ _ (Value.ref _) (Value.int _ _)) _ _ _); k_dflt (refine' my_item ?N ?m ?a ?b ?x ?_ ?hs; (case N => k_asm); (case m => k_mem); (case a => decide); (case b => decide); (case x => rfl); (case hs => with_unfolding_all rfl); k_whole)))
theorem unrL {h₀ : Heap} {L I : Addr} {it : Obj} {rest : (Str → Option Value) → Led → Prop} {s₁ : Shared} {h' : Heap} {tk : Nat} {m' : Str → Option Value} {news' all : Led} (l1 : ∀ p ∈ news', p.1 < I) (F : Fr h₀ L h' m') (N : News h₀ L h' all)
    (hI : (I, it) ∈ all) (sub : ∀ p ∈ news', p ∈ all) (r : rest m' news') : UnrEnd h₀ L s₁ I it rest { s₁ with heap := h', toks := tk } :=
  UnrEnd.intro F N news' (fun p hp => by
    rcases List.mem_cons.mp hp with rfl | hp
    · exact hI
    · exact sub p hp) (fun p hp => Nat.ne_of_lt (l1 p hp)) r
local macro_rules | `(tactic| walk_at "exec For Name Subscript cons nil") => `(tactic| (k_here; (rename Fr _ _ _ _ => lF'); (with_unfolding_all refine' For_invVF lF' ?k1 ?k2 ?_; (case k1 => exact rfl); (case k2 => exact rfl); k_whole)))
local macro_rules | `(tactic| walk_at "pyIter ref") => `(tactic| ((with_reducible show wpAny _ _ (pyIter (Value.ref _)) (fun it s₂ => LoopAtV _ _ _ _ _ _ _ _ _ it s₂) _ _); (with_unfolding_all refine' iter_listUnr ?hh ?F ?N ?m ?c ?d ?_; (case hh => rfl); (case F => k_asm); (case N => k_asm); (case m => k_mem); (case c => rfl); (case d => rfl)); intro i' l1))
local macro_rules | `(tactic| walk_at "UnrEnd") => `(tactic| (refine' unrL ?l ?F ?N ?h ?s ⟨?m, ?_⟩; (case l => assumption); (case F => k_asm); (case N => k_asm); (case h => k_mem); (case s => (intro p9 h9; exact List.mem_cons_of_mem _ h9)); (case m => k_mem); k_whole))
theorem outP_mk {D : Addr} {n : Nat} {v u : Value} {a b lo hi ex : Int} {l : Led} (hm : (D, ({ cls := .type "tuple", data := .seq #[v, u] n } : Obj)) ∈ l) (h1 : MV l v (enc a ex)) (h2 : MV l u (enc b ex)) (e1 : a = lo) (e2 : b = hi) : OutP (enc lo ex) (enc hi ex) l (.ref D) :=
  IV.mk hm (e1 ▸ h1) (e2 ▸ h2)
theorem IV.out {l : Led} {r : Value} {x y : F4} (h : IV l r x y) : ∃ (a : Addr) (v u : Value) (n : Nat), r = .ref a ∧ (a, ({ cls := .type "tuple", data := .seq #[v, u] n } : Obj)) ∈ l ∧ MV l v x ∧ MV l u y := by
  cases h with
  | mk h1 h2 h3 => exact ⟨_, _, _, _, rfl, h1, h2, h3⟩
theorem does_minmax2 (w : World) (news : Led) (l : Addr) (n : Nat) (v1 v2 : Value) (k1 k2 ex : Int) (hl : (l, listOf #[v1, v2] n) ∈ news) (h1 : MV news v1 (enc k1 ex)) (h2 : MV news v2 (enc k2 ex)) (b1 : k1.natAbs < 2 ^ 64) (b2 : k2.natAbs < 2 ^ 64) :
    Does w 95 [.ref l] news (OutP (enc (min k1 k2) ex) (enc (max k1 k2) ex)) 17 := by
  unfold Does
  intro p loose mean mg mb dp un gd cn cs a ccd cl outer A₀ base h₀ L m s Q E B F X N T hk hd hu hret
  (refine wpAny_call ?_; k_dflt (refine' code_def ?k1 ?k2 ?k3 ?k4 ?k5 ?kA ?kF ?kK ?k6 ?k7 ?k8 ?k9 ?kB ?_ ?c2 ?c3 ?c4 ?c5; (case kA => exact rfl); (case kF => exact rfl); (case kK => assumption); (case k1 => k_asm); (case k2 => k_asm); (case k3 => k_asm); (case k4 => k_asm); (case k5 => k_asm); (case k6 => k_is); (case k7 => k_is); (case k8 => ktr_room); (case k9 => first | exact BindsTo.of_eq rfl | exact binds_K (by k_in) rfl (by k_is) rfl rfl rfl); (case c5 => decide); (case kB => exact locs rfl); (case c2 => exact rfl); (case c3 => exact rfl); (case c4 => exact rfl); k_whole; intro g' L' h' FG' F' N' B' X' T'; (try dsimp only); (try k_fold)); k_steps)
  all_goals (refine retE hret (by k_asm) (by k_asm) (by ktn_ord) ?_)
  all_goals exact outP_mk (.head _) (by ktr_rel) (by ktr_rel) (by omega) (by omega)
theorem does_minmax4 (w : World) (news : Led) (l : Addr) (n : Nat) (v1 v2 v3 v4 : Value) (k1 k2 k3 k4 ex : Int) (hl : (l, listOf #[v1, v2, v3, v4] n) ∈ news) (h1 : MV news v1 (enc k1 ex)) (h2 : MV news v2 (enc k2 ex)) (h3 : MV news v3 (enc k3 ex)) (h4 : MV news v4 (enc k4 ex))
    (b1 : k1.natAbs < 2 ^ 64) (b2 : k2.natAbs < 2 ^ 64) (b3 : k3.natAbs < 2 ^ 64) (b4 : k4.natAbs < 2 ^ 64) :
    Does w 95 [.ref l] news (OutP (enc (min (min k1 k2) (min k3 k4)) ex) (enc (max (max k1 k2) (max k3 k4)) ex)) 17 := by
  unfold Does
  intro p loose mean mg mb dp un gd cn cs a ccd cl outer A₀ base h₀ L m s Q E B F X N T hk hd hu hret
  (refine wpAny_call ?_; k_dflt (refine' code_def ?k1 ?k2 ?k3 ?k4 ?k5 ?kA ?kF ?kK ?k6 ?k7 ?k8 ?k9 ?kB ?_ ?c2 ?c3 ?c4 ?c5; (case kA => exact rfl); (case kF => exact rfl); (case kK => assumption); (case k1 => k_asm); (case k2 => k_asm); (case k3 => k_asm); (case k4 => k_asm); (case k5 => k_asm); (case k6 => k_is); (case k7 => k_is); (case k8 => ktr_room); (case k9 => first | exact BindsTo.of_eq rfl | exact binds_K (by k_in) rfl (by k_is) rfl rfl rfl); (case c5 => decide); (case kB => exact locs rfl); (case c2 => exact rfl); (case c3 => exact rfl); (case c4 => exact rfl); k_whole; intro g' L' h' FG' F' N' B' X' T'; (try dsimp only); (try k_fold)); k_steps)
  all_goals (refine retE hret (by k_asm) (by k_asm) (by ktn_ord) ?_)
  all_goals exact outP_mk (.head _) (by ktr_rel) (by ktr_rel) (by omega) (by omega)
end
local macro_rules | `(tactic| walk_at "call ref") => `(tactic| (k_here; (with_reducible show wpAny _ _ (call (Value.ref 95) [Value.ref _]) _ _ _); k_dflt (first
  | (refine' use (does_minmax2 _ _ _ _ _ _ _ _ _ ?q1 ?p1 ?p2 ?p3 ?p4) ?S ?B ?F ?X ?N ?T ?hk ?hd ?hu ?_; (case F => k_asm); (case N => k_asm); (case q1 => k_mem); (case p1 => ktr_rel); (case p2 => ktr_rel); (case p3 => first | assumption | omega); (case p4 => first | assumption | omega); (case S => repeat' constructor); (case B => k_asm); (case X => k_asm); (case T => k_asm); (case hk => first | exact rfl | assumption); (case hd => ktr_room); (case hu => ktr_units); k_whole; intro r9 l9 h9 tk9 F9 N9 S9 O9; (try simp only [List.nil_append, List.cons_append] at N9); (try unfold OutM at O9); (try unfold OutP at O9); (try k_sweep); (obtain ⟨a9, v9, u9, n9, e9, m9, x9, y9⟩ := IV.out O9); subst e9)
  | (refine' use (does_minmax4 _ _ _ _ _ _ _ _ _ _ _ _ _ ?q1 ?p1 ?p2 ?p3 ?p4 ?p5 ?p6 ?p7 ?p8) ?S ?B ?F ?X ?N ?T ?hk ?hd ?hu ?_; (case F => k_asm); (case N => k_asm); (case q1 => k_mem); (case p1 => ktr_rel); (case p2 => ktr_rel); (case p3 => ktr_rel); (case p4 => ktr_rel); (case p5 => first | assumption | omega); (case p6 => first | assumption | omega); (case p7 => first | assumption | omega); (case p8 => first | assumption | omega); (case S => repeat' constructor); (case B => k_asm); (case X => k_asm); (case T => k_asm); (case hk => first | exact rfl | assumption); (case hd => ktr_room); (case hu => ktr_units); k_whole; intro r9 l9 h9 tk9 F9 N9 S9 O9; (try simp only [List.nil_append, List.cons_append] at N9); (try unfold OutM at O9); (try unfold OutP at O9); (try k_sweep); (obtain ⟨a9, v9, u9, n9, e9, m9, x9, y9⟩ := IV.out O9); subst e9))))
theorem mv_zero {l : Led} {ex : Int} : MV l (.ref 22) (enc 0 ex) := by
  rw [enc_zero]
  exact MV.zero
local macro_rules | `(tactic| ktr_rel) => `(tactic| exact mv_zero)
theorem does_iadd (w : World) (news : Led) (v u : Value) (i j x y ex : Int) (hv : IV news v (enc i ex) (enc j ex)) (hu : IV news u (enc x ex) (enc y ex)) (bi : i.natAbs < 2 ^ 64) (bj : j.natAbs < 2 ^ 64) (bx : x.natAbs < 2 ^ 64) (yb : y.natAbs < 2 ^ 64) :
    Does w 167 [v, u] news (OutP (enc (i + x) ex) (enc (j + y) ex)) 13 := by
  unfold Does
  intro p loose mean mg mb dp un gd cn cs a ccd cl outer A₀ base h₀ L m s Q E B F X N T hk hd hu hret
  rename IV news v _ _ => hxv
  rename IV news u _ _ => hxu
  rcases hxv with ⟨hM, hx1, hx2⟩
  rcases hxu with ⟨hM', hx3, hx4⟩
  (refine wpAny_call ?_; k_dflt (refine' code_def ?k1 ?k2 ?k3 ?k4 ?k5 ?kA ?kF ?kK ?k6 ?k7 ?k8 ?k9 ?kB ?_ ?c2 ?c3 ?c4 ?c5; (case kA => exact rfl); (case kF => exact rfl); (case kK => assumption); (case k1 => k_asm); (case k2 => k_asm); (case k3 => k_asm); (case k4 => k_asm); (case k5 => k_asm); (case k6 => k_is); (case k7 => k_is); (case k8 => ktr_room); (case k9 => first | exact BindsTo.of_eq rfl | exact binds_K (by k_in) rfl (by k_is) rfl rfl rfl); (case c5 => decide); (case kB => exact locs rfl); (case c2 => exact rfl); (case c3 => exact rfl); (case c4 => exact rfl); k_whole; intro g' L' h' FG' F' N' B' X' T'; (try dsimp only); (try k_fold)); k_steps)
  all_goals (refine retE hret (by k_asm) (by k_asm) (by ktn_ord) ?_)
  all_goals exact outP_mk (.head _) (by ktr_rel) (by ktr_rel) rfl rfl
theorem does_isub (w : World) (news : Led) (v u : Value) (i j x y ex : Int) (hv : IV news v (enc i ex) (enc j ex)) (hu : IV news u (enc x ex) (enc y ex)) (bi : i.natAbs < 2 ^ 64) (bj : j.natAbs < 2 ^ 64) (bx : x.natAbs < 2 ^ 64) (yb : y.natAbs < 2 ^ 64) :
    Does w 175 [v, u] news (OutP (enc (i - y) ex) (enc (j - x) ex)) 13 := by
  unfold Does
  intro p loose mean mg mb dp un gd cn cs a ccd cl outer A₀ base h₀ L m s Q E B F X N T hk hd hu hret
  rename IV news v _ _ => hxv
  rename IV news u _ _ => hxu
  rcases hxv with ⟨hM, hx1, hx2⟩
  rcases hxu with ⟨hM', hx3, hx4⟩
  (refine wpAny_call ?_; k_dflt (refine' code_def ?k1 ?k2 ?k3 ?k4 ?k5 ?kA ?kF ?kK ?k6 ?k7 ?k8 ?k9 ?kB ?_ ?c2 ?c3 ?c4 ?c5; (case kA => exact rfl); (case kF => exact rfl); (case kK => assumption); (case k1 => k_asm); (case k2 => k_asm); (case k3 => k_asm); (case k4 => k_asm); (case k5 => k_asm); (case k6 => k_is); (case k7 => k_is); (case k8 => ktr_room); (case k9 => first | exact BindsTo.of_eq rfl | exact binds_K (by k_in) rfl (by k_is) rfl rfl rfl); (case c5 => decide); (case kB => exact locs rfl); (case c2 => exact rfl); (case c3 => exact rfl); (case c4 => exact rfl); k_whole; intro g' L' h' FG' F' N' B' X' T'; (try dsimp only); (try k_fold)); k_steps)
  all_goals (refine retE hret (by k_asm) (by k_asm) (by ktn_ord) ?_)
  all_goals exact outP_mk (.head _) (by ktr_rel) (by ktr_rel) rfl rfl
theorem does_idelta (w : World) (news : Led) (v : Value) (i j ex : Int) (t5 : Tok) (hv : IV news v (enc i ex) (enc j ex)) (bi : i.natAbs < 2 ^ 64) (bj : j.natAbs < 2 ^ 64) :
    Does w 182 [v, .int 0 t5] news (OutM (enc (j - i) ex)) 13 := by
  unfold Does
  intro p loose mean mg mb dp un gd cn cs a ccd cl outer A₀ base h₀ L m s Q E B F X N T hk hd hu hret
  rename IV news v _ _ => hxv
  rcases hxv with ⟨hM, hx1, hx2⟩
  (refine wpAny_call ?_; k_dflt (refine' code_def ?k1 ?k2 ?k3 ?k4 ?k5 ?kA ?kF ?kK ?k6 ?k7 ?k8 ?k9 ?kB ?_ ?c2 ?c3 ?c4 ?c5; (case kA => exact rfl); (case kF => exact rfl); (case kK => assumption); (case k1 => k_asm); (case k2 => k_asm); (case k3 => k_asm); (case k4 => k_asm); (case k5 => k_asm); (case k6 => k_is); (case k7 => k_is); (case k8 => ktr_room); (case k9 => first | exact BindsTo.of_eq rfl | exact binds_K (by k_in) rfl (by k_is) rfl rfl rfl); (case c5 => decide); (case kB => exact locs rfl); (case c2 => exact rfl); (case c3 => exact rfl); (case c4 => exact rfl); k_whole; intro g' L' h' FG' F' N' B' X' T'; (try dsimp only); (try k_fold)); k_steps)
  all_goals (refine retE hret (by k_asm) (by k_asm) (by ktn_ord) ?_)
  all_goals assumption
def absLo (i j : Int) : Int := if 0 ≤ i then i else if 0 ≤ j then 0 else -j
theorem does_iabs (w : World) (news : Led) (v : Value) (i j ex : Int) (hij : i ≤ j) (hv : IV news v (enc i ex) (enc j ex)) (bi : i.natAbs < 2 ^ 64) (bj : j.natAbs < 2 ^ 64) :
    Does w 198 [v] news (OutP (enc (absLo i j) ex) (enc (max (-i) j) ex)) 17 := by
  unfold Does
  intro p loose mean mg mb dp un gd cn cs a ccd cl outer A₀ base h₀ L m s Q E B F X N T hk hd hu hret
  rename IV news v _ _ => hxv
  rcases hxv with ⟨hM, hx1, hx2⟩
  have hs1 : (0 ≤ sgn i ↔ 0 ≤ i) := by unfold sgn; split <;> (try split) <;> omega
  have hs2 : (0 ≤ sgn j ↔ 0 ≤ j) := by unfold sgn; split <;> (try split) <;> omega
  have bi' : (-i).natAbs < 2 ^ 64 := by omega
  (refine wpAny_call ?_; k_dflt (refine' code_def ?k1 ?k2 ?k3 ?k4 ?k5 ?kA ?kF ?kK ?k6 ?k7 ?k8 ?k9 ?kB ?_ ?c2 ?c3 ?c4 ?c5; (case kA => exact rfl); (case kF => exact rfl); (case kK => assumption); (case k1 => k_asm); (case k2 => k_asm); (case k3 => k_asm); (case k4 => k_asm); (case k5 => k_asm); (case k6 => k_is); (case k7 => k_is); (case k8 => ktr_room); (case k9 => first | exact BindsTo.of_eq rfl | exact binds_K (by k_in) rfl (by k_is) rfl rfl rfl); (case c5 => decide); (case kB => exact locs rfl); (case c2 => exact rfl); (case c3 => exact rfl); (case c4 => exact rfl); k_whole; intro g' L' h' FG' F' N' B' X' T'; (try dsimp only); (try k_fold)); k_steps)
  all_goals (refine retE hret (by k_asm) (by k_asm) (by ktn_ord) ?_)
  all_goals exact outP_mk (.head _) (by ktr_rel) (by ktr_rel) (by unfold absLo; (repeat' split) <;> omega) (by omega)
local macro_rules | `(tactic| ktr_rel) => `(tactic| exact mv_zero)
local macro_rules | `(tactic| walk_at "call ref") => `(tactic| (k_here; (with_reducible show wpAny _ _ (call (Value.ref 167) [_, _]) _ _ _); k_dflt (refine' use (does_iadd _ _ _ _ _ _ _ _ _ ?p1 ?p2 ?p3 ?p4 ?p5 ?p6) ?S ?B ?F ?X ?N ?T ?hk ?hd ?hu ?_; (case F => k_asm); (case N => k_asm); (case p1 => ktr_rel); (case p2 => ktr_rel); (case p3 => first | assumption | omega); (case p4 => first | assumption | omega); (case p5 => first | assumption | omega); (case p6 => first | assumption | omega); (case S => repeat' constructor); (case B => k_asm); (case X => k_asm); (case T => k_asm); (case hk => first | exact rfl | assumption); (case hd => ktr_room); (case hu => ktr_units); k_whole; intro r9 l9 h9 tk9 F9 N9 S9 O9; (try simp only [List.nil_append, List.cons_append] at N9); (try unfold OutM at O9); (try unfold OutP at O9); (try k_sweep))))
local macro_rules | `(tactic| walk_at "call ref") => `(tactic| (k_here; (with_reducible show wpAny _ _ (call (Value.ref 175) [_, _]) _ _ _); k_dflt (refine' use (does_isub _ _ _ _ _ _ _ _ _ ?p1 ?p2 ?p3 ?p4 ?p5 ?p6) ?S ?B ?F ?X ?N ?T ?hk ?hd ?hu ?_; (case F => k_asm); (case N => k_asm); (case p1 => ktr_rel); (case p2 => ktr_rel); (case p3 => first | assumption | omega); (case p4 => first | assumption | omega); (case p5 => first | assumption | omega); (case p6 => first | assumption | omega); (case S => repeat' constructor); (case B => k_asm); (case X => k_asm); (case T => k_asm); (case hk => first | exact rfl | assumption); (case hd => ktr_room); (case hu => ktr_units); k_whole; intro r9 l9 h9 tk9 F9 N9 S9 O9; (try simp only [List.nil_append, List.cons_append] at N9); (try unfold OutM at O9); (try unfold OutP at O9); (try k_sweep))))
local macro_rules | `(tactic| walk_at "call ref") => `(tactic| (k_here; (with_reducible show wpAny _ _ (call (Value.ref 182) [_, Value.int 0 _]) _ _ _); k_dflt (refine' use (does_idelta _ _ _ _ _ _ _ ?p1 ?p2 ?p3) ?S ?B ?F ?X ?N ?T ?hk ?hd ?hu ?_; (case F => k_asm); (case N => k_asm); (case p1 => ktr_rel); (case p2 => first | assumption | omega); (case p3 => first | assumption | omega); (case S => repeat' constructor); (case B => k_asm); (case X => k_asm); (case T => k_asm); (case hk => first | exact rfl | assumption); (case hd => ktr_room); (case hu => ktr_units); k_whole; intro r9 l9 h9 tk9 F9 N9 S9 O9; (try simp only [List.nil_append, List.cons_append] at N9); (try unfold OutM at O9); (try unfold OutP at O9); (try k_sweep))))
local macro_rules | `(tactic| walk_at "call ref") => `(tactic| (k_here; (with_reducible show wpAny _ _ (call (Value.ref 198) [_]) _ _ _); k_dflt (refine' use (does_iabs _ _ _ _ _ _ ?p0 ?p1 ?p2 ?p3) ?S ?B ?F ?X ?N ?T ?hk ?hd ?hu ?_; (case F => k_asm); (case N => k_asm); (case p1 => ktr_rel); (case p0 => first | assumption | omega); (case p2 => first | assumption | omega); (case p3 => first | assumption | omega); (case S => repeat' constructor); (case B => k_asm); (case X => k_asm); (case T => k_asm); (case hk => first | exact rfl | assumption); (case hd => ktr_room); (case hu => ktr_units); k_whole; intro r9 l9 h9 tk9 F9 N9 S9 O9; (try simp only [List.nil_append, List.cons_append] at N9); (try unfold OutM at O9); (try unfold OutP at O9); (try k_sweep))))
def mLo (i j x y : Int) : Int := min (min (i * x) (i * y)) (min (j * x) (j * y))
def mHi (i j x y : Int) : Int := max (max (i * x) (i * y)) (max (j * x) (j * y))
theorem mul_nab {a b : Int} (ha : a.natAbs < 2 ^ 31) (hb : b.natAbs < 2 ^ 31) : (a * b).natAbs < 2 ^ 64 := by
  rw [Int.natAbs_mul]
  have := Nat.mul_le_mul (Nat.le_of_lt ha) (Nat.le_of_lt hb)
  omega
theorem mul_ord {i j x y : Int} (hij : i ≤ j) (hxy : x ≤ y) :
    (0 ≤ x → i * x ≤ j * x) ∧ (x ≤ 0 → j * x ≤ i * x) ∧ (0 ≤ y → i * y ≤ j * y) ∧ (y ≤ 0 → j * y ≤ i * y) ∧ (0 ≤ i → i * x ≤ i * y) ∧ (i ≤ 0 → i * y ≤ i * x) ∧ (0 ≤ j → j * x ≤ j * y) ∧ (j ≤ 0 → j * y ≤ j * x) :=
  ⟨fun h => Int.mul_le_mul_of_nonneg_right hij h, fun h => Int.mul_le_mul_of_nonpos_right hij h, fun h => Int.mul_le_mul_of_nonneg_right hij h, fun h => Int.mul_le_mul_of_nonpos_right hij h,
    fun h => Int.mul_le_mul_of_nonneg_left hxy h, fun h => Int.mul_le_mul_of_nonpos_left h hxy, fun h => Int.mul_le_mul_of_nonneg_left hxy h, fun h => Int.mul_le_mul_of_nonpos_left h hxy⟩
theorem mLo_le (i j x y : Int) : mLo i j x y ≤ mHi i j x y := by
  unfold mLo mHi
  exact Int.le_trans (Int.le_trans (Int.min_le_left _ _) (Int.min_le_left _ _)) (Int.le_trans (Int.le_max_left _ _) (Int.le_max_left _ _))
theorem mLo_i (i j x y : Int) : mLo i j x y ≤ i * x ∧ mLo i j x y ≤ i * y ∧ mLo i j x y ≤ j * x ∧ mLo i j x y ≤ j * y := by
  unfold mLo
  exact ⟨Int.le_trans (Int.min_le_left _ _) (Int.min_le_left _ _), Int.le_trans (Int.min_le_left _ _) (Int.min_le_right _ _), Int.le_trans (Int.min_le_right _ _) (Int.min_le_left _ _), Int.le_trans (Int.min_le_right _ _) (Int.min_le_right _ _)⟩
theorem mHi_i (i j x y : Int) : i * x ≤ mHi i j x y ∧ i * y ≤ mHi i j x y ∧ j * x ≤ mHi i j x y ∧ j * y ≤ mHi i j x y := by
  unfold mHi
  exact ⟨Int.le_trans (Int.le_max_left _ _) (Int.le_max_left _ _), Int.le_trans (Int.le_max_right _ _) (Int.le_max_left _ _), Int.le_trans (Int.le_max_left _ _) (Int.le_max_right _ _), Int.le_trans (Int.le_max_right _ _) (Int.le_max_right _ _)⟩
theorem le_mLo {i j x y z : Int} (h1 : z ≤ i * x) (h2 : z ≤ i * y) (h3 : z ≤ j * x) (h4 : z ≤ j * y) : z ≤ mLo i j x y := Int.le_min.mpr ⟨Int.le_min.mpr ⟨h1, h2⟩, Int.le_min.mpr ⟨h3, h4⟩⟩
theorem mHi_le {i j x y z : Int} (h1 : i * x ≤ z) (h2 : i * y ≤ z) (h3 : j * x ≤ z) (h4 : j * y ≤ z) : mHi i j x y ≤ z := Int.max_le.mpr ⟨Int.max_le.mpr ⟨h1, h2⟩, Int.max_le.mpr ⟨h3, h4⟩⟩
theorem mLo_of {i j x y z : Int} (h1 : z ≤ i * x) (h2 : z ≤ i * y) (h3 : z ≤ j * x) (h4 : z ≤ j * y) (h : i * x ≤ z ∨ i * y ≤ z ∨ j * x ≤ z ∨ j * y ≤ z) : mLo i j x y = z := by
  obtain ⟨a, b, c, d⟩ := mLo_i i j x y
  have := le_mLo h1 h2 h3 h4
  omega
theorem mHi_of {i j x y z : Int} (h1 : i * x ≤ z) (h2 : i * y ≤ z) (h3 : j * x ≤ z) (h4 : j * y ≤ z) (h : z ≤ i * x ∨ z ≤ i * y ∨ z ≤ j * x ∨ z ≤ j * y) : mHi i j x y = z := by
  obtain ⟨a, b, c, d⟩ := mHi_i i j x y
  have := mHi_le h1 h2 h3 h4
  omega
/-- the product of two numbers lies in the product of their intervals -/
theorem hull {i j x y u v : Int} (h1 : i ≤ u) (h2 : u ≤ j) (h3 : x ≤ v) (h4 : v ≤ y) : mLo i j x y ≤ u * v ∧ u * v ≤ mHi i j x y := by
  have b : (i * v ≤ u * v ∧ u * v ≤ j * v) ∨ (j * v ≤ u * v ∧ u * v ≤ i * v) := by
    rcases Int.le_total 0 v with h | h
    · exact .inl ⟨Int.mul_le_mul_of_nonneg_right h1 h, Int.mul_le_mul_of_nonneg_right h2 h⟩
    · exact .inr ⟨Int.mul_le_mul_of_nonpos_right h2 h, Int.mul_le_mul_of_nonpos_right h1 h⟩
  have c1 : (i * x ≤ i * v ∧ i * v ≤ i * y) ∨ (i * y ≤ i * v ∧ i * v ≤ i * x) := by
    rcases Int.le_total 0 i with h | h
    · exact .inl ⟨Int.mul_le_mul_of_nonneg_left h3 h, Int.mul_le_mul_of_nonneg_left h4 h⟩
    · exact .inr ⟨Int.mul_le_mul_of_nonpos_left h h4, Int.mul_le_mul_of_nonpos_left h h3⟩
  have c2 : (j * x ≤ j * v ∧ j * v ≤ j * y) ∨ (j * y ≤ j * v ∧ j * v ≤ j * x) := by
    rcases Int.le_total 0 j with h | h
    · exact .inl ⟨Int.mul_le_mul_of_nonneg_left h3 h, Int.mul_le_mul_of_nonneg_left h4 h⟩
    · exact .inr ⟨Int.mul_le_mul_of_nonpos_left h h4, Int.mul_le_mul_of_nonpos_left h h3⟩
  have l := mLo_i i j x y
  have g := mHi_i i j x y
  have e1 : mLo i j x y ≤ i * v ∧ i * v ≤ mHi i j x y := by clear b c2; omega
  have e2 : mLo i j x y ≤ j * v ∧ j * v ≤ mHi i j x y := by clear b c1; omega
  clear c1 c2 l g
  omega
/-- the sum's product lies within the sum of the products -/
theorem distr (a b c d e f : Int) : mLo a b c d + mLo a b e f ≤ mLo a b (c + e) (d + f) ∧ mHi a b (c + e) (d + f) ≤ mHi a b c d + mHi a b e f := by
  have l1 := mLo_i a b c d
  have l2 := mLo_i a b e f
  have g1 := mHi_i a b c d
  have g2 := mHi_i a b e f
  constructor
  · clear g1 g2
    refine le_mLo ?_ ?_ ?_ ?_ <;> rw [Int.mul_add] <;> omega
  · clear l1 l2
    refine mHi_le ?_ ?_ ?_ ?_ <;> rw [Int.mul_add] <;> omega
theorem mLo_nn {i j x y : Int} (h1 : 0 ≤ i) (h2 : i ≤ j) (h3 : 0 ≤ x) (h4 : x ≤ y) : mLo i j x y = i * x ∧ mHi i j x y = j * y := by
  have h := mul_ord h2 h4
  have a := h.1 h3; have b := h.2.2.1 (by omega); have c := h.2.2.2.2.1 h1; have d := h.2.2.2.2.2.2.1 (by omega)
  clear h
  exact ⟨mLo_of (by omega) (by omega) (by omega) (by omega) (.inl (Int.le_refl _)), mHi_of (by omega) (by omega) (by omega) (by omega) (.inr (.inr (.inr (Int.le_refl _))))⟩
theorem mLo_np {i j x y : Int} (h1 : 0 ≤ i) (h2 : i ≤ j) (h3 : y ≤ 0) (h4 : x ≤ y) : mLo i j x y = j * x ∧ mHi i j x y = i * y := by
  have h := mul_ord h2 h4
  have a := h.2.1 (by omega); have b := h.2.2.2.1 h3; have c := h.2.2.2.2.1 h1; have d := h.2.2.2.2.2.2.1 (by omega)
  clear h
  exact ⟨mLo_of (by omega) (by omega) (by omega) (by omega) (.inr (.inr (.inl (Int.le_refl _)))), mHi_of (by omega) (by omega) (by omega) (by omega) (.inr (.inl (Int.le_refl _)))⟩
theorem mLo_pp {i j x y : Int} (h1 : j ≤ 0) (h2 : i ≤ j) (h3 : y ≤ 0) (h4 : x ≤ y) : mLo i j x y = j * y ∧ mHi i j x y = i * x := by
  have h := mul_ord h2 h4
  have a := h.2.1 (by omega); have b := h.2.2.2.1 h3; have c := h.2.2.2.2.2.1 (by omega); have d := h.2.2.2.2.2.2.2 h1
  clear h
  exact ⟨mLo_of (by omega) (by omega) (by omega) (by omega) (.inr (.inr (.inr (Int.le_refl _)))), mHi_of (by omega) (by omega) (by omega) (by omega) (.inl (Int.le_refl _))⟩
theorem mLo_mn {i j x y : Int} (h1 : i ≤ 0) (h5 : 0 ≤ j) (h3 : 0 ≤ x) (h4 : x ≤ y) : mLo i j x y = i * y ∧ mHi i j x y = j * y := by
  have h := mul_ord (show i ≤ j by omega) h4
  have a := h.1 h3; have b := h.2.2.1 (by omega); have c := h.2.2.2.2.2.1 h1; have d := h.2.2.2.2.2.2.1 h5
  clear h
  exact ⟨mLo_of (by omega) (by omega) (by omega) (by omega) (.inr (.inl (Int.le_refl _))), mHi_of (by omega) (by omega) (by omega) (by omega) (.inr (.inr (.inr (Int.le_refl _))))⟩
theorem mLo_mp {i j x y : Int} (h1 : i ≤ 0) (h5 : 0 ≤ j) (h3 : y ≤ 0) (h4 : x ≤ y) : mLo i j x y = j * x ∧ mHi i j x y = i * x := by
  have h := mul_ord (show i ≤ j by omega) h4
  have a := h.2.1 (by omega); have b := h.2.2.2.1 h3; have c := h.2.2.2.2.2.1 h1; have d := h.2.2.2.2.2.2.1 h5
  clear h
  exact ⟨mLo_of (by omega) (by omega) (by omega) (by omega) (.inr (.inr (.inl (Int.le_refl _)))), mHi_of (by omega) (by omega) (by omega) (by omega) (.inl (Int.le_refl _))⟩
theorem mLo_pn {i j x y : Int} (h1 : j ≤ 0) (h2 : i ≤ j) (h3 : 0 ≤ x) (h4 : x ≤ y) : mLo i j x y = i * y ∧ mHi i j x y = j * x := by
  have h := mul_ord h2 h4
  have a := h.1 h3; have b := h.2.2.1 (by omega); have c := h.2.2.2.2.2.1 (by omega); have d := h.2.2.2.2.2.2.2 h1
  clear h
  exact ⟨mLo_of (by omega) (by omega) (by omega) (by omega) (.inr (.inl (Int.le_refl _))), mHi_of (by omega) (by omega) (by omega) (by omega) (.inr (.inr (.inl (Int.le_refl _))))⟩
theorem mLo_one (a c d : Int) : mLo a a c d = min (a * c) (a * d) ∧ mHi a a c d = max (a * c) (a * d) := by
  unfold mLo mHi
  rw [Int.min_self, Int.max_self]
  exact ⟨rfl, rfl⟩
theorem distr_eq {a b c d e f : Int} (h1 : a ≤ b) (h2 : c ≤ d) (h3 : e ≤ f) (h : a = b ∨ (0 ≤ c ∧ 0 ≤ e) ∨ (d ≤ 0 ∧ f ≤ 0)) : mLo a b (c + e) (d + f) = mLo a b c d + mLo a b e f ∧ mHi a b (c + e) (d + f) = mHi a b c d + mHi a b e f := by
  rcases h with rfl | ⟨hc, he⟩ | ⟨hd, hf⟩
  · rw [(mLo_one _ _ _).1, (mLo_one _ _ _).2, (mLo_one _ _ _).1, (mLo_one _ _ _).2, (mLo_one _ _ _).1, (mLo_one _ _ _).2, Int.mul_add, Int.mul_add]
    rcases Int.le_total 0 a with h | h
    · have p := Int.mul_le_mul_of_nonneg_left h2 h
      have q := Int.mul_le_mul_of_nonneg_left h3 h
      rw [Int.min_eq_left p, Int.min_eq_left q, Int.max_eq_right p, Int.max_eq_right q, Int.min_eq_left (by omega), Int.max_eq_right (by omega)]
      exact ⟨rfl, rfl⟩
    · have p := Int.mul_le_mul_of_nonpos_left h h2
      have q := Int.mul_le_mul_of_nonpos_left h h3
      rw [Int.min_eq_right p, Int.min_eq_right q, Int.max_eq_left p, Int.max_eq_left q, Int.min_eq_right (by omega), Int.max_eq_left (by omega)]
      exact ⟨rfl, rfl⟩
  · rcases Int.le_total 0 a with h | h
    · rw [(mLo_nn h h1 (show 0 ≤ c + e by omega) (show c + e ≤ d + f by omega)).1, (mLo_nn h h1 (show 0 ≤ c + e by omega) (show c + e ≤ d + f by omega)).2, (mLo_nn h h1 hc h2).1, (mLo_nn h h1 hc h2).2, (mLo_nn h h1 he h3).1, (mLo_nn h h1 he h3).2, Int.mul_add, Int.mul_add]
      exact ⟨rfl, rfl⟩
    · rcases Int.le_total 0 b with h' | h'
      · rw [(mLo_mn h h' (show 0 ≤ c + e by omega) (show c + e ≤ d + f by omega)).1, (mLo_mn h h' (show 0 ≤ c + e by omega) (show c + e ≤ d + f by omega)).2, (mLo_mn h h' hc h2).1, (mLo_mn h h' hc h2).2, (mLo_mn h h' he h3).1, (mLo_mn h h' he h3).2, Int.mul_add, Int.mul_add]
        exact ⟨rfl, rfl⟩
      · rw [(mLo_pn h' h1 (show 0 ≤ c + e by omega) (show c + e ≤ d + f by omega)).1, (mLo_pn h' h1 (show 0 ≤ c + e by omega) (show c + e ≤ d + f by omega)).2, (mLo_pn h' h1 hc h2).1, (mLo_pn h' h1 hc h2).2, (mLo_pn h' h1 he h3).1, (mLo_pn h' h1 he h3).2, Int.mul_add, Int.mul_add]
        exact ⟨rfl, rfl⟩
  · rcases Int.le_total 0 a with h | h
    · rw [(mLo_np h h1 (show d + f ≤ 0 by omega) (show c + e ≤ d + f by omega)).1, (mLo_np h h1 (show d + f ≤ 0 by omega) (show c + e ≤ d + f by omega)).2, (mLo_np h h1 hd h2).1, (mLo_np h h1 hd h2).2, (mLo_np h h1 hf h3).1, (mLo_np h h1 hf h3).2, Int.mul_add, Int.mul_add]
      exact ⟨rfl, rfl⟩
    · rcases Int.le_total 0 b with h' | h'
      · rw [(mLo_mp h h' (show d + f ≤ 0 by omega) (show c + e ≤ d + f by omega)).1, (mLo_mp h h' (show d + f ≤ 0 by omega) (show c + e ≤ d + f by omega)).2, (mLo_mp h h' hd h2).1, (mLo_mp h h' hd h2).2, (mLo_mp h h' hf h3).1, (mLo_mp h h' hf h3).2, Int.mul_add, Int.mul_add]
        exact ⟨rfl, rfl⟩
      · rw [(mLo_pp h' h1 (show d + f ≤ 0 by omega) (show c + e ≤ d + f by omega)).1, (mLo_pp h' h1 (show d + f ≤ 0 by omega) (show c + e ≤ d + f by omega)).2, (mLo_pp h' h1 hd h2).1, (mLo_pp h' h1 hd h2).2, (mLo_pp h' h1 hf h3).1, (mLo_pp h' h1 hf h3).2, Int.mul_add, Int.mul_add]
        exact ⟨rfl, rfl⟩
/-- cut anywhere, the pieces' products make the product -/
theorem cut_eq {a b c d k : Int} (h1 : a ≤ k) (h2 : k ≤ b) : min (mLo a k c d) (mLo k b c d) = mLo a b c d ∧ max (mHi a k c d) (mHi k b c d) = mHi a b c d := by
  have key : ∀ z : Int, (a * z ≤ k * z ∧ k * z ≤ b * z) ∨ (b * z ≤ k * z ∧ k * z ≤ a * z) := by
    intro z
    rcases Int.le_total 0 z with h | h
    · exact .inl ⟨Int.mul_le_mul_of_nonneg_right h1 h, Int.mul_le_mul_of_nonneg_right h2 h⟩
    · exact .inr ⟨Int.mul_le_mul_of_nonpos_right h2 h, Int.mul_le_mul_of_nonpos_right h1 h⟩
  have kc := key c
  have kd := key d
  clear key
  have l := mLo_i a b c d
  have g := mHi_i a b c d
  have l1 := mLo_i a k c d
  have l2 := mLo_i k b c d
  have g1 := mHi_i a k c d
  have g2 := mHi_i k b c d
  constructor
  · clear g g1 g2
    apply Int.le_antisymm
    · exact le_mLo (Int.le_trans (Int.min_le_left _ _) l1.1) (Int.le_trans (Int.min_le_left _ _) l1.2.1) (Int.le_trans (Int.min_le_right _ _) l2.2.2.1) (Int.le_trans (Int.min_le_right _ _) l2.2.2.2)
    · have e1 : mLo a b c d ≤ k * c := by clear kd l1 l2; omega
      have e2 : mLo a b c d ≤ k * d := by clear kc l1 l2; omega
      exact Int.le_min.mpr ⟨le_mLo l.1 l.2.1 e1 e2, le_mLo e1 e2 l.2.2.1 l.2.2.2⟩
  · clear l l1 l2
    apply Int.le_antisymm
    · have e1 : k * c ≤ mHi a b c d := by clear kd g1 g2; omega
      have e2 : k * d ≤ mHi a b c d := by clear kc g1 g2; omega
      exact Int.max_le.mpr ⟨mHi_le g.1 g.2.1 e1 e2, mHi_le e1 e2 g.2.2.1 g.2.2.2⟩
    · exact mHi_le (Int.le_trans g1.1 (Int.le_max_left _ _)) (Int.le_trans g1.2.1 (Int.le_max_left _ _)) (Int.le_trans g2.2.2.1 (Int.le_max_right _ _)) (Int.le_trans g2.2.2.2 (Int.le_max_right _ _))
theorem abs_mul {a b c d : Int} (h1 : a ≤ b) (h2 : c ≤ d) : max (-mLo a b c d) (mHi a b c d) = max (-a) b * max (-c) d := by
  have key : ∀ A C : Int, -A ≤ a → b ≤ A → (A = -a ∨ A = b) → -C ≤ c → d ≤ C → (C = -c ∨ C = d) → max (-mLo a b c d) (mHi a b c d) = A * C := by
    intro A C h3 h4 h5 h6 h7 h8
    have e : 0 ≤ A * C := Int.mul_nonneg (by omega) (by omega)
    have q1 : mLo (-A) A (-C) C = -(A * C) := mLo_of (by rw [Int.neg_mul_neg]; omega) (by rw [Int.neg_mul]; omega) (by rw [Int.mul_neg]; omega) (by omega) (.inr (.inl (by rw [Int.neg_mul]; omega)))
    have q2 : mHi (-A) A (-C) C = A * C := mHi_of (by rw [Int.neg_mul_neg]; omega) (by rw [Int.neg_mul]; omega) (by rw [Int.mul_neg]; omega) (by omega) (.inl (by rw [Int.neg_mul_neg]; omega))
    have g : ∀ u v : Int, -A ≤ u → u ≤ A → -C ≤ v → v ≤ C → -(A * C) ≤ u * v ∧ u * v ≤ A * C := by
      intro u v a1 a2 a3 a4
      have := hull a1 a2 a3 a4
      rwa [q1, q2] at this
    have g1 := g a c (by omega) (by omega) (by omega) (by omega)
    have g2 := g a d (by omega) (by omega) (by omega) (by omega)
    have g3 := g b c (by omega) (by omega) (by omega) (by omega)
    have g4 := g b d (by omega) (by omega) (by omega) (by omega)
    have hh : A * C = a * c ∨ A * C = -(a * d) ∨ A * C = -(b * c) ∨ A * C = b * d := by
      rcases h5 with rfl | rfl <;> rcases h8 with rfl | rfl
      · rw [Int.neg_mul_neg]; exact .inl rfl
      · rw [Int.neg_mul]; exact .inr (.inl rfl)
      · rw [Int.mul_neg]; exact .inr (.inr (.inl rfl))
      · exact .inr (.inr (.inr rfl))
    have l := mLo_i a b c d
    have r := mHi_i a b c d
    have lo := le_mLo g1.1 g2.1 g3.1 g4.1
    have hi := mHi_le g1.2 g2.2 g3.2 g4.2
    clear g q1 q2 g1 g2 g3 g4 h5 h8 h3 h4 h6 h7 e
    apply Int.le_antisymm
    · exact Int.max_le.mpr ⟨by omega, hi⟩
    · rcases hh with hh | hh | hh | hh
      · exact Int.le_trans (by omega) (Int.le_max_right _ _)
      · exact Int.le_trans (by omega) (Int.le_max_left _ _)
      · exact Int.le_trans (by omega) (Int.le_max_left _ _)
      · exact Int.le_trans (by omega) (Int.le_max_right _ _)
  exact key _ _ (by omega) (by omega) (by omega) (by omega) (by omega) (by omega)
section
variable {i j x y : Int} (hij : i ≤ j) (hxy : x ≤ y)
include hij hxy
theorem mul_c1 (h1 : 0 ≤ i) (h2 : 0 ≤ x) : i * x = mLo i j x y ∧ j * y = mHi i j x y := ⟨(mLo_nn h1 hij h2 hxy).1.symm, (mLo_nn h1 hij h2 hxy).2.symm⟩
theorem mul_c2 (h1 : 0 ≤ i) (h2 : y ≤ 0) : j * x = mLo i j x y ∧ i * y = mHi i j x y := ⟨(mLo_np h1 hij h2 hxy).1.symm, (mLo_np h1 hij h2 hxy).2.symm⟩
theorem mul_c3 (h1 : 0 ≤ i) (h2 : x ≤ 0) (h3 : 0 ≤ y) : j * x = mLo i j x y ∧ j * y = mHi i j x y := by
  have h := mul_ord hij hxy
  have a := h.2.1 h2; have b := h.2.2.1 h3; have c := h.2.2.2.2.1 h1; have d := h.2.2.2.2.2.2.1 (by omega)
  clear h
  exact ⟨(mLo_of (by omega) (by omega) (by omega) (by omega) (.inr (.inr (.inl (Int.le_refl _))))).symm, (mHi_of (by omega) (by omega) (by omega) (by omega) (.inr (.inr (.inr (Int.le_refl _))))).symm⟩
theorem mul_c4 (h1 : j ≤ 0) (h2 : 0 ≤ x) : i * y = mLo i j x y ∧ j * x = mHi i j x y := ⟨(mLo_pn h1 hij h2 hxy).1.symm, (mLo_pn h1 hij h2 hxy).2.symm⟩
theorem mul_c5 (h1 : j ≤ 0) (h2 : y ≤ 0) : j * y = mLo i j x y ∧ i * x = mHi i j x y := ⟨(mLo_pp h1 hij h2 hxy).1.symm, (mLo_pp h1 hij h2 hxy).2.symm⟩
theorem mul_c6 (h1 : j ≤ 0) (h2 : x ≤ 0) (h3 : 0 ≤ y) : i * y = mLo i j x y ∧ i * x = mHi i j x y := by
  have h := mul_ord hij hxy
  have a := h.2.1 h2; have b := h.2.2.1 h3; have c := h.2.2.2.2.2.1 (by omega); have d := h.2.2.2.2.2.2.2 h1
  clear h
  exact ⟨(mLo_of (by omega) (by omega) (by omega) (by omega) (.inr (.inl (Int.le_refl _)))).symm, (mHi_of (by omega) (by omega) (by omega) (by omega) (.inl (Int.le_refl _))).symm⟩
end
theorem sgn_facts (i : Int) : (0 ≤ sgn i ↔ 0 ≤ i) ∧ (sgn i ≤ 0 ↔ i ≤ 0) ∧ (sgn i = 0 ↔ i = 0) := by unfold sgn; split <;> (try split) <;> omega
def JOn : Prop := True
def JT (c : Bool) (s : Shared) (h₀ : Heap) (L : Addr) (m : Str → Option Value) (news : Led) (b : Bool) (s₁ : Shared) : Prop := b = c ∧ ∃ h' tk, s₁ = { s with heap := h', toks := tk } ∧ Fr h₀ L h' m ∧ News h₀ L h' news
theorem join_test (c : Bool) {M : Model} {A : Around} {t : Sem Bool} {Q : Bool → Shared → Prop} {E : Value → Shared → Prop} {s : Shared} {h₀ : Heap} {L : Addr} {m : Str → Option Value} {news : Led} (_F : Fr h₀ L s.heap m) (_N : News h₀ L s.heap news)
    (h : wpAny M A t (fun b s₁ => JT c s h₀ L m news b s₁) E s) (k : ∀ h' tk, Fr h₀ L h' m → News h₀ L h' news → Q c { s with heap := h', toks := tk }) : wpAny M A t Q E s := by
  refine wpAny_mono h (fun b s₁ hq => ?_) fun _ _ h => h
  obtain ⟨rfl, h', tk, rfl, F, N⟩ := hq
  exact k h' tk F N
theorem jt_mk {c b : Bool} {s : Shared} {h₀ h' : Heap} {L : Addr} {m : Str → Option Value} {news : Led} {tk : Nat} (e : b = c) (F : Fr h₀ L h' m) (N : News h₀ L h' news) : JT c s h₀ L m news b { s with heap := h', toks := tk } := ⟨e, h', tk, rfl, F, N⟩
section
local macro_rules | `(tactic| walk_at "JT") => `(tactic| (refine jt_mk ?je ?jf ?jn; (case jf => k_asm); (case jn => k_asm); (case je => first | rfl | (law_clear; (try simp only [decide_eq_true_eq, decide_eq_false_iff_not, beq_iff_eq, beq_eq_false_iff_ne, bne_iff_ne, ne_eq, bne_eq_false_iff_eq]) <;> omega) | (exfalso; law_clear; omega))))
local macro_rules | `(tactic| walk_at "isTrue Compare") => `(tactic| (k_here; (with_reducible show wpAny _ _ (isTrue (PySem.Expr.Compare _ [_, _] _ _) _ _) _ _ _); (have hJ9 : JOn := by with_reducible assumption); clear hJ9; (fail_if_success (goal_has Mine.JT)); (refine' join_test false ?F ?N ?_ ?_; (case F => k_asm); (case N => k_asm)); rotate_left; (intro h9 tk9 F9 N9; (try k_sweep)); rotate_right; walk_say "JOINED"))
theorem sign_cls {i j : Int} (hij : i ≤ j) : (i = 0 ∧ j = 0 ∧ sgn i = 0 ∧ sgn j = 0) ∨ (0 ≤ i ∧ 0 < j ∧ 0 ≤ sgn i ∧ sgn j = 1) ∨ (i < 0 ∧ j ≤ 0 ∧ sgn i = -1 ∧ sgn j ≤ 0) ∨ (i < 0 ∧ 0 < j ∧ sgn i = -1 ∧ sgn j = 1) := by
  have h1 := sgn_facts i
  have h2 := sgn_facts j
  unfold sgn at *
  repeat' split
  all_goals omega
theorem in_nan {w : World} {A : Around} {E : Value → Shared → Prop} {s : Shared} {h₀ : Heap} {L l : Addr} {m : Str → Option Value} {news : Led} {v1 v2 v3 v4 : Value} {x1 x2 x3 x4 : F4} {n : Nat} {Q : Value → Shared → Prop} (F : Fr h₀ L s.heap m) (X : (Mine.hd.heap_39 w.params).In h₀) (N : News h₀ L s.heap news)
    (hm : (l, listOf #[v1, v2, v3, v4] n) ∈ news) (h1 : MV news v1 x1) (h2 : MV news v2 x2) (h3 : MV news v3 x3) (h4 : MV news v4 x4) (hr : A.units + 64 < cLine) (h : Q (.bool false) s) : wpAny (model PG w) A (compareOp .In (.ref 24) (.ref l)) Q E s := by
  have ra : ReadsAll s.heap (#[v1, v2, v3, v4] : Array Value).toList [x1.py, x2.py, x3.py, x4.py] [] :=
    .cons (as := []) (h1.reads F X N) (.cons (as := []) (h2.reads F X N) (.cons (as := []) (h3.reads F X N) (.cons (as := []) (h4.reads F X N) .nil)))
  have key : ∀ {v : Value} {x : F4}, MV news v x → PyData.eqv x.py (F4.py ⟨0, 0, -123, -1⟩) = false := by
    intro v x hv
    rw [py_eqv, ← Bool.not_eq_true, F4.beq_iff]
    rintro rfl
    have := hv.b_nonneg
    dsimp only at this
    omega
  refine SeqAt.in_list_reads (reads_list_at (N.get hm) rfl rfl ra) (reads_nan F X) ?_ ?_ ?_ ?_
  · simp [F4.py, PyData.canLayAll0, PyData.canLay0]
  · simp [F4.py, PyData.canLayAll0, PyData.canLay0]
  · simp only [F4.py, PyData.depth, PyData.depthAll]
    omega
  · rw [show ([x1.py, x2.py, x3.py, x4.py].any fun y => PyData.eqv y (F4.py ⟨0, 0, -123, -1⟩)) = false from by simp only [List.any_cons, List.any_nil, key h1, key h2, key h3, key h4, Bool.or_false]]
    exact h
theorem mul_z1 {i j x y : Int} (h1 : i = 0) (h2 : j = 0) : 0 = mLo i j x y ∧ 0 = mHi i j x y := by
  subst h1; subst h2; unfold mLo mHi; rw [Int.zero_mul, Int.zero_mul]; decide
theorem mul_z2 {i j x y : Int} (h1 : x = 0) (h2 : y = 0) : 0 = mLo i j x y ∧ 0 = mHi i j x y := by
  subst h1; subst h2; unfold mLo mHi; rw [Int.mul_zero, Int.mul_zero]; decide
theorem outP_mk2 {D : Addr} {n : Nat} {v u : Value} {a b lo hi ex : Int} {l : Led} (hm : (D, ({ cls := .type "tuple", data := .seq #[v, u] n } : Obj)) ∈ l) (h1 : MV l v (enc a ex)) (h2 : MV l u (enc b ex)) (e : a = lo ∧ b = hi) : OutP (enc lo ex) (enc hi ex) l (.ref D) :=
  outP_mk hm h1 h2 e.1 e.2
local macro_rules | `(tactic| walk_at "compareOp In") => `(tactic| (k_here; (with_reducible show wpAny _ _ (compareOp CmpOp.In (Value.ref 24) (Value.ref _)) _ _ _); k_dflt (refine' in_nan ?F ?X ?N ?m ?p1 ?p2 ?p3 ?p4 ?r ?_; (case F => k_asm); (case X => k_asm); (case N => k_asm); (case m => k_mem); (case p1 => ktr_rel); (case p2 => ktr_rel); (case p3 => ktr_rel); (case p4 => ktr_rel); (case r => units_room); k_whole)))
theorem does_imul (w : World) (news : Led) (v u : Value) (i j x y ex fx : Int) (hij : i ≤ j) (hxy : x ≤ y) (hv : IV news v (enc i ex) (enc j ex)) (hu : IV news u (enc x fx) (enc y fx)) (bi : i.natAbs < 2 ^ 31) (bj : j.natAbs < 2 ^ 31) (bx : x.natAbs < 2 ^ 31) (yb : y.natAbs < 2 ^ 31) :
    Does w 206 [v, u] news (OutP (enc (mLo i j x y) (ex + fx)) (enc (mHi i j x y) (ex + fx))) 19 := by
  unfold Does
  intro p loose mean mg mb dp un gd cn cs a ccd cl outer A₀ base h₀ L m s Q E B F X N T hk hd hu hret
  rename IV news v _ _ => hxv
  rename IV news u _ _ => hxu
  rcases hxv with ⟨hM, hx1, hx2⟩
  rcases hxu with ⟨hM', hx3, hx4⟩
  have hI := sign_cls hij
  have hX := sign_cls hxy
  have m1 := mul_nab bi bx
  have m2 := mul_nab bi yb
  have m3 := mul_nab bj bx
  have m4 := mul_nab bj yb
  replace bi : i.natAbs < 2 ^ 64 := by omega
  replace bj : j.natAbs < 2 ^ 64 := by omega
  replace bx : x.natAbs < 2 ^ 64 := by omega
  replace yb : y.natAbs < 2 ^ 64 := by omega
  rcases hI with ⟨c1, c2, c3, c4⟩ | hI
  · (refine wpAny_call ?_; k_dflt (refine' code_def ?k1 ?k2 ?k3 ?k4 ?k5 ?kA ?kF ?kK ?k6 ?k7 ?k8 ?k9 ?kB ?_ ?c2 ?c3 ?c4 ?c5; (case kA => exact rfl); (case kF => exact rfl); (case kK => assumption); (case k1 => k_asm); (case k2 => k_asm); (case k3 => k_asm); (case k4 => k_asm); (case k5 => k_asm); (case k6 => k_is); (case k7 => k_is); (case k8 => ktr_room); (case k9 => first | exact BindsTo.of_eq rfl | exact binds_K (by k_in) rfl (by k_is) rfl rfl rfl); (case c5 => decide); (case kB => exact locs rfl); (case c2 => exact rfl); (case c3 => exact rfl); (case c4 => exact rfl); k_whole; intro g' L' h' FG' F' N' B' X' T'; (try dsimp only); (try k_fold)); k_steps)
    all_goals (refine retE hret (by k_asm) (by k_asm) (by ktn_ord) ?_)
    all_goals exact outP_mk2 (.head _) mv_zero mv_zero (mul_z1 c1 c2)
  rcases hX with ⟨c5, c6, c7, c8⟩ | hX
  · rcases hI with ⟨c1, c2, c3, c4⟩ | ⟨c1, c2, c3, c4⟩ | ⟨c1, c2, c3, c4⟩
    all_goals (refine wpAny_call ?_; k_dflt (refine' code_def ?k1 ?k2 ?k3 ?k4 ?k5 ?kA ?kF ?kK ?k6 ?k7 ?k8 ?k9 ?kB ?_ ?c2 ?c3 ?c4 ?c5; (case kA => exact rfl); (case kF => exact rfl); (case kK => assumption); (case k1 => k_asm); (case k2 => k_asm); (case k3 => k_asm); (case k4 => k_asm); (case k5 => k_asm); (case k6 => k_is); (case k7 => k_is); (case k8 => ktr_room); (case k9 => first | exact BindsTo.of_eq rfl | exact binds_K (by k_in) rfl (by k_is) rfl rfl rfl); (case c5 => decide); (case kB => exact locs rfl); (case c2 => exact rfl); (case c3 => exact rfl); (case c4 => exact rfl); k_whole; intro g' L' h' FG' F' N' B' X' T'; (try dsimp only); (try k_fold)); k_steps)
    all_goals (refine retE hret (by k_asm) (by k_asm) (by ktn_ord) ?_)
    all_goals exact outP_mk2 (.head _) mv_zero mv_zero (mul_z2 c5 c6)
  have hJOn : JOn := True.intro
  rcases hI with ⟨c1, c2, c3, c4⟩ | ⟨c1, c2, c3, c4⟩ | ⟨c1, c2, c3, c4⟩
  · rcases hX with ⟨c5, c6, c7, c8⟩ | ⟨c5, c6, c7, c8⟩ | ⟨c5, c6, c7, c8⟩
    all_goals (refine wpAny_call ?_; k_dflt (refine' code_def ?k1 ?k2 ?k3 ?k4 ?k5 ?kA ?kF ?kK ?k6 ?k7 ?k8 ?k9 ?kB ?_ ?c2 ?c3 ?c4 ?c5; (case kA => exact rfl); (case kF => exact rfl); (case kK => assumption); (case k1 => k_asm); (case k2 => k_asm); (case k3 => k_asm); (case k4 => k_asm); (case k5 => k_asm); (case k6 => k_is); (case k7 => k_is); (case k8 => ktr_room); (case k9 => first | exact BindsTo.of_eq rfl | exact binds_K (by k_in) rfl (by k_is) rfl rfl rfl); (case c5 => decide); (case kB => exact locs rfl); (case c2 => exact rfl); (case c3 => exact rfl); (case c4 => exact rfl); k_whole; intro g' L' h' FG' F' N' B' X' T'; (try dsimp only); (try k_fold)); k_steps)
    all_goals (refine retE hret (by k_asm) (by k_asm) (by ktn_ord) ?_)
    · exact outP_mk2 (.head _) (by ktr_rel) (by ktr_rel) (mul_c1 hij hxy c1 c5)
    · exact outP_mk2 (.head _) (by ktr_rel) (by ktr_rel) (mul_c2 hij hxy c1 c6)
    · exact outP_mk2 (.head _) (by ktr_rel) (by ktr_rel) (mul_c3 hij hxy c1 (by omega) (by omega))
  · rcases hX with ⟨c5, c6, c7, c8⟩ | ⟨c5, c6, c7, c8⟩ | ⟨c5, c6, c7, c8⟩
    all_goals (refine wpAny_call ?_; k_dflt (refine' code_def ?k1 ?k2 ?k3 ?k4 ?k5 ?kA ?kF ?kK ?k6 ?k7 ?k8 ?k9 ?kB ?_ ?c2 ?c3 ?c4 ?c5; (case kA => exact rfl); (case kF => exact rfl); (case kK => assumption); (case k1 => k_asm); (case k2 => k_asm); (case k3 => k_asm); (case k4 => k_asm); (case k5 => k_asm); (case k6 => k_is); (case k7 => k_is); (case k8 => ktr_room); (case k9 => first | exact BindsTo.of_eq rfl | exact binds_K (by k_in) rfl (by k_is) rfl rfl rfl); (case c5 => decide); (case kB => exact locs rfl); (case c2 => exact rfl); (case c3 => exact rfl); (case c4 => exact rfl); k_whole; intro g' L' h' FG' F' N' B' X' T'; (try dsimp only); (try k_fold)); k_steps)
    all_goals (refine retE hret (by k_asm) (by k_asm) (by ktn_ord) ?_)
    · exact outP_mk2 (.head _) (by ktr_rel) (by ktr_rel) (mul_c4 hij hxy c2 c5)
    · exact outP_mk2 (.head _) (by ktr_rel) (by ktr_rel) (mul_c5 hij hxy c2 c6)
    · exact outP_mk2 (.head _) (by ktr_rel) (by ktr_rel) (mul_c6 hij hxy c2 (by omega) (by omega))
  · (refine wpAny_call ?_; k_dflt (refine' code_def ?k1 ?k2 ?k3 ?k4 ?k5 ?kA ?kF ?kK ?k6 ?k7 ?k8 ?k9 ?kB ?_ ?c2 ?c3 ?c4 ?c5; (case kA => exact rfl); (case kF => exact rfl); (case kK => assumption); (case k1 => k_asm); (case k2 => k_asm); (case k3 => k_asm); (case k4 => k_asm); (case k5 => k_asm); (case k6 => k_is); (case k7 => k_is); (case k8 => ktr_room); (case k9 => first | exact BindsTo.of_eq rfl | exact binds_K (by k_in) rfl (by k_is) rfl rfl rfl); (case c5 => decide); (case kB => exact locs rfl); (case c2 => exact rfl); (case c3 => exact rfl); (case c4 => exact rfl); k_whole; intro g' L' h' FG' F' N' B' X' T'; (try dsimp only); (try k_fold)); k_steps)
    all_goals (refine retE hret (by k_asm) (by k_asm) (by ktn_ord) ?_)
    all_goals exact outP_mk2 (.head _) (by ktr_rel) (by ktr_rel) ⟨rfl, rfl⟩
end
local macro_rules | `(tactic| walk_at "call ref") => `(tactic| (k_here; (with_reducible show wpAny _ _ (call (Value.ref 206) [_, _]) _ _ _); k_dflt (refine' use (does_imul _ _ _ _ _ _ _ _ _ _ ?q1 ?q2 ?p1 ?p2 ?p3 ?p4 ?p5 ?p6) ?S ?B ?F ?X ?N ?T ?hk ?hd ?hu ?_; (case F => k_asm); (case N => k_asm); (case p1 => ktr_rel); (case p2 => ktr_rel); (case q1 => first | assumption | omega); (case q2 => first | assumption | omega); (case p3 => first | assumption | omega); (case p4 => first | assumption | omega); (case p5 => first | assumption | omega); (case p6 => first | assumption | omega); (case S => repeat' constructor); (case B => k_asm); (case X => k_asm); (case T => k_asm); (case hk => first | exact rfl | assumption); (case hd => ktr_room); (case hu => ktr_units); k_whole; intro r9 l9 h9 tk9 F9 N9 S9 O9; (try simp only [List.nil_append, List.cons_append] at N9); (try unfold OutM at O9); (try unfold OutP at O9); (try k_sweep))))
def sqLo (i j : Int) : Int := if 0 ≤ i then i * i else if j ≤ 0 then j * j else 0
def sqHi (i j : Int) : Int := if 0 ≤ i then j * j else if j ≤ 0 then i * i else max (-i) j * max (-i) j
theorem outP_mk3 {D : Addr} {n : Nat} {v u : Value} {a b lo hi ex fx : Int} {l : Led} (hm : (D, ({ cls := .type "tuple", data := .seq #[v, u] n } : Obj)) ∈ l) (h1 : MV l v (enc a fx)) (h2 : MV l u (enc b fx)) (e : a = lo ∧ b = hi) (f : fx = ex) : OutP (enc lo ex) (enc hi ex) l (.ref D) := by
  subst f
  exact outP_mk hm h1 h2 e.1 e.2
theorem does_isq (w : World) (news : Led) (v : Value) (i j ex : Int) (t5 : Tok) (hij : i ≤ j) (hv : IV news v (enc i ex) (enc j ex)) (bi : i.natAbs < 2 ^ 31) (bj : j.natAbs < 2 ^ 31) :
    Does w 214 [v, .int 400 t5] news (OutP (enc (sqLo i j) (ex + ex)) (enc (sqHi i j) (ex + ex))) 19 := by
  unfold Does
  intro p loose mean mg mb dp un gd cn cs a ccd cl outer A₀ base h₀ L m s Q E B F X N T hk hd hu hret
  rename IV news v _ _ => hxv
  rcases hxv with ⟨hM, hx1, hx2⟩
  replace bi : i.natAbs < 2 ^ 64 := by omega
  replace bj : j.natAbs < 2 ^ 64 := by omega
  have bi' : (-i).natAbs < 2 ^ 64 := by omega
  have b0 : (0 : Int).natAbs < 2 ^ 64 := by decide
  have bm : (max (-i) j).natAbs < 2 ^ 64 := by omega
  (refine wpAny_call ?_; k_dflt (refine' code_def ?k1 ?k2 ?k3 ?k4 ?k5 ?kA ?kF ?kK ?k6 ?k7 ?k8 ?k9 ?kB ?_ ?c2 ?c3 ?c4 ?c5; (case kA => exact rfl); (case kF => exact rfl); (case kK => assumption); (case k1 => k_asm); (case k2 => k_asm); (case k3 => k_asm); (case k4 => k_asm); (case k5 => k_asm); (case k6 => k_is); (case k7 => k_is); (case k8 => ktr_room); (case k9 => first | exact BindsTo.of_eq rfl | exact binds_K (by k_in) rfl (by k_is) rfl rfl rfl); (case c5 => decide); (case kB => exact locs rfl); (case c2 => exact rfl); (case c3 => exact rfl); (case c4 => exact rfl); k_whole; intro g' L' h' FG' F' N' B' X' T'; (try dsimp only); (try k_fold)); k_steps)
  all_goals (refine retE hret (by k_asm) (by k_asm) (by ktn_ord) ?_)
  · exact outP_mk2 (.head _) (by ktr_rel) (by ktr_rel) ⟨(if_pos (by assumption)).symm, (if_pos (by assumption)).symm⟩
  · exact outP_mk2 (.head _) (by ktr_rel) (by ktr_rel) ⟨by unfold sqLo; rw [if_neg (by assumption), if_pos (by assumption)], by unfold sqHi; rw [if_neg (by assumption), if_pos (by assumption)]⟩
  · exact outP_mk2 (.head _) mv_zero (by ktr_rel) ⟨by unfold sqLo; rw [if_neg (by assumption), if_neg (by assumption)], by unfold sqHi; rw [if_neg (by assumption), if_neg (by assumption)]⟩
local macro_rules | `(tactic| walk_at "call ref") => `(tactic| (k_here; (with_reducible show wpAny _ _ (call (Value.ref 214) [_, Value.int 400 _]) _ _ _); k_dflt (refine' use (does_isq _ _ _ _ _ _ _ ?p0 ?p1 ?p2 ?p3) ?S ?B ?F ?X ?N ?T ?hk ?hd ?hu ?_; (case F => k_asm); (case N => k_asm); (case p1 => ktr_rel); (case p0 => first | assumption | omega); (case p2 => first | assumption | omega); (case p3 => first | assumption | omega); (case S => repeat' constructor); (case B => k_asm); (case X => k_asm); (case T => k_asm); (case hk => first | exact rfl | assumption); (case hd => ktr_room); (case hu => ktr_units); k_whole; intro r9 l9 h9 tk9 F9 N9 S9 O9; (try simp only [List.nil_append, List.cons_append] at N9); (try unfold OutM at O9); (try unfold OutP at O9); (try k_sweep))))
theorem and_zero (n : Int) (hn : 0 ≤ n) : Builtin.bitAnd 0 n = 0 := by
  unfold Builtin.bitAnd
  rw [show decide ((0 : Int) ≤ 0) = true from rfl, decide_eq_true hn]
  simp
theorem and_sign {s n : Int} (hs : s = 0 ∨ s = 1) (hn : 0 ≤ n) : (Builtin.bitAnd s n = 0 ∨ Builtin.bitAnd s n = 1) ∧ sg (Builtin.bitAnd s n) = sg s ^ n.toNat := by
  rcases hs with rfl | rfl
  · rw [and_zero n hn, sgA, Int.one_pow]
    exact ⟨.inl rfl, rfl⟩
  · rw [bitAnd_m1', sgB]
    refine ⟨by omega, ?_⟩
    have key : ∀ N : Nat, sg ((N : Int) % 2) = (-1 : Int) ^ N := by
      intro N
      induction N with
      | zero => rfl
      | succ N ih =>
        rw [Int.pow_succ, ← ih]
        unfold sg
        rcases (show (N : Int) % 2 = 0 ∨ (N : Int) % 2 = 1 by omega) with h | h
        · rw [h, show ((N + 1 : Nat) : Int) % 2 = 1 by omega]; rfl
        · rw [h, show ((N + 1 : Nat) : Int) % 2 = 0 by omega]; rfl
    have := key n.toNat
    rwa [Int.toNat_of_nonneg hn] at this
theorem ppow_val {s m k ex n : Int} {j : Nat} (hs : s = 0 ∨ s = 1) (hn : 0 ≤ n) (hk : k = sg s * m * 2 ^ j) : enc (k ^ n.toNat) (ex * n) = enc (sg (Builtin.bitAnd s n) * m ^ n.toNat) ((ex + j) * n) := by
  rw [(and_sign hs hn).2, hk, Int.mul_pow, Int.mul_pow, ← Int.pow_mul, enc_scale']
  congr 1
  rw [Int.natCast_mul, Int.toNat_of_nonneg hn, Int.add_mul]
theorem pow_natAbs (m : Int) (N : Nat) : (m ^ N).natAbs = m.natAbs ^ N := Int.natAbs_pow m N
theorem ppow_bits {m : Int} {K N : Nat} (hm : m.natAbs ≤ K) (h : K ^ N < 2 ^ 200) : (Builtin.Int.intBits (m ^ N) : Int) ≤ 400 := by
  have : Builtin.Int.intBits (m ^ N) ≤ 200 := intBits_le_iff.mpr (by
    rw [pow_natAbs]
    exact Nat.lt_of_le_of_lt (Nat.pow_le_pow_left hm N) h)
  omega
theorem ppow_bl {m n : Int} {K : Nat} (hp : 0 < m) (hn : 1 ≤ n) (hn2 : n ≤ 16) (hm : m.natAbs ≤ K) (h : K ^ n.toNat < 2 ^ 200) : bl m * n < 1000 := by
  unfold bl
  have h2 : 2 ^ (Builtin.Int.intBits m - 1) ≤ m.natAbs := by
    rcases Nat.lt_or_ge m.natAbs (2 ^ (Builtin.Int.intBits m - 1)) with h0 | h0
    · have := intBits_le_iff.mpr h0
      have : Builtin.Int.intBits m = 0 := by omega
      have := intBits_le_iff.mp (Nat.le_of_eq this)
      rw [Nat.pow_zero] at this
      omega
    · exact h0
  have h3 := Nat.lt_of_le_of_lt (Nat.pow_le_pow_left (Nat.le_trans h2 hm) n.toNat) h
  rw [← Nat.pow_mul] at h3
  have h4 : (Builtin.Int.intBits m - 1) * n.toNat < 200 := (Nat.pow_lt_pow_iff_right (by decide)).mp h3
  generalize Builtin.Int.intBits m = b at h4
  have e : (b : Int) * n ≤ ((b - 1) * n.toNat : Nat) + n := by
    rw [Int.natCast_mul, Int.toNat_of_nonneg (by omega)]
    rcases Nat.eq_zero_or_pos b with rfl | hb
    · rw [Int.natCast_zero, Int.zero_mul]; simp; omega
    · rw [show ((b - 1 : Nat) : Int) = (b : Int) - 1 by omega, Int.sub_mul, Int.one_mul]; omega
  omega
theorem outM_enc {x y : F4} {l : Led} {r : Value} (h : MV l r x) (e : x = y) : OutM y l r := e ▸ h
theorem does_ppow (w : World) (news : Led) (v : Value) (k ex n : Int) (t5 t6 : Tok) (rnd : Str) (t7 : Tok) (hv : MV news v (enc k ex)) (h3 : 3 ≤ n) (hn : n ≤ 16) (hex : ex.natAbs < 1000) (hbk : k.natAbs < 2 ^ 64) (hbn : k.natAbs ^ n.toNat < 2 ^ 200) :
    Does w 159 [v, .int n t5, .int 400 t6, .str rnd t7] news (OutM (enc (k ^ n.toNat) (ex * n))) 11 := by
  unfold Does
  intro p loose mean mg mb dp un gd cn cs a ccd cl outer A₀ base h₀ L m s Q E B F X N T hk hd hu hret
  rename MV news v _ => hxv
  obtain ⟨rfl, hk0⟩ | ⟨va, vs, vm, vb, ts, tm, te, tb, vn, vj, rfl, hM, hsg, hpos, hodd, hbl, hkv, hk0⟩ := mv_enc hxv
  · have hz : (0 : Int) ^ n.toNat = 0 := Int.zero_pow (by omega)
    have hz1 : IntMulOk 0 n := intMulOk_small (by decide) (by omega)
    have hz0 : 0 ≤ (0 : Int) ^ n.toNat := by rw [hz]; decide
    have hz4 : (Builtin.Int.intBits ((0 : Int) ^ n.toNat) : Int) ≤ 400 := by rw [hz]; decide
    have hsn : Builtin.bitAnd 0 n = 0 ∨ Builtin.bitAnd 0 n = 1 := .inl (and_zero n (by omega))
    (refine wpAny_call ?_; k_dflt (refine' code_def ?k1 ?k2 ?k3 ?k4 ?k5 ?kA ?kF ?kK ?k6 ?k7 ?k8 ?k9 ?kB ?_ ?c2 ?c3 ?c4 ?c5; (case kA => exact rfl); (case kF => exact rfl); (case kK => assumption); (case k1 => k_asm); (case k2 => k_asm); (case k3 => k_asm); (case k4 => k_asm); (case k5 => k_asm); (case k6 => k_is); (case k7 => k_is); (case k8 => ktr_room); (case k9 => first | exact BindsTo.of_eq rfl | exact binds_K (by k_in) rfl (by k_is) rfl rfl rfl); (case c5 => decide); (case kB => exact locs rfl); (case c2 => exact rfl); (case c3 => exact rfl); (case c4 => exact rfl); k_whole; intro g' L' h' FG' F' N' B' X' T'; (try dsimp only); (try k_fold)); k_steps)
    all_goals (refine retE hret (by k_asm) (by k_asm) (by ktn_ord) ?_)
    all_goals exact outM_enc (by assumption) (by rw [hk0, hz, Int.mul_zero, enc_zero, enc_zero])
  · have hj := mant_exp hsg hpos hkv hbk
    have hbm : vm.natAbs < 2 ^ 64 := Nat.lt_of_le_of_lt (mant_le hsg hpos hkv) hbk
    have hok1 : IntMulOk vb n := intMulOk_small (by
      have := mant_bits hsg hpos hkv hbk
      rw [hbl]; unfold bl; omega) (by omega)
    have hok2 : IntMulOk (ex + vj) n := intMulOk_small (by omega) (by omega)
    have hbb : vb * n < 1000 := hbl ▸ ppow_bl hpos (by omega) hn (mant_le hsg hpos hkv) hbn
    have hbits : (Builtin.Int.intBits (vm ^ n.toNat) : Int) ≤ 400 := ppow_bits (mant_le hsg hpos hkv) hbn
    have hpp : 0 ≤ vm ^ n.toNat := Int.pow_nonneg (by omega)
    have hsn : Builtin.bitAnd vs n = 0 ∨ Builtin.bitAnd vs n = 1 := (and_sign hsg (by omega)).1
    (refine wpAny_call ?_; k_dflt (refine' code_def ?k1 ?k2 ?k3 ?k4 ?k5 ?kA ?kF ?kK ?k6 ?k7 ?k8 ?k9 ?kB ?_ ?c2 ?c3 ?c4 ?c5; (case kA => exact rfl); (case kF => exact rfl); (case kK => assumption); (case k1 => k_asm); (case k2 => k_asm); (case k3 => k_asm); (case k4 => k_asm); (case k5 => k_asm); (case k6 => k_is); (case k7 => k_is); (case k8 => ktr_room); (case k9 => first | exact BindsTo.of_eq rfl | exact binds_K (by k_in) rfl (by k_is) rfl rfl rfl); (case c5 => decide); (case kB => exact locs rfl); (case c2 => exact rfl); (case c3 => exact rfl); (case c4 => exact rfl); k_whole; intro g' L' h' FG' F' N' B' X' T'; (try dsimp only); (try k_fold)); k_steps)
    all_goals (refine retE hret (by k_asm) (by k_asm) (by ktn_ord) ?_)
    · have h1 : vm = 1 := by assumption
      refine outM_made ⟨(ppow_val hsg (by omega) hkv).trans ?_, ?_⟩ (.head _)
      · rw [h1, Int.one_pow]
        exact (norm_odd hsn (by decide) (by decide)).symm
      · exact ⟨hsn, (by decide : (0 : Int) < 1), (by decide : (1 : Int) % 2 = 1), (by decide : (1 : Int) = bl 1)⟩
    · exact outM_enc (by assumption) (ppow_val hsg (by omega) hkv).symm
local macro_rules | `(tactic| walk_at "call ref") => `(tactic| (k_here; (with_reducible show wpAny _ _ (call (Value.ref 159) [_, Value.int _ _, Value.int 400 _, Value.str _ _]) _ _ _); k_dflt (refine' use (does_ppow _ _ _ _ _ _ _ _ _ _ ?p1 ?p2 ?p3 ?p4 ?p5 ?p6) ?S ?B ?F ?X ?N ?T ?hk ?hd ?hu ?_; (case F => k_asm); (case N => k_asm); (case p1 => ktr_rel); (case p2 => first | assumption | omega); (case p3 => first | assumption | omega); (case p4 => first | assumption | omega); (case p5 => first | assumption | omega); (case p6 => first | assumption | omega); (case S => repeat' constructor); (case B => k_asm); (case X => k_asm); (case T => k_asm); (case hk => first | exact rfl | assumption); (case hd => ktr_room); (case hu => ktr_units); k_whole; intro r9 l9 h9 tk9 F9 N9 S9 O9; (try simp only [List.nil_append, List.cons_append] at N9); (try unfold OutM at O9); (try unfold OutP at O9); (try k_sweep))))
def pLo (i j : Int) (N : Nat) : Int := if N % 2 = 1 then i ^ N else if 0 ≤ i then i ^ N else if j ≤ 0 then j ^ N else 0
def pHi (i j : Int) (N : Nat) : Int := if N % 2 = 1 then j ^ N else if 0 ≤ i then j ^ N else if j ≤ 0 then i ^ N else (max (-i) j) ^ N
theorem odd_nat {n : Int} (hn : 1 ≤ n) (h : Builtin.bitAnd n 1 ≠ 0) : n.toNat % 2 = 1 := by
  rw [bitAnd_m1] at h; omega
theorem even_nat {n : Int} (hn : 1 ≤ n) (h : Builtin.bitAnd n 1 = 0) : ¬ n.toNat % 2 = 1 := by
  rw [bitAnd_m1] at h; omega
theorem p_odd {i j : Int} {N : Nat} (h : N % 2 = 1) : i ^ N = pLo i j N ∧ j ^ N = pHi i j N := ⟨(if_pos h).symm, (if_pos h).symm⟩
theorem p_pos {i j : Int} {N : Nat} (h : ¬ N % 2 = 1) (h1 : 0 ≤ i) : i ^ N = pLo i j N ∧ j ^ N = pHi i j N := by
  unfold pLo pHi; rw [if_neg h, if_neg h, if_pos h1, if_pos h1]; exact ⟨rfl, rfl⟩
theorem p_neg {i j : Int} {N : Nat} (h : ¬ N % 2 = 1) (h1 : ¬ 0 ≤ i) (h2 : j ≤ 0) : j ^ N = pLo i j N ∧ i ^ N = pHi i j N := by
  unfold pLo pHi; rw [if_neg h, if_neg h, if_neg h1, if_neg h1, if_pos h2, if_pos h2]; exact ⟨rfl, rfl⟩
theorem p_mix {i j : Int} {N : Nat} (h : ¬ N % 2 = 1) (h1 : ¬ 0 ≤ i) (h2 : ¬ j ≤ 0) : 0 = pLo i j N ∧ (max (-i) j) ^ N = pHi i j N := by
  unfold pLo pHi; rw [if_neg h, if_neg h, if_neg h1, if_neg h1, if_neg h2, if_neg h2]; exact ⟨rfl, rfl⟩
theorem sq_p (i j : Int) : sqLo i j = pLo i j 2 ∧ sqHi i j = pHi i j 2 := by
  unfold sqLo sqHi pLo pHi
  simp only [Int.pow_succ, Int.pow_zero, Int.one_mul]
  exact ⟨rfl, rfl⟩
theorem nab_neg {i : Int} {N : Nat} (h : i.natAbs ^ N < 2 ^ 200) : (-i).natAbs ^ N < 2 ^ 200 := by rw [Int.natAbs_neg]; exact h
theorem does_ipow (w : World) (news : Led) (v : Value) (i j ex n : Int) (t5 t6 : Tok) (hij : i ≤ j) (hv : IV news v (enc i ex) (enc j ex)) (h1 : 1 ≤ n) (hn : n ≤ 16) (hex : ex.natAbs < 1000) (bi : i.natAbs < 2 ^ 31) (bj : j.natAbs < 2 ^ 31) (pi : i.natAbs ^ n.toNat < 2 ^ 200) (pj : j.natAbs ^ n.toNat < 2 ^ 200) :
    Does w 228 [v, .int n t5, .int 400 t6] news (OutP (enc (pLo i j n.toNat) (ex * n)) (enc (pHi i j n.toNat) (ex * n))) 21 := by
  unfold Does
  intro p loose mean mg mb dp un gd cn cs a ccd cl outer A₀ base h₀ L m s Q E B F X N T hk hd hu hret
  rename IV news v _ _ => hxv
  have hxc := hxv
  rcases hxv with ⟨hM, hx1, hx2⟩
  rcases (show n = 1 ∨ n = 2 ∨ 3 ≤ n by omega) with hq | hq | hq
  · subst hq
    (refine wpAny_call ?_; k_dflt (refine' code_def ?k1 ?k2 ?k3 ?k4 ?k5 ?kA ?kF ?kK ?k6 ?k7 ?k8 ?k9 ?kB ?_ ?c2 ?c3 ?c4 ?c5; (case kA => exact rfl); (case kF => exact rfl); (case kK => assumption); (case k1 => k_asm); (case k2 => k_asm); (case k3 => k_asm); (case k4 => k_asm); (case k5 => k_asm); (case k6 => k_is); (case k7 => k_is); (case k8 => ktr_room); (case k9 => first | exact BindsTo.of_eq rfl | exact binds_K (by k_in) rfl (by k_is) rfl rfl rfl); (case c5 => decide); (case kB => exact locs rfl); (case c2 => exact rfl); (case c3 => exact rfl); (case c4 => exact rfl); k_whole; intro g' L' h' FG' F' N' B' X' T'; (try dsimp only); (try k_fold)); k_steps)
    all_goals (refine retE hret (by k_asm) (by k_asm) (by ktn_ord) ?_)
    all_goals (rw [Int.mul_one, show Int.toNat 1 = 1 from rfl, ← (p_odd (i := i) (j := j) (N := 1) rfl).1, ← (p_odd (i := i) (j := j) (N := 1) rfl).2, Int.pow_succ, Int.pow_zero, Int.one_mul, Int.pow_succ, Int.pow_zero, Int.one_mul]; exact hxc)
  · subst hq
    (refine wpAny_call ?_; k_dflt (refine' code_def ?k1 ?k2 ?k3 ?k4 ?k5 ?kA ?kF ?kK ?k6 ?k7 ?k8 ?k9 ?kB ?_ ?c2 ?c3 ?c4 ?c5; (case kA => exact rfl); (case kF => exact rfl); (case kK => assumption); (case k1 => k_asm); (case k2 => k_asm); (case k3 => k_asm); (case k4 => k_asm); (case k5 => k_asm); (case k6 => k_is); (case k7 => k_is); (case k8 => ktr_room); (case k9 => first | exact BindsTo.of_eq rfl | exact binds_K (by k_in) rfl (by k_is) rfl rfl rfl); (case c5 => decide); (case kB => exact locs rfl); (case c2 => exact rfl); (case c3 => exact rfl); (case c4 => exact rfl); k_whole; intro g' L' h' FG' F' N' B' X' T'; (try dsimp only); (try k_fold)); k_steps)
    all_goals (refine retE hret (by k_asm) (by k_asm) (by ktn_ord) ?_)
    all_goals (rw [show ex * 2 = ex + ex by omega, show Int.toNat 2 = 2 from rfl, ← (sq_p i j).1, ← (sq_p i j).2]; assumption)
  · have pi' := nab_neg pi
    clear hxc
    replace bi : i.natAbs < 2 ^ 64 := by omega
    replace bj : j.natAbs < 2 ^ 64 := by omega
    have bi' : (-i).natAbs < 2 ^ 64 := by omega
    (refine wpAny_call ?_; k_dflt (refine' code_def ?k1 ?k2 ?k3 ?k4 ?k5 ?kA ?kF ?kK ?k6 ?k7 ?k8 ?k9 ?kB ?_ ?c2 ?c3 ?c4 ?c5; (case kA => exact rfl); (case kF => exact rfl); (case kK => assumption); (case k1 => k_asm); (case k2 => k_asm); (case k3 => k_asm); (case k4 => k_asm); (case k5 => k_asm); (case k6 => k_is); (case k7 => k_is); (case k8 => ktr_room); (case k9 => first | exact BindsTo.of_eq rfl | exact binds_K (by k_in) rfl (by k_is) rfl rfl rfl); (case c5 => decide); (case kB => exact locs rfl); (case c2 => exact rfl); (case c3 => exact rfl); (case c4 => exact rfl); k_whole; intro g' L' h' FG' F' N' B' X' T'; (try dsimp only); (try k_fold)); k_steps)
    all_goals (refine retE hret (by k_asm) (by k_asm) (by ktn_ord) ?_)
    · exact outP_mk2 (.head _) (by ktr_rel) (by ktr_rel) (p_odd (odd_nat (by omega) (by assumption)))
    · exact outP_mk2 (.head _) (by ktr_rel) (by ktr_rel) (p_pos (even_nat (by omega) (by assumption)) ((sgn_facts i).1.mp (by assumption)))
    · exact outP_mk2 (.head _) (by ktr_rel) (by ktr_rel) (p_neg (even_nat (by omega) (by assumption)) (fun h => absurd ((sgn_facts i).1.mpr h) (by assumption)) ((sgn_facts j).2.1.mp (by assumption)))
    · have hm : max (-i) j = -i := by omega
      have hp := p_mix (i := i) (j := j) (even_nat (by omega) (by assumption)) (fun h => absurd ((sgn_facts i).1.mpr h) (by assumption)) (fun h => absurd ((sgn_facts j).2.1.mpr h) (by assumption))
      rw [hm] at hp
      exact outP_mk2 (.head _) mv_zero (by ktr_rel) hp
    · have hm : max (-i) j = j := by omega
      have hp := p_mix (i := i) (j := j) (even_nat (by omega) (by assumption)) (fun h => absurd ((sgn_facts i).1.mpr h) (by assumption)) (fun h => absurd ((sgn_facts j).2.1.mpr h) (by assumption))
      rw [hm] at hp
      exact outP_mk2 (.head _) mv_zero (by ktr_rel) hp
local macro_rules | `(tactic| walk_at "call ref") => `(tactic| (k_here; (with_reducible show wpAny _ _ (call (Value.ref 228) [_, Value.int _ _, Value.int 400 _]) _ _ _); k_dflt (refine' use (does_ipow _ _ _ _ _ _ _ _ _ ?q1 ?p1 ?q2 ?q3 ?q4 ?p3 ?p4 ?p5 ?p6) ?S ?B ?F ?X ?N ?T ?hk ?hd ?hu ?_; (case F => k_asm); (case N => k_asm); (case p1 => ktr_rel); (case q1 => first | assumption | omega); (case q2 => first | assumption | omega); (case q3 => first | assumption | omega); (case q4 => first | assumption | omega); (case p3 => first | assumption | omega); (case p4 => first | assumption | omega); (case p5 => first | assumption | omega); (case p6 => first | assumption | omega); (case S => repeat' constructor); (case B => k_asm); (case X => k_asm); (case T => k_asm); (case hk => first | exact rfl | assumption); (case hd => ktr_room); (case hu => ktr_units); k_whole; intro r9 l9 h9 tk9 F9 N9 S9 O9; (try simp only [List.nil_append, List.cons_append] at N9); (try unfold OutM at O9); (try unfold OutP at O9); (try k_sweep))))
theorem does_interval (w : World) (news : Led) (i j : Int) (t1 t2 : Tok) : Does w 243 [.int i t1, .int j t2] news (OutP (enc i (-3)) (enc j (-3))) 10 := by
  unfold Does
  intro p loose mean mg mb dp un gd cn cs a ccd cl outer A₀ base h₀ L m s Q E B F X N T hk hd hu hret
  (refine wpAny_call ?_; k_dflt (refine' code_def ?k1 ?k2 ?k3 ?k4 ?k5 ?kA ?kF ?kK ?k6 ?k7 ?k8 ?k9 ?kB ?_ ?c2 ?c3 ?c4 ?c5; (case kA => exact rfl); (case kF => exact rfl); (case kK => assumption); (case k1 => k_asm); (case k2 => k_asm); (case k3 => k_asm); (case k4 => k_asm); (case k5 => k_asm); (case k6 => k_is); (case k7 => k_is); (case k8 => ktr_room); (case k9 => first | exact BindsTo.of_eq rfl | exact binds_K (by k_in) rfl (by k_is) rfl rfl rfl); (case c5 => decide); (case kB => exact locs rfl); (case c2 => exact rfl); (case c3 => exact rfl); (case c4 => exact rfl); k_whole; intro g' L' h' FG' F' N' B' X' T'; (try dsimp only); (try k_fold)); k_steps)
  all_goals (refine retE hret (by k_asm) (by k_asm) (by ktn_ord) ?_)
  all_goals exact outP_mk (.head _) (by ktr_rel) (by ktr_rel) rfl rfl
theorem does_within (w : World) (news : Led) (v u : Value) (i j x y ex : Int) (hv : IV news v (enc i ex) (enc j ex)) (hu : IV news u (enc x ex) (enc y ex)) (bi : i.natAbs < 2 ^ 64) (bj : j.natAbs < 2 ^ 64) (bx : x.natAbs < 2 ^ 64) (yb : y.natAbs < 2 ^ 64) :
    Does w 236 [v, u] news (OutB (decide (x ≤ i ∧ j ≤ y))) 17 := by
  unfold Does
  intro p loose mean mg mb dp un gd cn cs a ccd cl outer A₀ base h₀ L m s Q E B F X N T hk hd hu hret
  rename IV news v _ _ => hxv
  rename IV news u _ _ => hxu
  rcases hxv with ⟨hM, hx1, hx2⟩
  rcases hxu with ⟨hM', hx3, hx4⟩
  (refine wpAny_call ?_; k_dflt (refine' code_def ?k1 ?k2 ?k3 ?k4 ?k5 ?kA ?kF ?kK ?k6 ?k7 ?k8 ?k9 ?kB ?_ ?c2 ?c3 ?c4 ?c5; (case kA => exact rfl); (case kF => exact rfl); (case kK => assumption); (case k1 => k_asm); (case k2 => k_asm); (case k3 => k_asm); (case k4 => k_asm); (case k5 => k_asm); (case k6 => k_is); (case k7 => k_is); (case k8 => ktr_room); (case k9 => first | exact BindsTo.of_eq rfl | exact binds_K (by k_in) rfl (by k_is) rfl rfl rfl); (case c5 => decide); (case kB => exact locs rfl); (case c2 => exact rfl); (case c3 => exact rfl); (case c4 => exact rfl); k_whole; intro g' L' h' FG' F' N' B' X' T'; (try dsimp only); (try k_fold)); k_steps)
  all_goals (refine retE hret (by k_asm) (by k_asm) (by ktn_ord) ?_)
  · have h : x ≤ i := by assumption
    exact outB_eq rfl (decide_eq_decide.mpr ⟨fun q => ⟨h, q⟩, fun q => q.2⟩)
  · have h : ¬ x ≤ i := by assumption
    exact outB_eq rfl (decide_eq_decide.mpr ⟨fun q => absurd q h, fun q => q.1⟩)
local macro_rules | `(tactic| walk_at "call ref") => `(tactic| (k_here; (with_reducible show wpAny _ _ (call (Value.ref 243) [Value.int _ _, Value.int _ _]) _ _ _); k_dflt (refine' use (does_interval _ _ _ _ _ _) ?S ?B ?F ?X ?N ?T ?hk ?hd ?hu ?_; (case F => k_asm); (case N => k_asm); (case S => repeat' constructor); (case B => k_asm); (case X => k_asm); (case T => k_asm); (case hk => first | exact rfl | assumption); (case hd => ktr_room); (case hu => ktr_units); k_whole; intro r9 l9 h9 tk9 F9 N9 S9 O9; (try simp only [List.nil_append, List.cons_append] at N9); (try unfold OutM at O9); (try unfold OutP at O9); (try k_sweep))))
local macro_rules | `(tactic| walk_at "call ref") => `(tactic| (k_here; (with_reducible show wpAny _ _ (call (Value.ref 236) [_, _]) _ _ _); k_dflt (refine' useB (does_within _ _ _ _ _ _ _ _ _ ?p1 ?p2 ?p3 ?p4 ?p5 ?p6) ?B ?F ?X ?N ?T ?hk ?hd ?hu ?_; (case F => k_asm); (case N => k_asm); (case p1 => ktr_rel); (case p2 => ktr_rel); (case p3 => first | assumption | omega); (case p4 => first | assumption | omega); (case p5 => first | assumption | omega); (case p6 => first | assumption | omega); (case B => k_asm); (case X => k_asm); (case T => k_asm); (case hk => first | exact rfl | assumption); (case hd => ktr_room); (case hu => ktr_units); k_whole; intro h9 tk9 F9 N9; (try k_sweep))))
/-- what a call made lies above all that was there -/
def OutA (news : Led) (P : Led → Value → Prop) (l : Led) (r : Value) : Prop := ∃ add : Led, (∀ q ∈ add, q ∈ l ∧ ∀ p ∈ news, p.1 < q.1) ∧ P add r
theorem outA_nil {news l : Led} {P : Led → Value → Prop} {r : Value} (h : P [] r) : OutA news P l r := ⟨[], ⟨fun q h => absurd h List.not_mem_nil, h⟩⟩
theorem outA_one {news l : Led} {P : Led → Value → Prop} {D : Addr} {o : Obj} {r : Value} (h : P [(D, o)] r) (hm : (D, o) ∈ l) (hl : ∀ p ∈ news, p.1 < D) : OutA news P l r := by
  refine ⟨[(D, o)], ?_, h⟩
  intro q hq
  obtain rfl := List.mem_singleton.mp hq
  exact ⟨hm, hl⟩
theorem outA_pair {news l1 l2 : Led} {x y : F4} {v u : Value} {D : Addr} (O1 : OutA news (OutM x) l1 v) (S1 : ∀ q ∈ news, q ∈ l1) (O2 : OutA l1 (OutM y) l2 u) (S2 : ∀ q ∈ l1, q ∈ l2) (hD : ∀ p ∈ l2, p.1 < D) :
    OutA news (OutP x y) ((D, ({ cls := .type "tuple", data := .seq #[v, u] 0 } : Obj)) :: l2) (.ref D) := by
  obtain ⟨a1, h1, m1⟩ := O1
  obtain ⟨a2, h2, m2⟩ := O2
  refine ⟨(D, ({ cls := .type "tuple", data := .seq #[v, u] 0 } : Obj)) :: (a1 ++ a2), ?_, IV.mk (.head _) (MV.mono m1 ?_) (MV.mono m2 ?_)⟩
  · intro q hq
    rcases List.mem_cons.mp hq with rfl | hq
    · exact ⟨.head _, fun p hp => hD p (S2 p (S1 p hp))⟩
    · rcases List.mem_append.mp hq with hq | hq
      · exact ⟨.tail _ (S2 q (h1 q hq).1), (h1 q hq).2⟩
      · exact ⟨.tail _ (h2 q hq).1, fun p hp => (h2 q hq).2 p (S1 p hp)⟩
  · intro q hq
    exact .tail _ (List.mem_append.mpr (.inl hq))
  · intro q hq
    exact .tail _ (List.mem_append.mpr (.inr hq))
section
theorem does_fmeA (w : World) (news : Led) (man exp : Int) (t1 t2 : Tok) : Does w 53 [.int man t1, .int exp t2] news (OutA news (OutM (enc man exp))) 8 := by
  unfold Does
  intro p loose mean mg mb dp un gd cn cs a ccd cl outer A₀ base h₀ L m s Q E B F X N T hk hd hu hret
  (refine wpAny_call ?_; k_dflt (refine' code_def ?k1 ?k2 ?k3 ?k4 ?k5 ?kA ?kF ?kK ?k6 ?k7 ?k8 ?k9 ?kB ?_ ?c2 ?c3 ?c4 ?c5; (case kA => exact rfl); (case kF => exact rfl); (case kK => assumption); (case k1 => k_asm); (case k2 => k_asm); (case k3 => k_asm); (case k4 => k_asm); (case k5 => k_asm); (case k6 => k_is); (case k7 => k_is); (case k8 => ktr_room); (case k9 => first | exact BindsTo.of_eq rfl | exact binds_K (by k_in) rfl (by k_is) rfl rfl rfl); (case c5 => decide); (case kB => exact locs rfl); (case c2 => exact rfl); (case c3 => exact rfl); (case c4 => exact rfl); k_whole; intro g' L' h' FG' F' N' B' X' T'; (try dsimp only); (try k_fold)); k_steps)
  all_goals (refine retE hret (by k_asm) (by k_asm) (by ktn_ord) ?_)
  · exact outA_one (outM_eq (outM_made (norm_e2 (.inr rfl) (by omega) (by omega) rfl (by assumption)) (.head _)) (sg1 _)) (.head _) (by assumption)
  · exact outA_one (outM_eq (outM_made (fme_two (.inr rfl) (by omega) (by assumption) (by assumption)) (.head _)) (sg1 _)) (.head _) (by assumption)
  · exact outA_one (outM_eq (outM_made (norm_e4 (.inr rfl) (by omega) (by omega) rfl) (.head _)) (sg1 _)) (.head _) (by assumption)
  · exact outA_one (outM_eq (outM_made (norm_e2 (.inl rfl) (by omega) (by omega) rfl (by assumption)) (.head _)) (sg0 _)) (.head _) (by assumption)
  · exact outA_one (outM_eq (outM_made (fme_two (.inl rfl) (by omega) (by assumption) (by assumption)) (.head _)) (sg0 _)) (.head _) (by assumption)
  · exact outA_one (outM_eq (outM_made (norm_e4 (.inl rfl) (by omega) (by omega) rfl) (.head _)) (sg0 _)) (.head _) (by assumption)
  · exact outA_nil (outM_zero (by assumption))
local macro_rules | `(tactic| walk_at "call ref") => `(tactic| (k_here; (with_reducible show wpAny _ _ (call (Value.ref 53) [Value.int _ _, Value.int _ _]) _ _ _); k_dflt (refine' use (does_fmeA _ _ _ _ _ _) ?S ?B ?F ?X ?N ?T ?hk ?hd ?hu ?_; (case F => k_asm); (case N => k_asm); (case S => repeat' constructor); (case B => k_asm); (case X => k_asm); (case T => k_asm); (case hk => first | exact rfl | assumption); (case hd => ktr_room); (case hu => ktr_units); k_whole; intro r9 l9 h9 tk9 F9 N9 S9 O9; (try simp only [List.nil_append, List.cons_append] at N9); (try unfold OutM at O9); (try unfold OutP at O9); (try k_sweep))))
theorem does_intervalA (w : World) (news : Led) (i j : Int) (t1 t2 : Tok) : Does w 243 [.int i t1, .int j t2] news (OutA news (OutP (enc i (-3)) (enc j (-3)))) 10 := by
  unfold Does
  intro p loose mean mg mb dp un gd cn cs a ccd cl outer A₀ base h₀ L m s Q E B F X N T hk hd hu hret
  (refine wpAny_call ?_; k_dflt (refine' code_def ?k1 ?k2 ?k3 ?k4 ?k5 ?kA ?kF ?kK ?k6 ?k7 ?k8 ?k9 ?kB ?_ ?c2 ?c3 ?c4 ?c5; (case kA => exact rfl); (case kF => exact rfl); (case kK => assumption); (case k1 => k_asm); (case k2 => k_asm); (case k3 => k_asm); (case k4 => k_asm); (case k5 => k_asm); (case k6 => k_is); (case k7 => k_is); (case k8 => ktr_room); (case k9 => first | exact BindsTo.of_eq rfl | exact binds_K (by k_in) rfl (by k_is) rfl rfl rfl); (case c5 => decide); (case kB => exact locs rfl); (case c2 => exact rfl); (case c3 => exact rfl); (case c4 => exact rfl); k_whole; intro g' L' h' FG' F' N' B' X' T'; (try dsimp only); (try k_fold)); k_steps)
  all_goals (refine retE hret (by k_asm) (by k_asm) (by ktn_ord) ?_)
  all_goals exact outA_pair (by assumption) (by assumption) (by assumption) (by assumption) (by assumption)
end
-- powers
theorem ipow_le {x y : Int} (h0 : 0 ≤ x) (h : x ≤ y) (N : Nat) : x ^ N ≤ y ^ N := by
  induction N with
  | zero => rw [Int.pow_zero, Int.pow_zero]; exact Int.le_refl _
  | succ n ih =>
    rw [Int.pow_succ, Int.pow_succ]
    exact Int.mul_le_mul ih h h0 (Int.pow_nonneg (by omega))
theorem neg_even {N : Nat} (h : ¬ N % 2 = 1) (x : Int) : (-x) ^ N = x ^ N := by
  rw [Int.neg_pow, show N % 2 = 0 by omega, Int.pow_zero, Int.one_mul]
theorem neg_odd {N : Nat} (h : N % 2 = 1) (x : Int) : (-x) ^ N = -(x ^ N) := by
  rw [Int.neg_pow, h, Int.pow_succ, Int.pow_zero, Int.one_mul, Int.neg_mul, Int.one_mul]
theorem odd_mono {N : Nat} (h : N % 2 = 1) {x y : Int} (hxy : x ≤ y) : x ^ N ≤ y ^ N := by
  rcases Int.le_total 0 x with hx | hx
  · exact ipow_le hx hxy N
  · rcases Int.le_total 0 y with hy | hy
    · have a := Int.pow_nonneg (m := N) (show 0 ≤ -x by omega)
      have b := Int.pow_nonneg (m := N) hy
      rw [neg_odd h] at a
      omega
    · have a := ipow_le (show 0 ≤ -y by omega) (show -y ≤ -x by omega) N
      rw [neg_odd h, neg_odd h] at a
      omega
theorem even_mono {N : Nat} (h : ¬ N % 2 = 1) {x y : Int} (h1 : -y ≤ x) (h2 : x ≤ y) : x ^ N ≤ y ^ N := by
  rcases Int.le_total 0 x with hx | hx
  · exact ipow_le hx h2 N
  · have := ipow_le (show 0 ≤ -x by omega) (show -x ≤ y by omega) N
    rwa [neg_even h] at this
theorem even_nonneg {N : Nat} (h : ¬ N % 2 = 1) (x : Int) : 0 ≤ x ^ N := by
  rcases Int.le_total 0 x with hx | hx
  · exact Int.pow_nonneg hx
  · have := Int.pow_nonneg (m := N) (show 0 ≤ -x by omega)
    rwa [neg_even h] at this
theorem zero_pow' {N : Nat} (h : 1 ≤ N) : (0 : Int) ^ N = 0 := by
  obtain ⟨n, rfl⟩ : ∃ n, N = n + 1 := ⟨N - 1, by omega⟩
  rw [Int.pow_succ, Int.mul_zero]
/-- a power holds the powers of its numbers -/
theorem pow_in {i j x : Int} {N : Nat} (h1 : i ≤ x) (h2 : x ≤ j) : pLo i j N ≤ x ^ N ∧ x ^ N ≤ pHi i j N := by
  unfold pLo pHi
  by_cases h : N % 2 = 1
  · rw [if_pos h, if_pos h]; exact ⟨odd_mono h h1, odd_mono h h2⟩
  · rw [if_neg h, if_neg h]
    by_cases hi : 0 ≤ i
    · rw [if_pos hi, if_pos hi]
      exact ⟨ipow_le hi h1 N, ipow_le (by omega) h2 N⟩
    · rw [if_neg hi, if_neg hi]
      by_cases hj : j ≤ 0
      · rw [if_pos hj, if_pos hj, ← neg_even h j, ← neg_even h x, ← neg_even h i]
        exact ⟨ipow_le (by omega) (by omega) N, ipow_le (by omega) (by omega) N⟩
      · rw [if_neg hj, if_neg hj]
        exact ⟨even_nonneg h x, even_mono h (by omega) (by omega)⟩
/-- its ends are powers of its numbers -/
theorem pow_ends {i j : Int} {N : Nat} (hij : i ≤ j) (hN : 1 ≤ N) : (∃ x, i ≤ x ∧ x ≤ j ∧ pLo i j N = x ^ N) ∧ ∃ x, i ≤ x ∧ x ≤ j ∧ pHi i j N = x ^ N := by
  unfold pLo pHi
  by_cases h : N % 2 = 1
  · rw [if_pos h, if_pos h]; exact ⟨⟨i, by omega, hij, rfl⟩, ⟨j, hij, by omega, rfl⟩⟩
  · rw [if_neg h, if_neg h]
    by_cases hi : 0 ≤ i
    · rw [if_pos hi, if_pos hi]; exact ⟨⟨i, by omega, hij, rfl⟩, ⟨j, hij, by omega, rfl⟩⟩
    · rw [if_neg hi, if_neg hi]
      by_cases hj : j ≤ 0
      · rw [if_pos hj, if_pos hj]; exact ⟨⟨j, hij, by omega, rfl⟩, ⟨i, by omega, hij, rfl⟩⟩
      · rw [if_neg hj, if_neg hj]
        refine ⟨⟨0, by omega, by omega, (zero_pow' hN).symm⟩, ?_⟩
        rcases Int.le_total (-i) j with hm | hm
        · exact ⟨j, hij, by omega, by rw [show max (-i) j = j by omega]⟩
        · exact ⟨i, by omega, hij, by rw [show max (-i) j = -i by omega, neg_even h]⟩
theorem pLo_pHi {i j : Int} {N : Nat} (hij : i ≤ j) : pLo i j N ≤ pHi i j N := by
  have := pow_in (N := N) (Int.le_refl i) hij
  omega
theorem pow_within {a b : Int} {p m : Nat} (hab : a ≤ b) (hp : 1 ≤ p) : mLo (pLo a b p) (pHi a b p) (pLo a b m) (pHi a b m) ≤ pLo a b (p + m) ∧ pHi a b (p + m) ≤ mHi (pLo a b p) (pHi a b p) (pLo a b m) (pHi a b m) := by
  obtain ⟨⟨x, x1, x2, x3⟩, ⟨y, y1, y2, y3⟩⟩ := pow_ends (N := p + m) hab (by omega)
  rw [x3, y3, Int.pow_add, Int.pow_add]
  have ⟨u1, u2⟩ := pow_in (N := p) x1 x2
  have ⟨u3, u4⟩ := pow_in (N := m) x1 x2
  have ⟨v1, v2⟩ := pow_in (N := p) y1 y2
  have ⟨v3, v4⟩ := pow_in (N := m) y1 y2
  exact ⟨(hull u1 u2 u3 u4).1, (hull v1 v2 v3 v4).2⟩
theorem even_mul {p m : Nat} : (p * m) % 2 = 1 ↔ p % 2 = 1 ∧ m % 2 = 1 := by
  rw [Nat.mul_mod]
  have h1 : p % 2 = 0 ∨ p % 2 = 1 := by omega
  have h2 : m % 2 = 0 ∨ m % 2 = 1 := by omega
  rcases h1 with h | h <;> rcases h2 with h' | h' <;> rw [h, h'] <;> decide
theorem ipow_pos_iff {N : Nat} (h : N % 2 = 1) (x : Int) : (0 ≤ x ^ N ↔ 0 ≤ x) ∧ (x ^ N ≤ 0 ↔ x ≤ 0) := by
  rcases Int.lt_trichotomy x 0 with hx | hx | hx
  · have := Int.pow_pos (m := N) (show 0 < -x by omega)
    rw [neg_odd h] at this
    constructor <;> omega
  · subst hx
    rw [zero_pow' (by omega)]
    exact ⟨Iff.rfl, Iff.rfl⟩
  · have := Int.pow_pos (m := N) hx
    constructor <;> omega
theorem pow_pow {a b : Int} {p m : Nat} (hab : a ≤ b) (hp : 1 ≤ p) (hm : 1 ≤ m) : pLo (pLo a b p) (pHi a b p) m = pLo a b (p * m) ∧ pHi (pLo a b p) (pHi a b p) m = pHi a b (p * m) := by
  by_cases hpo : p % 2 = 1
  · have e1 : pLo a b p = a ^ p := if_pos hpo
    have e2 : pHi a b p = b ^ p := if_pos hpo
    rw [e1, e2]
    unfold pLo pHi
    by_cases hmo : m % 2 = 1
    · have hb : (p * m) % 2 = 1 := even_mul.mpr ⟨hpo, hmo⟩
      rw [if_pos hmo, if_pos hmo, if_pos hb, if_pos hb, Int.pow_mul, Int.pow_mul]
      exact ⟨rfl, rfl⟩
    · have hb : ¬ (p * m) % 2 = 1 := fun h => hmo (even_mul.mp h).2
      rw [if_neg hmo, if_neg hmo, if_neg hb, if_neg hb]
      by_cases ha : 0 ≤ a
      · have ha' := (ipow_pos_iff hpo a).1.mpr ha
        rw [if_pos ha, if_pos ha, if_pos ha', if_pos ha', Int.pow_mul, Int.pow_mul]
        exact ⟨rfl, rfl⟩
      · have ha' : ¬ 0 ≤ a ^ p := fun h => ha ((ipow_pos_iff hpo a).1.mp h)
        rw [if_neg ha, if_neg ha, if_neg ha', if_neg ha']
        by_cases hb : b ≤ 0
        · have hb' := (ipow_pos_iff hpo b).2.mpr hb
          rw [if_pos hb, if_pos hb, if_pos hb', if_pos hb', Int.pow_mul, Int.pow_mul]
          exact ⟨rfl, rfl⟩
        · have hb' : ¬ b ^ p ≤ 0 := fun h => hb ((ipow_pos_iff hpo b).2.mp h)
          rw [if_neg hb, if_neg hb, if_neg hb', if_neg hb', Int.pow_mul, ← neg_odd hpo]
          refine ⟨rfl, ?_⟩
          congr 1
          rcases Int.le_total (-a) b with h | h
          · rw [show max (-a) b = b by omega]
            have := odd_mono hpo h
            omega
          · rw [show max (-a) b = -a by omega]
            have := odd_mono hpo h
            omega
  · have hb : ¬ (p * m) % 2 = 1 := fun h => hpo (even_mul.mp h).1
    have h0 : 0 ≤ pLo a b p := by
      obtain ⟨⟨x, x1, x2, x3⟩, _⟩ := pow_ends (N := p) hab hp
      rw [x3]; exact even_nonneg hpo x
    have e1 : pLo (pLo a b p) (pHi a b p) m = pLo a b p ^ m := by
      rw [pLo.eq_def (pLo a b p)]
      rw [if_pos h0, ite_self]
    have e2 : pHi (pLo a b p) (pHi a b p) m = pHi a b p ^ m := by
      rw [pHi.eq_def (pLo a b p)]
      rw [if_pos h0, ite_self]
    rw [e1, e2]
    unfold pLo pHi
    rw [if_neg hpo, if_neg hpo, if_neg hb, if_neg hb]
    by_cases ha : 0 ≤ a
    · rw [if_pos ha, if_pos ha, if_pos ha, if_pos ha, Int.pow_mul, Int.pow_mul]; exact ⟨rfl, rfl⟩
    · rw [if_neg ha, if_neg ha, if_neg ha, if_neg ha]
      by_cases hb : b ≤ 0
      · rw [if_pos hb, if_pos hb, if_pos hb, if_pos hb, Int.pow_mul, Int.pow_mul]; exact ⟨rfl, rfl⟩
      · rw [if_neg hb, if_neg hb, if_neg hb, if_neg hb, Int.pow_mul, zero_pow' hm]; exact ⟨rfl, rfl⟩
theorem mLo_comm (i j x y : Int) : mLo i j x y = mLo x y i j ∧ mHi i j x y = mHi x y i j := by
  have a := mLo_i i j x y
  have b := mHi_i i j x y
  rw [Int.mul_comm i x, Int.mul_comm i y, Int.mul_comm j x, Int.mul_comm j y] at a b
  have c := mLo_i x y i j
  have d := mHi_i x y i j
  rw [Int.mul_comm x i, Int.mul_comm x j, Int.mul_comm y i, Int.mul_comm y j] at c d
  refine ⟨Int.le_antisymm (le_mLo a.1 a.2.2.1 a.2.1 a.2.2.2) (le_mLo c.1 c.2.2.1 c.2.1 c.2.2.2), Int.le_antisymm (mHi_le d.1 d.2.2.1 d.2.1 d.2.2.2) (mHi_le b.1 b.2.2.1 b.2.1 b.2.2.2)⟩
theorem p_odd' {i j : Int} {N : Nat} (h : N % 2 = 1) : pLo i j N = i ^ N ∧ pHi i j N = j ^ N := ⟨if_pos h, if_pos h⟩
theorem p_pos' {i j : Int} (N : Nat) (h1 : 0 ≤ i) : pLo i j N = i ^ N ∧ pHi i j N = j ^ N := by
  unfold pLo pHi
  rw [if_pos h1, if_pos h1, ite_self, ite_self]
  exact ⟨rfl, rfl⟩
theorem p_neg' {i j : Int} {N : Nat} (h : ¬ N % 2 = 1) (h1 : i ≤ j) (h2 : j ≤ 0) : pLo i j N = j ^ N ∧ pHi i j N = i ^ N := by
  unfold pLo pHi
  rw [if_neg h, if_neg h, if_pos h2, if_pos h2]
  by_cases hi : 0 ≤ i
  · rw [if_pos hi, if_pos hi, show i = j by omega]; exact ⟨rfl, rfl⟩
  · rw [if_neg hi, if_neg hi]; exact ⟨rfl, rfl⟩
theorem p_mix' {i j : Int} {N : Nat} (h : ¬ N % 2 = 1) (h1 : i < 0) (h2 : 0 < j) : pLo i j N = 0 ∧ pHi i j N = (max (-i) j) ^ N := by
  unfold pLo pHi
  rw [if_neg h, if_neg h, if_neg (by omega), if_neg (by omega), if_neg (by omega), if_neg (by omega)]
  exact ⟨rfl, rfl⟩
theorem mix_val {a b M : Int} (ha : a < 0) (hb : 0 < b) (hM : 0 ≤ M) : mLo a b 0 M = a * M ∧ mHi a b 0 M = b * M := by
  have h1 : a * M ≤ 0 := Int.mul_nonpos_of_nonpos_of_nonneg (by omega) hM
  have h2 : 0 ≤ b * M := Int.mul_nonneg (by omega) hM
  exact ⟨mLo_of (by rw [Int.mul_zero]; exact h1) (Int.le_refl _) (by rw [Int.mul_zero]; exact h1) (Int.le_trans h1 h2) (.inr (.inl (Int.le_refl _))), mHi_of (by rw [Int.mul_zero]; exact h2) (Int.le_trans h1 h2) (by rw [Int.mul_zero]; exact h2) (Int.le_refl _) (.inr (.inr (.inr (Int.le_refl _))))⟩
theorem ipow_lt {x y : Int} (h0 : 0 ≤ x) (h : x < y) {N : Nat} (hN : 1 ≤ N) : x ^ N < y ^ N := by
  obtain ⟨n, rfl⟩ : ∃ n, N = n + 1 := ⟨N - 1, by omega⟩
  rw [Int.pow_succ, Int.pow_succ]
  have a := ipow_le h0 (Int.le_of_lt h) n
  have b := Int.pow_pos (m := n) (show 0 < y by omega)
  have c := Int.mul_le_mul_of_nonneg_right a h0
  have d := Int.mul_lt_mul_of_pos_left h b
  omega
/-- the mixed case: one power odd, the other even -/
theorem mixed {a b : Int} {p m : Nat} (ha : a < 0) (hb : 0 < b) (hp : p % 2 = 1) (hm : ¬ m % 2 = 1) (h1 : 1 ≤ m) :
    (mLo (a ^ p) (b ^ p) 0 ((max (-a) b) ^ m) = a ^ (p + m) ∧ mHi (a ^ p) (b ^ p) 0 ((max (-a) b) ^ m) = b ^ (p + m)) ↔ a + b = 0 := by
  have hap : a ^ p < 0 := by
    have := (ipow_pos_iff hp a).1
    omega
  have hbp : 0 < b ^ p := Int.pow_pos hb
  have hM : 0 ≤ (max (-a) b) ^ m := Int.pow_nonneg (by omega)
  rw [(mix_val hap hbp hM).1, (mix_val hap hbp hM).2, Int.pow_add, Int.pow_add]
  constructor
  · rintro ⟨e1, e2⟩
    have e1 := Int.eq_of_mul_eq_mul_left (Int.ne_of_lt hap) e1
    have e2 := Int.eq_of_mul_eq_mul_left (Int.ne_of_gt hbp) e2
    rw [← neg_even hm a] at e1
    rcases Int.lt_trichotomy (-a) b with h | h | h
    · have := ipow_lt (by omega) h h1
      rw [show max (-a) b = b by omega] at e1
      omega
    · omega
    · have := ipow_lt (by omega) h h1
      rw [show max (-a) b = -a by omega] at e2
      omega
  · intro h
    have e1 : max (-a) b = -a := by omega
    have e2 : b = -a := by omega
    rw [e1, neg_even hm]
    refine ⟨rfl, ?_⟩
    rw [e2, neg_even hm]
/-- when the product of two powers is the power by the sum -/
theorem alike {a b : Int} {p m : Nat} (hab : a ≤ b) (hp : 1 ≤ p) (hm : 1 ≤ m) :
    (mLo (pLo a b p) (pHi a b p) (pLo a b m) (pHi a b m) = pLo a b (p + m) ∧ mHi (pLo a b p) (pHi a b p) (pLo a b m) (pHi a b m) = pHi a b (p + m)) ↔
      (¬ (a < 0 ∧ 0 < b) ∨ (p % 2 = 0 ∧ m % 2 = 0) ∨ ((p + m) % 2 = 1 ∧ a + b = 0)) := by
  by_cases ha : 0 ≤ a
  · rw [(p_pos' p ha).1, (p_pos' p ha).2, (p_pos' m ha).1, (p_pos' m ha).2, (p_pos' (p + m) ha).1, (p_pos' (p + m) ha).2,
      (mLo_nn (Int.pow_nonneg ha) (ipow_le ha hab p) (Int.pow_nonneg ha) (ipow_le ha hab m)).1, (mLo_nn (Int.pow_nonneg ha) (ipow_le ha hab p) (Int.pow_nonneg ha) (ipow_le ha hab m)).2, Int.pow_add, Int.pow_add]
    exact ⟨fun _ => .inl (by omega), fun _ => ⟨rfl, rfl⟩⟩
  by_cases hb : b ≤ 0
  · refine ⟨fun _ => .inl (by omega), fun _ => ?_⟩
    by_cases po : p % 2 = 1 <;> by_cases mo : m % 2 = 1
    · have ho : ¬ (p + m) % 2 = 1 := by omega
      rw [(p_odd' po).1, (p_odd' po).2, (p_odd' mo).1, (p_odd' mo).2, (p_neg' ho hab hb).1, (p_neg' ho hab hb).2]
      have hp0 := (ipow_pos_iff po b).2.mpr hb
      have hm0 := (ipow_pos_iff mo b).2.mpr hb
      rw [(mLo_pp hp0 (odd_mono po hab) hm0 (odd_mono mo hab)).1, (mLo_pp hp0 (odd_mono po hab) hm0 (odd_mono mo hab)).2, Int.pow_add, Int.pow_add]
      exact ⟨rfl, rfl⟩
    · have ho : (p + m) % 2 = 1 := by omega
      rw [(p_odd' po).1, (p_odd' po).2, (p_neg' mo hab hb).1, (p_neg' mo hab hb).2, (p_odd' ho).1, (p_odd' ho).2]
      have hp0 := (ipow_pos_iff po b).2.mpr hb
      have hm0 := even_nonneg mo b
      have hm1 : b ^ m ≤ a ^ m := by
        have := ipow_le (show 0 ≤ -b by omega) (show -b ≤ -a by omega) m
        rwa [neg_even mo, neg_even mo] at this
      have q := mLo_np hm0 hm1 hp0 (odd_mono po hab)
      have c := mLo_comm (b ^ m) (a ^ m) (a ^ p) (b ^ p)
      rw [← c.1, ← c.2, q.1, q.2, Int.pow_add, Int.pow_add, Int.mul_comm, Int.mul_comm (b ^ m)]
      exact ⟨rfl, rfl⟩
    · have ho : (p + m) % 2 = 1 := by omega
      rw [(p_odd' mo).1, (p_odd' mo).2, (p_neg' po hab hb).1, (p_neg' po hab hb).2, (p_odd' ho).1, (p_odd' ho).2]
      have hp0 := (ipow_pos_iff mo b).2.mpr hb
      have hm0 := even_nonneg po b
      have hm1 : b ^ p ≤ a ^ p := by
        have := ipow_le (show 0 ≤ -b by omega) (show -b ≤ -a by omega) p
        rwa [neg_even po, neg_even po] at this
      have q := mLo_np hm0 hm1 hp0 (odd_mono mo hab)
      rw [q.1, q.2, Int.pow_add, Int.pow_add]
      exact ⟨rfl, rfl⟩
    · have ho : ¬ (p + m) % 2 = 1 := by omega
      rw [(p_neg' mo hab hb).1, (p_neg' mo hab hb).2, (p_neg' po hab hb).1, (p_neg' po hab hb).2, (p_neg' ho hab hb).1, (p_neg' ho hab hb).2]
      have k : ∀ {N : Nat}, ¬ N % 2 = 1 → b ^ N ≤ a ^ N := by
        intro N h
        have := ipow_le (show 0 ≤ -b by omega) (show -b ≤ -a by omega) N
        rwa [neg_even h, neg_even h] at this
      have q := mLo_nn (even_nonneg po b) (k po) (even_nonneg mo b) (k mo)
      rw [q.1, q.2, Int.pow_add, Int.pow_add]
      exact ⟨rfl, rfl⟩
  · have ha' : a < 0 := by omega
    have hb' : 0 < b := by omega
    by_cases po : p % 2 = 1 <;> by_cases mo : m % 2 = 1
    · have ho : ¬ (p + m) % 2 = 1 := by omega
      rw [(p_odd' po).1, (p_odd' po).2, (p_odd' mo).1, (p_odd' mo).2, (p_mix' ho ha' hb').1]
      constructor
      · rintro ⟨h, _⟩
        have h1 := (ipow_pos_iff po a).1
        have h2 : 0 < b ^ m := Int.pow_pos hb'
        have h3 : a ^ p * b ^ m < 0 := Int.mul_neg_of_neg_of_pos (by omega) h2
        unfold mLo at h
        omega
      · intro h; omega
    · have ho : (p + m) % 2 = 1 := by omega
      rw [(p_odd' po).1, (p_odd' po).2, (p_mix' mo ha' hb').1, (p_mix' mo ha' hb').2, (p_odd' ho).1, (p_odd' ho).2, mixed ha' hb' po mo hm]
      omega
    · have ho : (p + m) % 2 = 1 := by omega
      have c := mLo_comm 0 ((max (-a) b) ^ p) (a ^ m) (b ^ m)
      rw [(p_odd' mo).1, (p_odd' mo).2, (p_mix' po ha' hb').1, (p_mix' po ha' hb').2, (p_odd' ho).1, (p_odd' ho).2, c.1, c.2, Nat.add_comm p m, mixed ha' hb' mo po hp]
      omega
    · have ho : ¬ (p + m) % 2 = 1 := by omega
      rw [(p_mix' po ha' hb').1, (p_mix' po ha' hb').2, (p_mix' mo ha' hb').1, (p_mix' mo ha' hb').2, (p_mix' ho ha' hb').1, (p_mix' ho ha' hb').2]
      have n1 : 0 ≤ (max (-a) b) ^ p := Int.pow_nonneg (by omega)
      have n2 : 0 ≤ (max (-a) b) ^ m := Int.pow_nonneg (by omega)
      have q := mLo_nn (Int.le_refl 0) n1 (Int.le_refl 0) n2
      rw [q.1, q.2, Int.pow_add, Int.mul_zero]
      exact ⟨fun _ => .inr (.inl (by omega)), fun _ => ⟨rfl, rfl⟩⟩
/-- the ends of a power, as the law finds them -/
theorem found_odd {a b : Int} {N : Nat} (hab : a ≤ b) (h : ¬ (a < 0 ∧ 0 < b ∧ N % 2 = 0)) : pLo a b N = min (a ^ N) (b ^ N) ∧ pHi a b N = max (a ^ N) (b ^ N) := by
  by_cases ha : 0 ≤ a
  · have := ipow_le ha hab N
    rw [(p_pos' N ha).1, (p_pos' N ha).2]
    omega
  by_cases ho : N % 2 = 1
  · have := odd_mono ho hab
    rw [(p_odd' ho).1, (p_odd' ho).2]
    omega
  · have hb : b ≤ 0 := by omega
    have := ipow_le (show 0 ≤ -b by omega) (show -b ≤ -a by omega) N
    rw [neg_even ho, neg_even ho] at this
    rw [(p_neg' ho hab hb).1, (p_neg' ho hab hb).2]
    omega
theorem found_mix {a b : Int} {N : Nat} (h : a < 0 ∧ 0 < b ∧ N % 2 = 0) : pLo a b N = min (min (a ^ N) (b ^ N)) 0 ∧ pHi a b N = max (max (a ^ N) (b ^ N)) 0 := by
  have ho : ¬ N % 2 = 1 := by omega
  have h1 := even_nonneg ho a
  have h2 := even_nonneg ho b
  rw [(p_mix' ho h.1 h.2.1).1, (p_mix' ho h.1 h.2.1).2]
  refine ⟨by omega, ?_⟩
  rcases Int.le_total (-a) b with q | q
  · rw [show max (-a) b = b by omega]
    have := even_mono ho (x := a) (y := b) (by omega) (by omega)
    omega
  · rw [show max (-a) b = -a by omega]
    have := even_mono ho (x := b) (y := -a) (by omega) (by omega)
    rw [neg_even ho] at this ⊢
    omega
/-- sizes -/
theorem pow_small {x : Int} {N k c : Nat} (h : x.natAbs ≤ c) (hN : N ≤ k) (hc : 1 ≤ c) : (x ^ N).natAbs ≤ c ^ k := by
  rw [Int.natAbs_pow]
  exact Nat.le_trans (Nat.pow_le_pow_left h N) (Nat.pow_le_pow_right hc hN)
theorem pEnds_small {i j : Int} {N k c : Nat} (hij : i ≤ j) (h1 : 1 ≤ N) (hi : i.natAbs ≤ c) (hj : j.natAbs ≤ c) (hN : N ≤ k) (hc : 1 ≤ c) : (pLo i j N).natAbs ≤ c ^ k ∧ (pHi i j N).natAbs ≤ c ^ k := by
  obtain ⟨⟨x, x1, x2, x3⟩, ⟨y, y1, y2, y3⟩⟩ := pow_ends (N := N) hij h1
  rw [x3, y3]
  exact ⟨pow_small (by omega) hN hc, pow_small (by omega) hN hc⟩
theorem mEnds_small {i j x y : Int} {A B : Nat} (hi : i.natAbs ≤ A) (hj : j.natAbs ≤ A) (hx : x.natAbs ≤ B) (hy : y.natAbs ≤ B) : (mLo i j x y).natAbs ≤ A * B ∧ (mHi i j x y).natAbs ≤ A * B := by
  have key : ∀ u v : Int, u.natAbs ≤ A → v.natAbs ≤ B → (u * v).natAbs ≤ A * B := by
    intro u v h1 h2
    rw [Int.natAbs_mul]
    exact Nat.mul_le_mul h1 h2
  have k1 := key i x hi hx
  have k2 := key i y hi hy
  have k3 := key j x hj hx
  have k4 := key j y hj hy
  clear key
  obtain ⟨a1, a2, a3, a4⟩ := mLo_i i j x y
  obtain ⟨b1, b2, b3, b4⟩ := mHi_i i j x y
  constructor
  · have := le_mLo (i := i) (j := j) (x := x) (y := y) (z := -((A * B : Nat) : Int)) (by omega) (by omega) (by omega) (by omega)
    omega
  · have := mHi_le (i := i) (j := j) (x := x) (y := y) (z := ((A * B : Nat) : Int)) (by omega) (by omega) (by omega) (by omega)
    omega
theorem sorted2 {ns : List Int} {p q : Int} (hp : ns.Perm [p, q]) (hs : ns.Pairwise (· ≤ ·)) : ns = [min p q, max p q] := by
  have hl := hp.length_eq
  match ns, hl with
  | [x, y], _ =>
    have h1 := hp.mem_iff (a := x)
    have h2 := hp.mem_iff (a := y)
    have h3 := hp.mem_iff (a := p)
    have h4 := hp.mem_iff (a := q)
    simp only [List.mem_cons, List.mem_nil_iff, or_false, true_or, or_true, true_iff, iff_true, List.pairwise_cons, forall_eq_or_imp, forall_eq] at h1 h2 h3 h4 hs
    have hxy := hs.1
    have : x = min p q ∧ y = max p q := by omega
    rw [this.1, this.2]
theorem sorted3 {ns : List Int} {p q r : Int} (hp : ns.Perm [p, q, r]) (hs : ns.Pairwise (· ≤ ·)) : ∃ z, ns = [min (min p q) r, z, max (max p q) r] := by
  have hl := hp.length_eq
  match ns, hl with
  | [x, y, z], _ =>
    have h1 := hp.mem_iff (a := x)
    have h2 := hp.mem_iff (a := z)
    have h3 := hp.mem_iff (a := p)
    have h4 := hp.mem_iff (a := q)
    have h5 := hp.mem_iff (a := r)
    clear hp
    simp only [List.mem_cons, List.mem_nil_iff, or_false, true_or, or_true, true_iff, iff_true, List.pairwise_cons, forall_eq_or_imp, forall_eq] at h1 h2 h3 h4 h5 hs
    have a1 := hs.1.1
    have a2 := hs.2.1
    clear hs
    have k3 : x ≤ p ∧ p ≤ z := by clear h1 h2 h4 h5; omega
    have k4 : x ≤ q ∧ q ≤ z := by clear h1 h2 h3 h5; omega
    have k5 : x ≤ r ∧ r ≤ z := by clear h1 h2 h3 h4; omega
    clear h3 h4 h5 a1 a2
    have e1 : x = min (min p q) r := by clear h2; omega
    have e2 : z = max (max p q) r := by clear h1 e1; omega
    exact ⟨y, by rw [e1, e2]⟩
theorem sorted4 {ns : List Int} {p q r t : Int} (hp : ns.Perm [p, q, r, t]) (hs : ns.Pairwise (· ≤ ·)) : ∃ y z, ns = [min (min p q) (min r t), y, z, max (max p q) (max r t)] := by
  have hl := hp.length_eq
  match ns, hl with
  | [x, y, z, v], _ =>
    have h1 := hp.mem_iff (a := x)
    have h2 := hp.mem_iff (a := v)
    have h3 := hp.mem_iff (a := p)
    have h4 := hp.mem_iff (a := q)
    have h5 := hp.mem_iff (a := r)
    have h6 := hp.mem_iff (a := t)
    clear hp
    simp only [List.mem_cons, List.mem_nil_iff, or_false, true_or, or_true, true_iff, iff_true, List.pairwise_cons, forall_eq_or_imp, forall_eq] at h1 h2 h3 h4 h5 h6 hs
    have a1 := hs.1.1
    have a2 := hs.2.1.1
    have a3 := hs.2.2.1
    clear hs
    have k3 : x ≤ p ∧ p ≤ v := by clear h1 h2 h4 h5 h6; omega
    have k4 : x ≤ q ∧ q ≤ v := by clear h1 h2 h3 h5 h6; omega
    have k5 : x ≤ r ∧ r ≤ v := by clear h1 h2 h3 h4 h6; omega
    have k6 : x ≤ t ∧ t ≤ v := by clear h1 h2 h3 h4 h5; omega
    clear h3 h4 h5 h6 a1 a2 a3
    have e1 : x = min (min p q) (min r t) := by clear h2; omega
    have e2 : v = max (max p q) (max r t) := by clear h1 e1; omega
    exact ⟨y, z, by rw [e1, e2]⟩
theorem ints1 {vs : List Value} {x : Int} {ns : List Int} (h : IntsAre vs (x :: ns)) : ∃ t vs', vs = .int x t :: vs' ∧ IntsAre vs' ns := by
  rcases h with _ | ⟨_, t, h⟩
  exact ⟨t, _, rfl, h⟩
theorem ints0 {vs : List Value} (h : IntsAre vs []) : vs = [] := by
  cases h; rfl
theorem ints2 {vs : List Value} {x y : Int} (h : IntsAre vs [x, y]) : ∃ t u, vs = [.int x t, .int y u] := by
  obtain ⟨t, _, rfl, h'⟩ := ints1 h
  obtain ⟨u, _, rfl, h''⟩ := ints1 h'
  exact ⟨t, u, by rw [ints0 h'']⟩
theorem ints3 {vs : List Value} {x y z : Int} (h : IntsAre vs [x, y, z]) : ∃ t u v, vs = [.int x t, .int y u, .int z v] := by
  obtain ⟨t, _, rfl, h'⟩ := ints1 h
  obtain ⟨u, v, rfl⟩ := ints2 h'
  exact ⟨t, u, v, rfl⟩
theorem ints4 {vs : List Value} {x y z r : Int} (h : IntsAre vs [x, y, z, r]) : ∃ t u v q, vs = [.int x t, .int y u, .int z v, .int r q] := by
  obtain ⟨t, _, rfl, h'⟩ := ints1 h
  obtain ⟨u, v, q, rfl⟩ := ints3 h'
  exact ⟨t, u, v, q, rfl⟩
/-- one statement, joined: it goes on, and J holds of the state -/
def JS (J : Shared → Prop) (fl : Flow) (s' : Shared) : Prop := fl = .next ∧ J s'
theorem seqJ {M : Model} {A : Around} {E : Value → Shared → Prop} {s : Shared} {env : Env} {st : Stmt} {rest : List Stmt} {Q : Flow → Shared → Prop} (J : Shared → Prop)
    (h1 : wpAny M A (exec st env) (fun fl s' => JS J fl s') E s) (h2 : ∀ s', J s' → wpAny M A (execs rest env) Q E s') : wpAny M A (execs (st :: rest) env) Q E s := by
  refine wpAny_execs_cons (wpAny_mono h1 (fun fl s' h => ?_) fun _ _ h => h)
  obtain ⟨rfl, h⟩ := h
  exact h2 s' h
section
variable {M : Model} {A : Around} {E : Value → Shared → Prop} {s : Shared} {env : Env} {st : Stmt} {rest : List Stmt} {Q : Flow → Shared → Prop} {h₀ : Heap} {L : Addr} {m : Str → Option Value} {news : Led}
theorem seqD (F : Fr h₀ L s.heap m) (N : News h₀ L s.heap news) (x : Str)
    (h1 : wpAny M A (exec st env) (fun fl s' => JS (fun s' => ∃ (D : Addr) (h : Heap) (tk : Nat) (ys : List Value) (ds : List Int), s' = { s with heap := h, toks := tk } ∧ Fr h₀ L h (fun y => if y = x then some (.ref D) else m y) ∧ News h₀ L h ((D, LCg.lst ys) :: news) ∧ IntsAre ys ds ∧ ds.length = 10) fl s') E s)
    (h2 : ∀ (D : Addr) (h : Heap) (tk : Nat) (ys : List Value) (ds : List Int), Fr h₀ L h (fun y => if y = x then some (.ref D) else m y) → News h₀ L h ((D, LCg.lst ys) :: news) → IntsAre ys ds → ds.length = 10 → wpAny M A (execs rest env) Q E { s with heap := h, toks := tk }) :
    wpAny M A (execs (st :: rest) env) Q E s := by
  refine seqJ _ h1 fun s' h => ?_
  obtain ⟨D, h, tk, ys, ds, rfl, F, N, I, e⟩ := h
  exact h2 D h tk ys ds F N I e
end
noncomputable def lawFd (w : World) : Option FuncData := match (Mine.hd.heap_39 w.params).lookup 248 with
  | some ⟨_, _, .func fd, _⟩ => some fd
  | _ => none
theorem lawFd_of {w : World} {oc : Value} {od : Option Addr} {osl : Array (Option Value)} {fd : FuncData} (e : (Mine.hd.heap_39 w.params).lookup 248 = some ⟨oc, od, .func fd, osl⟩) : lawFd w = some fd := by
  unfold lawFd
  rw [e]
def bodyOf : FuncBody → List Stmt
  | .stmts b => b
  | .expr _ => []
abbrev Names := Str → Option Value
/-- one of the law's statements, walked apart from the law: what holds behind it; it never raises -/
def Chunk (w : World) (i : Nat) (cl : List (Str × Addr)) (h₀ : Heap) (L : Addr) (m : Names) (news : Led) (Out : Names → Led → Prop) : Prop :=
  ∀ (fd : FuncData) (st : Stmt), lawFd w = some fd → (bodyOf fd.body)[i]? = some st →
  ∀ (p : Program) (loose : List Str) (mean : ExcName → Option Value) (mg mb : Str → Option Value) (dp un : Nat) (gd : Option (List Code)) (cn : Str) (a : Addr) (ccd : Value) (outer : List Env) (A₀ : Around) (base : Heap) (s : Shared) (Q : Flow → Shared → Prop),
    Below A₀ base outer h₀ → Fr h₀ L s.heap m → (Mine.hd.heap_39 w.params).In h₀ → News h₀ L s.heap news → Top p loose mean mg mb h₀ → dp + 40 < recursionLimit → un + 8 * 40 + 200 < cLine →
    (∀ m' news' h' tk', Fr h₀ L h' m' → News h₀ L h' news' → Out m' news' → Q .next { s with heap := h', toks := tk' }) →
    wpAny (model PG w) (ktrTop dp un gd cn fd.scope L a ccd cl outer) (exec st (envX cn fd.scope L a ccd cl)) Q (fun _ _ => False) s
theorem at_hit {m : Names} {x : Str} {v : Value} : (fun y => if y = x then some v else m y) x = some v := if_pos rfl
theorem at_miss {m : Names} {x z : Str} {v u : Value} (h : decide (x = z) = false) (hm : m x = some v) : (fun y => if y = z then some u else m y) x = some v := (if_neg (of_decide_eq_false h)).trans hm
/-- what a statement may rename, and nothing else -/
def Keep (xs : List Str) (m m' : Names) : Prop := ∀ x v, xs.contains x = false → m x = some v → m' x = some v
theorem keep_refl (xs : List Str) (m : Names) : Keep xs m m := fun _ _ _ h => h
theorem keep_cons {xs : List Str} {m m' : Names} {z : Str} {u : Value} (h : xs.contains z = true) (k : Keep xs m m') : Keep xs m (fun y => if y = z then some u else m' y) := by
  intro x v hx hm
  have : x ≠ z := by
    rintro rfl
    rw [h] at hx
    cases hx
  exact (if_neg this).trans (k x v hx hm)
/-- the three pairs of ends, and the list of them -/
def EndsL (D E' ce : Addr) (oe : Obj) (ys : List Value) (t1 t2 t3 : Addr) (i1 j1 i2 j2 i3 j3 : Int) (a1 b1 a2 b2 a3 b3 : Tok) (n n1 n2 n3 : Nat) : Led :=
  [(E', listOf #[.ref t1, .ref t2, .ref t3] n), (t1, ({ cls := .type "tuple", data := .seq #[.int i1 a1, .int j1 b1] n1 } : Obj)), (t2, ({ cls := .type "tuple", data := .seq #[.int i2 a2, .int j2 b2] n2 } : Obj)), (t3, ({ cls := .type "tuple", data := .seq #[.int i3 a3, .int j3 b3] n3 } : Obj)), (ce, oe), (D, LCg.lst ys)]
/-- their ends -/
def Bounds (i1 j1 i2 j2 i3 j3 : Int) : Prop := i1 ≤ j1 ∧ i2 ≤ j2 ∧ i3 ≤ j3 ∧ -80 ≤ i1 ∧ j1 ≤ 80 ∧ -80 ≤ i2 ∧ j2 ≤ 80 ∧ -80 ≤ i3 ∧ j3 ≤ 80
def LoopOut (D E' ce : Addr) (oe : Obj) (ys : List Value) (m : Names) (news : Led) : Prop :=
  ∃ t1 t2 t3 i1 j1 i2 j2 i3 j3 a1 b1 a2 b2 a3 b3 n n1 n2 n3, m (Str.ofString "draw") = some (.ref D) ∧ (∀ q ∈ EndsL D E' ce oe ys t1 t2 t3 i1 j1 i2 j2 i3 j3 a1 b1 a2 b2 a3 b3 n n1 n2 n3, q ∈ news) ∧ Bounds i1 j1 i2 j2 i3 j3
theorem loop_out {D E' ce : Addr} {oe : Obj} {ys : List Value} {m : Names} {news : Led} {t1 t2 t3 : Addr} {i1 j1 i2 j2 i3 j3 : Int} {a1 b1 a2 b2 a3 b3 : Tok} {n n1 n2 n3 : Nat} {o : Array Value}
    (d : m (Str.ofString "draw") = some (.ref D)) (he : (E', listOf o n) ∈ news) (ho : o = #[.ref t1, .ref t2, .ref t3]) (h1 : (t1, ({ cls := .type "tuple", data := .seq #[.int i1 a1, .int j1 b1] n1 } : Obj)) ∈ news) (h2 : (t2, ({ cls := .type "tuple", data := .seq #[.int i2 a2, .int j2 b2] n2 } : Obj)) ∈ news) (h3 : (t3, ({ cls := .type "tuple", data := .seq #[.int i3 a3, .int j3 b3] n3 } : Obj)) ∈ news)
    (hc : (ce, oe) ∈ news) (hD : (D, LCg.lst ys) ∈ news) (hb : Bounds i1 j1 i2 j2 i3 j3) : LoopOut D E' ce oe ys m news := by
  subst ho
  refine ⟨t1, t2, t3, i1, j1, i2, j2, i3, j3, a1, b1, a2, b2, a3, b3, n, n1, n2, n3, d, ?_, hb⟩
  intro q hq
  unfold EndsL at hq
  simp only [List.mem_cons, List.mem_nil_iff, or_false] at hq
  rcases hq with rfl | rfl | rfl | rfl | rfl | rfl <;> assumption
theorem fm81 (x : Int) : 0 ≤ x.fmod 81 ∧ x.fmod 81 ≤ 80 := by
  rw [Int.fmod_eq_emod_of_nonneg _ (by decide)]; omega
theorem fm41 (x : Int) : 0 ≤ x.fmod 41 ∧ x.fmod 41 ≤ 40 := by
  rw [Int.fmod_eq_emod_of_nonneg _ (by decide)]; omega
local macro_rules | `(tactic| k_lt $h:ident) => `(tactic| (replace $h := allLt_of $h))
local macro_rules | `(tactic| k_ne) => `(tactic| (refine neN ?_; (try dsimp only); first | exact Nat.ne_of_gt (ktn_ltOf (by assumption) (_, _) (by k_mem)) | exact Nat.ne_of_lt (ktn_ltOf (by assumption) (_, _) (by k_mem))))
local macro_rules | `(tactic| walk_at "eval Name") => `(tactic| (k_here; k_dflt (refine' nameX_L ?F ?v ?_ ?a ?b; (case F => k_asm); (case a => rfl); (case b => kernel_rfl); (case v => first | with_reducible assumption | with_reducible exact at_hit | (refine' at_miss ?e16 ?r16; (case e16 => kernel_rfl); (case r16 => first | with_reducible assumption | with_reducible exact at_hit | (refine' at_miss ?e15 ?r15; (case e15 => kernel_rfl); (case r15 => first | with_reducible assumption | with_reducible exact at_hit | (refine' at_miss ?e14 ?r14; (case e14 => kernel_rfl); (case r14 => first | with_reducible assumption | with_reducible exact at_hit | (refine' at_miss ?e13 ?r13; (case e13 => kernel_rfl); (case r13 => first | with_reducible assumption | with_reducible exact at_hit | (refine' at_miss ?e12 ?r12; (case e12 => kernel_rfl); (case r12 => first | with_reducible assumption | with_reducible exact at_hit | (refine' at_miss ?e11 ?r11; (case e11 => kernel_rfl); (case r11 => first | with_reducible assumption | with_reducible exact at_hit | (refine' at_miss ?e10 ?r10; (case e10 => kernel_rfl); (case r10 => first | with_reducible assumption | with_reducible exact at_hit | (refine' at_miss ?e9 ?r9; (case e9 => kernel_rfl); (case r9 => first | with_reducible assumption | with_reducible exact at_hit | (refine' at_miss ?e8 ?r8; (case e8 => kernel_rfl); (case r8 => first | with_reducible assumption | with_reducible exact at_hit | (refine' at_miss ?e7 ?r7; (case e7 => kernel_rfl); (case r7 => first | with_reducible assumption | with_reducible exact at_hit | (refine' at_miss ?e6 ?r6; (case e6 => kernel_rfl); (case r6 => first | with_reducible assumption | with_reducible exact at_hit | (refine' at_miss ?e5 ?r5; (case e5 => kernel_rfl); (case r5 => first | with_reducible assumption | with_reducible exact at_hit | (refine' at_miss ?e4 ?r4; (case e4 => kernel_rfl); (case r4 => first | with_reducible assumption | with_reducible exact at_hit | (refine' at_miss ?e3 ?r3; (case e3 => kernel_rfl); (case r3 => first | with_reducible assumption | with_reducible exact at_hit | (refine' at_miss ?e2 ?r2; (case e2 => kernel_rfl); (case r2 => first | with_reducible assumption | with_reducible exact at_hit | (refine' at_miss ?e1 ?r1; (case e1 => kernel_rfl); (case r1 => first | with_reducible assumption | with_reducible exact at_hit))))))))))))))))))))))))))))))))); k_whole)))
section
variable {w : World} {A : Around} {E : Value → Shared → Prop} {s : Shared} {h₀ : Heap} {L : Addr} {m : Names} {news : Led} {v u : Value} {k l k' l' ex fx : Int} {Q : Value → Shared → Prop}
theorem ne_same (F : Fr h₀ L s.heap m) (X : (Mine.hd.heap_39 w.params).In h₀) (N : News h₀ L s.heap news) (hv : IV news v (enc k ex) (enc l ex)) (hu : IV news u (enc k' fx) (enc l' fx)) (hr : A.units + 64 < cLine) (h1 : k = k') (h2 : l = l') (h3 : ex = fx) (h : Q (.bool false) s) : wpAny (model PG w) A (compareOp .NotEq v u) Q E s := by
  subst h1; subst h2; subst h3
  refine ne_iv F X N hv hu hr ?_
  rw [(F4.beq_iff _ _).mpr rfl, (F4.beq_iff _ _).mpr rfl]
  exact h
theorem ne_same_mv (F : Fr h₀ L s.heap m) (X : (Mine.hd.heap_39 w.params).In h₀) (N : News h₀ L s.heap news) (hv : MV news v (enc k ex)) (hu : MV news u (enc k' fx)) (hr : A.units + 64 < cLine) (h1 : k = k') (h3 : ex = fx) (h : Q (.bool false) s) : wpAny (model PG w) A (compareOp .NotEq v u) Q E s := by
  subst h1; subst h3
  refine ne_mv F X N hv hu hr ?_
  rw [(F4.beq_iff _ _).mpr rfl]
  exact h
theorem eq_ends (F : Fr h₀ L s.heap m) (X : (Mine.hd.heap_39 w.params).In h₀) (N : News h₀ L s.heap news) (hv : IV news v (enc k ex) (enc l ex)) (hu : IV news u (enc k' fx) (enc l' fx)) (hr : A.units + 64 < cLine) (h3 : ex = fx) (h : Q (.bool (decide (k = k' ∧ l = l'))) s) : wpAny (model PG w) A (compareOp .Eq v u) Q E s := by
  subst h3
  refine eq_iv F X N hv hu hr ?_
  rw [F4.beq_enc, F4.beq_enc, show (decide (k = k') && decide (l = l')) = decide (k = k' ∧ l = l') from by rw [Bool.decide_and]]
  exact h
end
theorem my_titem {w : World} {A : Around} {E : Value → Shared → Prop} {s : Shared} {h₀ : Heap} {L l : Addr} {news : Led} {value slice : PySem.Expr} {vs : Array Value} {n j : Nat} {k : Int} {u : Tok} {v : Value} {Q : Value → Shared → Prop}
    (N : News h₀ L s.heap news) (hm : (l, ({ cls := .type "tuple", data := .seq vs n } : Obj)) ∈ news) (h0 : -(2 ^ 63) ≤ k) (hhi : k < 2 ^ 63) (hj : seqIndex? k vs.size = some j) (hx : vs[j]? = some v) (h : Q v s)
    (hs : subscripted slice false (.ref l) (.int k u) = operate [.ref l, .int k u] (getItem (.ref l) (.int k u))) :
    wpAny (model PG w) A (subscriptTail value slice (.ref l) (.int k u)) Q E s :=
  tail_any (News.isTup N hm).typeIs slot_tuple_getitem.lookup (getItem_tuple (News.isTup N hm) h0 hhi hj hx h) hs
theorem my_last {w : World} {A : Around} {E : Value → Shared → Prop} {s : Shared} {h₀ : Heap} {L l : Addr} {news : Led} {value slice : PySem.Expr} {v0 : Value} {vs : List Value} {n : Nat} {u : Tok} {v : Value} {Q : Value → Shared → Prop}
    (N : News h₀ L s.heap news) (hm : (l, listOf (v0 :: vs).toArray n) ∈ news) (hx : (v0 :: vs)[vs.length]? = some v) (h : Q v s)
    (hs : subscripted slice false (.ref l) (.int (-1) u) = operate [.ref l, .int (-1) u] (getItem (.ref l) (.int (-1) u))) :
    wpAny (model PG w) A (subscriptTail value slice (.ref l) (.int (-1) u)) Q E s := by
  refine tail_any (News.isList N hm).typeIs slot_list_getitem.lookup (wpAny_getItem_list_neg (News.isList N hm) (by decide) ?_ (by decide) ?_ h) hs
  · rw [List.size_toArray, List.length_cons]; omega
  · rw [List.size_toArray, List.length_cons, show ((-1 : Int) + ((vs.length + 1 : Nat) : Int)).toNat = vs.length by omega, List.getElem?_toArray]
    exact hx
theorem fm_in {a b x : Int} (h : a ≤ b) : a ≤ a + x.fmod (b - a + 1) ∧ a + x.fmod (b - a + 1) ≤ b := by
  rw [Int.fmod_eq_emod_of_nonneg _ (by omega)]
  have h1 := Int.emod_nonneg x (show b - a + 1 ≠ 0 by omega)
  have h2 := Int.emod_lt_of_pos x (show 0 < b - a + 1 by omega)
  omega
theorem iv_ex {news : Led} {v : Value} {k l ex fx : Int} (h : IV news v (enc k ex) (enc l ex)) (e : ex = fx) : IV news v (enc k fx) (enc l fx) := e ▸ h
/-- the ends that the law finds, in a list of two or of three -/
def FoundOut (C : Addr) (P Q' : Int) (news : Led) : Prop := ∃ n, (∃ t u, (C, listOf #[.int P t, .int Q' u] n) ∈ news) ∨ ∃ z t r u, (C, listOf #[.int P t, .int z r, .int Q' u] n) ∈ news
theorem found2 {C : Addr} {vs : List Value} {ns : List Int} {n : Nat} {news : Led} {x y P Q' : Int} (hm : (C, listOf vs.toArray n) ∈ news) (hI : IntsAre vs ns) (hp : ns.Perm ([x, y] ++ [])) (hs : ns.Pairwise (· ≤ ·)) (e : P = min x y ∧ Q' = max x y) : FoundOut C P Q' news := by
  rw [List.append_nil] at hp
  obtain rfl := sorted2 hp hs
  obtain ⟨t, u, rfl⟩ := ints2 hI
  rw [← e.1, ← e.2] at hm
  exact ⟨n, .inl ⟨t, u, hm⟩⟩
theorem found3 {C : Addr} {vs : List Value} {ns : List Int} {n : Nat} {news : Led} {x y P Q' : Int} (hm : (C, listOf vs.toArray n) ∈ news) (hI : IntsAre vs ns) (hp : ns.Perm ([x, y] ++ [0])) (hs : ns.Pairwise (· ≤ ·)) (e : P = min (min x y) 0 ∧ Q' = max (max x y) 0) : FoundOut C P Q' news := by
  obtain ⟨z, rfl⟩ := sorted3 hp hs
  obtain ⟨t, r, u, rfl⟩ := ints3 hI
  rw [← e.1, ← e.2] at hm
  exact ⟨n, .inr ⟨z, t, r, u, hm⟩⟩
local macro_rules | `(tactic| walk_at "subscriptTail") => `(tactic| (k_here; (with_reducible show wpAny _ _ (subscriptTail _ _ (Value.ref _) (Value.int _ _)) _ _ _); k_dflt (refine' my_titem ?N ?m ?a ?b ?j ?x ?_ ?hs; (case N => k_asm); (case m => (repeat (refine List.Mem.tail _ ?_)); ktr_rel); (case a => decide); (case b => decide); (case j => rfl); (case x => rfl); (case hs => with_unfolding_all rfl); k_whole)))
local macro_rules | `(tactic| ktr_rel) => `(tactic| (refine' IV.mk ?im ?i1 ?i2; (case im => k_mem); (case i1 => ktr_rel); (case i2 => ktr_rel)))
local macro_rules | `(tactic| walk_at "compareOp NotEq") => `(tactic| (k_here; (with_reducible show wpAny _ _ (compareOp CmpOp.NotEq _ _) _ _ _); k_dflt (refine' ne_same ?F ?X ?N ?v ?u ?r ?a ?b ?c ?_; (case F => k_asm); (case X => k_asm); (case N => k_asm); (case v => ktr_rel); (case u => ktr_rel); (case r => units_room); (case a => first | rfl | first | assumption | omega); (case b => first | rfl | first | assumption | omega); (case c => first | rfl | first | assumption | omega); k_whole)))
local macro_rules | `(tactic| walk_at "subscriptTail") => `(tactic| (k_here; (with_reducible show wpAny _ _ (subscriptTail _ _ (Value.ref _) (Value.int (-1) _)) _ _ _); k_dflt (refine' my_last ?N ?m ?x ?_ ?hs; (case N => k_asm); (case m => first | k_mem | ((repeat (refine List.Mem.tail _ ?_)); ktr_rel)); (case x => rfl); (case hs => with_unfolding_all rfl); k_whole)))
local macro_rules | `(tactic| walk_at "subscriptTail") => `(tactic| (k_here; (with_reducible show wpAny _ _ (subscriptTail _ _ (Value.ref _) (Value.int _ _)) _ _ _); k_dflt (refine' my_item ?N ?m ?a ?b ?x ?_ ?hs; (case N => k_asm); (case m => first | k_mem | ((repeat (refine List.Mem.tail _ ?_)); ktr_rel)); (case a => decide); (case b => decide); (case x => rfl); (case hs => with_unfolding_all rfl); k_whole)))
section
local macro_rules | `(tactic| walk_at "call builtin:list.append") => `(tactic| (k_here; k_dflt (refine' append_K ?k1 ?k2 ?k3 ?_ ?z; (case k1 => k_asm); (case k2 => k_asm); (case k3 => k_upd); (case z => size_fits); k_whole); intro h' F' N'; (try k_sweep)))
theorem chunk_loop (w : World) (h₀ : Heap) (L ce cc D E' : Addr) (oe : Obj) (ys : List Value) (ds : List Int) (kd : Int) (t1 : Tok) (m : Names) (hoe : oe.data = .cell (some (.ref E'))) (hI : IntsAre ys ds) (hl : ds.length = 10) (hlt : AllLt E' [(ce, oe), (D, LCg.lst ys)])
    (hkd : m (Str.ofString "kind") = some (.int kd t1)) (hdr : m (Str.ofString "draw") = some (.ref D)) :
    Chunk w 2 [(Str.ofString "ends", ce), (Str.ofString "script", cc)] h₀ L m [(E', listOf #[] 0), (ce, oe), (D, LCg.lst ys)] (LoopOut D E' ce oe ys) := by
  unfold Chunk
  intro fd st hfd hst p loose mean mg mb dp un gd cn a ccd outer A₀ base s Q B F X N T hd hu hret
  have e := lawFd_of (w := w) (by k_is)
  obtain rfl := Option.some.inj (e.symm.trans hfd)
  clear e hfd
  replace hst := Option.some.inj hst
  subst hst
  (try dsimp only)
  change wpAny _ _ _ _ _ _
  (try k_fold)
  k_steps
  all_goals (try dsimp only)
  all_goals (refine' hret _ _ _ _ ?F9 ?N9 ?_; (case F9 => k_asm); (case N9 => k_asm))
  all_goals (refine' loop_out ?d ?e ?o ?f1 ?f2 ?f3 ?c ?D ?w; (case d => first | with_reducible assumption | with_reducible exact at_hit | (refine' at_miss ?e16 ?r16; (case e16 => kernel_rfl); (case r16 => first | with_reducible assumption | with_reducible exact at_hit | (refine' at_miss ?e15 ?r15; (case e15 => kernel_rfl); (case r15 => first | with_reducible assumption | with_reducible exact at_hit | (refine' at_miss ?e14 ?r14; (case e14 => kernel_rfl); (case r14 => first | with_reducible assumption | with_reducible exact at_hit | (refine' at_miss ?e13 ?r13; (case e13 => kernel_rfl); (case r13 => first | with_reducible assumption | with_reducible exact at_hit | (refine' at_miss ?e12 ?r12; (case e12 => kernel_rfl); (case r12 => first | with_reducible assumption | with_reducible exact at_hit | (refine' at_miss ?e11 ?r11; (case e11 => kernel_rfl); (case r11 => first | with_reducible assumption | with_reducible exact at_hit | (refine' at_miss ?e10 ?r10; (case e10 => kernel_rfl); (case r10 => first | with_reducible assumption | with_reducible exact at_hit | (refine' at_miss ?e9 ?r9; (case e9 => kernel_rfl); (case r9 => first | with_reducible assumption | with_reducible exact at_hit | (refine' at_miss ?e8 ?r8; (case e8 => kernel_rfl); (case r8 => first | with_reducible assumption | with_reducible exact at_hit | (refine' at_miss ?e7 ?r7; (case e7 => kernel_rfl); (case r7 => first | with_reducible assumption | with_reducible exact at_hit | (refine' at_miss ?e6 ?r6; (case e6 => kernel_rfl); (case r6 => first | with_reducible assumption | with_reducible exact at_hit | (refine' at_miss ?e5 ?r5; (case e5 => kernel_rfl); (case r5 => first | with_reducible assumption | with_reducible exact at_hit | (refine' at_miss ?e4 ?r4; (case e4 => kernel_rfl); (case r4 => first | with_reducible assumption | with_reducible exact at_hit | (refine' at_miss ?e3 ?r3; (case e3 => kernel_rfl); (case r3 => first | with_reducible assumption | with_reducible exact at_hit | (refine' at_miss ?e2 ?r2; (case e2 => kernel_rfl); (case r2 => first | with_reducible assumption | with_reducible exact at_hit | (refine' at_miss ?e1 ?r1; (case e1 => kernel_rfl); (case r1 => first | with_reducible assumption | with_reducible exact at_hit))))))))))))))))))))))))))))))))); (case e => k_mem); (case o => rfl); (case f1 => k_mem); (case f2 => k_mem); (case f3 => k_mem); (case c => k_mem); (case D => k_mem); (case w => (have f81 := fun i => fm81 (ds.getD i 0)); (have f41 := fun i => fm41 (ds.getD i 0)); (have g1 := f81 (1 + 2 * (0 + ((0 : Nat) : Int))).toNat); (have g2 := f41 (2 + 2 * (0 + ((0 : Nat) : Int))).toNat); (have g3 := f81 (1 + 2 * (0 + ((0 + 1 : Nat) : Int))).toNat); (have g4 := f41 (2 + 2 * (0 + ((0 + 1 : Nat) : Int))).toNat); (have g5 := f81 (1 + 2 * (0 + ((0 + 1 + 1 : Nat) : Int))).toNat); (have g6 := f41 (2 + 2 * (0 + ((0 + 1 + 1 : Nat) : Int))).toNat); clear f81 f41; law_clear; unfold Bounds; (refine ⟨?_, ?_, ?_, ?_, ?_, ?_, ?_, ?_, ?_⟩ <;> (repeat' split) <;> omega)))
end
theorem chunk_unpack (w : World) (h₀ : Heap) (L ce cc D E' : Addr) (oe : Obj) (ys : List Value) (m : Names) (t1 t2 t3 : Addr) (i1 j1 i2 j2 i3 j3 : Int) (a1 b1 a2 b2 a3 b3 : Tok) (n n1 n2 n3 : Nat) (hoe : oe.data = .cell (some (.ref E'))) :
    Chunk w 3 [(Str.ofString "ends", ce), (Str.ofString "script", cc)] h₀ L m (EndsL D E' ce oe ys t1 t2 t3 i1 j1 i2 j2 i3 j3 a1 b1 a2 b2 a3 b3 n n1 n2 n3)
      (fun m' news' => news' = EndsL D E' ce oe ys t1 t2 t3 i1 j1 i2 j2 i3 j3 a1 b1 a2 b2 a3 b3 n n1 n2 n3 ∧
        m' = (fun y => if y = Str.ofString "last" then some (.int j3 b3) else if y = Str.ofString "third" then some (.int i3 a3) else if y = Str.ofString "further" then some (.int j2 b2) else if y = Str.ofString "second" then some (.int i2 a2) else if y = Str.ofString "high" then some (.int j1 b1) else if y = Str.ofString "low" then some (.int i1 a1) else m y)) := by
  unfold EndsL
  unfold Chunk
  intro fd st hfd hst p loose mean mg mb dp un gd cn a ccd outer A₀ base s Q B F X N T hd hu hret
  have e := lawFd_of (w := w) (by k_is)
  obtain rfl := Option.some.inj (e.symm.trans hfd)
  clear e hfd
  replace hst := Option.some.inj hst
  subst hst
  (try dsimp only)
  change wpAny _ _ _ _ _ _
  (try k_fold)
  k_steps
  all_goals (try dsimp only)
  all_goals (refine' hret _ _ _ _ ?F9 ?N9 ?_; (case F9 => k_asm); (case N9 => k_asm))
  all_goals exact ⟨rfl, rfl⟩
abbrev LC2 (elt : PySem.Expr) (x y : Str) (px py : Pos) (i1 i2 : PySem.Expr) (scope : Scope) (pos : Pos) : PySem.Expr := .ListComp elt [⟨.Name x px, i1, [], 0⟩, ⟨.Name y py, i2, [], 0⟩] scope pos
section
variable {prog : Program} {w : World} {A : Around} {E : Value → Shared → Prop} {R : Result → Shared → Prop} {s : Shared} {elt i1 i2 : PySem.Expr} {x y : Str} {px py : Pos} {scope : Scope} {pos : Pos} {it acc : Value} {env : Env}
theorem turn_in (elt : PySem.Expr) (x y : Str) (px py : Pos) (i1 i2 : PySem.Expr) (scope : Scope) (pos : Pos) (it acc : Value) (env : Env) :
    compTurn (LC2 elt x y px py i1 i2 scope pos) 1 it acc env = (standAt i2.pos >>= fun _ => pyNext it >>= fun r => match r with
      | none => pure (.done .next)
      | some v => letOwnedTupleGo (.Name y py) it v >>= fun _ => assign (.Name y py) env v >>= fun _ =>
        (eval elt env >>= fun x => call (.builtin "list.append") [acc, x] >>= fun _ => pure ()) >>= fun _ =>
          again (.compLoop (LC2 elt x y px py i1 i2 scope pos) 1 it acc env)) := by rfl
theorem turn_out (elt : PySem.Expr) (x y : Str) (px py : Pos) (i1 i2 : PySem.Expr) (scope : Scope) (pos : Pos) (it acc : Value) (env : Env) :
    compTurn (LC2 elt x y px py i1 i2 scope pos) 0 it acc env = (standAt i1.pos >>= fun _ => pyNext it >>= fun r => match r with
      | none => pure (.done .next)
      | some v => letOwnedTupleGo (.Name x px) it v >>= fun _ => assign (.Name x px) env v >>= fun _ =>
        eval i2 env >>= fun z => standAt i2.pos >>= fun _ => foldedSetIterable i2 env z >>= fun z => holding [z] (pyIter z) >>= fun it2 => runOwn (.compStart (LC2 elt x y px py i1 i2 scope pos) 1 it2 acc env) env >>= fun _ =>
          again (.compLoop (LC2 elt x y px py i1 i2 scope pos) 0 it acc env)) := by rfl
theorem step_in (h : wpAny (model prog w) A (pyNext it) (fun r s₁ => match r with
      | none => R (.ok .next) s₁
      | some v => wpAny (model prog w) A (assign (.Name y py) env v) (fun _ s₂ => wpAny (model prog w) A (eval elt env) (fun x₁ s₃ =>
          wpAny (model prog w) A (call (.builtin "list.append") [acc, x₁]) (fun _ s₄ => codeAny (model prog w) A (.compLoop (LC2 elt x y px py i1 i2 scope pos) 1 it acc env) R s₄) (notedBy (model prog w) A env fun e s' => R (.error e) s') s₃)
          (notedBy (model prog w) A env fun e s' => R (.error e) s') s₂) (notedBy (model prog w) A env fun e s' => R (.error e) s') s₁) (notedBy (model prog w) A env fun e s' => R (.error e) s') s) :
    codeAny (model prog w) A (.compLoop (LC2 elt x y px py i1 i2 scope pos) 1 it acc env) R s := by
  refine codeAny_of_tree ?_
  show wpAny _ A ((compTurn (LC2 elt x y px py i1 i2 scope pos) 1 it acc env).onRaise (fun x => do noteFrame x env; theTreesLotGoes x)) _ _ s
  refine wpAny_noted ?_
  rw [turn_in]
  refine wpAny_bind (wpAny_standAt (wpAny_bind (wpAny_mono h (fun r s₁ h₁ => ?_) fun _ _ h' => h')))
  cases r with
  | none => exact wpAny_pure h₁
  | some v =>
    refine wpAny_bind (wpAny_of_eq (show letOwnedTupleGo (.Name y py) it v = pure () from rfl) ?_)
    exact wpAny_bind (wpAny_mono h₁ (fun _ s₂ h₂ => wpAny_bind (wpAny_bind (wpAny_mono h₂ (fun x s₃ h₃ => wpAny_bind (wpAny_mono h₃
      (fun _ s₄ h₄ => wpAny_pure (wpAny_pure ⟨rfl, h₄⟩)) fun _ _ h' => h')) fun _ _ h' => h'))) fun _ _ h' => h')
theorem step_out (hs : ∀ z, foldedSetIterable i2 env z = pure z) (h : wpAny (model prog w) A (pyNext it) (fun r s₁ => match r with
      | none => R (.ok .next) s₁
      | some v => wpAny (model prog w) A (assign (.Name x px) env v) (fun _ s₂ => wpAny (model prog w) A (eval i2 env) (fun z s₃ => wpAny (model prog w) A (pyIter z) (fun it2 s₄ =>
          codeAny (model prog w) A (.compStart (LC2 elt x y px py i1 i2 scope pos) 1 it2 acc env) (fun r s₅ => match r with
            | .ok _ => codeAny (model prog w) A (.compLoop (LC2 elt x y px py i1 i2 scope pos) 0 it acc env) R s₅
            | .error e => cameBackBy (model prog w) A env (notedBy (model prog w) A env fun e s' => R (.error e) s') e s₅) s₄)
          (notedBy (model prog w) A env fun e s' => R (.error e) s') s₃) (notedBy (model prog w) A env fun e s' => R (.error e) s') s₂) (notedBy (model prog w) A env fun e s' => R (.error e) s') s₁) (notedBy (model prog w) A env fun e s' => R (.error e) s') s) :
    codeAny (model prog w) A (.compLoop (LC2 elt x y px py i1 i2 scope pos) 0 it acc env) R s := by
  refine codeAny_of_tree ?_
  show wpAny _ A ((compTurn (LC2 elt x y px py i1 i2 scope pos) 0 it acc env).onRaise (fun x => do noteFrame x env; theTreesLotGoes x)) _ _ s
  refine wpAny_noted ?_
  rw [turn_out]
  refine wpAny_bind (wpAny_standAt (wpAny_bind (wpAny_mono h (fun r s₁ h₁ => ?_) fun _ _ h' => h')))
  cases r with
  | none => exact wpAny_pure h₁
  | some v =>
    refine wpAny_bind (wpAny_of_eq (show letOwnedTupleGo (.Name x px) it v = pure () from rfl) ?_)
    refine wpAny_bind (wpAny_mono h₁ (fun _ s₂ h₂ => wpAny_bind (wpAny_mono h₂ (fun z s₃ h₃ => wpAny_bind (wpAny_standAt (wpAny_bind (wpAny_of_eq (hs z) (wpAny_bind (wpAny_holding (wpAny_mono h₃ (fun it2 s₄ h₄ => wpAny_bind ?_) fun _ _ h' => h'))))))) fun _ _ h' => h')) fun _ _ h' => h')
    refine wpAny_runOwn ?_
    rw [Around.mark_none]
    refine codeAny_mono h₄ (fun r s₅ h₅ => ?_)
    cases r with
    | ok f => exact wpAny_pure ⟨rfl, h₅⟩
    | error e => exact h₅
theorem start_in (h0 : codeAny (model prog w) A (.compLoop (LC2 elt x y px py i1 i2 scope pos) 1 it acc env) R s)
    (h : wpAny (model prog w) A (pyIter it) (fun it' s' => codeAny (model prog w) A (.compLoop (LC2 elt x y px py i1 i2 scope pos) 1 it' acc env) R s') (notedBy (model prog w) A env fun x s' => R (.error x) s') s) :
    codeAny (model prog w) A (.compStart (LC2 elt x y px py i1 i2 scope pos) 1 it acc env) R s := by
  refine codeAny_of_tree ?_
  show wpAny _ A ((compStart (LC2 elt x y px py i1 i2 scope pos) 1 it acc env).onRaise (fun x => do noteFrame x env; standAt theWindowsPlace)) _ _ s
  refine wpAny_notedAt ?_
  unfold compStart
  show wpAny _ _ (ask >>= _) _ _ s
  refine wpAny_bind (wpAny_askSetting (wpAny_ite ?_))
  split
  · first
      | exact wpAny_bind (wpAny_pure (wpAny_pure (And.intro rfl h0)))
      | exact wpAny_pure (And.intro rfl h0)
  · first
      | exact wpAny_bind (wpAny_rule (wpAny_bind (wpAny_standAt (wpAny_bind (wpAny_mono h (fun it' s' h' => wpAny_pure (And.intro rfl h')) fun _ _ x => x)))))
      | (refine wpAny_bind (wpAny_rule ?_); show wpAny _ _ (standAt i2.pos >>= _) _ _ s; exact wpAny_bind (wpAny_standAt (wpAny_bind (wpAny_mono h (fun it' s' h' => wpAny_pure (And.intro rfl h')) fun _ _ x => x))))
end
/-- every object but these stays -/
def Kp (l : List Addr) (h h' : Heap) : Prop := ∀ b o, b ∉ l → h.get? b = some o → h'.get? b = some o
theorem Kp.refl (l : List Addr) (h : Heap) : Kp l h h := fun _ _ _ e => e
theorem Kp.trans {l : List Addr} {h h' h'' : Heap} (a : Kp l h h') (b : Kp l h' h'') : Kp l h h'' := fun x o hx e => b x o hx (a x o hx e)
theorem Kp.of {l : List Addr} {J : Addr} {h h' : Heap} (hJ : J ∈ l) (e : Heap.ExtBut J h h') : Kp l h h' := fun b o hb q => e b o (fun x => hb (x ▸ hJ)) q
theorem Kp.of' {l l' : List Addr} {h h' : Heap} (hJ : ∀ b ∈ l', b ∈ l) (e : Kp l' h h') : Kp l h h' := fun b o hb q => e b o (fun x => hb (hJ b x)) q
section
variable {prog : Program} {w : World} {A : Around} {E : Value → Shared → Prop} {s : Shared} {elt i1 i2 : PySem.Expr} {x y : Str} {px py : Pos} {scope : Scope} {cl : List (Str × Addr)} {pos : Pos} {env : Env}
theorem inner2 {R : Result → Shared → Prop} {J u C D : Addr} {a c d : Int} {ta tc td : Tok} {ys : List Value} {m₂ : Names} (hh : A.handled = none) (hkind : scope.kind = .function) (hy : scope.names.lookup y = some .local) (hxy : x ≠ y)
    (hit : IsTupIter s.heap J u 0) (ht : IsTup s.heap u #[.int c tc, .int d td]) (hn : s.heap.Ns C m₂) (hmx : m₂ x = some (.int a ta)) (hD : s.heap.get? D = some (LCg.lst ys)) (hJC : J ≠ C) (hJD : J ≠ D) (hCD : C ≠ D) (huJ : u ≠ J) (huC : u ≠ C) (huD : u ≠ D) (hsz : ys.length < 1000)
    (helt : ∀ (h : Heap) (tk : Nat) (m₂ : Names) (c' : Int) (tc' : Tok) (E' : Value → Shared → Prop), (c' = c ∨ c' = d) → Kp [J, C, D] s.heap h → h.Ns C m₂ → m₂ x = some (.int a ta) → m₂ y = some (.int c' tc') →
      wpAny (model prog w) A (eval elt (compEnvC scope cl C env)) (fun v s' => ∃ tv tk', v = .int (a * c') tv ∧ s' = { s with heap := h, toks := tk' }) E' { s with heap := h, toks := tk })
    (hR : ∀ h' tk' t1 t2 m₃, Kp [J, C, D] s.heap h' → h'.Ns C m₃ → h'.get? D = some (LCg.lst (ys ++ [.int (a * c) t1] ++ [.int (a * d) t2])) → R (.ok .next) { s with heap := h', toks := tk' }) :
    codeAny (model prog w) A (.compLoop (LC2 elt x y px py i1 i2 scope pos) 1 (.ref J) (.ref D) (compEnvC scope cl C env)) R s := by
  have turn : ∀ (h : Heap) (tk : Nat) (m₂ : Names) (i : Nat) (c' : Int) (tc' : Tok) (ys : List Value), (c' = c ∨ c' = d) → (#[.int c tc, .int d td] : Array Value)[i]? = some (.int c' tc') → ys.length < 2000 → Kp [J, C, D] s.heap h → IsTupIter h J u i → h.Ns C m₂ → m₂ x = some (.int a ta) → h.get? D = some (LCg.lst ys) →
      (∀ h' tk' t1 m₃, Kp [J, C, D] s.heap h' → IsTupIter h' J u (i + 1) → h'.Ns C m₃ → m₃ x = some (.int a ta) → h'.get? D = some (LCg.lst (ys ++ [.int (a * c') t1])) → codeAny (model prog w) A (.compLoop (LC2 elt x y px py i1 i2 scope pos) 1 (.ref J) (.ref D) (compEnvC scope cl C env)) R { s with heap := h', toks := tk' }) →
      codeAny (model prog w) A (.compLoop (LC2 elt x y px py i1 i2 scope pos) 1 (.ref J) (.ref D) (compEnvC scope cl C env)) R { s with heap := h, toks := tk } := by
    intro h tk m₂ i c' tc' ys hc hi hsz K hit hn hmx hD k
    have htu : IsTup h u #[.int c tc, .int d td] := by
      obtain ⟨o, e, r⟩ := ht
      exact ⟨o, K u o (by simp [huJ, huC, huD]) e, r⟩
    refine step_in (next_tuple_item hit htu hi fun h1 hit1 hs1 => ?_)
    have K1 : Kp [J, C, D] s.heap h1 := K.trans (.of (by simp) hs1.extBut)
    have hn1 : h1.Ns C m₂ := hn.at' fun o e => hs1.extBut _ o (Ne.symm hJC) e
    have hD1 := hs1.extBut _ _ (Ne.symm hJD) hD
    refine wpAny_assign_Name (wpAny_storeName_local (lookup_relabel_local hy) hn1 (fun h2 hn2 hs2 => ?_) (by simp [compEnvC, relabel, hkind]))
    have K2 : Kp [J, C, D] s.heap h2 := K1.trans (.of (J := C) (by simp) hs2.extBut)
    have hD2 := hs2.extBut _ _ (Ne.symm hCD) hD1
    have hit2 : IsTupIter h2 J u (i + 1) := by
      obtain ⟨o, e, r⟩ := hit1
      exact ⟨o, hs2.extBut _ _ hJC e, r⟩
    refine wpAny_mono (helt h2 _ _ c' tc' _ hc K2 hn2 (by simp [hxy, hmx]) (by simp)) (fun v s3 h3 => ?_) fun _ _ e => e
    obtain ⟨tv, tk3, rfl, rfl⟩ := h3
    refine append_at (hsz := by show ys.toArray.size ≤ sizeLine; rw [List.size_toArray]; exact Nat.le_trans (Nat.le_of_lt hsz) (by decide)) hD2 fun h5 hs5 hD5 => ?_
    refine k h5 _ tv _ (K2.trans (.of (by simp) hs5.extBut)) ?_ (hn2.at' fun o e => hs5.extBut _ o hCD e) (by simp [hxy, hmx]) (hD5.trans (congrArg some (LCg.lst_snoc ys _)))
    obtain ⟨o, e, r⟩ := hit2
    exact ⟨o, hs5.extBut _ _ hJD e, r⟩
  refine turn s.heap s.toks m₂ 0 c tc ys (.inl rfl) rfl (by omega) (.refl _ _) hit hn hmx hD fun h1 tk1 t1 m₃ K1 hit1 hn1 hm1 hD1 => ?_
  refine turn h1 tk1 m₃ 1 d td _ (.inr rfl) rfl (by simp; omega) K1 hit1 hn1 hm1 hD1 fun h2 tk2 t2 m₄ K2 hit2 hn2 hm2 hD2 => ?_
  have htu : IsTup h2 u #[.int c tc, .int d td] := by
    obtain ⟨o, e, r⟩ := ht
    exact ⟨o, K2 u o (by simp [huJ, huC, huD]) e, r⟩
  refine step_in (next_tuple_end hh hit2 htu rfl fun h3 he3 => ?_)
  refine hR h3 _ t1 t2 m₄ (K2.trans (.of (by simp) he3)) (hn2.at' fun o e => he3 _ o (Ne.symm hJC) e) (he3 _ _ (Ne.symm hJD) hD2)
end
section
variable {prog : Program} {w : World} {A : Around} {E : Value → Shared → Prop} {s : Shared} {elt i1 i2 : PySem.Expr} {x y : Str} {px py : Pos} {scope : Scope} {cl : List (Str × Addr)} {pos : Pos} {env : Env} {h₀ : Heap} {L : Addr} {m : Names} {news : Led}
theorem comp2 {Q : Value → Shared → Prop} {t u : Addr} {a b c d : Int} {ta tb tc td : Tok} {n1 n2 : Nat} (F : Fr h₀ L s.heap m) (N : News h₀ L s.heap news) (hh : A.handled = none)
    (hclos : closureFor scope env = pure cl) (hcell : ∀ y ∈ scope.names, y.2 ≠ .cell) (hkind : scope.kind = .function) (hnames : ∀ y ∈ scope.names, y.2 = .local → scope.names.lookup y.1 = some .local) (hx : scope.names.lookup x = some .local) (hy : scope.names.lookup y = some .local) (hxy : x ≠ y)
    (ht : (t, ({ cls := .type "tuple", data := .seq #[.int a ta, .int b tb] n1 } : Obj)) ∈ news) (hu : (u, ({ cls := .type "tuple", data := .seq #[.int c tc, .int d td] n2 } : Obj)) ∈ news)
    (h1 : wpAny (model prog w) A (eval i1 env) (fun v s' => v = .ref t ∧ ∃ tk, s' = { s with toks := tk }) E s)
    (h2 : ∀ (C : Addr) (h : Heap) (tk : Nat) (E' : Value → Shared → Prop), Fr h₀ L h m → News h₀ L h news → wpAny (model prog w) A (eval i2 (compEnvC scope cl C env)) (fun v s' => v = .ref u ∧ ∃ tk', s' = { s with heap := h, toks := tk' }) E' { s with heap := h, toks := tk })
    (h3 : ∀ (C : Addr) (h : Heap) (tk : Nat) (m₂ : Names) (a' c' : Int) (ta' tc' : Tok) (E' : Value → Shared → Prop), (a' = a ∨ a' = b) → (c' = c ∨ c' = d) → h.Ns C m₂ → m₂ x = some (.int a' ta') → m₂ y = some (.int c' tc') →
      wpAny (model prog w) A (eval elt (compEnvC scope cl C env)) (fun v s' => ∃ tv tk', v = .int (a' * c') tv ∧ s' = { s with heap := h, toks := tk' }) E' { s with heap := h, toks := tk })
    (hQ : ∀ D h tk r1 r2 r3 r4, Fr h₀ L h m → News h₀ L h ((D, LCg.lst [.int (a * c) r1, .int (a * d) r2, .int (b * c) r3, .int (b * d) r4]) :: news) → Q (.ref D) { s with heap := h, toks := tk })
    (hs1 : ∀ z, foldedSetIterable i1 env z = pure z) (hs2 : ∀ C z, foldedSetIterable i2 (compEnvC scope cl C env) z = pure z) :
    wpAny (model prog w) A (eval (LC2 elt x y px py i1 i2 scope pos) env) Q E s := by
  rw [eval_ListComp]
  refine wpAny_comprehension_free (use := none) rfl hs1 hclos hkind hnames (wpAny_mono h1 (fun xv s₁ hv => ?_) fun _ _ e => e)
  obtain ⟨rfl, tk0, rfl⟩ := hv
  have htt : IsTup s.heap t #[.int a ta, .int b tb] := News.isTup N ht
  have huu : IsTup s.heap u #[.int c tc, .int d td] := News.isTup N hu
  refine iter_tuple htt ?_
  dsimp only
  generalize hg : s.heap.push { cls := .type "tuple_iterator", data := .fields #[.ref t, .int 0 0] } = g
  have upg : ∀ b o, s.heap.get? b = some o → g.get? b = some o := fun b o e => hg ▸ Heap.get?_push_of_some _ e
  have hI : IsTupIter g s.heap.objs.size t 0 := ⟨_, hg ▸ Heap.get?_push_size _ rfl, rfl, rfl⟩
  have hgs : g.objs.size = s.heap.objs.size + 1 := by rw [← hg, Heap.size_push]
  refine wpAny_newObj_type (wpAny_newFunctionEnv hcell (by intro y hy; simp at hy) (fun h₁ hns₁ hsb₁ => ?_) hkind)
  dsimp only at hns₁ hsb₁ ⊢
  generalize hH2 : g.push { cls := .type "list", dict := none, data := .seq ([] : List Value).toArray } = H2 at hns₁ hsb₁ ⊢
  have hC : H2.objs.size = g.objs.size + 1 := by rw [← hH2, Heap.size_push]
  have up2 : ∀ b o, g.get? b = some o → H2.get? b = some o := fun b o e => hH2 ▸ Heap.get?_push_of_some _ e
  have hD2 : H2.get? g.objs.size = some (LCg.lst []) := hH2 ▸ Heap.get?_push_size _ rfl
  generalize hIe : s.heap.objs.size = I at hI hgs ⊢
  generalize hDe : g.objs.size = D at hgs hC hD2 ⊢
  generalize hCe : H2.objs.size = C at hC hns₁ hsb₁ ⊢
  have hID : I < D := by omega
  have hDC' : D < C := by omega
  have hIC : I ≠ C := Nat.ne_of_lt (Nat.lt_trans hID hDC')
  have hDC : D ≠ C := Nat.ne_of_lt hDC'
  have hIDn : I ≠ D := Nat.ne_of_lt hID
  have low : ∀ b o, s.heap.get? b = some o → b < I := fun b o e => hIe ▸ Heap.lt_size e
  have old : ∀ b o, s.heap.get? b = some o → b ≠ I ∧ b ≠ D ∧ b ≠ C := fun b o e =>
    ⟨Nat.ne_of_lt (low b o e), Nat.ne_of_lt (Nat.lt_trans (low b o e) hID), Nat.ne_of_lt (Nat.lt_trans (low b o e) (Nat.lt_trans hID hDC'))⟩
  have hLI : L < I := hIe ▸ F.ns.lt
  have fresh₀ : ∀ z, I ≤ z → h₀.get? z = none := fun z hz => by
    cases e : h₀.get? z with
    | none => rfl
    | some o => exact absurd (low z o (F.keep z o e)) (Nat.not_lt.mpr hz)
  have keep1 : ∀ b o, s.heap.get? b = some o → h₁.get? b = some o := fun b o e => hsb₁.extBut b o (old b o e).2.2 (Heap.get?_push_of_some _ (up2 b o (upg b o e)))
  have hI1 : IsTupIter h₁ I t 0 := by
    obtain ⟨o, e, r⟩ := hI
    exact ⟨o, hsb₁.extBut _ _ hIC (Heap.get?_push_of_some _ (up2 _ _ e)), r⟩
  have hD1 : h₁.get? D = some (LCg.lst []) := hsb₁.extBut _ _ hDC (Heap.get?_push_of_some _ hD2)
  have turn : ∀ (R : Result → Shared → Prop) (h : Heap) (tk : Nat) (m₂ : Names) (i : Nat) (a' : Int) (ta' : Tok) (ys : List Value), (a' = a ∨ a' = b) → (#[.int a ta, .int b tb] : Array Value)[i]? = some (.int a' ta') → ys.length < 500 → (∀ b o, s.heap.get? b = some o → h.get? b = some o) → IsTupIter h I t i → h.Ns C m₂ → h.get? D = some (LCg.lst ys) →
      (∀ h' tk' t1 t2 m₃, (∀ b o, s.heap.get? b = some o → h'.get? b = some o) → IsTupIter h' I t (i + 1) → h'.Ns C m₃ → h'.get? D = some (LCg.lst (ys ++ [.int (a' * c) t1] ++ [.int (a' * d) t2])) → codeAny (model prog w) A (.compLoop (LC2 elt x y px py i1 i2 scope pos) 0 (.ref I) (.ref D) (compEnvC scope cl C env)) R { s with heap := h', toks := tk' }) →
      codeAny (model prog w) A (.compLoop (LC2 elt x y px py i1 i2 scope pos) 0 (.ref I) (.ref D) (compEnvC scope cl C env)) R { s with heap := h, toks := tk } := by
    intro R h tk m₂ i a' ta' ys ha hi hsz keep hit hn hD k
    refine step_out (hs2 C) (next_tuple_item hit (htt.keeps keep) hi fun h4 hit1 hs4 => ?_)
    have hD4 := hs4.extBut _ _ (Ne.symm hIDn) hD
    have hn4 : h4.Ns C m₂ := hn.at' fun o e => hs4.extBut _ o (Ne.symm hIC) e
    have keep4 : ∀ b o, s.heap.get? b = some o → h4.get? b = some o := fun b o e => hs4.extBut b o (old b o e).1 (keep b o e)
    refine wpAny_assign_Name (wpAny_storeName_local (lookup_relabel_local hx) hn4 (fun h5 hn5 hs5 => ?_) (by simp [compEnvC, relabel, hkind]))
    have hD5 : h5.get? D = some (LCg.lst ys) := hs5.extBut _ _ hDC hD4
    have keep5 : ∀ b o, s.heap.get? b = some o → h5.get? b = some o := fun b o e => hs5.extBut b o (old b o e).2.2 (keep4 b o e)
    have hit5 : IsTupIter h5 I t (i + 1) := by
      obtain ⟨o, e, r⟩ := hit1
      exact ⟨o, hs5.extBut _ _ hIC e, r⟩
    refine wpAny_mono (h2 C h5 _ _ (F.keeps keep5) (N.grown keep5)) (fun v s6 h6 => ?_) fun _ _ e => e
    obtain ⟨rfl, tk6, rfl⟩ := h6
    refine iter_tuple (huu.keeps keep5) ?_
    dsimp only
    generalize hg6 : h5.push { cls := .type "tuple_iterator", data := .fields #[.ref u, .int 0 0] } = g6
    have up6 : ∀ b o, h5.get? b = some o → g6.get? b = some o := fun b o e => hg6 ▸ Heap.get?_push_of_some _ e
    have hJ6 : IsTupIter g6 h5.objs.size u 0 := ⟨_, hg6 ▸ Heap.get?_push_size _ rfl, rfl, rfl⟩
    have ltJ : ∀ b o, h5.get? b = some o → b ≠ h5.objs.size := fun b o e => Nat.ne_of_lt (Heap.lt_size e)
    have hJC : h5.objs.size ≠ C := by
      obtain ⟨o, _, _, e, _⟩ := hn5
      exact Ne.symm (ltJ _ o e)
    have hJD : h5.objs.size ≠ D := Ne.symm (ltJ _ _ hD5)
    have hJI : I ≠ h5.objs.size := by
      obtain ⟨o, e, r⟩ := hit5
      exact ltJ _ o e
    have hub : ∃ o, s.heap.get? u = some o := by
      obtain ⟨o, e, r⟩ := huu
      exact ⟨o, e⟩
    obtain ⟨ou, eu⟩ := hub
    generalize h5.objs.size = J at hJ6 ltJ hJC hJD hJI ⊢
    have body : codeAny (model prog w) A (.compLoop (LC2 elt x y px py i1 i2 scope pos) 1 (.ref J) (.ref D) (compEnvC scope cl C env)) (fun r s₅ => match r with
            | .ok _ => codeAny (model prog w) A (.compLoop (LC2 elt x y px py i1 i2 scope pos) 0 (.ref I) (.ref D) (compEnvC scope cl C env)) R s₅
            | .error e => cameBackBy (model prog w) A (compEnvC scope cl C env) (notedBy (model prog w) A (compEnvC scope cl C env) fun e s' => R (.error e) s') e s₅) { s with heap := g6, toks := tk6 } := by
      refine inner2 (a := a') (ta := ta') (ys := ys) hh hkind hy hxy hJ6 ((huu.keeps keep5).keeps up6) (hn5.at' fun o e => up6 _ o e) (by simp) (up6 _ _ hD5) hJC hJD (Ne.symm hDC) (ltJ u ou (keep5 _ _ eu)) (old _ _ eu).2.2 (old _ _ eu).2.1 (by omega) ?_ ?_
      · intro h tk m₂ c' tc' E' hc K hn q1 q2
        exact h3 C h tk m₂ a' c' ta' tc' E' ha hc hn q1 q2
      · intro h' tk' t1 t2 m₃ K hn' hD'
        refine k h' tk' t1 t2 m₃ (fun b o e => K b o ?_ (up6 b o (keep5 b o e))) ?_ hn' hD'
        · have := old b o e
          simp [this.2.1, this.2.2, ltJ b o (keep5 b o e)]
        · obtain ⟨o, e, r⟩ := hit5
          exact ⟨o, K I o (by simp [hJI, hIC, hIDn]) (up6 _ _ e), r⟩
    refine start_in body ?_
    refine wpAny_pyIter_tupleiter (s := { s with heap := g6, toks := tk6 }) hJ6 body
  have all : codeAny (model prog w) A (.compLoop (LC2 elt x y px py i1 i2 scope pos) 0 (.ref I) (.ref D) (compEnvC scope cl C env)) (compPost (model prog w) A E none Q (.ref D) C) { s with heap := h₁, toks := tk0 + ([] : List (Str × Value)).length } := by
    refine turn _ h₁ _ _ 0 a ta [] (.inl rfl) rfl (by decide) keep1 hI1 hns₁ hD1 fun h6 tk6 r1 r2 m6 keep6 hit6 hn6 hD6 => ?_
    refine turn _ h6 _ _ 1 b tb _ (.inr rfl) rfl (by simp) keep6 hit6 hn6 hD6 fun h7 tk7 r3 r4 m7 keep7 hit7 hn7 hD7 => ?_
    refine step_out (hs2 C) (next_tuple_end hh hit7 (htt.keeps keep7) rfl fun h8 he8 => ?_)
    have keep8 : ∀ b o, s.heap.get? b = some o → h8.get? b = some o := fun b o e => he8 b o (old b o e).1 (keep7 b o e)
    refine ⟨m7, hn7.at' fun o e => he8 _ o (Ne.symm hIC) e, fun h9 hs9 => ?_⟩
    have keep9 : ∀ b o, s.heap.get? b = some o → h9.get? b = some o := fun b o e => hs9.extBut b o (old b o e).2.2 (keep8 b o e)
    refine hQ D h9 _ r1 r2 r3 r4 (F.keeps keep9) (fun p hp => ?_)
    rcases List.mem_cons.mp hp with rfl | hp
    · exact ⟨hs9.extBut _ _ hDC (he8 _ _ (Ne.symm hIDn) hD7), Ne.symm (Nat.ne_of_lt (Nat.lt_trans hLI hID)), fresh₀ _ (Nat.le_of_lt hID)⟩
    · exact N.grown keep9 p hp
  refine codeAny_compStart_list all ?_
  exact wpAny_pyIter_tupleiter (s := { s with heap := h₁, toks := tk0 + ([] : List (Str × Value)).length }) hI1 all
end
def NewAbove (pre rest rest' : Led) : Prop := ∀ q ∈ rest', q ∈ rest ∨ ∀ p ∈ pre, p.1 < q.1
section
variable {w : World} {f : Addr} {vs : List Value} {news pre rest : Led} {x y : F4} {sz : Nat} {p : Program} {loose : List Str} {mean : ExcName → Option Value} {mg mb : Str → Option Value} {dp un : Nat} {gd : Option (List Code)} {cn : Str} {cs : Scope} {a : Addr} {ccd : Value} {cl : List (Str × Addr)} {outer : List Env} {A₀ : Around} {base h₀ : Heap} {L : Addr} {m : Str → Option Value} {s : Shared} {Q E : Value → Shared → Prop}
theorem useA (D : Does w f vs news (OutA news (OutP x y)) sz) (S : Spl news pre rest) (B : Below A₀ base outer h₀) (F : Fr h₀ L s.heap m) (X : (Mine.hd.heap_39 w.params).In h₀) (N : News h₀ L s.heap news) (T : Top p loose mean mg mb h₀) (hk : cs.kind = .function)
    (hd : dp + sz < recursionLimit) (hu : un + 8 * sz + 200 < cLine)
    (ret : ∀ r rest' h' tk', Fr h₀ L h' m → News h₀ L h' (pre ++ rest') → (∀ q ∈ rest, q ∈ rest') → NewAbove pre rest rest' → IV rest' r x y → Q r { s with heap := h', toks := tk' }) :
    wpAny (model PG w) (ktrTop dp un gd cn cs L a ccd cl outer) (call (.ref f) vs) Q E s := by
  obtain rfl := S.eq
  exact D p loose mean mg mb dp un gd cn cs a ccd cl outer A₀ base h₀ L m s Q E B F X N T hk hd hu fun r news' h' tk' F' N' hs ho => by
    obtain ⟨add, h1, h2⟩ := ho
    refine ret r (add ++ rest) h' tk' F' ?_ (fun q hq => List.mem_append.mpr (.inr hq)) ?_ (h2.mono fun q hq => List.mem_append.mpr (.inl hq))
    · intro q hq
      rcases List.mem_append.mp hq with hq | hq
      · exact N' q (hs q (List.mem_append.mpr (.inl hq)))
      · rcases List.mem_append.mp hq with hq | hq
        · exact N' q (h1 q hq).1
        · exact N' q (hs q (List.mem_append.mpr (.inr hq)))
    · intro q hq
      rcases List.mem_append.mp hq with hq | hq
      · exact .inr fun p hp => (h1 q hq).2 p (List.mem_append.mpr (.inl hp))
      · exact .inl hq
end
theorem off_all {I C D : Addr} {oI oC oD : Obj} {w rest rest' : Led} (h : LCg.Off3 I C D (w ++ rest)) (ha : NewAbove ((I, oI) :: (C, oC) :: (D, oD) :: w) rest rest') : LCg.Off3 I C D (w ++ rest') := by
  refine LCg.Off3.of fun q hq => ?_
  rcases List.mem_append.mp hq with hq | hq
  · exact LCg.Off3.mem h q (List.mem_append.mpr (.inl hq))
  · rcases ha q hq with h1 | h1
    · exact LCg.Off3.mem h q (List.mem_append.mpr (.inr h1))
    · exact ⟨Nat.ne_of_gt (h1 (I, oI) (.head _)), Nat.ne_of_gt (h1 (C, oC) (.tail _ (.head _))), Nat.ne_of_gt (h1 (D, oD) (.tail _ (.tail _ (.head _))))⟩
section
local macro_rules | `(tactic| walk_at "call ref") => `(tactic| (k_here; (with_reducible show wpAny _ _ (call (Value.ref 243) [Value.int _ _, Value.int _ _]) _ _ _); k_dflt (refine' useA (does_intervalA _ _ _ _ _ _) ?S ?B ?F ?X ?N ?T ?hk ?hd ?hu ?_; (case F => k_asm); (case N => k_asm); (case S => repeat' constructor); (case B => k_asm); (case X => k_asm); (case T => k_asm); (case hk => first | exact rfl | assumption); (case hd => ktr_room); (case hu => ktr_units); k_whole; intro r9 l9 h9 tk9 F9 N9 S9 A9 O9; (try simp only [List.nil_append, List.cons_append] at N9); (try k_sweep))))
local macro_rules | `(tactic| walk_at "CompEnd") => `(tactic| (refine' LCg.CompEnd.intro ?F9 ?N9 _ (fun _ h9 => h9) ?off9 ?src9 ?_; (case F9 => k_asm); (case N9 => k_asm); (case off9 => (have q9 := fun h => off_all h (by with_reducible assumption)); exact q9 (by simp only [LCg.Off3, and_true, List.cons_append, List.nil_append]; assumption)); (case src9 => lcg_src)))
theorem chunk_three (w : World) (h₀ : Heap) (L ce cc D E' : Addr) (oe : Obj) (ys : List Value) (m : Names) (t1 t2 t3 : Addr) (i1 j1 i2 j2 i3 j3 : Int) (a1 b1 a2 b2 a3 b3 : Tok) (n n1 n2 n3 : Nat) (hoe : oe.data = .cell (some (.ref E'))) :
    Chunk w 4 [(Str.ofString "ends", ce), (Str.ofString "script", cc)] h₀ L m (EndsL D E' ce oe ys t1 t2 t3 i1 j1 i2 j2 i3 j3 a1 b1 a2 b2 a3 b3 n n1 n2 n3)
      (fun m' news' => ∃ v1 v2 v3, m' = (fun y => if y = Str.ofString "three" then some v3 else if y = Str.ofString "two" then some v2 else if y = Str.ofString "one" then some v1 else m y) ∧ (∀ q ∈ EndsL D E' ce oe ys t1 t2 t3 i1 j1 i2 j2 i3 j3 a1 b1 a2 b2 a3 b3 n n1 n2 n3, q ∈ news') ∧ IV news' v1 (enc i1 (-3)) (enc j1 (-3)) ∧ IV news' v2 (enc i2 (-3)) (enc j2 (-3)) ∧ IV news' v3 (enc i3 (-3)) (enc j3 (-3))) := by
  unfold EndsL
  unfold Chunk
  intro fd st hfd hst p loose mean mg mb dp un gd cn a ccd outer A₀ base s Q B F X N T hd hu hret
  have e := lawFd_of (w := w) (by k_is)
  obtain rfl := Option.some.inj (e.symm.trans hfd)
  clear e hfd
  replace hst := Option.some.inj hst
  subst hst
  (try dsimp only)
  change wpAny _ _ _ _ _ _
  (try k_fold)
  k_steps
  all_goals (try dsimp only)
  all_goals (refine' hret _ _ _ _ ?F9 ?N9 ?_; (case F9 => k_asm); (case N9 => k_asm))
  all_goals exact ⟨_, _, _, rfl, fun q hq => .tail _ (List.mem_append.mpr (.inl hq)), by ktr_rel, by ktr_rel, by ktr_rel⟩
end
theorem prod_out {C : Addr} {vs : List Value} {ns : List Int} {n : Nat} {news : Led} {i1 j1 i2 j2 : Int} (hm : (C, listOf vs.toArray n) ∈ news) (hI : IntsAre vs ns) (hp : ns.Perm [i1 * i2, i1 * j2, j1 * i2, j1 * j2]) (hs : ns.Pairwise (· ≤ ·)) :
    ∃ x1 x2 u0 u1 u2 u3, (C, listOf [.int (mLo i1 j1 i2 j2) u0, .int x1 u1, .int x2 u2, .int (mHi i1 j1 i2 j2) u3].toArray n) ∈ news := by
  obtain ⟨y, z, rfl⟩ := sorted4 hp hs
  obtain ⟨t, u, v, q, rfl⟩ := ints4 hI
  exact ⟨y, z, t, u, v, q, hm⟩
section
local macro_rules | `(tactic| walk_at "eval Name") => `(tactic| (k_here; (with_reducible show wpAny _ _ (eval (Expr.Name _ _) (compEnvC _ _ _ _)) _ _ _); k_dflt (refine' ldVarK ?n ?x ?_ ?k ?l ?d; (case x => assumption); (case n => assumption); (case k => rfl); (case l => rfl); (case d => decide); k_whole)))
theorem chunk_prod (w : World) (h₀ : Heap) (L ce cc D E' : Addr) (oe : Obj) (ys : List Value) (m : Names) (t1 t2 t3 : Addr) (i1 j1 i2 j2 i3 j3 : Int) (a1 b1 a2 b2 a3 b3 : Tok) (n n1 n2 n3 : Nat) (hoe : oe.data = .cell (some (.ref E'))) (rest : Led) (v1 v2 : Value)
    (h1 : m (Str.ofString "one") = some v1) (h2 : m (Str.ofString "two") = some v2) (V1 : IV rest v1 (enc i1 (-3)) (enc j1 (-3))) (V2 : IV rest v2 (enc i2 (-3)) (enc j2 (-3))) (o1 : i1 ≤ j1) (o2 : i2 ≤ j2) (c1 : -80 ≤ i1) (c2 : j1 ≤ 80) (c3 : -80 ≤ i2) (c4 : j2 ≤ 80) :
    Chunk w 5 [(Str.ofString "ends", ce), (Str.ofString "script", cc)] h₀ L m (EndsL D E' ce oe ys t1 t2 t3 i1 j1 i2 j2 i3 j3 a1 b1 a2 b2 a3 b3 n n1 n2 n3 ++ rest)
      (fun m' news' => ∃ vp C n, m' = (fun y => if y = Str.ofString "product" then some vp else if y = Str.ofString "crossed" then some (.ref C) else m y) ∧ (D, LCg.lst ys) ∈ news' ∧ (∀ q ∈ rest, q ∈ news') ∧ IV news' vp (enc (mLo i1 j1 i2 j2) (-3 + -3)) (enc (mHi i1 j1 i2 j2) (-3 + -3)) ∧
        ∃ x1 x2 u0 u1 u2 u3, (C, listOf [.int (mLo i1 j1 i2 j2) u0, .int x1 u1, .int x2 u2, .int (mHi i1 j1 i2 j2) u3].toArray n) ∈ news') := by
  unfold EndsL
  rw [List.cons_append, List.cons_append, List.cons_append, List.cons_append, List.cons_append, List.cons_append, List.nil_append]
  unfold Chunk
  intro fd st hfd hst p loose mean mg mb dp un gd cn a ccd outer A₀ base s Q B F X N T hd hu hret
  have e := lawFd_of (w := w) (by k_is)
  obtain rfl := Option.some.inj (e.symm.trans hfd)
  clear e hfd
  replace hst := Option.some.inj hst
  subst hst
  (try dsimp only)
  change wpAny _ _ _ _ _ _
  (try k_fold)
  k_steps
  all_goals (try dsimp only)
  refine' comp2 (t := t1) (u := t2) ?F ?N rfl ?clos ?cell rfl ?names rfl rfl ?xy ?t ?u ?h1 ?h2 ?h3 ?hQ ?s1 ?s2
  case F => k_asm
  case N => k_asm
  case clos => with_unfolding_all rfl
  case cell => decide
  case names => decide
  case xy => decide
  case t => k_mem
  case u => k_mem
  case s1 => intro _; rfl
  case s2 => intro _ _; rfl
  case h1 =>
    k_steps
  case h2 =>
    intro C h tk E' F' N'
    k_steps
  case h3 =>
    intro C h tk m₂ a' c' ta' tc' E' ha hc hn q1 q2
    have u1 : -80 ≤ a' ∧ a' ≤ 80 := by omega
    have u2 : -80 ≤ c' ∧ c' ≤ 80 := by omega
    clear ha hc
    k_steps
  case hQ =>
    intro C h' tk' r1 r2 r3 r4 F' N'
    k_steps
    all_goals (try dsimp only)
    all_goals (refine' hret _ _ _ _ ?F9 ?N9 ?_; (case F9 => k_asm); (case N9 => k_asm))
    all_goals (refine' ⟨_, _, ?n9, rfl, ?r9⟩; (case r9 => refine' ⟨?a9, ?b9, ?d9, prod_out ?m9 ?i9 ?p9 ?s9⟩; (case a9 => k_mem); (case b9 => ktn_ord); (case d9 => ktr_rel); (case m9 => k_mem); (case i9 => assumption); (case p9 => assumption); (case s9 => assumption)))
end
theorem chunk_if1 (w : World) (h₀ : Heap) (L ce cc C : Addr) (m : Names) (P Q' x1 x2 : Int) (u0 u1 u2 u3 : Tok) (n : Nat) (news : Led) (vp : Value) (hp : m (Str.ofString "product") = some vp) (hc : m (Str.ofString "crossed") = some (.ref C)) (V : IV news vp (enc P (-3 + -3)) (enc Q' (-3 + -3)))
    (hC : (C, listOf [.int P u0, .int x1 u1, .int x2 u2, .int Q' u3].toArray n) ∈ news) :
    Chunk w 6 [(Str.ofString "ends", ce), (Str.ofString "script", cc)] h₀ L m news (fun m' news' => m' = m ∧ ∀ q ∈ news, q ∈ news') := by
  unfold Chunk
  intro fd st hfd hst p loose mean mg mb dp un gd cn a ccd outer A₀ base s Q B F X N T hd hu hret
  have e := lawFd_of (w := w) (by k_is)
  obtain rfl := Option.some.inj (e.symm.trans hfd)
  clear e hfd
  replace hst := Option.some.inj hst
  subst hst
  (try dsimp only)
  change wpAny _ _ _ _ _ _
  (try k_fold)
  k_steps
  all_goals (try dsimp only)
  all_goals (refine' hret _ _ _ _ ?F9 ?N9 ?_; (case F9 => k_asm); (case N9 => k_asm))
  all_goals exact ⟨rfl, by ktn_ord⟩
theorem chunk_sum (w : World) (h₀ : Heap) (L ce cc : Addr) (m : Names) (a b c d e f : Int) (news : Led) (v1 v2 v3 vp : Value) (h1 : m (Str.ofString "one") = some v1) (h2 : m (Str.ofString "two") = some v2) (h3 : m (Str.ofString "three") = some v3) (hp : m (Str.ofString "product") = some vp)
    (V1 : IV news v1 (enc a (-3)) (enc b (-3))) (V2 : IV news v2 (enc c (-3)) (enc d (-3))) (V3 : IV news v3 (enc e (-3)) (enc f (-3))) (VP : IV news vp (enc (mLo a b c d) (-3 + -3)) (enc (mHi a b c d) (-3 + -3)))
    (o1 : a ≤ b) (o2 : c ≤ d) (o3 : e ≤ f) (b1 : -80 ≤ a) (b2 : b ≤ 80) (b3 : -80 ≤ c) (b4 : d ≤ 80) (b5 : -80 ≤ e) (b6 : f ≤ 80) :
    Chunk w 7 [(Str.ofString "ends", ce), (Str.ofString "script", cc)] h₀ L m news (fun m' news' => ∃ vi vo, m' = (fun y => if y = Str.ofString "inner" then some vi else if y = Str.ofString "outer" then some vo else m y) ∧ (∀ q ∈ news, q ∈ news') ∧
      IV news' vi (enc (mLo a b (c + e) (d + f)) (-3 + -3)) (enc (mHi a b (c + e) (d + f)) (-3 + -3)) ∧ IV news' vo (enc (mLo a b c d + mLo a b e f) (-3 + -3)) (enc (mHi a b c d + mHi a b e f) (-3 + -3))) := by
  have k1 := mEnds_small (i := a) (j := b) (x := c) (y := d) (A := 80) (B := 80) (by omega) (by omega) (by omega) (by omega)
  have k2 := mEnds_small (i := a) (j := b) (x := e) (y := f) (A := 80) (B := 80) (by omega) (by omega) (by omega) (by omega)
  obtain ⟨k1, k1'⟩ := k1
  obtain ⟨k2, k2'⟩ := k2
  unfold Chunk
  intro fd st hfd hst p loose mean mg mb dp un gd cn a ccd outer A₀ base s Q B F X N T hd hu hret
  have e := lawFd_of (w := w) (by k_is)
  obtain rfl := Option.some.inj (e.symm.trans hfd)
  clear e hfd
  replace hst := Option.some.inj hst
  subst hst
  (try dsimp only)
  change wpAny _ _ _ _ _ _
  (try k_fold)
  k_steps
  all_goals (try dsimp only)
  all_goals (refine' hret _ _ _ _ ?F9 ?N9 ?_; (case F9 => k_asm); (case N9 => k_asm))
  all_goals refine ⟨_, _, rfl, ?_⟩
  all_goals exact ⟨by ktn_ord, by ktr_rel, by ktr_rel⟩
theorem chunk_in (w : World) (h₀ : Heap) (L ce cc : Addr) (m : Names) (i j x y : Int) (news : Led) (vi vo : Value) (h1 : m (Str.ofString "inner") = some vi) (h2 : m (Str.ofString "outer") = some vo)
    (V1 : IV news vi (enc i (-3 + -3)) (enc j (-3 + -3))) (V2 : IV news vo (enc x (-3 + -3)) (enc y (-3 + -3))) (bi : i.natAbs < 2 ^ 64) (bj : j.natAbs < 2 ^ 64) (bx : x.natAbs < 2 ^ 64) (yb : y.natAbs < 2 ^ 64) (hw1 : x ≤ i) (hw2 : j ≤ y) :
    Chunk w 8 [(Str.ofString "ends", ce), (Str.ofString "script", cc)] h₀ L m news (fun m' news' => m' = m ∧ ∀ q ∈ news, q ∈ news') := by
  unfold Chunk
  intro fd st hfd hst p loose mean mg mb dp un gd cn a ccd outer A₀ base s Q B F X N T hd hu hret
  have e := lawFd_of (w := w) (by k_is)
  obtain rfl := Option.some.inj (e.symm.trans hfd)
  clear e hfd
  replace hst := Option.some.inj hst
  subst hst
  (try dsimp only)
  change wpAny _ _ _ _ _ _
  (try k_fold)
  k_steps
  all_goals (try dsimp only)
  all_goals (refine' hret _ _ _ _ ?F9 ?N9 ?_; (case F9 => k_asm); (case N9 => k_asm))
  all_goals exact ⟨rfl, by ktn_ord⟩
theorem chunk_eq (w : World) (h₀ : Heap) (L ce cc : Addr) (m : Names) (a b c d e f i j x y : Int) (t1 t2 t3 t4 t5 t6 : Tok) (news : Led) (vi vo : Value) (h1 : m (Str.ofString "inner") = some vi) (h2 : m (Str.ofString "outer") = some vo)
    (g1 : m (Str.ofString "low") = some (.int a t1)) (g2 : m (Str.ofString "high") = some (.int b t2)) (g3 : m (Str.ofString "second") = some (.int c t3)) (g4 : m (Str.ofString "further") = some (.int d t4)) (g5 : m (Str.ofString "third") = some (.int e t5)) (g6 : m (Str.ofString "last") = some (.int f t6))
    (V1 : IV news vi (enc i (-3 + -3)) (enc j (-3 + -3))) (V2 : IV news vo (enc x (-3 + -3)) (enc y (-3 + -3))) (hw : (a = b ∨ (0 ≤ c ∧ 0 ≤ e) ∨ (d ≤ 0 ∧ f ≤ 0)) → i = x ∧ j = y) :
    Chunk w 9 [(Str.ofString "ends", ce), (Str.ofString "script", cc)] h₀ L m news (fun m' news' => m' = m ∧ ∀ q ∈ news, q ∈ news') := by
  by_cases hc : a = b ∨ (0 ≤ c ∧ 0 ≤ e) ∨ (d ≤ 0 ∧ f ≤ 0)
  · obtain ⟨q1, q2⟩ := hw hc
    clear hw hc
    unfold Chunk
    intro fd st hfd hst p loose mean mg mb dp un gd cn a ccd outer A₀ base s Q B F X N T hd hu hret
    have e := lawFd_of (w := w) (by k_is)
    obtain rfl := Option.some.inj (e.symm.trans hfd)
    clear e hfd
    replace hst := Option.some.inj hst
    subst hst
    (try dsimp only)
    change wpAny _ _ _ _ _ _
    (try k_fold)
    k_steps
    all_goals (try dsimp only)
    all_goals (refine' hret _ _ _ _ ?F9 ?N9 ?_; (case F9 => k_asm); (case N9 => k_asm))
    all_goals exact ⟨rfl, by ktn_ord⟩
  · clear hw
    by_cases q1 : 0 ≤ c ∧ 0 ≤ e
    · exact absurd (.inr (.inl q1)) hc
    by_cases q2 : d ≤ 0 ∧ f ≤ 0
    · exact absurd (.inr (.inr q2)) hc
    have q3 : a ≠ b := fun h => hc (.inl h)
    clear hc
    have q4 : min c e < 0 := by omega
    have q5 : 0 < max d f := by omega
    clear q1 q2
    unfold Chunk
    intro fd st hfd hst p loose mean mg mb dp un gd cn a ccd outer A₀ base s Q B F X N T hd hu hret
    have e := lawFd_of (w := w) (by k_is)
    obtain rfl := Option.some.inj (e.symm.trans hfd)
    clear e hfd
    replace hst := Option.some.inj hst
    subst hst
    (try dsimp only)
    change wpAny _ _ _ _ _ _
    (try k_fold)
    k_steps
    all_goals (try dsimp only)
    all_goals (refine' hret _ _ _ _ ?F9 ?N9 ?_; (case F9 => k_asm); (case N9 => k_asm))
    all_goals exact ⟨rfl, by ktn_ord⟩
theorem chunk_cut (w : World) (h₀ : Heap) (L ce cc D : Addr) (m : Names) (a b : Int) (t1 t2 : Tok) (ys : List Value) (ds : List Int) (news : Led) (hD : (D, LCg.lst ys) ∈ news) (hI : IntsAre ys ds) (hl : ds.length = 10)
    (h1 : m (Str.ofString "draw") = some (.ref D)) (g1 : m (Str.ofString "low") = some (.int a t1)) (g2 : m (Str.ofString "high") = some (.int b t2)) (o1 : a ≤ b) (b1 : -80 ≤ a) (b2 : b ≤ 80) :
    Chunk w 10 [(Str.ofString "ends", ce), (Str.ofString "script", cc)] h₀ L m news (fun m' news' => ∃ k t, m' = (fun y => if y = Str.ofString "cut" then some (.int k t) else m y) ∧ (∀ q ∈ news, q ∈ news') ∧ a ≤ k ∧ k ≤ b) := by
  unfold Chunk
  intro fd st hfd hst p loose mean mg mb dp un gd cn a ccd outer A₀ base s Q B F X N T hd hu hret
  have e := lawFd_of (w := w) (by k_is)
  obtain rfl := Option.some.inj (e.symm.trans hfd)
  clear e hfd
  replace hst := Option.some.inj hst
  subst hst
  (try dsimp only)
  change wpAny _ _ _ _ _ _
  (try k_fold)
  k_steps
  all_goals (try dsimp only)
  all_goals (refine' hret _ _ _ _ ?F9 ?N9 ?_; (case F9 => k_asm); (case N9 => k_asm))
  all_goals refine ⟨_, _, rfl, ?_⟩
  all_goals exact ⟨by ktn_ord, fm_in o1⟩
theorem chunk_cuts (w : World) (h₀ : Heap) (L ce cc : Addr) (m : Names) (a b c d k : Int) (t1 t2 t3 : Tok) (news : Led) (v2 : Value) (h2 : m (Str.ofString "two") = some v2) (V2 : IV news v2 (enc c (-3)) (enc d (-3)))
    (g1 : m (Str.ofString "low") = some (.int a t1)) (g2 : m (Str.ofString "high") = some (.int b t2)) (g3 : m (Str.ofString "cut") = some (.int k t3)) (o1 : a ≤ k) (o2 : k ≤ b) (o3 : c ≤ d) (b1 : -80 ≤ a) (b2 : b ≤ 80) (b3 : -80 ≤ c) (b4 : d ≤ 80) :
    Chunk w 11 [(Str.ofString "ends", ce), (Str.ofString "script", cc)] h₀ L m news (fun m' news' => ∃ v u, m' = (fun y => if y = Str.ofString "left" then some v else if y = Str.ofString "right" then some u else m y) ∧ (∀ q ∈ news, q ∈ news') ∧
      IV news' v (enc (mLo a k c d) (-3 + -3)) (enc (mHi a k c d) (-3 + -3)) ∧ IV news' u (enc (mLo k b c d) (-3 + -3)) (enc (mHi k b c d) (-3 + -3))) := by
  unfold Chunk
  intro fd st hfd hst p loose mean mg mb dp un gd cn a ccd outer A₀ base s Q B F X N T hd hu hret
  have e := lawFd_of (w := w) (by k_is)
  obtain rfl := Option.some.inj (e.symm.trans hfd)
  clear e hfd
  replace hst := Option.some.inj hst
  subst hst
  (try dsimp only)
  change wpAny _ _ _ _ _ _
  (try k_fold)
  k_steps
  all_goals (try dsimp only)
  all_goals (refine' hret _ _ _ _ ?F9 ?N9 ?_; (case F9 => k_asm); (case N9 => k_asm))
  all_goals refine ⟨_, _, rfl, ?_⟩
  all_goals exact ⟨by ktn_ord, by ktr_rel, by ktr_rel⟩
theorem chunk_if2 (w : World) (h₀ : Heap) (L ce cc : Addr) (m : Names) (i j x y P Q' : Int) (news : Led) (v u vp : Value) (h1 : m (Str.ofString "left") = some v) (h2 : m (Str.ofString "right") = some u) (h3 : m (Str.ofString "product") = some vp)
    (V : IV news v (enc i (-3 + -3)) (enc j (-3 + -3))) (U : IV news u (enc x (-3 + -3)) (enc y (-3 + -3))) (VP : IV news vp (enc P (-3 + -3)) (enc Q' (-3 + -3)))
    (bi : i.natAbs < 2 ^ 64) (bj : j.natAbs < 2 ^ 64) (bx : x.natAbs < 2 ^ 64) (yb : y.natAbs < 2 ^ 64) (e1 : min i x = P) (e2 : max j y = Q') :
    Chunk w 12 [(Str.ofString "ends", ce), (Str.ofString "script", cc)] h₀ L m news (fun m' news' => m' = m ∧ ∀ q ∈ news, q ∈ news') := by
  rcases V with ⟨hM, hx1, hx2⟩
  rcases U with ⟨hM', hx3, hx4⟩
  unfold Chunk
  intro fd st hfd hst p loose mean mg mb dp un gd cn a ccd outer A₀ base s Q B F X N T hd hu hret
  have e := lawFd_of (w := w) (by k_is)
  obtain rfl := Option.some.inj (e.symm.trans hfd)
  clear e hfd
  replace hst := Option.some.inj hst
  subst hst
  (try dsimp only)
  change wpAny _ _ _ _ _ _
  (try k_fold)
  k_steps
  all_goals (try dsimp only)
  all_goals (refine' hret _ _ _ _ ?F9 ?N9 ?_; (case F9 => k_asm); (case N9 => k_asm))
  all_goals exact ⟨rfl, by ktn_ord⟩
section
local macro_rules | `(tactic| walk_at "call ref") => `(tactic| (k_here; (with_reducible show wpAny _ _ (call (Value.ref 198) [_]) _ _ _); k_dflt (refine' use (does_iabs _ _ _ _ _ _ ?p0 ?p1 ?p2 ?p3) ?S ?B ?F ?X ?N ?T ?hk ?hd ?hu ?_; (case F => k_asm); (case N => k_asm); (case p1 => ktr_rel); (case p0 => first | assumption | omega); (case p2 => first | assumption | omega); (case p3 => first | assumption | omega); (case S => repeat' constructor); (case B => k_asm); (case X => k_asm); (case T => k_asm); (case hk => first | exact rfl | assumption); (case hd => ktr_room); (case hu => ktr_units); k_whole; intro r9 l9 h9 tk9 F9 N9 S9 O9; (try simp only [List.nil_append, List.cons_append] at N9); (try unfold OutM at O9); (try unfold OutP at O9); (try k_sweep); (obtain ⟨a9, v9, u9, n9, e9, m9, x9, y9⟩ := IV.out O9); subst e9)))
local macro_rules | `(tactic| walk_at "compareOp NotEq") => `(tactic| (k_here; (with_reducible show wpAny _ _ (compareOp CmpOp.NotEq _ _) _ _ _); k_dflt (refine' ne_same_mv ?F ?X ?N ?v ?u ?r ?a ?c ?_; (case F => k_asm); (case X => k_asm); (case N => k_asm); (case v => ktr_rel); (case u => ktr_rel); (case r => units_room); (case a => first | rfl | first | assumption | omega); (case c => first | rfl | first | assumption | omega); k_whole)))
theorem chunk_if3 (w : World) (h₀ : Heap) (L ce cc : Addr) (m : Names) (a b c d P Q' : Int) (news : Led) (v1 v2 vp : Value) (h1 : m (Str.ofString "one") = some v1) (h2 : m (Str.ofString "two") = some v2) (h3 : m (Str.ofString "product") = some vp)
    (V1 : IV news v1 (enc a (-3)) (enc b (-3))) (V2 : IV news v2 (enc c (-3)) (enc d (-3))) (VP : IV news vp (enc P (-3 + -3)) (enc Q' (-3 + -3)))
    (o1 : a ≤ b) (o2 : c ≤ d) (o3 : P ≤ Q') (b1 : -80 ≤ a) (b2 : b ≤ 80) (b3 : -80 ≤ c) (b4 : d ≤ 80) (bi : P.natAbs < 2 ^ 64) (bj : Q'.natAbs < 2 ^ 64) (e1 : max (-P) Q' = max (-a) b * max (-c) d) :
    Chunk w 13 [(Str.ofString "ends", ce), (Str.ofString "script", cc)] h₀ L m news (fun m' news' => m' = m ∧ ∀ q ∈ news, q ∈ news') := by
  unfold Chunk
  intro fd st hfd hst p loose mean mg mb dp un gd cn a ccd outer A₀ base s Q B F X N T hd hu hret
  have e := lawFd_of (w := w) (by k_is)
  obtain rfl := Option.some.inj (e.symm.trans hfd)
  clear e hfd
  replace hst := Option.some.inj hst
  subst hst
  (try dsimp only)
  change wpAny _ _ _ _ _ _
  (try k_fold)
  k_steps
  all_goals (try dsimp only)
  all_goals (refine' hret _ _ _ _ ?F9 ?N9 ?_; (case F9 => k_asm); (case N9 => k_asm))
  all_goals exact ⟨rfl, by ktn_ord⟩
theorem chunk_if4 (w : World) (h₀ : Heap) (L ce cc : Addr) (m : Names) (a b c d : Int) (news : Led) (v1 v2 : Value) (h1 : m (Str.ofString "one") = some v1) (h2 : m (Str.ofString "two") = some v2)
    (V1 : IV news v1 (enc a (-3)) (enc b (-3))) (V2 : IV news v2 (enc c (-3)) (enc d (-3))) (b1 : -80 ≤ a) (b2 : b ≤ 80) (b3 : -80 ≤ c) (b4 : d ≤ 80) (o1 : a ≤ b) (o2 : c ≤ d) :
    Chunk w 14 [(Str.ofString "ends", ce), (Str.ofString "script", cc)] h₀ L m news (fun m' news' => m' = m ∧ ∀ q ∈ news, q ∈ news') := by
  unfold Chunk
  intro fd st hfd hst p loose mean mg mb dp un gd cn a ccd outer A₀ base s Q B F X N T hd hu hret
  have e := lawFd_of (w := w) (by k_is)
  obtain rfl := Option.some.inj (e.symm.trans hfd)
  clear e hfd
  replace hst := Option.some.inj hst
  subst hst
  (try dsimp only)
  change wpAny _ _ _ _ _ _
  (try k_fold)
  k_steps
  all_goals (try dsimp only)
  all_goals (refine' hret _ _ _ _ ?F9 ?N9 ?_; (case F9 => k_asm); (case N9 => k_asm))
  all_goals exact ⟨rfl, by ktn_ord⟩
end
theorem chunk_if5 (w : World) (h₀ : Heap) (L ce cc : Addr) (m : Names) (a b e f : Int) (t1 t2 t5 t6 : Tok) (news : Led) (v1 v3 : Value) (h1 : m (Str.ofString "one") = some v1) (h2 : m (Str.ofString "three") = some v3)
    (g1 : m (Str.ofString "low") = some (.int a t1)) (g2 : m (Str.ofString "high") = some (.int b t2)) (g5 : m (Str.ofString "third") = some (.int e t5)) (g6 : m (Str.ofString "last") = some (.int f t6))
    (V1 : IV news v1 (enc a (-3)) (enc b (-3))) (V3 : IV news v3 (enc e (-3)) (enc f (-3))) (b1 : -80 ≤ a) (b2 : b ≤ 80) (b3 : -80 ≤ e) (b4 : f ≤ 80) (o1 : a ≤ b) (o2 : e ≤ f) :
    Chunk w 15 [(Str.ofString "ends", ce), (Str.ofString "script", cc)] h₀ L m news (fun m' news' => m' = m ∧ ∀ q ∈ news, q ∈ news') := by
  unfold Chunk
  intro fd st hfd hst p loose mean mg mb dp un gd cn a ccd outer A₀ base s Q B F X N T hd hu hret
  have e := lawFd_of (w := w) (by k_is)
  obtain rfl := Option.some.inj (e.symm.trans hfd)
  clear e hfd
  replace hst := Option.some.inj hst
  subst hst
  (try dsimp only)
  change wpAny _ _ _ _ _ _
  (try k_fold)
  k_steps
  all_goals (try dsimp only)
  all_goals (refine' hret _ _ _ _ ?F9 ?N9 ?_; (case F9 => k_asm); (case N9 => k_asm))
  all_goals exact ⟨rfl, by ktn_ord⟩
theorem fm4 (x : Int) : 1 ≤ 1 + x.fmod 4 ∧ 1 + x.fmod 4 ≤ 4 := by
  rw [Int.fmod_eq_emod_of_nonneg _ (by decide)]; omega
theorem chunk_pows (w : World) (h₀ : Heap) (L ce cc D : Addr) (m : Names) (ys : List Value) (ds : List Int) (news : Led) (hD : (D, LCg.lst ys) ∈ news) (hI : IntsAre ys ds) (hl : ds.length = 10)
    (h1 : m (Str.ofString "draw") = some (.ref D)) :
    Chunk w 16 [(Str.ofString "ends", ce), (Str.ofString "script", cc)] h₀ L m news (fun m' news' => ∃ p q t u, m' = (fun y => if y = Str.ofString "power" then some (.int p t) else if y = Str.ofString "more" then some (.int q u) else m y) ∧ (∀ q ∈ news, q ∈ news') ∧ (1 ≤ p ∧ p ≤ 4) ∧ (1 ≤ q ∧ q ≤ 4)) := by
  unfold Chunk
  intro fd st hfd hst p loose mean mg mb dp un gd cn a ccd outer A₀ base s Q B F X N T hd hu hret
  have e := lawFd_of (w := w) (by k_is)
  obtain rfl := Option.some.inj (e.symm.trans hfd)
  clear e hfd
  replace hst := Option.some.inj hst
  subst hst
  (try dsimp only)
  change wpAny _ _ _ _ _ _
  (try k_fold)
  k_steps
  all_goals (try dsimp only)
  all_goals (refine' hret _ _ _ _ ?F9 ?N9 ?_; (case F9 => k_asm); (case N9 => k_asm))
  all_goals refine ⟨_, _, _, _, rfl, ?_⟩
  all_goals exact ⟨by ktn_ord, fm4 _, fm4 _⟩
theorem chunk_raised (w : World) (h₀ : Heap) (L ce cc : Addr) (m : Names) (a b p q : Int) (tp tq : Tok) (news : Led) (v1 : Value) (h1 : m (Str.ofString "one") = some v1) (g1 : m (Str.ofString "power") = some (.int p tp)) (g2 : m (Str.ofString "more") = some (.int q tq))
    (V1 : IV news v1 (enc a (-3)) (enc b (-3))) (o1 : a ≤ b) (b1 : -80 ≤ a) (b2 : b ≤ 80) (p1 : 1 ≤ p) (p2 : p ≤ 4) (q1 : 1 ≤ q) (q2 : q ≤ 4)
    (s1 : a.natAbs ^ p.toNat < 2 ^ 200) (s2 : b.natAbs ^ p.toNat < 2 ^ 200) (s3 : a.natAbs ^ q.toNat < 2 ^ 200) (s4 : b.natAbs ^ q.toNat < 2 ^ 200) (s5 : a.natAbs ^ (p + q).toNat < 2 ^ 200) (s6 : b.natAbs ^ (p + q).toNat < 2 ^ 200) :
    Chunk w 17 [(Str.ofString "ends", ce), (Str.ofString "script", cc)] h₀ L m news (fun m' news' => ∃ v u x, m' = (fun y => if y = Str.ofString "raised" then some v else if y = Str.ofString "times" then some u else if y = Str.ofString "total" then some x else m y) ∧ (∀ q ∈ news, q ∈ news') ∧
      IV news' v (enc (pLo a b p.toNat) (-3 * p)) (enc (pHi a b p.toNat) (-3 * p)) ∧ IV news' u (enc (pLo a b q.toNat) (-3 * q)) (enc (pHi a b q.toNat) (-3 * q)) ∧ IV news' x (enc (pLo a b (p + q).toNat) (-3 * (p + q))) (enc (pHi a b (p + q).toNat) (-3 * (p + q)))) := by
  unfold Chunk
  intro fd st hfd hst p loose mean mg mb dp un gd cn a ccd outer A₀ base s Q B F X N T hd hu hret
  have e := lawFd_of (w := w) (by k_is)
  obtain rfl := Option.some.inj (e.symm.trans hfd)
  clear e hfd
  replace hst := Option.some.inj hst
  subst hst
  (try dsimp only)
  change wpAny _ _ _ _ _ _
  (try k_fold)
  k_steps
  all_goals (try dsimp only)
  all_goals (refine' hret _ _ _ _ ?F9 ?N9 ?_; (case F9 => k_asm); (case N9 => k_asm))
  all_goals refine ⟨_, _, _, rfl, ?_⟩
  all_goals exact ⟨by ktn_ord, by ktr_rel, by ktr_rel, by ktr_rel⟩
theorem chunk_found (w : World) (h₀ : Heap) (L ce cc : Addr) (m : Names) (a b p q : Int) (t1 t2 tp tq : Tok) (news : Led) (g1 : m (Str.ofString "power") = some (.int p tp)) (g2 : m (Str.ofString "more") = some (.int q tq)) (g3 : m (Str.ofString "low") = some (.int a t1)) (g4 : m (Str.ofString "high") = some (.int b t2))
    (o1 : a ≤ b) (b1 : -80 ≤ a) (b2 : b ≤ 80) (p1 : 1 ≤ p) (p2 : p ≤ 4) (q1 : 1 ≤ q) (q2 : q ≤ 4) :
    Chunk w 18 [(Str.ofString "ends", ce), (Str.ofString "script", cc)] h₀ L m news (fun m' news' => ∃ C, m' = (fun y => if y = Str.ofString "found" then some (.ref C) else m y) ∧ (∀ q ∈ news, q ∈ news') ∧ FoundOut C (pLo a b (p + q).toNat) (pHi a b (p + q).toNat) news') := by
  have hf : ∀ x : Int, x.fmod 2 = x % 2 := fun x => Int.fmod_eq_emod_of_nonneg x (by decide)
  by_cases hc : a < 0 ∧ 0 < b ∧ (p + q) % 2 = 0
  · have hQ := found_mix (a := a) (b := b) (N := (p + q).toNat) ⟨hc.1, hc.2.1, by omega⟩
    obtain ⟨c1, c2, c3⟩ := hc
    rw [← hf] at c3
    clear hf
    unfold Chunk
    intro fd st hfd hst p loose mean mg mb dp un gd cn a ccd outer A₀ base s Q B F X N T hd hu hret
    have e := lawFd_of (w := w) (by k_is)
    obtain rfl := Option.some.inj (e.symm.trans hfd)
    clear e hfd
    replace hst := Option.some.inj hst
    subst hst
    (try dsimp only)
    change wpAny _ _ _ _ _ _
    (try k_fold)
    k_steps
    all_goals (try dsimp only)
    all_goals (refine' hret _ _ _ _ ?F9 ?N9 ?_; (case F9 => k_asm); (case N9 => k_asm))
    all_goals refine ⟨_, rfl, by ktn_ord, ?_⟩
    all_goals exact found3 (by k_mem) (by assumption) (by assumption) (by assumption) hQ
  · have hQ := found_odd (a := a) (b := b) (N := (p + q).toNat) o1 (fun h => hc ⟨h.1, h.2.1, by omega⟩)
    by_cases c1 : a < 0
    · by_cases c2 : 0 < b
      · have c3 : (p + q) % 2 ≠ 0 := fun h => hc ⟨c1, c2, h⟩
        rw [← hf] at c3
        clear hf hc
        unfold Chunk
        intro fd st hfd hst p loose mean mg mb dp un gd cn a ccd outer A₀ base s Q B F X N T hd hu hret
        have e := lawFd_of (w := w) (by k_is)
        obtain rfl := Option.some.inj (e.symm.trans hfd)
        clear e hfd
        replace hst := Option.some.inj hst
        subst hst
        (try dsimp only)
        change wpAny _ _ _ _ _ _
        (try k_fold)
        k_steps
        all_goals (try dsimp only)
        all_goals (refine' hret _ _ _ _ ?F9 ?N9 ?_; (case F9 => k_asm); (case N9 => k_asm))
        all_goals refine ⟨_, rfl, by ktn_ord, ?_⟩
        all_goals exact found2 (by k_mem) (by assumption) (by assumption) (by assumption) hQ
      · clear hf hc
        unfold Chunk
        intro fd st hfd hst p loose mean mg mb dp un gd cn a ccd outer A₀ base s Q B F X N T hd hu hret
        have e := lawFd_of (w := w) (by k_is)
        obtain rfl := Option.some.inj (e.symm.trans hfd)
        clear e hfd
        replace hst := Option.some.inj hst
        subst hst
        (try dsimp only)
        change wpAny _ _ _ _ _ _
        (try k_fold)
        k_steps
        all_goals (try dsimp only)
        all_goals (refine' hret _ _ _ _ ?F9 ?N9 ?_; (case F9 => k_asm); (case N9 => k_asm))
        all_goals refine ⟨_, rfl, by ktn_ord, ?_⟩
        all_goals exact found2 (by k_mem) (by assumption) (by assumption) (by assumption) hQ
    · clear hf hc
      unfold Chunk
      intro fd st hfd hst p loose mean mg mb dp un gd cn a ccd outer A₀ base s Q B F X N T hd hu hret
      have e := lawFd_of (w := w) (by k_is)
      obtain rfl := Option.some.inj (e.symm.trans hfd)
      clear e hfd
      replace hst := Option.some.inj hst
      subst hst
      (try dsimp only)
      change wpAny _ _ _ _ _ _
      (try k_fold)
      k_steps
      all_goals (try dsimp only)
      all_goals (refine' hret _ _ _ _ ?F9 ?N9 ?_; (case F9 => k_asm); (case N9 => k_asm))
      all_goals refine ⟨_, rfl, by ktn_ord, ?_⟩
      all_goals exact found2 (by k_mem) (by assumption) (by assumption) (by assumption) hQ
theorem chunk_if6 (w : World) (h₀ : Heap) (L ce cc C : Addr) (m : Names) (p q P Q' : Int) (tp tq : Tok) (news : Led) (z : Value) (h4 : m (Str.ofString "total") = some z) (g1 : m (Str.ofString "power") = some (.int p tp)) (g2 : m (Str.ofString "more") = some (.int q tq)) (g3 : m (Str.ofString "found") = some (.ref C))
    (Z : IV news z (enc P (-3 * (p + q))) (enc Q' (-3 * (p + q)))) (hF : FoundOut C P Q' news) (p1 : 1 ≤ p) (p2 : p ≤ 4) (q1 : 1 ≤ q) (q2 : q ≤ 4) :
    Chunk w 19 [(Str.ofString "ends", ce), (Str.ofString "script", cc)] h₀ L m news (fun m' news' => m' = m ∧ ∀ q ∈ news, q ∈ news') := by
  obtain ⟨n, ⟨t, u, hC⟩ | ⟨y, t, r, u, hC⟩⟩ := hF
  · skip
    unfold Chunk
    intro fd st hfd hst p loose mean mg mb dp un gd cn a ccd outer A₀ base s Q B F X N T hd hu hret
    have e := lawFd_of (w := w) (by k_is)
    obtain rfl := Option.some.inj (e.symm.trans hfd)
    clear e hfd
    replace hst := Option.some.inj hst
    subst hst
    (try dsimp only)
    change wpAny _ _ _ _ _ _
    (try k_fold)
    k_steps
    all_goals (try dsimp only)
    all_goals (refine' hret _ _ _ _ ?F9 ?N9 ?_; (case F9 => k_asm); (case N9 => k_asm))
    all_goals exact ⟨rfl, by ktn_ord⟩
  · skip
    unfold Chunk
    intro fd st hfd hst p loose mean mg mb dp un gd cn a ccd outer A₀ base s Q B F X N T hd hu hret
    have e := lawFd_of (w := w) (by k_is)
    obtain rfl := Option.some.inj (e.symm.trans hfd)
    clear e hfd
    replace hst := Option.some.inj hst
    subst hst
    (try dsimp only)
    change wpAny _ _ _ _ _ _
    (try k_fold)
    k_steps
    all_goals (try dsimp only)
    all_goals (refine' hret _ _ _ _ ?F9 ?N9 ?_; (case F9 => k_asm); (case N9 => k_asm))
    all_goals exact ⟨rfl, by ktn_ord⟩
theorem chunk_if7 (w : World) (h₀ : Heap) (L ce cc : Addr) (m : Names) (a b p q i j x y k l : Int) (tp tq : Tok) (news : Led) (v1 v u z : Value) (h1 : m (Str.ofString "one") = some v1) (h2 : m (Str.ofString "raised") = some v) (h3 : m (Str.ofString "times") = some u) (h4 : m (Str.ofString "total") = some z) (g1 : m (Str.ofString "power") = some (.int p tp)) (g2 : m (Str.ofString "more") = some (.int q tq))
    (V1 : IV news v1 (enc a (-3)) (enc b (-3))) (V : IV news v (enc i (-3 * p)) (enc j (-3 * p))) (U : IV news u (enc x (-3 * q)) (enc y (-3 * q))) (Z : IV news z (enc k (-3 * p + -3 * q)) (enc l (-3 * p + -3 * q)))
    (o1 : a ≤ b) (b1 : -80 ≤ a) (b2 : b ≤ 80) (p1 : 1 ≤ p) (p2 : p ≤ 4) (q1 : 1 ≤ q) (q2 : q ≤ 4) (r1 : 1 ≤ p * q) (r2 : p * q ≤ 16)
    (o2 : i ≤ j) (o3 : x ≤ y) (bi : i.natAbs < 2 ^ 31) (bj : j.natAbs < 2 ^ 31) (bx : x.natAbs < 2 ^ 31) (yb : y.natAbs < 2 ^ 31) (kb : k.natAbs < 2 ^ 64) (lb : l.natAbs < 2 ^ 64) (mb1 : (mLo i j x y).natAbs < 2 ^ 64) (mb2 : (mHi i j x y).natAbs < 2 ^ 64)
    (e1 : pLo i j q.toNat = pLo a b (p * q).toNat) (e2 : pHi i j q.toNat = pHi a b (p * q).toNat) (e3 : -3 * p * q = -3 * (p * q)) (w1 : mLo i j x y ≤ k) (w2 : l ≤ mHi i j x y)
    (s1 : i.natAbs ^ q.toNat < 2 ^ 200) (s2 : j.natAbs ^ q.toNat < 2 ^ 200) (s5 : a.natAbs ^ (p * q).toNat < 2 ^ 200) (s6 : b.natAbs ^ (p * q).toNat < 2 ^ 200) :
    Chunk w 20 [(Str.ofString "ends", ce), (Str.ofString "script", cc)] h₀ L m news (fun m' news' => m' = m ∧ ∀ q ∈ news, q ∈ news') := by
  unfold Chunk
  intro fd st hfd hst p loose mean mg mb dp un gd cn a ccd outer A₀ base s Q B F X N T hd hu hret
  have e := lawFd_of (w := w) (by k_is)
  obtain rfl := Option.some.inj (e.symm.trans hfd)
  clear e hfd
  replace hst := Option.some.inj hst
  subst hst
  (try dsimp only)
  change wpAny _ _ _ _ _ _
  (try k_fold)
  k_steps
  all_goals (try dsimp only)
  all_goals (refine' hret _ _ _ _ ?F9 ?N9 ?_; (case F9 => k_asm); (case N9 => k_asm))
  all_goals exact ⟨rfl, by ktn_ord⟩
theorem chunk_alike (w : World) (h₀ : Heap) (L ce cc : Addr) (m : Names) (a b p q : Int) (t1 t2 tp tq : Tok) (news : Led) (g1 : m (Str.ofString "power") = some (.int p tp)) (g2 : m (Str.ofString "more") = some (.int q tq)) (g3 : m (Str.ofString "low") = some (.int a t1)) (g4 : m (Str.ofString "high") = some (.int b t2))
    (b1 : -80 ≤ a) (b2 : b ≤ 80) (p1 : 1 ≤ p) (p2 : p ≤ 4) (q1 : 1 ≤ q) (q2 : q ≤ 4) :
    Chunk w 21 [(Str.ofString "ends", ce), (Str.ofString "script", cc)] h₀ L m news (fun m' news' => ∃ c : Bool, m' = (fun y => if y = Str.ofString "alike" then some (.bool c) else m y) ∧ (∀ q ∈ news, q ∈ news') ∧ (c = true ↔ (¬ (a < 0 ∧ 0 < b) ∨ (p % 2 = 0 ∧ q % 2 = 0) ∨ ((p + q) % 2 = 1 ∧ a + b = 0)))) := by
  unfold Chunk
  intro fd st hfd hst p loose mean mg mb dp un gd cn a ccd outer A₀ base s Q B F X N T hd hu hret
  have e := lawFd_of (w := w) (by k_is)
  obtain rfl := Option.some.inj (e.symm.trans hfd)
  clear e hfd
  replace hst := Option.some.inj hst
  subst hst
  (try dsimp only)
  change wpAny _ _ _ _ _ _
  (try k_fold)
  k_steps
  all_goals (try dsimp only)
  all_goals (refine' hret _ _ _ _ ?F9 ?N9 ?_; (case F9 => k_asm); (case N9 => k_asm))
  all_goals refine ⟨_, rfl, ?_⟩
  all_goals refine ⟨by ktn_ord, ?_⟩
  all_goals (simp only [Int.fmod_eq_emod_of_nonneg _ (show (0 : Int) ≤ 2 by decide)] at *; law_clear; first | (simp only [beq_iff_eq]; omega) | (simp only [bne_iff_ne]; omega) | (simp; omega))
section
local macro_rules | `(tactic| walk_at "compareOp Eq ref ref") => `(tactic| (k_here; (with_reducible show wpAny _ _ (compareOp CmpOp.Eq _ _) _ _ _); k_dflt (refine' eq_ends ?F ?X ?N ?v ?u ?r ?c ?_; (case F => k_asm); (case X => k_asm); (case N => k_asm); (case v => ktr_rel); (case u => ktr_rel); (case r => units_room); (case c => first | rfl | first | assumption | omega); k_whole)))
local macro_rules | `(tactic| walk_at "compareOp Eq") => `(tactic| (k_here; (with_reducible show wpAny _ _ (compareOp CmpOp.Eq _ _) _ _ _); k_dflt (refine' eq_ends ?F ?X ?N ?v ?u ?r ?c ?_; (case F => k_asm); (case X => k_asm); (case N => k_asm); (case v => ktr_rel); (case u => ktr_rel); (case r => units_room); (case c => first | rfl | first | assumption | omega); k_whole)))
/-- the law's last statement -/
theorem chunk_ret (w : World) (h₀ : Heap) (L ce cc : Addr) (m : Names) (i j x y k l ex fx gx : Int) (c : Bool) (news : Led) (v u z : Value) (h2 : m (Str.ofString "raised") = some v) (h3 : m (Str.ofString "times") = some u) (h4 : m (Str.ofString "total") = some z) (h5 : m (Str.ofString "alike") = some (.bool c))
    (V : IV news v (enc i ex) (enc j ex)) (U : IV news u (enc x fx) (enc y fx)) (Z : IV news z (enc k gx) (enc l gx)) (e1 : ex + fx = gx) (o2 : i ≤ j) (o3 : x ≤ y) (bi : i.natAbs < 2 ^ 31) (bj : j.natAbs < 2 ^ 31) (bx : x.natAbs < 2 ^ 31) (yb : y.natAbs < 2 ^ 31)
    (hc : decide (mLo i j x y = k ∧ mHi i j x y = l) = c) (fd : FuncData) (st : Stmt) (p : Program) (loose : List Str) (mean : ExcName → Option Value) (mg mb : Str → Option Value) (dp un : Nat) (gd : Option (List Code)) (cn : Str) (a : Addr) (ccd : Value) (outer : List Env) (A₀ : Around) (base : Heap) (s : Shared) (Q : Flow → Shared → Prop) (E : Value → Shared → Prop)
    (hfd : lawFd w = some fd) (hst : (bodyOf fd.body)[22]? = some st)
    (B : Below A₀ base outer h₀) (F : Fr h₀ L s.heap m) (X : (Mine.hd.heap_39 w.params).In h₀) (N : News h₀ L s.heap news) (T : Top p loose mean mg mb h₀) (hd : dp + 40 < recursionLimit) (hu : un + 8 * 40 + 200 < cLine)
    (hret : ∀ h' tk', Fr h₀ L h' m → Q (.ret (.bool true)) { s with heap := h', toks := tk' }) :
    wpAny (model PG w) (ktrTop dp un gd cn fd.scope L a ccd [(Str.ofString "ends", ce), (Str.ofString "script", cc)] outer) (exec st (envX cn fd.scope L a ccd [(Str.ofString "ends", ce), (Str.ofString "script", cc)])) Q E s := by
  have e := lawFd_of (w := w) (by k_is)
  obtain rfl := Option.some.inj (e.symm.trans hfd)
  clear e hfd
  replace hst := Option.some.inj hst
  subst hst
  (try dsimp only)
  change wpAny _ _ _ _ _ _
  (try k_fold)
  k_steps
  all_goals (try dsimp only)
  all_goals (rw [hc, beq_self_eq_true]; exact hret _ _ (by k_asm))
end
theorem law_len {w : World} {fd : FuncData} (h : lawFd w = some fd) : (bodyOf fd.body).length = 23 := by
  have e := lawFd_of (w := w) (by k_is)
  obtain rfl := Option.some.inj (e.symm.trans h)
  rfl
theorem join {w : World} {i : Nat} {cl : List (Str × Addr)} {h₀ : Heap} {L : Addr} {m : Names} {news : Led} {Out : Names → Led → Prop} (c : Chunk w i cl h₀ L m news Out) {fd : FuncData} (hfd : lawFd w = some fd) (hi : i < 23)
    {p : Program} {loose : List Str} {mean : ExcName → Option Value} {mg mb : Str → Option Value} {dp un : Nat} {gd : Option (List Code)} {cn : Str} {a : Addr} {ccd : Value} {outer : List Env} {A₀ : Around} {base : Heap} {s : Shared} {Q : Flow → Shared → Prop} {E : Value → Shared → Prop}
    (B : Below A₀ base outer h₀) (F : Fr h₀ L s.heap m) (X : (Mine.hd.heap_39 w.params).In h₀) (N : News h₀ L s.heap news) (T : Top p loose mean mg mb h₀) (hd : dp + 40 < recursionLimit) (hu : un + 8 * 40 + 200 < cLine)
    (k : ∀ m' news' h' tk', Fr h₀ L h' m' → News h₀ L h' news' → Out m' news' → wpAny (model PG w) (ktrTop dp un gd cn fd.scope L a ccd cl outer) (execs ((bodyOf fd.body).drop (i + 1)) (envX cn fd.scope L a ccd cl)) Q E { s with heap := h', toks := tk' }) :
    wpAny (model PG w) (ktrTop dp un gd cn fd.scope L a ccd cl outer) (execs ((bodyOf fd.body).drop i) (envX cn fd.scope L a ccd cl)) Q E s := by
  have hl : i < (bodyOf fd.body).length := by rw [law_len hfd]; exact hi
  rw [List.drop_eq_getElem_cons hl]
  refine wpAny_execs_cons (wpAny_noRaise ?_)
  exact c fd _ hfd (List.getElem?_eq_getElem hl) p loose mean mg mb dp un gd cn a ccd outer A₀ base s _ B F X N T hd hu k
theorem join_ret {w : World} {i : Nat} {fd : FuncData} (hfd : lawFd w = some fd) (hi : i < 23) {A : Around} {env : Env} {s : Shared} {Q : Flow → Shared → Prop} {E : Value → Shared → Prop}
    (c : ∀ st, (bodyOf fd.body)[i]? = some st → wpAny (model PG w) A (exec st env) (fun f s' => match f with | .next => wpAny (model PG w) A (execs ((bodyOf fd.body).drop (i + 1)) env) Q E s' | f => Q f s') E s) :
    wpAny (model PG w) A (execs ((bodyOf fd.body).drop i) env) Q E s := by
  have hl : i < (bodyOf fd.body).length := by rw [law_len hfd]; exact hi
  rw [List.drop_eq_getElem_cons hl]
  exact wpAny_execs_cons (c _ (List.getElem?_eq_getElem hl))
theorem npow {x N : Nat} (h : x ≤ 80) (hN : N ≤ 16) : x ^ N < 2 ^ 200 :=
  Nat.lt_of_le_of_lt (Nat.le_trans (Nat.pow_le_pow_left h N) (Nat.pow_le_pow_right (by decide) hN)) (show 80 ^ 16 < 2 ^ 200 by decide)
theorem npow2 {x N : Nat} (h : x ≤ 80 ^ 4) (hN : N ≤ 4) : x ^ N < 2 ^ 200 :=
  Nat.lt_of_le_of_lt (Nat.le_trans (Nat.pow_le_pow_left h N) (Nat.pow_le_pow_right (by decide) hN)) (show (80 ^ 4) ^ 4 < 2 ^ 200 by decide)
theorem lt31 {x : Nat} (h : x ≤ 80 ^ 4) : x < 2 ^ 31 := Nat.lt_of_le_of_lt h (by decide)
theorem lt64 {x : Nat} (h : x ≤ 80 ^ 8) : x < 2 ^ 64 := Nat.lt_of_le_of_lt h (by decide)
theorem lt64m {x : Nat} (h : x ≤ 80 ^ 4 * 80 ^ 4) : x < 2 ^ 64 := Nat.lt_of_le_of_lt h (by decide)
theorem pq_bounds {p q : Int} (p1 : 1 ≤ p) (p2 : p ≤ 4) (q1 : 1 ≤ q) (q2 : q ≤ 4) : 1 ≤ p * q ∧ p * q ≤ 16 := by
  rcases (show p = 1 ∨ p = 2 ∨ p = 3 ∨ p = 4 by omega) with rfl | rfl | rfl | rfl <;> omega
theorem law_rest (w : World) (h₀ : Heap) (L ce cc D E' : Addr) (oe : Obj) (ys : List Value) (ds : List Int) (kd : Int) (t1 : Tok) (m : Names) (hoe : oe.data = .cell (some (.ref E'))) (hI : IntsAre ys ds) (hl : ds.length = 10) (hlt : AllLt E' [(ce, oe), (D, LCg.lst ys)])
    (hkd : m (Str.ofString "kind") = some (.int kd t1)) (hdr : m (Str.ofString "draw") = some (.ref D)) {fd : FuncData} (hfd : lawFd w = some fd)
    {p₀ : Program} {loose : List Str} {mean : ExcName → Option Value} {mg mb : Str → Option Value} {dp un : Nat} {gd : Option (List Code)} {cn : Str} {a : Addr} {ccd : Value} {outer : List Env} {A₀ : Around} {base : Heap} {s : Shared} {Q : Flow → Shared → Prop} {E : Value → Shared → Prop}
    (B : Below A₀ base outer h₀) (F : Fr h₀ L s.heap m) (X : (Mine.hd.heap_39 w.params).In h₀) (N : News h₀ L s.heap [(E', listOf #[] 0), (ce, oe), (D, LCg.lst ys)]) (T : Top p₀ loose mean mg mb h₀) (hd : dp + 40 < recursionLimit) (hu : un + 8 * 40 + 200 < cLine)
    (hret : ∀ m' h' tk', Fr h₀ L h' m' → Q (.ret (.bool true)) { s with heap := h', toks := tk' }) :
    wpAny (model PG w) (ktrTop dp un gd cn fd.scope L a ccd [(Str.ofString "ends", ce), (Str.ofString "script", cc)] outer) (execs ((bodyOf fd.body).drop 2) (envX cn fd.scope L a ccd [(Str.ofString "ends", ce), (Str.ofString "script", cc)])) Q E s := by
  refine join (chunk_loop w h₀ L ce cc D E' oe ys ds kd t1 m hoe hI hl hlt hkd hdr) hfd (by decide) B F X N T hd hu ?_
  rintro m₁ news₁ h₁ tk₁ F₁ N₁ ⟨x1, x2, x3, a₁, b₁, c₁, d₁, e₁, f₁, ta, tb, tc, td, te, tf, n, n1, n2, n3, hdr₁, hsub, o1, o2, o3, z1, z2, z3, z4, z5, z6⟩
  replace N₁ := cb_drop N₁ hsub
  clear hsub hkd hdr hlt N F
  refine join (chunk_unpack w h₀ L ce cc D E' oe ys m₁ x1 x2 x3 a₁ b₁ c₁ d₁ e₁ f₁ ta tb tc td te tf n n1 n2 n3 hoe) hfd (by decide) B F₁ X N₁ T hd hu ?_
  rintro m2 news2 h2 tk2 F2 N2 ⟨rfl, hm2⟩
  have g1 : m2 (Str.ofString "low") = some (.int a₁ ta) := by rw [hm2]; show ite _ _ _ = _; first | with_reducible assumption | with_reducible exact if_pos rfl | (refine' Eq.trans (if_neg (of_decide_eq_false ?e8)) ?r8; (case e8 => kernel_rfl); (case r8 => first | with_reducible assumption | with_reducible exact if_pos rfl | (refine' Eq.trans (if_neg (of_decide_eq_false ?e7)) ?r7; (case e7 => kernel_rfl); (case r7 => first | with_reducible assumption | with_reducible exact if_pos rfl | (refine' Eq.trans (if_neg (of_decide_eq_false ?e6)) ?r6; (case e6 => kernel_rfl); (case r6 => first | with_reducible assumption | with_reducible exact if_pos rfl | (refine' Eq.trans (if_neg (of_decide_eq_false ?e5)) ?r5; (case e5 => kernel_rfl); (case r5 => first | with_reducible assumption | with_reducible exact if_pos rfl | (refine' Eq.trans (if_neg (of_decide_eq_false ?e4)) ?r4; (case e4 => kernel_rfl); (case r4 => first | with_reducible assumption | with_reducible exact if_pos rfl | (refine' Eq.trans (if_neg (of_decide_eq_false ?e3)) ?r3; (case e3 => kernel_rfl); (case r3 => first | with_reducible assumption | with_reducible exact if_pos rfl | (refine' Eq.trans (if_neg (of_decide_eq_false ?e2)) ?r2; (case e2 => kernel_rfl); (case r2 => first | with_reducible assumption | with_reducible exact if_pos rfl | (refine' Eq.trans (if_neg (of_decide_eq_false ?e1)) ?r1; (case e1 => kernel_rfl); (case r1 => first | with_reducible assumption | with_reducible exact if_pos rfl))))))))))))))))
  have g2 : m2 (Str.ofString "high") = some (.int b₁ tb) := by rw [hm2]; show ite _ _ _ = _; first | with_reducible assumption | with_reducible exact if_pos rfl | (refine' Eq.trans (if_neg (of_decide_eq_false ?e8)) ?r8; (case e8 => kernel_rfl); (case r8 => first | with_reducible assumption | with_reducible exact if_pos rfl | (refine' Eq.trans (if_neg (of_decide_eq_false ?e7)) ?r7; (case e7 => kernel_rfl); (case r7 => first | with_reducible assumption | with_reducible exact if_pos rfl | (refine' Eq.trans (if_neg (of_decide_eq_false ?e6)) ?r6; (case e6 => kernel_rfl); (case r6 => first | with_reducible assumption | with_reducible exact if_pos rfl | (refine' Eq.trans (if_neg (of_decide_eq_false ?e5)) ?r5; (case e5 => kernel_rfl); (case r5 => first | with_reducible assumption | with_reducible exact if_pos rfl | (refine' Eq.trans (if_neg (of_decide_eq_false ?e4)) ?r4; (case e4 => kernel_rfl); (case r4 => first | with_reducible assumption | with_reducible exact if_pos rfl | (refine' Eq.trans (if_neg (of_decide_eq_false ?e3)) ?r3; (case e3 => kernel_rfl); (case r3 => first | with_reducible assumption | with_reducible exact if_pos rfl | (refine' Eq.trans (if_neg (of_decide_eq_false ?e2)) ?r2; (case e2 => kernel_rfl); (case r2 => first | with_reducible assumption | with_reducible exact if_pos rfl | (refine' Eq.trans (if_neg (of_decide_eq_false ?e1)) ?r1; (case e1 => kernel_rfl); (case r1 => first | with_reducible assumption | with_reducible exact if_pos rfl))))))))))))))))
  have g3 : m2 (Str.ofString "second") = some (.int c₁ tc) := by rw [hm2]; show ite _ _ _ = _; first | with_reducible assumption | with_reducible exact if_pos rfl | (refine' Eq.trans (if_neg (of_decide_eq_false ?e8)) ?r8; (case e8 => kernel_rfl); (case r8 => first | with_reducible assumption | with_reducible exact if_pos rfl | (refine' Eq.trans (if_neg (of_decide_eq_false ?e7)) ?r7; (case e7 => kernel_rfl); (case r7 => first | with_reducible assumption | with_reducible exact if_pos rfl | (refine' Eq.trans (if_neg (of_decide_eq_false ?e6)) ?r6; (case e6 => kernel_rfl); (case r6 => first | with_reducible assumption | with_reducible exact if_pos rfl | (refine' Eq.trans (if_neg (of_decide_eq_false ?e5)) ?r5; (case e5 => kernel_rfl); (case r5 => first | with_reducible assumption | with_reducible exact if_pos rfl | (refine' Eq.trans (if_neg (of_decide_eq_false ?e4)) ?r4; (case e4 => kernel_rfl); (case r4 => first | with_reducible assumption | with_reducible exact if_pos rfl | (refine' Eq.trans (if_neg (of_decide_eq_false ?e3)) ?r3; (case e3 => kernel_rfl); (case r3 => first | with_reducible assumption | with_reducible exact if_pos rfl | (refine' Eq.trans (if_neg (of_decide_eq_false ?e2)) ?r2; (case e2 => kernel_rfl); (case r2 => first | with_reducible assumption | with_reducible exact if_pos rfl | (refine' Eq.trans (if_neg (of_decide_eq_false ?e1)) ?r1; (case e1 => kernel_rfl); (case r1 => first | with_reducible assumption | with_reducible exact if_pos rfl))))))))))))))))
  have g4 : m2 (Str.ofString "further") = some (.int d₁ td) := by rw [hm2]; show ite _ _ _ = _; first | with_reducible assumption | with_reducible exact if_pos rfl | (refine' Eq.trans (if_neg (of_decide_eq_false ?e8)) ?r8; (case e8 => kernel_rfl); (case r8 => first | with_reducible assumption | with_reducible exact if_pos rfl | (refine' Eq.trans (if_neg (of_decide_eq_false ?e7)) ?r7; (case e7 => kernel_rfl); (case r7 => first | with_reducible assumption | with_reducible exact if_pos rfl | (refine' Eq.trans (if_neg (of_decide_eq_false ?e6)) ?r6; (case e6 => kernel_rfl); (case r6 => first | with_reducible assumption | with_reducible exact if_pos rfl | (refine' Eq.trans (if_neg (of_decide_eq_false ?e5)) ?r5; (case e5 => kernel_rfl); (case r5 => first | with_reducible assumption | with_reducible exact if_pos rfl | (refine' Eq.trans (if_neg (of_decide_eq_false ?e4)) ?r4; (case e4 => kernel_rfl); (case r4 => first | with_reducible assumption | with_reducible exact if_pos rfl | (refine' Eq.trans (if_neg (of_decide_eq_false ?e3)) ?r3; (case e3 => kernel_rfl); (case r3 => first | with_reducible assumption | with_reducible exact if_pos rfl | (refine' Eq.trans (if_neg (of_decide_eq_false ?e2)) ?r2; (case e2 => kernel_rfl); (case r2 => first | with_reducible assumption | with_reducible exact if_pos rfl | (refine' Eq.trans (if_neg (of_decide_eq_false ?e1)) ?r1; (case e1 => kernel_rfl); (case r1 => first | with_reducible assumption | with_reducible exact if_pos rfl))))))))))))))))
  have g5 : m2 (Str.ofString "third") = some (.int e₁ te) := by rw [hm2]; show ite _ _ _ = _; first | with_reducible assumption | with_reducible exact if_pos rfl | (refine' Eq.trans (if_neg (of_decide_eq_false ?e8)) ?r8; (case e8 => kernel_rfl); (case r8 => first | with_reducible assumption | with_reducible exact if_pos rfl | (refine' Eq.trans (if_neg (of_decide_eq_false ?e7)) ?r7; (case e7 => kernel_rfl); (case r7 => first | with_reducible assumption | with_reducible exact if_pos rfl | (refine' Eq.trans (if_neg (of_decide_eq_false ?e6)) ?r6; (case e6 => kernel_rfl); (case r6 => first | with_reducible assumption | with_reducible exact if_pos rfl | (refine' Eq.trans (if_neg (of_decide_eq_false ?e5)) ?r5; (case e5 => kernel_rfl); (case r5 => first | with_reducible assumption | with_reducible exact if_pos rfl | (refine' Eq.trans (if_neg (of_decide_eq_false ?e4)) ?r4; (case e4 => kernel_rfl); (case r4 => first | with_reducible assumption | with_reducible exact if_pos rfl | (refine' Eq.trans (if_neg (of_decide_eq_false ?e3)) ?r3; (case e3 => kernel_rfl); (case r3 => first | with_reducible assumption | with_reducible exact if_pos rfl | (refine' Eq.trans (if_neg (of_decide_eq_false ?e2)) ?r2; (case e2 => kernel_rfl); (case r2 => first | with_reducible assumption | with_reducible exact if_pos rfl | (refine' Eq.trans (if_neg (of_decide_eq_false ?e1)) ?r1; (case e1 => kernel_rfl); (case r1 => first | with_reducible assumption | with_reducible exact if_pos rfl))))))))))))))))
  have g6 : m2 (Str.ofString "last") = some (.int f₁ tf) := by rw [hm2]; show ite _ _ _ = _; first | with_reducible assumption | with_reducible exact if_pos rfl | (refine' Eq.trans (if_neg (of_decide_eq_false ?e8)) ?r8; (case e8 => kernel_rfl); (case r8 => first | with_reducible assumption | with_reducible exact if_pos rfl | (refine' Eq.trans (if_neg (of_decide_eq_false ?e7)) ?r7; (case e7 => kernel_rfl); (case r7 => first | with_reducible assumption | with_reducible exact if_pos rfl | (refine' Eq.trans (if_neg (of_decide_eq_false ?e6)) ?r6; (case e6 => kernel_rfl); (case r6 => first | with_reducible assumption | with_reducible exact if_pos rfl | (refine' Eq.trans (if_neg (of_decide_eq_false ?e5)) ?r5; (case e5 => kernel_rfl); (case r5 => first | with_reducible assumption | with_reducible exact if_pos rfl | (refine' Eq.trans (if_neg (of_decide_eq_false ?e4)) ?r4; (case e4 => kernel_rfl); (case r4 => first | with_reducible assumption | with_reducible exact if_pos rfl | (refine' Eq.trans (if_neg (of_decide_eq_false ?e3)) ?r3; (case e3 => kernel_rfl); (case r3 => first | with_reducible assumption | with_reducible exact if_pos rfl | (refine' Eq.trans (if_neg (of_decide_eq_false ?e2)) ?r2; (case e2 => kernel_rfl); (case r2 => first | with_reducible assumption | with_reducible exact if_pos rfl | (refine' Eq.trans (if_neg (of_decide_eq_false ?e1)) ?r1; (case e1 => kernel_rfl); (case r1 => first | with_reducible assumption | with_reducible exact if_pos rfl))))))))))))))))
  have g0 : m2 (Str.ofString "draw") = some (.ref D) := by rw [hm2]; show ite _ _ _ = _; first | with_reducible assumption | with_reducible exact if_pos rfl | (refine' Eq.trans (if_neg (of_decide_eq_false ?e8)) ?r8; (case e8 => kernel_rfl); (case r8 => first | with_reducible assumption | with_reducible exact if_pos rfl | (refine' Eq.trans (if_neg (of_decide_eq_false ?e7)) ?r7; (case e7 => kernel_rfl); (case r7 => first | with_reducible assumption | with_reducible exact if_pos rfl | (refine' Eq.trans (if_neg (of_decide_eq_false ?e6)) ?r6; (case e6 => kernel_rfl); (case r6 => first | with_reducible assumption | with_reducible exact if_pos rfl | (refine' Eq.trans (if_neg (of_decide_eq_false ?e5)) ?r5; (case e5 => kernel_rfl); (case r5 => first | with_reducible assumption | with_reducible exact if_pos rfl | (refine' Eq.trans (if_neg (of_decide_eq_false ?e4)) ?r4; (case e4 => kernel_rfl); (case r4 => first | with_reducible assumption | with_reducible exact if_pos rfl | (refine' Eq.trans (if_neg (of_decide_eq_false ?e3)) ?r3; (case e3 => kernel_rfl); (case r3 => first | with_reducible assumption | with_reducible exact if_pos rfl | (refine' Eq.trans (if_neg (of_decide_eq_false ?e2)) ?r2; (case e2 => kernel_rfl); (case r2 => first | with_reducible assumption | with_reducible exact if_pos rfl | (refine' Eq.trans (if_neg (of_decide_eq_false ?e1)) ?r1; (case e1 => kernel_rfl); (case r1 => first | with_reducible assumption | with_reducible exact if_pos rfl))))))))))))))))
  clear hm2 hdr₁ F₁ N₁
  refine join (chunk_three w h₀ L ce cc D E' oe ys m2 x1 x2 x3 a₁ b₁ c₁ d₁ e₁ f₁ ta tb tc td te tf n n1 n2 n3 hoe) hfd (by decide) B F2 X N2 T hd hu ?_
  rintro m3 news3 h3 tk3 F3 N3 ⟨v1, v2, v3, hm3, hsub, V1, V2, V3⟩
  replace g0 : m3 (Str.ofString "draw") = some (.ref D) := by rw [hm3]; show ite _ _ _ = _; first | with_reducible assumption | with_reducible exact if_pos rfl | (refine' Eq.trans (if_neg (of_decide_eq_false ?e8)) ?r8; (case e8 => kernel_rfl); (case r8 => first | with_reducible assumption | with_reducible exact if_pos rfl | (refine' Eq.trans (if_neg (of_decide_eq_false ?e7)) ?r7; (case e7 => kernel_rfl); (case r7 => first | with_reducible assumption | with_reducible exact if_pos rfl | (refine' Eq.trans (if_neg (of_decide_eq_false ?e6)) ?r6; (case e6 => kernel_rfl); (case r6 => first | with_reducible assumption | with_reducible exact if_pos rfl | (refine' Eq.trans (if_neg (of_decide_eq_false ?e5)) ?r5; (case e5 => kernel_rfl); (case r5 => first | with_reducible assumption | with_reducible exact if_pos rfl | (refine' Eq.trans (if_neg (of_decide_eq_false ?e4)) ?r4; (case e4 => kernel_rfl); (case r4 => first | with_reducible assumption | with_reducible exact if_pos rfl | (refine' Eq.trans (if_neg (of_decide_eq_false ?e3)) ?r3; (case e3 => kernel_rfl); (case r3 => first | with_reducible assumption | with_reducible exact if_pos rfl | (refine' Eq.trans (if_neg (of_decide_eq_false ?e2)) ?r2; (case e2 => kernel_rfl); (case r2 => first | with_reducible assumption | with_reducible exact if_pos rfl | (refine' Eq.trans (if_neg (of_decide_eq_false ?e1)) ?r1; (case e1 => kernel_rfl); (case r1 => first | with_reducible assumption | with_reducible exact if_pos rfl))))))))))))))))
  replace g1 : m3 (Str.ofString "low") = some (.int a₁ ta) := by rw [hm3]; show ite _ _ _ = _; first | with_reducible assumption | with_reducible exact if_pos rfl | (refine' Eq.trans (if_neg (of_decide_eq_false ?e8)) ?r8; (case e8 => kernel_rfl); (case r8 => first | with_reducible assumption | with_reducible exact if_pos rfl | (refine' Eq.trans (if_neg (of_decide_eq_false ?e7)) ?r7; (case e7 => kernel_rfl); (case r7 => first | with_reducible assumption | with_reducible exact if_pos rfl | (refine' Eq.trans (if_neg (of_decide_eq_false ?e6)) ?r6; (case e6 => kernel_rfl); (case r6 => first | with_reducible assumption | with_reducible exact if_pos rfl | (refine' Eq.trans (if_neg (of_decide_eq_false ?e5)) ?r5; (case e5 => kernel_rfl); (case r5 => first | with_reducible assumption | with_reducible exact if_pos rfl | (refine' Eq.trans (if_neg (of_decide_eq_false ?e4)) ?r4; (case e4 => kernel_rfl); (case r4 => first | with_reducible assumption | with_reducible exact if_pos rfl | (refine' Eq.trans (if_neg (of_decide_eq_false ?e3)) ?r3; (case e3 => kernel_rfl); (case r3 => first | with_reducible assumption | with_reducible exact if_pos rfl | (refine' Eq.trans (if_neg (of_decide_eq_false ?e2)) ?r2; (case e2 => kernel_rfl); (case r2 => first | with_reducible assumption | with_reducible exact if_pos rfl | (refine' Eq.trans (if_neg (of_decide_eq_false ?e1)) ?r1; (case e1 => kernel_rfl); (case r1 => first | with_reducible assumption | with_reducible exact if_pos rfl))))))))))))))))
  replace g2 : m3 (Str.ofString "high") = some (.int b₁ tb) := by rw [hm3]; show ite _ _ _ = _; first | with_reducible assumption | with_reducible exact if_pos rfl | (refine' Eq.trans (if_neg (of_decide_eq_false ?e8)) ?r8; (case e8 => kernel_rfl); (case r8 => first | with_reducible assumption | with_reducible exact if_pos rfl | (refine' Eq.trans (if_neg (of_decide_eq_false ?e7)) ?r7; (case e7 => kernel_rfl); (case r7 => first | with_reducible assumption | with_reducible exact if_pos rfl | (refine' Eq.trans (if_neg (of_decide_eq_false ?e6)) ?r6; (case e6 => kernel_rfl); (case r6 => first | with_reducible assumption | with_reducible exact if_pos rfl | (refine' Eq.trans (if_neg (of_decide_eq_false ?e5)) ?r5; (case e5 => kernel_rfl); (case r5 => first | with_reducible assumption | with_reducible exact if_pos rfl | (refine' Eq.trans (if_neg (of_decide_eq_false ?e4)) ?r4; (case e4 => kernel_rfl); (case r4 => first | with_reducible assumption | with_reducible exact if_pos rfl | (refine' Eq.trans (if_neg (of_decide_eq_false ?e3)) ?r3; (case e3 => kernel_rfl); (case r3 => first | with_reducible assumption | with_reducible exact if_pos rfl | (refine' Eq.trans (if_neg (of_decide_eq_false ?e2)) ?r2; (case e2 => kernel_rfl); (case r2 => first | with_reducible assumption | with_reducible exact if_pos rfl | (refine' Eq.trans (if_neg (of_decide_eq_false ?e1)) ?r1; (case e1 => kernel_rfl); (case r1 => first | with_reducible assumption | with_reducible exact if_pos rfl))))))))))))))))
  replace g3 : m3 (Str.ofString "second") = some (.int c₁ tc) := by rw [hm3]; show ite _ _ _ = _; first | with_reducible assumption | with_reducible exact if_pos rfl | (refine' Eq.trans (if_neg (of_decide_eq_false ?e8)) ?r8; (case e8 => kernel_rfl); (case r8 => first | with_reducible assumption | with_reducible exact if_pos rfl | (refine' Eq.trans (if_neg (of_decide_eq_false ?e7)) ?r7; (case e7 => kernel_rfl); (case r7 => first | with_reducible assumption | with_reducible exact if_pos rfl | (refine' Eq.trans (if_neg (of_decide_eq_false ?e6)) ?r6; (case e6 => kernel_rfl); (case r6 => first | with_reducible assumption | with_reducible exact if_pos rfl | (refine' Eq.trans (if_neg (of_decide_eq_false ?e5)) ?r5; (case e5 => kernel_rfl); (case r5 => first | with_reducible assumption | with_reducible exact if_pos rfl | (refine' Eq.trans (if_neg (of_decide_eq_false ?e4)) ?r4; (case e4 => kernel_rfl); (case r4 => first | with_reducible assumption | with_reducible exact if_pos rfl | (refine' Eq.trans (if_neg (of_decide_eq_false ?e3)) ?r3; (case e3 => kernel_rfl); (case r3 => first | with_reducible assumption | with_reducible exact if_pos rfl | (refine' Eq.trans (if_neg (of_decide_eq_false ?e2)) ?r2; (case e2 => kernel_rfl); (case r2 => first | with_reducible assumption | with_reducible exact if_pos rfl | (refine' Eq.trans (if_neg (of_decide_eq_false ?e1)) ?r1; (case e1 => kernel_rfl); (case r1 => first | with_reducible assumption | with_reducible exact if_pos rfl))))))))))))))))
  replace g4 : m3 (Str.ofString "further") = some (.int d₁ td) := by rw [hm3]; show ite _ _ _ = _; first | with_reducible assumption | with_reducible exact if_pos rfl | (refine' Eq.trans (if_neg (of_decide_eq_false ?e8)) ?r8; (case e8 => kernel_rfl); (case r8 => first | with_reducible assumption | with_reducible exact if_pos rfl | (refine' Eq.trans (if_neg (of_decide_eq_false ?e7)) ?r7; (case e7 => kernel_rfl); (case r7 => first | with_reducible assumption | with_reducible exact if_pos rfl | (refine' Eq.trans (if_neg (of_decide_eq_false ?e6)) ?r6; (case e6 => kernel_rfl); (case r6 => first | with_reducible assumption | with_reducible exact if_pos rfl | (refine' Eq.trans (if_neg (of_decide_eq_false ?e5)) ?r5; (case e5 => kernel_rfl); (case r5 => first | with_reducible assumption | with_reducible exact if_pos rfl | (refine' Eq.trans (if_neg (of_decide_eq_false ?e4)) ?r4; (case e4 => kernel_rfl); (case r4 => first | with_reducible assumption | with_reducible exact if_pos rfl | (refine' Eq.trans (if_neg (of_decide_eq_false ?e3)) ?r3; (case e3 => kernel_rfl); (case r3 => first | with_reducible assumption | with_reducible exact if_pos rfl | (refine' Eq.trans (if_neg (of_decide_eq_false ?e2)) ?r2; (case e2 => kernel_rfl); (case r2 => first | with_reducible assumption | with_reducible exact if_pos rfl | (refine' Eq.trans (if_neg (of_decide_eq_false ?e1)) ?r1; (case e1 => kernel_rfl); (case r1 => first | with_reducible assumption | with_reducible exact if_pos rfl))))))))))))))))
  replace g5 : m3 (Str.ofString "third") = some (.int e₁ te) := by rw [hm3]; show ite _ _ _ = _; first | with_reducible assumption | with_reducible exact if_pos rfl | (refine' Eq.trans (if_neg (of_decide_eq_false ?e8)) ?r8; (case e8 => kernel_rfl); (case r8 => first | with_reducible assumption | with_reducible exact if_pos rfl | (refine' Eq.trans (if_neg (of_decide_eq_false ?e7)) ?r7; (case e7 => kernel_rfl); (case r7 => first | with_reducible assumption | with_reducible exact if_pos rfl | (refine' Eq.trans (if_neg (of_decide_eq_false ?e6)) ?r6; (case e6 => kernel_rfl); (case r6 => first | with_reducible assumption | with_reducible exact if_pos rfl | (refine' Eq.trans (if_neg (of_decide_eq_false ?e5)) ?r5; (case e5 => kernel_rfl); (case r5 => first | with_reducible assumption | with_reducible exact if_pos rfl | (refine' Eq.trans (if_neg (of_decide_eq_false ?e4)) ?r4; (case e4 => kernel_rfl); (case r4 => first | with_reducible assumption | with_reducible exact if_pos rfl | (refine' Eq.trans (if_neg (of_decide_eq_false ?e3)) ?r3; (case e3 => kernel_rfl); (case r3 => first | with_reducible assumption | with_reducible exact if_pos rfl | (refine' Eq.trans (if_neg (of_decide_eq_false ?e2)) ?r2; (case e2 => kernel_rfl); (case r2 => first | with_reducible assumption | with_reducible exact if_pos rfl | (refine' Eq.trans (if_neg (of_decide_eq_false ?e1)) ?r1; (case e1 => kernel_rfl); (case r1 => first | with_reducible assumption | with_reducible exact if_pos rfl))))))))))))))))
  replace g6 : m3 (Str.ofString "last") = some (.int f₁ tf) := by rw [hm3]; show ite _ _ _ = _; first | with_reducible assumption | with_reducible exact if_pos rfl | (refine' Eq.trans (if_neg (of_decide_eq_false ?e8)) ?r8; (case e8 => kernel_rfl); (case r8 => first | with_reducible assumption | with_reducible exact if_pos rfl | (refine' Eq.trans (if_neg (of_decide_eq_false ?e7)) ?r7; (case e7 => kernel_rfl); (case r7 => first | with_reducible assumption | with_reducible exact if_pos rfl | (refine' Eq.trans (if_neg (of_decide_eq_false ?e6)) ?r6; (case e6 => kernel_rfl); (case r6 => first | with_reducible assumption | with_reducible exact if_pos rfl | (refine' Eq.trans (if_neg (of_decide_eq_false ?e5)) ?r5; (case e5 => kernel_rfl); (case r5 => first | with_reducible assumption | with_reducible exact if_pos rfl | (refine' Eq.trans (if_neg (of_decide_eq_false ?e4)) ?r4; (case e4 => kernel_rfl); (case r4 => first | with_reducible assumption | with_reducible exact if_pos rfl | (refine' Eq.trans (if_neg (of_decide_eq_false ?e3)) ?r3; (case e3 => kernel_rfl); (case r3 => first | with_reducible assumption | with_reducible exact if_pos rfl | (refine' Eq.trans (if_neg (of_decide_eq_false ?e2)) ?r2; (case e2 => kernel_rfl); (case r2 => first | with_reducible assumption | with_reducible exact if_pos rfl | (refine' Eq.trans (if_neg (of_decide_eq_false ?e1)) ?r1; (case e1 => kernel_rfl); (case r1 => first | with_reducible assumption | with_reducible exact if_pos rfl))))))))))))))))
  have k1 : m3 (Str.ofString "one") = some v1 := by rw [hm3]; show ite _ _ _ = _; first | with_reducible assumption | with_reducible exact if_pos rfl | (refine' Eq.trans (if_neg (of_decide_eq_false ?e8)) ?r8; (case e8 => kernel_rfl); (case r8 => first | with_reducible assumption | with_reducible exact if_pos rfl | (refine' Eq.trans (if_neg (of_decide_eq_false ?e7)) ?r7; (case e7 => kernel_rfl); (case r7 => first | with_reducible assumption | with_reducible exact if_pos rfl | (refine' Eq.trans (if_neg (of_decide_eq_false ?e6)) ?r6; (case e6 => kernel_rfl); (case r6 => first | with_reducible assumption | with_reducible exact if_pos rfl | (refine' Eq.trans (if_neg (of_decide_eq_false ?e5)) ?r5; (case e5 => kernel_rfl); (case r5 => first | with_reducible assumption | with_reducible exact if_pos rfl | (refine' Eq.trans (if_neg (of_decide_eq_false ?e4)) ?r4; (case e4 => kernel_rfl); (case r4 => first | with_reducible assumption | with_reducible exact if_pos rfl | (refine' Eq.trans (if_neg (of_decide_eq_false ?e3)) ?r3; (case e3 => kernel_rfl); (case r3 => first | with_reducible assumption | with_reducible exact if_pos rfl | (refine' Eq.trans (if_neg (of_decide_eq_false ?e2)) ?r2; (case e2 => kernel_rfl); (case r2 => first | with_reducible assumption | with_reducible exact if_pos rfl | (refine' Eq.trans (if_neg (of_decide_eq_false ?e1)) ?r1; (case e1 => kernel_rfl); (case r1 => first | with_reducible assumption | with_reducible exact if_pos rfl))))))))))))))))
  have k2 : m3 (Str.ofString "two") = some v2 := by rw [hm3]; show ite _ _ _ = _; first | with_reducible assumption | with_reducible exact if_pos rfl | (refine' Eq.trans (if_neg (of_decide_eq_false ?e8)) ?r8; (case e8 => kernel_rfl); (case r8 => first | with_reducible assumption | with_reducible exact if_pos rfl | (refine' Eq.trans (if_neg (of_decide_eq_false ?e7)) ?r7; (case e7 => kernel_rfl); (case r7 => first | with_reducible assumption | with_reducible exact if_pos rfl | (refine' Eq.trans (if_neg (of_decide_eq_false ?e6)) ?r6; (case e6 => kernel_rfl); (case r6 => first | with_reducible assumption | with_reducible exact if_pos rfl | (refine' Eq.trans (if_neg (of_decide_eq_false ?e5)) ?r5; (case e5 => kernel_rfl); (case r5 => first | with_reducible assumption | with_reducible exact if_pos rfl | (refine' Eq.trans (if_neg (of_decide_eq_false ?e4)) ?r4; (case e4 => kernel_rfl); (case r4 => first | with_reducible assumption | with_reducible exact if_pos rfl | (refine' Eq.trans (if_neg (of_decide_eq_false ?e3)) ?r3; (case e3 => kernel_rfl); (case r3 => first | with_reducible assumption | with_reducible exact if_pos rfl | (refine' Eq.trans (if_neg (of_decide_eq_false ?e2)) ?r2; (case e2 => kernel_rfl); (case r2 => first | with_reducible assumption | with_reducible exact if_pos rfl | (refine' Eq.trans (if_neg (of_decide_eq_false ?e1)) ?r1; (case e1 => kernel_rfl); (case r1 => first | with_reducible assumption | with_reducible exact if_pos rfl))))))))))))))))
  have k3 : m3 (Str.ofString "three") = some v3 := by rw [hm3]; show ite _ _ _ = _; first | with_reducible assumption | with_reducible exact if_pos rfl | (refine' Eq.trans (if_neg (of_decide_eq_false ?e8)) ?r8; (case e8 => kernel_rfl); (case r8 => first | with_reducible assumption | with_reducible exact if_pos rfl | (refine' Eq.trans (if_neg (of_decide_eq_false ?e7)) ?r7; (case e7 => kernel_rfl); (case r7 => first | with_reducible assumption | with_reducible exact if_pos rfl | (refine' Eq.trans (if_neg (of_decide_eq_false ?e6)) ?r6; (case e6 => kernel_rfl); (case r6 => first | with_reducible assumption | with_reducible exact if_pos rfl | (refine' Eq.trans (if_neg (of_decide_eq_false ?e5)) ?r5; (case e5 => kernel_rfl); (case r5 => first | with_reducible assumption | with_reducible exact if_pos rfl | (refine' Eq.trans (if_neg (of_decide_eq_false ?e4)) ?r4; (case e4 => kernel_rfl); (case r4 => first | with_reducible assumption | with_reducible exact if_pos rfl | (refine' Eq.trans (if_neg (of_decide_eq_false ?e3)) ?r3; (case e3 => kernel_rfl); (case r3 => first | with_reducible assumption | with_reducible exact if_pos rfl | (refine' Eq.trans (if_neg (of_decide_eq_false ?e2)) ?r2; (case e2 => kernel_rfl); (case r2 => first | with_reducible assumption | with_reducible exact if_pos rfl | (refine' Eq.trans (if_neg (of_decide_eq_false ?e1)) ?r1; (case e1 => kernel_rfl); (case r1 => first | with_reducible assumption | with_reducible exact if_pos rfl))))))))))))))))
  clear hm3 F2 N2
  replace N3 : News h₀ L h3 (EndsL D E' ce oe ys x1 x2 x3 a₁ b₁ c₁ d₁ e₁ f₁ ta tb tc td te tf n n1 n2 n3 ++ news3) := by
    intro q hq
    rcases List.mem_append.mp hq with hq | hq
    · exact N3 q (hsub q hq)
    · exact N3 q hq
  clear hsub
  refine join (chunk_prod w h₀ L ce cc D E' oe ys m3 x1 x2 x3 a₁ b₁ c₁ d₁ e₁ f₁ ta tb tc td te tf n n1 n2 n3 hoe news3 v1 v2 k1 k2 V1 V2 o1 o2 z1 z2 z3 z4) hfd (by decide) B F3 X N3 T hd hu ?_
  rintro m4 news4 h4 tk4 F4 N4 ⟨vp, C, nc, hm4, hD, hs4, VP, y1, y2, u0, u1, u2, u3, hC⟩
  replace g0 : m4 (Str.ofString "draw") = some (.ref D) := by rw [hm4]; show ite _ _ _ = _; first | with_reducible assumption | with_reducible exact if_pos rfl | (refine' Eq.trans (if_neg (of_decide_eq_false ?e8)) ?r8; (case e8 => kernel_rfl); (case r8 => first | with_reducible assumption | with_reducible exact if_pos rfl | (refine' Eq.trans (if_neg (of_decide_eq_false ?e7)) ?r7; (case e7 => kernel_rfl); (case r7 => first | with_reducible assumption | with_reducible exact if_pos rfl | (refine' Eq.trans (if_neg (of_decide_eq_false ?e6)) ?r6; (case e6 => kernel_rfl); (case r6 => first | with_reducible assumption | with_reducible exact if_pos rfl | (refine' Eq.trans (if_neg (of_decide_eq_false ?e5)) ?r5; (case e5 => kernel_rfl); (case r5 => first | with_reducible assumption | with_reducible exact if_pos rfl | (refine' Eq.trans (if_neg (of_decide_eq_false ?e4)) ?r4; (case e4 => kernel_rfl); (case r4 => first | with_reducible assumption | with_reducible exact if_pos rfl | (refine' Eq.trans (if_neg (of_decide_eq_false ?e3)) ?r3; (case e3 => kernel_rfl); (case r3 => first | with_reducible assumption | with_reducible exact if_pos rfl | (refine' Eq.trans (if_neg (of_decide_eq_false ?e2)) ?r2; (case e2 => kernel_rfl); (case r2 => first | with_reducible assumption | with_reducible exact if_pos rfl | (refine' Eq.trans (if_neg (of_decide_eq_false ?e1)) ?r1; (case e1 => kernel_rfl); (case r1 => first | with_reducible assumption | with_reducible exact if_pos rfl))))))))))))))))
  replace g1 : m4 (Str.ofString "low") = some (.int a₁ ta) := by rw [hm4]; show ite _ _ _ = _; first | with_reducible assumption | with_reducible exact if_pos rfl | (refine' Eq.trans (if_neg (of_decide_eq_false ?e8)) ?r8; (case e8 => kernel_rfl); (case r8 => first | with_reducible assumption | with_reducible exact if_pos rfl | (refine' Eq.trans (if_neg (of_decide_eq_false ?e7)) ?r7; (case e7 => kernel_rfl); (case r7 => first | with_reducible assumption | with_reducible exact if_pos rfl | (refine' Eq.trans (if_neg (of_decide_eq_false ?e6)) ?r6; (case e6 => kernel_rfl); (case r6 => first | with_reducible assumption | with_reducible exact if_pos rfl | (refine' Eq.trans (if_neg (of_decide_eq_false ?e5)) ?r5; (case e5 => kernel_rfl); (case r5 => first | with_reducible assumption | with_reducible exact if_pos rfl | (refine' Eq.trans (if_neg (of_decide_eq_false ?e4)) ?r4; (case e4 => kernel_rfl); (case r4 => first | with_reducible assumption | with_reducible exact if_pos rfl | (refine' Eq.trans (if_neg (of_decide_eq_false ?e3)) ?r3; (case e3 => kernel_rfl); (case r3 => first | with_reducible assumption | with_reducible exact if_pos rfl | (refine' Eq.trans (if_neg (of_decide_eq_false ?e2)) ?r2; (case e2 => kernel_rfl); (case r2 => first | with_reducible assumption | with_reducible exact if_pos rfl | (refine' Eq.trans (if_neg (of_decide_eq_false ?e1)) ?r1; (case e1 => kernel_rfl); (case r1 => first | with_reducible assumption | with_reducible exact if_pos rfl))))))))))))))))
  replace g2 : m4 (Str.ofString "high") = some (.int b₁ tb) := by rw [hm4]; show ite _ _ _ = _; first | with_reducible assumption | with_reducible exact if_pos rfl | (refine' Eq.trans (if_neg (of_decide_eq_false ?e8)) ?r8; (case e8 => kernel_rfl); (case r8 => first | with_reducible assumption | with_reducible exact if_pos rfl | (refine' Eq.trans (if_neg (of_decide_eq_false ?e7)) ?r7; (case e7 => kernel_rfl); (case r7 => first | with_reducible assumption | with_reducible exact if_pos rfl | (refine' Eq.trans (if_neg (of_decide_eq_false ?e6)) ?r6; (case e6 => kernel_rfl); (case r6 => first | with_reducible assumption | with_reducible exact if_pos rfl | (refine' Eq.trans (if_neg (of_decide_eq_false ?e5)) ?r5; (case e5 => kernel_rfl); (case r5 => first | with_reducible assumption | with_reducible exact if_pos rfl | (refine' Eq.trans (if_neg (of_decide_eq_false ?e4)) ?r4; (case e4 => kernel_rfl); (case r4 => first | with_reducible assumption | with_reducible exact if_pos rfl | (refine' Eq.trans (if_neg (of_decide_eq_false ?e3)) ?r3; (case e3 => kernel_rfl); (case r3 => first | with_reducible assumption | with_reducible exact if_pos rfl | (refine' Eq.trans (if_neg (of_decide_eq_false ?e2)) ?r2; (case e2 => kernel_rfl); (case r2 => first | with_reducible assumption | with_reducible exact if_pos rfl | (refine' Eq.trans (if_neg (of_decide_eq_false ?e1)) ?r1; (case e1 => kernel_rfl); (case r1 => first | with_reducible assumption | with_reducible exact if_pos rfl))))))))))))))))
  replace g3 : m4 (Str.ofString "second") = some (.int c₁ tc) := by rw [hm4]; show ite _ _ _ = _; first | with_reducible assumption | with_reducible exact if_pos rfl | (refine' Eq.trans (if_neg (of_decide_eq_false ?e8)) ?r8; (case e8 => kernel_rfl); (case r8 => first | with_reducible assumption | with_reducible exact if_pos rfl | (refine' Eq.trans (if_neg (of_decide_eq_false ?e7)) ?r7; (case e7 => kernel_rfl); (case r7 => first | with_reducible assumption | with_reducible exact if_pos rfl | (refine' Eq.trans (if_neg (of_decide_eq_false ?e6)) ?r6; (case e6 => kernel_rfl); (case r6 => first | with_reducible assumption | with_reducible exact if_pos rfl | (refine' Eq.trans (if_neg (of_decide_eq_false ?e5)) ?r5; (case e5 => kernel_rfl); (case r5 => first | with_reducible assumption | with_reducible exact if_pos rfl | (refine' Eq.trans (if_neg (of_decide_eq_false ?e4)) ?r4; (case e4 => kernel_rfl); (case r4 => first | with_reducible assumption | with_reducible exact if_pos rfl | (refine' Eq.trans (if_neg (of_decide_eq_false ?e3)) ?r3; (case e3 => kernel_rfl); (case r3 => first | with_reducible assumption | with_reducible exact if_pos rfl | (refine' Eq.trans (if_neg (of_decide_eq_false ?e2)) ?r2; (case e2 => kernel_rfl); (case r2 => first | with_reducible assumption | with_reducible exact if_pos rfl | (refine' Eq.trans (if_neg (of_decide_eq_false ?e1)) ?r1; (case e1 => kernel_rfl); (case r1 => first | with_reducible assumption | with_reducible exact if_pos rfl))))))))))))))))
  replace g4 : m4 (Str.ofString "further") = some (.int d₁ td) := by rw [hm4]; show ite _ _ _ = _; first | with_reducible assumption | with_reducible exact if_pos rfl | (refine' Eq.trans (if_neg (of_decide_eq_false ?e8)) ?r8; (case e8 => kernel_rfl); (case r8 => first | with_reducible assumption | with_reducible exact if_pos rfl | (refine' Eq.trans (if_neg (of_decide_eq_false ?e7)) ?r7; (case e7 => kernel_rfl); (case r7 => first | with_reducible assumption | with_reducible exact if_pos rfl | (refine' Eq.trans (if_neg (of_decide_eq_false ?e6)) ?r6; (case e6 => kernel_rfl); (case r6 => first | with_reducible assumption | with_reducible exact if_pos rfl | (refine' Eq.trans (if_neg (of_decide_eq_false ?e5)) ?r5; (case e5 => kernel_rfl); (case r5 => first | with_reducible assumption | with_reducible exact if_pos rfl | (refine' Eq.trans (if_neg (of_decide_eq_false ?e4)) ?r4; (case e4 => kernel_rfl); (case r4 => first | with_reducible assumption | with_reducible exact if_pos rfl | (refine' Eq.trans (if_neg (of_decide_eq_false ?e3)) ?r3; (case e3 => kernel_rfl); (case r3 => first | with_reducible assumption | with_reducible exact if_pos rfl | (refine' Eq.trans (if_neg (of_decide_eq_false ?e2)) ?r2; (case e2 => kernel_rfl); (case r2 => first | with_reducible assumption | with_reducible exact if_pos rfl | (refine' Eq.trans (if_neg (of_decide_eq_false ?e1)) ?r1; (case e1 => kernel_rfl); (case r1 => first | with_reducible assumption | with_reducible exact if_pos rfl))))))))))))))))
  replace g5 : m4 (Str.ofString "third") = some (.int e₁ te) := by rw [hm4]; show ite _ _ _ = _; first | with_reducible assumption | with_reducible exact if_pos rfl | (refine' Eq.trans (if_neg (of_decide_eq_false ?e8)) ?r8; (case e8 => kernel_rfl); (case r8 => first | with_reducible assumption | with_reducible exact if_pos rfl | (refine' Eq.trans (if_neg (of_decide_eq_false ?e7)) ?r7; (case e7 => kernel_rfl); (case r7 => first | with_reducible assumption | with_reducible exact if_pos rfl | (refine' Eq.trans (if_neg (of_decide_eq_false ?e6)) ?r6; (case e6 => kernel_rfl); (case r6 => first | with_reducible assumption | with_reducible exact if_pos rfl | (refine' Eq.trans (if_neg (of_decide_eq_false ?e5)) ?r5; (case e5 => kernel_rfl); (case r5 => first | with_reducible assumption | with_reducible exact if_pos rfl | (refine' Eq.trans (if_neg (of_decide_eq_false ?e4)) ?r4; (case e4 => kernel_rfl); (case r4 => first | with_reducible assumption | with_reducible exact if_pos rfl | (refine' Eq.trans (if_neg (of_decide_eq_false ?e3)) ?r3; (case e3 => kernel_rfl); (case r3 => first | with_reducible assumption | with_reducible exact if_pos rfl | (refine' Eq.trans (if_neg (of_decide_eq_false ?e2)) ?r2; (case e2 => kernel_rfl); (case r2 => first | with_reducible assumption | with_reducible exact if_pos rfl | (refine' Eq.trans (if_neg (of_decide_eq_false ?e1)) ?r1; (case e1 => kernel_rfl); (case r1 => first | with_reducible assumption | with_reducible exact if_pos rfl))))))))))))))))
  replace g6 : m4 (Str.ofString "last") = some (.int f₁ tf) := by rw [hm4]; show ite _ _ _ = _; first | with_reducible assumption | with_reducible exact if_pos rfl | (refine' Eq.trans (if_neg (of_decide_eq_false ?e8)) ?r8; (case e8 => kernel_rfl); (case r8 => first | with_reducible assumption | with_reducible exact if_pos rfl | (refine' Eq.trans (if_neg (of_decide_eq_false ?e7)) ?r7; (case e7 => kernel_rfl); (case r7 => first | with_reducible assumption | with_reducible exact if_pos rfl | (refine' Eq.trans (if_neg (of_decide_eq_false ?e6)) ?r6; (case e6 => kernel_rfl); (case r6 => first | with_reducible assumption | with_reducible exact if_pos rfl | (refine' Eq.trans (if_neg (of_decide_eq_false ?e5)) ?r5; (case e5 => kernel_rfl); (case r5 => first | with_reducible assumption | with_reducible exact if_pos rfl | (refine' Eq.trans (if_neg (of_decide_eq_false ?e4)) ?r4; (case e4 => kernel_rfl); (case r4 => first | with_reducible assumption | with_reducible exact if_pos rfl | (refine' Eq.trans (if_neg (of_decide_eq_false ?e3)) ?r3; (case e3 => kernel_rfl); (case r3 => first | with_reducible assumption | with_reducible exact if_pos rfl | (refine' Eq.trans (if_neg (of_decide_eq_false ?e2)) ?r2; (case e2 => kernel_rfl); (case r2 => first | with_reducible assumption | with_reducible exact if_pos rfl | (refine' Eq.trans (if_neg (of_decide_eq_false ?e1)) ?r1; (case e1 => kernel_rfl); (case r1 => first | with_reducible assumption | with_reducible exact if_pos rfl))))))))))))))))
  replace k1 : m4 (Str.ofString "one") = some (v1) := by rw [hm4]; show ite _ _ _ = _; first | with_reducible assumption | with_reducible exact if_pos rfl | (refine' Eq.trans (if_neg (of_decide_eq_false ?e8)) ?r8; (case e8 => kernel_rfl); (case r8 => first | with_reducible assumption | with_reducible exact if_pos rfl | (refine' Eq.trans (if_neg (of_decide_eq_false ?e7)) ?r7; (case e7 => kernel_rfl); (case r7 => first | with_reducible assumption | with_reducible exact if_pos rfl | (refine' Eq.trans (if_neg (of_decide_eq_false ?e6)) ?r6; (case e6 => kernel_rfl); (case r6 => first | with_reducible assumption | with_reducible exact if_pos rfl | (refine' Eq.trans (if_neg (of_decide_eq_false ?e5)) ?r5; (case e5 => kernel_rfl); (case r5 => first | with_reducible assumption | with_reducible exact if_pos rfl | (refine' Eq.trans (if_neg (of_decide_eq_false ?e4)) ?r4; (case e4 => kernel_rfl); (case r4 => first | with_reducible assumption | with_reducible exact if_pos rfl | (refine' Eq.trans (if_neg (of_decide_eq_false ?e3)) ?r3; (case e3 => kernel_rfl); (case r3 => first | with_reducible assumption | with_reducible exact if_pos rfl | (refine' Eq.trans (if_neg (of_decide_eq_false ?e2)) ?r2; (case e2 => kernel_rfl); (case r2 => first | with_reducible assumption | with_reducible exact if_pos rfl | (refine' Eq.trans (if_neg (of_decide_eq_false ?e1)) ?r1; (case e1 => kernel_rfl); (case r1 => first | with_reducible assumption | with_reducible exact if_pos rfl))))))))))))))))
  replace k2 : m4 (Str.ofString "two") = some (v2) := by rw [hm4]; show ite _ _ _ = _; first | with_reducible assumption | with_reducible exact if_pos rfl | (refine' Eq.trans (if_neg (of_decide_eq_false ?e8)) ?r8; (case e8 => kernel_rfl); (case r8 => first | with_reducible assumption | with_reducible exact if_pos rfl | (refine' Eq.trans (if_neg (of_decide_eq_false ?e7)) ?r7; (case e7 => kernel_rfl); (case r7 => first | with_reducible assumption | with_reducible exact if_pos rfl | (refine' Eq.trans (if_neg (of_decide_eq_false ?e6)) ?r6; (case e6 => kernel_rfl); (case r6 => first | with_reducible assumption | with_reducible exact if_pos rfl | (refine' Eq.trans (if_neg (of_decide_eq_false ?e5)) ?r5; (case e5 => kernel_rfl); (case r5 => first | with_reducible assumption | with_reducible exact if_pos rfl | (refine' Eq.trans (if_neg (of_decide_eq_false ?e4)) ?r4; (case e4 => kernel_rfl); (case r4 => first | with_reducible assumption | with_reducible exact if_pos rfl | (refine' Eq.trans (if_neg (of_decide_eq_false ?e3)) ?r3; (case e3 => kernel_rfl); (case r3 => first | with_reducible assumption | with_reducible exact if_pos rfl | (refine' Eq.trans (if_neg (of_decide_eq_false ?e2)) ?r2; (case e2 => kernel_rfl); (case r2 => first | with_reducible assumption | with_reducible exact if_pos rfl | (refine' Eq.trans (if_neg (of_decide_eq_false ?e1)) ?r1; (case e1 => kernel_rfl); (case r1 => first | with_reducible assumption | with_reducible exact if_pos rfl))))))))))))))))
  replace k3 : m4 (Str.ofString "three") = some (v3) := by rw [hm4]; show ite _ _ _ = _; first | with_reducible assumption | with_reducible exact if_pos rfl | (refine' Eq.trans (if_neg (of_decide_eq_false ?e8)) ?r8; (case e8 => kernel_rfl); (case r8 => first | with_reducible assumption | with_reducible exact if_pos rfl | (refine' Eq.trans (if_neg (of_decide_eq_false ?e7)) ?r7; (case e7 => kernel_rfl); (case r7 => first | with_reducible assumption | with_reducible exact if_pos rfl | (refine' Eq.trans (if_neg (of_decide_eq_false ?e6)) ?r6; (case e6 => kernel_rfl); (case r6 => first | with_reducible assumption | with_reducible exact if_pos rfl | (refine' Eq.trans (if_neg (of_decide_eq_false ?e5)) ?r5; (case e5 => kernel_rfl); (case r5 => first | with_reducible assumption | with_reducible exact if_pos rfl | (refine' Eq.trans (if_neg (of_decide_eq_false ?e4)) ?r4; (case e4 => kernel_rfl); (case r4 => first | with_reducible assumption | with_reducible exact if_pos rfl | (refine' Eq.trans (if_neg (of_decide_eq_false ?e3)) ?r3; (case e3 => kernel_rfl); (case r3 => first | with_reducible assumption | with_reducible exact if_pos rfl | (refine' Eq.trans (if_neg (of_decide_eq_false ?e2)) ?r2; (case e2 => kernel_rfl); (case r2 => first | with_reducible assumption | with_reducible exact if_pos rfl | (refine' Eq.trans (if_neg (of_decide_eq_false ?e1)) ?r1; (case e1 => kernel_rfl); (case r1 => first | with_reducible assumption | with_reducible exact if_pos rfl))))))))))))))))
  have kp : m4 (Str.ofString "product") = some (vp) := by rw [hm4]; show ite _ _ _ = _; first | with_reducible assumption | with_reducible exact if_pos rfl | (refine' Eq.trans (if_neg (of_decide_eq_false ?e8)) ?r8; (case e8 => kernel_rfl); (case r8 => first | with_reducible assumption | with_reducible exact if_pos rfl | (refine' Eq.trans (if_neg (of_decide_eq_false ?e7)) ?r7; (case e7 => kernel_rfl); (case r7 => first | with_reducible assumption | with_reducible exact if_pos rfl | (refine' Eq.trans (if_neg (of_decide_eq_false ?e6)) ?r6; (case e6 => kernel_rfl); (case r6 => first | with_reducible assumption | with_reducible exact if_pos rfl | (refine' Eq.trans (if_neg (of_decide_eq_false ?e5)) ?r5; (case e5 => kernel_rfl); (case r5 => first | with_reducible assumption | with_reducible exact if_pos rfl | (refine' Eq.trans (if_neg (of_decide_eq_false ?e4)) ?r4; (case e4 => kernel_rfl); (case r4 => first | with_reducible assumption | with_reducible exact if_pos rfl | (refine' Eq.trans (if_neg (of_decide_eq_false ?e3)) ?r3; (case e3 => kernel_rfl); (case r3 => first | with_reducible assumption | with_reducible exact if_pos rfl | (refine' Eq.trans (if_neg (of_decide_eq_false ?e2)) ?r2; (case e2 => kernel_rfl); (case r2 => first | with_reducible assumption | with_reducible exact if_pos rfl | (refine' Eq.trans (if_neg (of_decide_eq_false ?e1)) ?r1; (case e1 => kernel_rfl); (case r1 => first | with_reducible assumption | with_reducible exact if_pos rfl))))))))))))))))
  have kc : m4 (Str.ofString "crossed") = some (.ref C) := by rw [hm4]; show ite _ _ _ = _; first | with_reducible assumption | with_reducible exact if_pos rfl | (refine' Eq.trans (if_neg (of_decide_eq_false ?e8)) ?r8; (case e8 => kernel_rfl); (case r8 => first | with_reducible assumption | with_reducible exact if_pos rfl | (refine' Eq.trans (if_neg (of_decide_eq_false ?e7)) ?r7; (case e7 => kernel_rfl); (case r7 => first | with_reducible assumption | with_reducible exact if_pos rfl | (refine' Eq.trans (if_neg (of_decide_eq_false ?e6)) ?r6; (case e6 => kernel_rfl); (case r6 => first | with_reducible assumption | with_reducible exact if_pos rfl | (refine' Eq.trans (if_neg (of_decide_eq_false ?e5)) ?r5; (case e5 => kernel_rfl); (case r5 => first | with_reducible assumption | with_reducible exact if_pos rfl | (refine' Eq.trans (if_neg (of_decide_eq_false ?e4)) ?r4; (case e4 => kernel_rfl); (case r4 => first | with_reducible assumption | with_reducible exact if_pos rfl | (refine' Eq.trans (if_neg (of_decide_eq_false ?e3)) ?r3; (case e3 => kernel_rfl); (case r3 => first | with_reducible assumption | with_reducible exact if_pos rfl | (refine' Eq.trans (if_neg (of_decide_eq_false ?e2)) ?r2; (case e2 => kernel_rfl); (case r2 => first | with_reducible assumption | with_reducible exact if_pos rfl | (refine' Eq.trans (if_neg (of_decide_eq_false ?e1)) ?r1; (case e1 => kernel_rfl); (case r1 => first | with_reducible assumption | with_reducible exact if_pos rfl))))))))))))))))
  replace V1 := V1.mono hs4
  replace V2 := V2.mono hs4
  replace V3 := V3.mono hs4
  clear hm4 F3 N3 hs4 hoe
  refine join (chunk_if1 w h₀ L ce cc C m4 _ _ y1 y2 u0 u1 u2 u3 nc news4 vp kp kc VP hC) hfd (by decide) B F4 X N4 T hd hu ?_
  rintro m5 news5 h5 tk5 F5 N5 ⟨hm5, hs5⟩
  subst hm5
  replace V1 := V1.mono hs5
  replace V2 := V2.mono hs5
  replace V3 := V3.mono hs5
  replace VP := VP.mono hs5
  replace hD := hs5 _ hD
  clear hC kc F4 N4 hs5
  refine join (chunk_sum w h₀ L ce cc m5 a₁ b₁ c₁ d₁ e₁ f₁ news5 v1 v2 v3 vp k1 k2 k3 kp V1 V2 V3 VP o1 o2 o3 z1 z2 z3 z4 z5 z6) hfd (by decide) B F5 X N5 T hd hu ?_
  rintro m6 news6 h6 tk6 F6 N6 ⟨vi, vo, hm6, hs6, VI, VO⟩
  replace g0 : m6 (Str.ofString "draw") = some (.ref D) := by rw [hm6]; show ite _ _ _ = _; first | with_reducible assumption | with_reducible exact if_pos rfl | (refine' Eq.trans (if_neg (of_decide_eq_false ?e8)) ?r8; (case e8 => kernel_rfl); (case r8 => first | with_reducible assumption | with_reducible exact if_pos rfl | (refine' Eq.trans (if_neg (of_decide_eq_false ?e7)) ?r7; (case e7 => kernel_rfl); (case r7 => first | with_reducible assumption | with_reducible exact if_pos rfl | (refine' Eq.trans (if_neg (of_decide_eq_false ?e6)) ?r6; (case e6 => kernel_rfl); (case r6 => first | with_reducible assumption | with_reducible exact if_pos rfl | (refine' Eq.trans (if_neg (of_decide_eq_false ?e5)) ?r5; (case e5 => kernel_rfl); (case r5 => first | with_reducible assumption | with_reducible exact if_pos rfl | (refine' Eq.trans (if_neg (of_decide_eq_false ?e4)) ?r4; (case e4 => kernel_rfl); (case r4 => first | with_reducible assumption | with_reducible exact if_pos rfl | (refine' Eq.trans (if_neg (of_decide_eq_false ?e3)) ?r3; (case e3 => kernel_rfl); (case r3 => first | with_reducible assumption | with_reducible exact if_pos rfl | (refine' Eq.trans (if_neg (of_decide_eq_false ?e2)) ?r2; (case e2 => kernel_rfl); (case r2 => first | with_reducible assumption | with_reducible exact if_pos rfl | (refine' Eq.trans (if_neg (of_decide_eq_false ?e1)) ?r1; (case e1 => kernel_rfl); (case r1 => first | with_reducible assumption | with_reducible exact if_pos rfl))))))))))))))))
  replace g1 : m6 (Str.ofString "low") = some (.int a₁ ta) := by rw [hm6]; show ite _ _ _ = _; first | with_reducible assumption | with_reducible exact if_pos rfl | (refine' Eq.trans (if_neg (of_decide_eq_false ?e8)) ?r8; (case e8 => kernel_rfl); (case r8 => first | with_reducible assumption | with_reducible exact if_pos rfl | (refine' Eq.trans (if_neg (of_decide_eq_false ?e7)) ?r7; (case e7 => kernel_rfl); (case r7 => first | with_reducible assumption | with_reducible exact if_pos rfl | (refine' Eq.trans (if_neg (of_decide_eq_false ?e6)) ?r6; (case e6 => kernel_rfl); (case r6 => first | with_reducible assumption | with_reducible exact if_pos rfl | (refine' Eq.trans (if_neg (of_decide_eq_false ?e5)) ?r5; (case e5 => kernel_rfl); (case r5 => first | with_reducible assumption | with_reducible exact if_pos rfl | (refine' Eq.trans (if_neg (of_decide_eq_false ?e4)) ?r4; (case e4 => kernel_rfl); (case r4 => first | with_reducible assumption | with_reducible exact if_pos rfl | (refine' Eq.trans (if_neg (of_decide_eq_false ?e3)) ?r3; (case e3 => kernel_rfl); (case r3 => first | with_reducible assumption | with_reducible exact if_pos rfl | (refine' Eq.trans (if_neg (of_decide_eq_false ?e2)) ?r2; (case e2 => kernel_rfl); (case r2 => first | with_reducible assumption | with_reducible exact if_pos rfl | (refine' Eq.trans (if_neg (of_decide_eq_false ?e1)) ?r1; (case e1 => kernel_rfl); (case r1 => first | with_reducible assumption | with_reducible exact if_pos rfl))))))))))))))))
  replace g2 : m6 (Str.ofString "high") = some (.int b₁ tb) := by rw [hm6]; show ite _ _ _ = _; first | with_reducible assumption | with_reducible exact if_pos rfl | (refine' Eq.trans (if_neg (of_decide_eq_false ?e8)) ?r8; (case e8 => kernel_rfl); (case r8 => first | with_reducible assumption | with_reducible exact if_pos rfl | (refine' Eq.trans (if_neg (of_decide_eq_false ?e7)) ?r7; (case e7 => kernel_rfl); (case r7 => first | with_reducible assumption | with_reducible exact if_pos rfl | (refine' Eq.trans (if_neg (of_decide_eq_false ?e6)) ?r6; (case e6 => kernel_rfl); (case r6 => first | with_reducible assumption | with_reducible exact if_pos rfl | (refine' Eq.trans (if_neg (of_decide_eq_false ?e5)) ?r5; (case e5 => kernel_rfl); (case r5 => first | with_reducible assumption | with_reducible exact if_pos rfl | (refine' Eq.trans (if_neg (of_decide_eq_false ?e4)) ?r4; (case e4 => kernel_rfl); (case r4 => first | with_reducible assumption | with_reducible exact if_pos rfl | (refine' Eq.trans (if_neg (of_decide_eq_false ?e3)) ?r3; (case e3 => kernel_rfl); (case r3 => first | with_reducible assumption | with_reducible exact if_pos rfl | (refine' Eq.trans (if_neg (of_decide_eq_false ?e2)) ?r2; (case e2 => kernel_rfl); (case r2 => first | with_reducible assumption | with_reducible exact if_pos rfl | (refine' Eq.trans (if_neg (of_decide_eq_false ?e1)) ?r1; (case e1 => kernel_rfl); (case r1 => first | with_reducible assumption | with_reducible exact if_pos rfl))))))))))))))))
  replace g3 : m6 (Str.ofString "second") = some (.int c₁ tc) := by rw [hm6]; show ite _ _ _ = _; first | with_reducible assumption | with_reducible exact if_pos rfl | (refine' Eq.trans (if_neg (of_decide_eq_false ?e8)) ?r8; (case e8 => kernel_rfl); (case r8 => first | with_reducible assumption | with_reducible exact if_pos rfl | (refine' Eq.trans (if_neg (of_decide_eq_false ?e7)) ?r7; (case e7 => kernel_rfl); (case r7 => first | with_reducible assumption | with_reducible exact if_pos rfl | (refine' Eq.trans (if_neg (of_decide_eq_false ?e6)) ?r6; (case e6 => kernel_rfl); (case r6 => first | with_reducible assumption | with_reducible exact if_pos rfl | (refine' Eq.trans (if_neg (of_decide_eq_false ?e5)) ?r5; (case e5 => kernel_rfl); (case r5 => first | with_reducible assumption | with_reducible exact if_pos rfl | (refine' Eq.trans (if_neg (of_decide_eq_false ?e4)) ?r4; (case e4 => kernel_rfl); (case r4 => first | with_reducible assumption | with_reducible exact if_pos rfl | (refine' Eq.trans (if_neg (of_decide_eq_false ?e3)) ?r3; (case e3 => kernel_rfl); (case r3 => first | with_reducible assumption | with_reducible exact if_pos rfl | (refine' Eq.trans (if_neg (of_decide_eq_false ?e2)) ?r2; (case e2 => kernel_rfl); (case r2 => first | with_reducible assumption | with_reducible exact if_pos rfl | (refine' Eq.trans (if_neg (of_decide_eq_false ?e1)) ?r1; (case e1 => kernel_rfl); (case r1 => first | with_reducible assumption | with_reducible exact if_pos rfl))))))))))))))))
  replace g4 : m6 (Str.ofString "further") = some (.int d₁ td) := by rw [hm6]; show ite _ _ _ = _; first | with_reducible assumption | with_reducible exact if_pos rfl | (refine' Eq.trans (if_neg (of_decide_eq_false ?e8)) ?r8; (case e8 => kernel_rfl); (case r8 => first | with_reducible assumption | with_reducible exact if_pos rfl | (refine' Eq.trans (if_neg (of_decide_eq_false ?e7)) ?r7; (case e7 => kernel_rfl); (case r7 => first | with_reducible assumption | with_reducible exact if_pos rfl | (refine' Eq.trans (if_neg (of_decide_eq_false ?e6)) ?r6; (case e6 => kernel_rfl); (case r6 => first | with_reducible assumption | with_reducible exact if_pos rfl | (refine' Eq.trans (if_neg (of_decide_eq_false ?e5)) ?r5; (case e5 => kernel_rfl); (case r5 => first | with_reducible assumption | with_reducible exact if_pos rfl | (refine' Eq.trans (if_neg (of_decide_eq_false ?e4)) ?r4; (case e4 => kernel_rfl); (case r4 => first | with_reducible assumption | with_reducible exact if_pos rfl | (refine' Eq.trans (if_neg (of_decide_eq_false ?e3)) ?r3; (case e3 => kernel_rfl); (case r3 => first | with_reducible assumption | with_reducible exact if_pos rfl | (refine' Eq.trans (if_neg (of_decide_eq_false ?e2)) ?r2; (case e2 => kernel_rfl); (case r2 => first | with_reducible assumption | with_reducible exact if_pos rfl | (refine' Eq.trans (if_neg (of_decide_eq_false ?e1)) ?r1; (case e1 => kernel_rfl); (case r1 => first | with_reducible assumption | with_reducible exact if_pos rfl))))))))))))))))
  replace g5 : m6 (Str.ofString "third") = some (.int e₁ te) := by rw [hm6]; show ite _ _ _ = _; first | with_reducible assumption | with_reducible exact if_pos rfl | (refine' Eq.trans (if_neg (of_decide_eq_false ?e8)) ?r8; (case e8 => kernel_rfl); (case r8 => first | with_reducible assumption | with_reducible exact if_pos rfl | (refine' Eq.trans (if_neg (of_decide_eq_false ?e7)) ?r7; (case e7 => kernel_rfl); (case r7 => first | with_reducible assumption | with_reducible exact if_pos rfl | (refine' Eq.trans (if_neg (of_decide_eq_false ?e6)) ?r6; (case e6 => kernel_rfl); (case r6 => first | with_reducible assumption | with_reducible exact if_pos rfl | (refine' Eq.trans (if_neg (of_decide_eq_false ?e5)) ?r5; (case e5 => kernel_rfl); (case r5 => first | with_reducible assumption | with_reducible exact if_pos rfl | (refine' Eq.trans (if_neg (of_decide_eq_false ?e4)) ?r4; (case e4 => kernel_rfl); (case r4 => first | with_reducible assumption | with_reducible exact if_pos rfl | (refine' Eq.trans (if_neg (of_decide_eq_false ?e3)) ?r3; (case e3 => kernel_rfl); (case r3 => first | with_reducible assumption | with_reducible exact if_pos rfl | (refine' Eq.trans (if_neg (of_decide_eq_false ?e2)) ?r2; (case e2 => kernel_rfl); (case r2 => first | with_reducible assumption | with_reducible exact if_pos rfl | (refine' Eq.trans (if_neg (of_decide_eq_false ?e1)) ?r1; (case e1 => kernel_rfl); (case r1 => first | with_reducible assumption | with_reducible exact if_pos rfl))))))))))))))))
  replace g6 : m6 (Str.ofString "last") = some (.int f₁ tf) := by rw [hm6]; show ite _ _ _ = _; first | with_reducible assumption | with_reducible exact if_pos rfl | (refine' Eq.trans (if_neg (of_decide_eq_false ?e8)) ?r8; (case e8 => kernel_rfl); (case r8 => first | with_reducible assumption | with_reducible exact if_pos rfl | (refine' Eq.trans (if_neg (of_decide_eq_false ?e7)) ?r7; (case e7 => kernel_rfl); (case r7 => first | with_reducible assumption | with_reducible exact if_pos rfl | (refine' Eq.trans (if_neg (of_decide_eq_false ?e6)) ?r6; (case e6 => kernel_rfl); (case r6 => first | with_reducible assumption | with_reducible exact if_pos rfl | (refine' Eq.trans (if_neg (of_decide_eq_false ?e5)) ?r5; (case e5 => kernel_rfl); (case r5 => first | with_reducible assumption | with_reducible exact if_pos rfl | (refine' Eq.trans (if_neg (of_decide_eq_false ?e4)) ?r4; (case e4 => kernel_rfl); (case r4 => first | with_reducible assumption | with_reducible exact if_pos rfl | (refine' Eq.trans (if_neg (of_decide_eq_false ?e3)) ?r3; (case e3 => kernel_rfl); (case r3 => first | with_reducible assumption | with_reducible exact if_pos rfl | (refine' Eq.trans (if_neg (of_decide_eq_false ?e2)) ?r2; (case e2 => kernel_rfl); (case r2 => first | with_reducible assumption | with_reducible exact if_pos rfl | (refine' Eq.trans (if_neg (of_decide_eq_false ?e1)) ?r1; (case e1 => kernel_rfl); (case r1 => first | with_reducible assumption | with_reducible exact if_pos rfl))))))))))))))))
  replace k1 : m6 (Str.ofString "one") = some (v1) := by rw [hm6]; show ite _ _ _ = _; first | with_reducible assumption | with_reducible exact if_pos rfl | (refine' Eq.trans (if_neg (of_decide_eq_false ?e8)) ?r8; (case e8 => kernel_rfl); (case r8 => first | with_reducible assumption | with_reducible exact if_pos rfl | (refine' Eq.trans (if_neg (of_decide_eq_false ?e7)) ?r7; (case e7 => kernel_rfl); (case r7 => first | with_reducible assumption | with_reducible exact if_pos rfl | (refine' Eq.trans (if_neg (of_decide_eq_false ?e6)) ?r6; (case e6 => kernel_rfl); (case r6 => first | with_reducible assumption | with_reducible exact if_pos rfl | (refine' Eq.trans (if_neg (of_decide_eq_false ?e5)) ?r5; (case e5 => kernel_rfl); (case r5 => first | with_reducible assumption | with_reducible exact if_pos rfl | (refine' Eq.trans (if_neg (of_decide_eq_false ?e4)) ?r4; (case e4 => kernel_rfl); (case r4 => first | with_reducible assumption | with_reducible exact if_pos rfl | (refine' Eq.trans (if_neg (of_decide_eq_false ?e3)) ?r3; (case e3 => kernel_rfl); (case r3 => first | with_reducible assumption | with_reducible exact if_pos rfl | (refine' Eq.trans (if_neg (of_decide_eq_false ?e2)) ?r2; (case e2 => kernel_rfl); (case r2 => first | with_reducible assumption | with_reducible exact if_pos rfl | (refine' Eq.trans (if_neg (of_decide_eq_false ?e1)) ?r1; (case e1 => kernel_rfl); (case r1 => first | with_reducible assumption | with_reducible exact if_pos rfl))))))))))))))))
  replace k2 : m6 (Str.ofString "two") = some (v2) := by rw [hm6]; show ite _ _ _ = _; first | with_reducible assumption | with_reducible exact if_pos rfl | (refine' Eq.trans (if_neg (of_decide_eq_false ?e8)) ?r8; (case e8 => kernel_rfl); (case r8 => first | with_reducible assumption | with_reducible exact if_pos rfl | (refine' Eq.trans (if_neg (of_decide_eq_false ?e7)) ?r7; (case e7 => kernel_rfl); (case r7 => first | with_reducible assumption | with_reducible exact if_pos rfl | (refine' Eq.trans (if_neg (of_decide_eq_false ?e6)) ?r6; (case e6 => kernel_rfl); (case r6 => first | with_reducible assumption | with_reducible exact if_pos rfl | (refine' Eq.trans (if_neg (of_decide_eq_false ?e5)) ?r5; (case e5 => kernel_rfl); (case r5 => first | with_reducible assumption | with_reducible exact if_pos rfl | (refine' Eq.trans (if_neg (of_decide_eq_false ?e4)) ?r4; (case e4 => kernel_rfl); (case r4 => first | with_reducible assumption | with_reducible exact if_pos rfl | (refine' Eq.trans (if_neg (of_decide_eq_false ?e3)) ?r3; (case e3 => kernel_rfl); (case r3 => first | with_reducible assumption | with_reducible exact if_pos rfl | (refine' Eq.trans (if_neg (of_decide_eq_false ?e2)) ?r2; (case e2 => kernel_rfl); (case r2 => first | with_reducible assumption | with_reducible exact if_pos rfl | (refine' Eq.trans (if_neg (of_decide_eq_false ?e1)) ?r1; (case e1 => kernel_rfl); (case r1 => first | with_reducible assumption | with_reducible exact if_pos rfl))))))))))))))))
  replace k3 : m6 (Str.ofString "three") = some (v3) := by rw [hm6]; show ite _ _ _ = _; first | with_reducible assumption | with_reducible exact if_pos rfl | (refine' Eq.trans (if_neg (of_decide_eq_false ?e8)) ?r8; (case e8 => kernel_rfl); (case r8 => first | with_reducible assumption | with_reducible exact if_pos rfl | (refine' Eq.trans (if_neg (of_decide_eq_false ?e7)) ?r7; (case e7 => kernel_rfl); (case r7 => first | with_reducible assumption | with_reducible exact if_pos rfl | (refine' Eq.trans (if_neg (of_decide_eq_false ?e6)) ?r6; (case e6 => kernel_rfl); (case r6 => first | with_reducible assumption | with_reducible exact if_pos rfl | (refine' Eq.trans (if_neg (of_decide_eq_false ?e5)) ?r5; (case e5 => kernel_rfl); (case r5 => first | with_reducible assumption | with_reducible exact if_pos rfl | (refine' Eq.trans (if_neg (of_decide_eq_false ?e4)) ?r4; (case e4 => kernel_rfl); (case r4 => first | with_reducible assumption | with_reducible exact if_pos rfl | (refine' Eq.trans (if_neg (of_decide_eq_false ?e3)) ?r3; (case e3 => kernel_rfl); (case r3 => first | with_reducible assumption | with_reducible exact if_pos rfl | (refine' Eq.trans (if_neg (of_decide_eq_false ?e2)) ?r2; (case e2 => kernel_rfl); (case r2 => first | with_reducible assumption | with_reducible exact if_pos rfl | (refine' Eq.trans (if_neg (of_decide_eq_false ?e1)) ?r1; (case e1 => kernel_rfl); (case r1 => first | with_reducible assumption | with_reducible exact if_pos rfl))))))))))))))))
  replace kp : m6 (Str.ofString "product") = some (vp) := by rw [hm6]; show ite _ _ _ = _; first | with_reducible assumption | with_reducible exact if_pos rfl | (refine' Eq.trans (if_neg (of_decide_eq_false ?e8)) ?r8; (case e8 => kernel_rfl); (case r8 => first | with_reducible assumption | with_reducible exact if_pos rfl | (refine' Eq.trans (if_neg (of_decide_eq_false ?e7)) ?r7; (case e7 => kernel_rfl); (case r7 => first | with_reducible assumption | with_reducible exact if_pos rfl | (refine' Eq.trans (if_neg (of_decide_eq_false ?e6)) ?r6; (case e6 => kernel_rfl); (case r6 => first | with_reducible assumption | with_reducible exact if_pos rfl | (refine' Eq.trans (if_neg (of_decide_eq_false ?e5)) ?r5; (case e5 => kernel_rfl); (case r5 => first | with_reducible assumption | with_reducible exact if_pos rfl | (refine' Eq.trans (if_neg (of_decide_eq_false ?e4)) ?r4; (case e4 => kernel_rfl); (case r4 => first | with_reducible assumption | with_reducible exact if_pos rfl | (refine' Eq.trans (if_neg (of_decide_eq_false ?e3)) ?r3; (case e3 => kernel_rfl); (case r3 => first | with_reducible assumption | with_reducible exact if_pos rfl | (refine' Eq.trans (if_neg (of_decide_eq_false ?e2)) ?r2; (case e2 => kernel_rfl); (case r2 => first | with_reducible assumption | with_reducible exact if_pos rfl | (refine' Eq.trans (if_neg (of_decide_eq_false ?e1)) ?r1; (case e1 => kernel_rfl); (case r1 => first | with_reducible assumption | with_reducible exact if_pos rfl))))))))))))))))
  have ki : m6 (Str.ofString "inner") = some (vi) := by rw [hm6]; show ite _ _ _ = _; first | with_reducible assumption | with_reducible exact if_pos rfl | (refine' Eq.trans (if_neg (of_decide_eq_false ?e8)) ?r8; (case e8 => kernel_rfl); (case r8 => first | with_reducible assumption | with_reducible exact if_pos rfl | (refine' Eq.trans (if_neg (of_decide_eq_false ?e7)) ?r7; (case e7 => kernel_rfl); (case r7 => first | with_reducible assumption | with_reducible exact if_pos rfl | (refine' Eq.trans (if_neg (of_decide_eq_false ?e6)) ?r6; (case e6 => kernel_rfl); (case r6 => first | with_reducible assumption | with_reducible exact if_pos rfl | (refine' Eq.trans (if_neg (of_decide_eq_false ?e5)) ?r5; (case e5 => kernel_rfl); (case r5 => first | with_reducible assumption | with_reducible exact if_pos rfl | (refine' Eq.trans (if_neg (of_decide_eq_false ?e4)) ?r4; (case e4 => kernel_rfl); (case r4 => first | with_reducible assumption | with_reducible exact if_pos rfl | (refine' Eq.trans (if_neg (of_decide_eq_false ?e3)) ?r3; (case e3 => kernel_rfl); (case r3 => first | with_reducible assumption | with_reducible exact if_pos rfl | (refine' Eq.trans (if_neg (of_decide_eq_false ?e2)) ?r2; (case e2 => kernel_rfl); (case r2 => first | with_reducible assumption | with_reducible exact if_pos rfl | (refine' Eq.trans (if_neg (of_decide_eq_false ?e1)) ?r1; (case e1 => kernel_rfl); (case r1 => first | with_reducible assumption | with_reducible exact if_pos rfl))))))))))))))))
  have ko : m6 (Str.ofString "outer") = some (vo) := by rw [hm6]; show ite _ _ _ = _; first | with_reducible assumption | with_reducible exact if_pos rfl | (refine' Eq.trans (if_neg (of_decide_eq_false ?e8)) ?r8; (case e8 => kernel_rfl); (case r8 => first | with_reducible assumption | with_reducible exact if_pos rfl | (refine' Eq.trans (if_neg (of_decide_eq_false ?e7)) ?r7; (case e7 => kernel_rfl); (case r7 => first | with_reducible assumption | with_reducible exact if_pos rfl | (refine' Eq.trans (if_neg (of_decide_eq_false ?e6)) ?r6; (case e6 => kernel_rfl); (case r6 => first | with_reducible assumption | with_reducible exact if_pos rfl | (refine' Eq.trans (if_neg (of_decide_eq_false ?e5)) ?r5; (case e5 => kernel_rfl); (case r5 => first | with_reducible assumption | with_reducible exact if_pos rfl | (refine' Eq.trans (if_neg (of_decide_eq_false ?e4)) ?r4; (case e4 => kernel_rfl); (case r4 => first | with_reducible assumption | with_reducible exact if_pos rfl | (refine' Eq.trans (if_neg (of_decide_eq_false ?e3)) ?r3; (case e3 => kernel_rfl); (case r3 => first | with_reducible assumption | with_reducible exact if_pos rfl | (refine' Eq.trans (if_neg (of_decide_eq_false ?e2)) ?r2; (case e2 => kernel_rfl); (case r2 => first | with_reducible assumption | with_reducible exact if_pos rfl | (refine' Eq.trans (if_neg (of_decide_eq_false ?e1)) ?r1; (case e1 => kernel_rfl); (case r1 => first | with_reducible assumption | with_reducible exact if_pos rfl))))))))))))))))
  replace V1 := V1.mono hs6
  replace V2 := V2.mono hs6
  replace V3 := V3.mono hs6
  replace VP := VP.mono hs6
  replace hD := hs6 _ hD
  clear hm6 F5 N5 hs6
  obtain ⟨w1, w2⟩ := mEnds_small (i := a₁) (j := b₁) (x := c₁) (y := d₁) (A := 80) (B := 80) (by omega) (by omega) (by omega) (by omega)
  obtain ⟨w3, w4⟩ := mEnds_small (i := a₁) (j := b₁) (x := e₁) (y := f₁) (A := 80) (B := 80) (by omega) (by omega) (by omega) (by omega)
  obtain ⟨w5, w6⟩ := mEnds_small (i := a₁) (j := b₁) (x := c₁ + e₁) (y := d₁ + f₁) (A := 80) (B := 160) (by omega) (by omega) (by omega) (by omega)
  have dis := distr a₁ b₁ c₁ d₁ e₁ f₁
  refine join (chunk_in w h₀ L ce cc m6 _ _ _ _ news6 vi vo ki ko VI VO (by omega) (by omega) (by omega) (by omega) dis.1 dis.2) hfd (by decide) B F6 X N6 T hd hu ?_
  rintro m7 news7 h7 tk7 F7 N7 ⟨hm7, hs7⟩
  subst hm7
  replace V1 := V1.mono hs7
  replace V2 := V2.mono hs7
  replace V3 := V3.mono hs7
  replace VP := VP.mono hs7
  replace VI := VI.mono hs7
  replace VO := VO.mono hs7
  replace hD := hs7 _ hD
  clear F6 N6 hs7 dis
  refine join (chunk_eq w h₀ L ce cc m7 a₁ b₁ c₁ d₁ e₁ f₁ _ _ _ _ ta tb tc td te tf news7 vi vo ki ko g1 g2 g3 g4 g5 g6 VI VO (fun h => distr_eq o1 o2 o3 h)) hfd (by decide) B F7 X N7 T hd hu ?_
  rintro m8 news8 h8 tk8 F8 N8 ⟨hm8, hs8⟩
  subst hm8
  replace V1 := V1.mono hs8
  replace V2 := V2.mono hs8
  replace V3 := V3.mono hs8
  replace VP := VP.mono hs8
  replace hD := hs8 _ hD
  clear F7 N7 hs8 VI VO ki ko w3 w4 w5 w6
  refine join (chunk_cut w h₀ L ce cc D m8 a₁ b₁ ta tb ys ds news8 hD hI hl g0 g1 g2 o1 z1 z2) hfd (by decide) B F8 X N8 T hd hu ?_
  rintro m9 news9 h9 tk9 F9 N9 ⟨k, tx, hm9, hs9, x1, x2⟩
  replace g0 : m9 (Str.ofString "draw") = some (.ref D) := by rw [hm9]; show ite _ _ _ = _; first | with_reducible assumption | with_reducible exact if_pos rfl | (refine' Eq.trans (if_neg (of_decide_eq_false ?e8)) ?r8; (case e8 => kernel_rfl); (case r8 => first | with_reducible assumption | with_reducible exact if_pos rfl | (refine' Eq.trans (if_neg (of_decide_eq_false ?e7)) ?r7; (case e7 => kernel_rfl); (case r7 => first | with_reducible assumption | with_reducible exact if_pos rfl | (refine' Eq.trans (if_neg (of_decide_eq_false ?e6)) ?r6; (case e6 => kernel_rfl); (case r6 => first | with_reducible assumption | with_reducible exact if_pos rfl | (refine' Eq.trans (if_neg (of_decide_eq_false ?e5)) ?r5; (case e5 => kernel_rfl); (case r5 => first | with_reducible assumption | with_reducible exact if_pos rfl | (refine' Eq.trans (if_neg (of_decide_eq_false ?e4)) ?r4; (case e4 => kernel_rfl); (case r4 => first | with_reducible assumption | with_reducible exact if_pos rfl | (refine' Eq.trans (if_neg (of_decide_eq_false ?e3)) ?r3; (case e3 => kernel_rfl); (case r3 => first | with_reducible assumption | with_reducible exact if_pos rfl | (refine' Eq.trans (if_neg (of_decide_eq_false ?e2)) ?r2; (case e2 => kernel_rfl); (case r2 => first | with_reducible assumption | with_reducible exact if_pos rfl | (refine' Eq.trans (if_neg (of_decide_eq_false ?e1)) ?r1; (case e1 => kernel_rfl); (case r1 => first | with_reducible assumption | with_reducible exact if_pos rfl))))))))))))))))
  replace g1 : m9 (Str.ofString "low") = some (.int a₁ ta) := by rw [hm9]; show ite _ _ _ = _; first | with_reducible assumption | with_reducible exact if_pos rfl | (refine' Eq.trans (if_neg (of_decide_eq_false ?e8)) ?r8; (case e8 => kernel_rfl); (case r8 => first | with_reducible assumption | with_reducible exact if_pos rfl | (refine' Eq.trans (if_neg (of_decide_eq_false ?e7)) ?r7; (case e7 => kernel_rfl); (case r7 => first | with_reducible assumption | with_reducible exact if_pos rfl | (refine' Eq.trans (if_neg (of_decide_eq_false ?e6)) ?r6; (case e6 => kernel_rfl); (case r6 => first | with_reducible assumption | with_reducible exact if_pos rfl | (refine' Eq.trans (if_neg (of_decide_eq_false ?e5)) ?r5; (case e5 => kernel_rfl); (case r5 => first | with_reducible assumption | with_reducible exact if_pos rfl | (refine' Eq.trans (if_neg (of_decide_eq_false ?e4)) ?r4; (case e4 => kernel_rfl); (case r4 => first | with_reducible assumption | with_reducible exact if_pos rfl | (refine' Eq.trans (if_neg (of_decide_eq_false ?e3)) ?r3; (case e3 => kernel_rfl); (case r3 => first | with_reducible assumption | with_reducible exact if_pos rfl | (refine' Eq.trans (if_neg (of_decide_eq_false ?e2)) ?r2; (case e2 => kernel_rfl); (case r2 => first | with_reducible assumption | with_reducible exact if_pos rfl | (refine' Eq.trans (if_neg (of_decide_eq_false ?e1)) ?r1; (case e1 => kernel_rfl); (case r1 => first | with_reducible assumption | with_reducible exact if_pos rfl))))))))))))))))
  replace g2 : m9 (Str.ofString "high") = some (.int b₁ tb) := by rw [hm9]; show ite _ _ _ = _; first | with_reducible assumption | with_reducible exact if_pos rfl | (refine' Eq.trans (if_neg (of_decide_eq_false ?e8)) ?r8; (case e8 => kernel_rfl); (case r8 => first | with_reducible assumption | with_reducible exact if_pos rfl | (refine' Eq.trans (if_neg (of_decide_eq_false ?e7)) ?r7; (case e7 => kernel_rfl); (case r7 => first | with_reducible assumption | with_reducible exact if_pos rfl | (refine' Eq.trans (if_neg (of_decide_eq_false ?e6)) ?r6; (case e6 => kernel_rfl); (case r6 => first | with_reducible assumption | with_reducible exact if_pos rfl | (refine' Eq.trans (if_neg (of_decide_eq_false ?e5)) ?r5; (case e5 => kernel_rfl); (case r5 => first | with_reducible assumption | with_reducible exact if_pos rfl | (refine' Eq.trans (if_neg (of_decide_eq_false ?e4)) ?r4; (case e4 => kernel_rfl); (case r4 => first | with_reducible assumption | with_reducible exact if_pos rfl | (refine' Eq.trans (if_neg (of_decide_eq_false ?e3)) ?r3; (case e3 => kernel_rfl); (case r3 => first | with_reducible assumption | with_reducible exact if_pos rfl | (refine' Eq.trans (if_neg (of_decide_eq_false ?e2)) ?r2; (case e2 => kernel_rfl); (case r2 => first | with_reducible assumption | with_reducible exact if_pos rfl | (refine' Eq.trans (if_neg (of_decide_eq_false ?e1)) ?r1; (case e1 => kernel_rfl); (case r1 => first | with_reducible assumption | with_reducible exact if_pos rfl))))))))))))))))
  replace g3 : m9 (Str.ofString "second") = some (.int c₁ tc) := by rw [hm9]; show ite _ _ _ = _; first | with_reducible assumption | with_reducible exact if_pos rfl | (refine' Eq.trans (if_neg (of_decide_eq_false ?e8)) ?r8; (case e8 => kernel_rfl); (case r8 => first | with_reducible assumption | with_reducible exact if_pos rfl | (refine' Eq.trans (if_neg (of_decide_eq_false ?e7)) ?r7; (case e7 => kernel_rfl); (case r7 => first | with_reducible assumption | with_reducible exact if_pos rfl | (refine' Eq.trans (if_neg (of_decide_eq_false ?e6)) ?r6; (case e6 => kernel_rfl); (case r6 => first | with_reducible assumption | with_reducible exact if_pos rfl | (refine' Eq.trans (if_neg (of_decide_eq_false ?e5)) ?r5; (case e5 => kernel_rfl); (case r5 => first | with_reducible assumption | with_reducible exact if_pos rfl | (refine' Eq.trans (if_neg (of_decide_eq_false ?e4)) ?r4; (case e4 => kernel_rfl); (case r4 => first | with_reducible assumption | with_reducible exact if_pos rfl | (refine' Eq.trans (if_neg (of_decide_eq_false ?e3)) ?r3; (case e3 => kernel_rfl); (case r3 => first | with_reducible assumption | with_reducible exact if_pos rfl | (refine' Eq.trans (if_neg (of_decide_eq_false ?e2)) ?r2; (case e2 => kernel_rfl); (case r2 => first | with_reducible assumption | with_reducible exact if_pos rfl | (refine' Eq.trans (if_neg (of_decide_eq_false ?e1)) ?r1; (case e1 => kernel_rfl); (case r1 => first | with_reducible assumption | with_reducible exact if_pos rfl))))))))))))))))
  replace g4 : m9 (Str.ofString "further") = some (.int d₁ td) := by rw [hm9]; show ite _ _ _ = _; first | with_reducible assumption | with_reducible exact if_pos rfl | (refine' Eq.trans (if_neg (of_decide_eq_false ?e8)) ?r8; (case e8 => kernel_rfl); (case r8 => first | with_reducible assumption | with_reducible exact if_pos rfl | (refine' Eq.trans (if_neg (of_decide_eq_false ?e7)) ?r7; (case e7 => kernel_rfl); (case r7 => first | with_reducible assumption | with_reducible exact if_pos rfl | (refine' Eq.trans (if_neg (of_decide_eq_false ?e6)) ?r6; (case e6 => kernel_rfl); (case r6 => first | with_reducible assumption | with_reducible exact if_pos rfl | (refine' Eq.trans (if_neg (of_decide_eq_false ?e5)) ?r5; (case e5 => kernel_rfl); (case r5 => first | with_reducible assumption | with_reducible exact if_pos rfl | (refine' Eq.trans (if_neg (of_decide_eq_false ?e4)) ?r4; (case e4 => kernel_rfl); (case r4 => first | with_reducible assumption | with_reducible exact if_pos rfl | (refine' Eq.trans (if_neg (of_decide_eq_false ?e3)) ?r3; (case e3 => kernel_rfl); (case r3 => first | with_reducible assumption | with_reducible exact if_pos rfl | (refine' Eq.trans (if_neg (of_decide_eq_false ?e2)) ?r2; (case e2 => kernel_rfl); (case r2 => first | with_reducible assumption | with_reducible exact if_pos rfl | (refine' Eq.trans (if_neg (of_decide_eq_false ?e1)) ?r1; (case e1 => kernel_rfl); (case r1 => first | with_reducible assumption | with_reducible exact if_pos rfl))))))))))))))))
  replace g5 : m9 (Str.ofString "third") = some (.int e₁ te) := by rw [hm9]; show ite _ _ _ = _; first | with_reducible assumption | with_reducible exact if_pos rfl | (refine' Eq.trans (if_neg (of_decide_eq_false ?e8)) ?r8; (case e8 => kernel_rfl); (case r8 => first | with_reducible assumption | with_reducible exact if_pos rfl | (refine' Eq.trans (if_neg (of_decide_eq_false ?e7)) ?r7; (case e7 => kernel_rfl); (case r7 => first | with_reducible assumption | with_reducible exact if_pos rfl | (refine' Eq.trans (if_neg (of_decide_eq_false ?e6)) ?r6; (case e6 => kernel_rfl); (case r6 => first | with_reducible assumption | with_reducible exact if_pos rfl | (refine' Eq.trans (if_neg (of_decide_eq_false ?e5)) ?r5; (case e5 => kernel_rfl); (case r5 => first | with_reducible assumption | with_reducible exact if_pos rfl | (refine' Eq.trans (if_neg (of_decide_eq_false ?e4)) ?r4; (case e4 => kernel_rfl); (case r4 => first | with_reducible assumption | with_reducible exact if_pos rfl | (refine' Eq.trans (if_neg (of_decide_eq_false ?e3)) ?r3; (case e3 => kernel_rfl); (case r3 => first | with_reducible assumption | with_reducible exact if_pos rfl | (refine' Eq.trans (if_neg (of_decide_eq_false ?e2)) ?r2; (case e2 => kernel_rfl); (case r2 => first | with_reducible assumption | with_reducible exact if_pos rfl | (refine' Eq.trans (if_neg (of_decide_eq_false ?e1)) ?r1; (case e1 => kernel_rfl); (case r1 => first | with_reducible assumption | with_reducible exact if_pos rfl))))))))))))))))
  replace g6 : m9 (Str.ofString "last") = some (.int f₁ tf) := by rw [hm9]; show ite _ _ _ = _; first | with_reducible assumption | with_reducible exact if_pos rfl | (refine' Eq.trans (if_neg (of_decide_eq_false ?e8)) ?r8; (case e8 => kernel_rfl); (case r8 => first | with_reducible assumption | with_reducible exact if_pos rfl | (refine' Eq.trans (if_neg (of_decide_eq_false ?e7)) ?r7; (case e7 => kernel_rfl); (case r7 => first | with_reducible assumption | with_reducible exact if_pos rfl | (refine' Eq.trans (if_neg (of_decide_eq_false ?e6)) ?r6; (case e6 => kernel_rfl); (case r6 => first | with_reducible assumption | with_reducible exact if_pos rfl | (refine' Eq.trans (if_neg (of_decide_eq_false ?e5)) ?r5; (case e5 => kernel_rfl); (case r5 => first | with_reducible assumption | with_reducible exact if_pos rfl | (refine' Eq.trans (if_neg (of_decide_eq_false ?e4)) ?r4; (case e4 => kernel_rfl); (case r4 => first | with_reducible assumption | with_reducible exact if_pos rfl | (refine' Eq.trans (if_neg (of_decide_eq_false ?e3)) ?r3; (case e3 => kernel_rfl); (case r3 => first | with_reducible assumption | with_reducible exact if_pos rfl | (refine' Eq.trans (if_neg (of_decide_eq_false ?e2)) ?r2; (case e2 => kernel_rfl); (case r2 => first | with_reducible assumption | with_reducible exact if_pos rfl | (refine' Eq.trans (if_neg (of_decide_eq_false ?e1)) ?r1; (case e1 => kernel_rfl); (case r1 => first | with_reducible assumption | with_reducible exact if_pos rfl))))))))))))))))
  replace k1 : m9 (Str.ofString "one") = some (v1) := by rw [hm9]; show ite _ _ _ = _; first | with_reducible assumption | with_reducible exact if_pos rfl | (refine' Eq.trans (if_neg (of_decide_eq_false ?e8)) ?r8; (case e8 => kernel_rfl); (case r8 => first | with_reducible assumption | with_reducible exact if_pos rfl | (refine' Eq.trans (if_neg (of_decide_eq_false ?e7)) ?r7; (case e7 => kernel_rfl); (case r7 => first | with_reducible assumption | with_reducible exact if_pos rfl | (refine' Eq.trans (if_neg (of_decide_eq_false ?e6)) ?r6; (case e6 => kernel_rfl); (case r6 => first | with_reducible assumption | with_reducible exact if_pos rfl | (refine' Eq.trans (if_neg (of_decide_eq_false ?e5)) ?r5; (case e5 => kernel_rfl); (case r5 => first | with_reducible assumption | with_reducible exact if_pos rfl | (refine' Eq.trans (if_neg (of_decide_eq_false ?e4)) ?r4; (case e4 => kernel_rfl); (case r4 => first | with_reducible assumption | with_reducible exact if_pos rfl | (refine' Eq.trans (if_neg (of_decide_eq_false ?e3)) ?r3; (case e3 => kernel_rfl); (case r3 => first | with_reducible assumption | with_reducible exact if_pos rfl | (refine' Eq.trans (if_neg (of_decide_eq_false ?e2)) ?r2; (case e2 => kernel_rfl); (case r2 => first | with_reducible assumption | with_reducible exact if_pos rfl | (refine' Eq.trans (if_neg (of_decide_eq_false ?e1)) ?r1; (case e1 => kernel_rfl); (case r1 => first | with_reducible assumption | with_reducible exact if_pos rfl))))))))))))))))
  replace k2 : m9 (Str.ofString "two") = some (v2) := by rw [hm9]; show ite _ _ _ = _; first | with_reducible assumption | with_reducible exact if_pos rfl | (refine' Eq.trans (if_neg (of_decide_eq_false ?e8)) ?r8; (case e8 => kernel_rfl); (case r8 => first | with_reducible assumption | with_reducible exact if_pos rfl | (refine' Eq.trans (if_neg (of_decide_eq_false ?e7)) ?r7; (case e7 => kernel_rfl); (case r7 => first | with_reducible assumption | with_reducible exact if_pos rfl | (refine' Eq.trans (if_neg (of_decide_eq_false ?e6)) ?r6; (case e6 => kernel_rfl); (case r6 => first | with_reducible assumption | with_reducible exact if_pos rfl | (refine' Eq.trans (if_neg (of_decide_eq_false ?e5)) ?r5; (case e5 => kernel_rfl); (case r5 => first | with_reducible assumption | with_reducible exact if_pos rfl | (refine' Eq.trans (if_neg (of_decide_eq_false ?e4)) ?r4; (case e4 => kernel_rfl); (case r4 => first | with_reducible assumption | with_reducible exact if_pos rfl | (refine' Eq.trans (if_neg (of_decide_eq_false ?e3)) ?r3; (case e3 => kernel_rfl); (case r3 => first | with_reducible assumption | with_reducible exact if_pos rfl | (refine' Eq.trans (if_neg (of_decide_eq_false ?e2)) ?r2; (case e2 => kernel_rfl); (case r2 => first | with_reducible assumption | with_reducible exact if_pos rfl | (refine' Eq.trans (if_neg (of_decide_eq_false ?e1)) ?r1; (case e1 => kernel_rfl); (case r1 => first | with_reducible assumption | with_reducible exact if_pos rfl))))))))))))))))
  replace k3 : m9 (Str.ofString "three") = some (v3) := by rw [hm9]; show ite _ _ _ = _; first | with_reducible assumption | with_reducible exact if_pos rfl | (refine' Eq.trans (if_neg (of_decide_eq_false ?e8)) ?r8; (case e8 => kernel_rfl); (case r8 => first | with_reducible assumption | with_reducible exact if_pos rfl | (refine' Eq.trans (if_neg (of_decide_eq_false ?e7)) ?r7; (case e7 => kernel_rfl); (case r7 => first | with_reducible assumption | with_reducible exact if_pos rfl | (refine' Eq.trans (if_neg (of_decide_eq_false ?e6)) ?r6; (case e6 => kernel_rfl); (case r6 => first | with_reducible assumption | with_reducible exact if_pos rfl | (refine' Eq.trans (if_neg (of_decide_eq_false ?e5)) ?r5; (case e5 => kernel_rfl); (case r5 => first | with_reducible assumption | with_reducible exact if_pos rfl | (refine' Eq.trans (if_neg (of_decide_eq_false ?e4)) ?r4; (case e4 => kernel_rfl); (case r4 => first | with_reducible assumption | with_reducible exact if_pos rfl | (refine' Eq.trans (if_neg (of_decide_eq_false ?e3)) ?r3; (case e3 => kernel_rfl); (case r3 => first | with_reducible assumption | with_reducible exact if_pos rfl | (refine' Eq.trans (if_neg (of_decide_eq_false ?e2)) ?r2; (case e2 => kernel_rfl); (case r2 => first | with_reducible assumption | with_reducible exact if_pos rfl | (refine' Eq.trans (if_neg (of_decide_eq_false ?e1)) ?r1; (case e1 => kernel_rfl); (case r1 => first | with_reducible assumption | with_reducible exact if_pos rfl))))))))))))))))
  replace kp : m9 (Str.ofString "product") = some (vp) := by rw [hm9]; show ite _ _ _ = _; first | with_reducible assumption | with_reducible exact if_pos rfl | (refine' Eq.trans (if_neg (of_decide_eq_false ?e8)) ?r8; (case e8 => kernel_rfl); (case r8 => first | with_reducible assumption | with_reducible exact if_pos rfl | (refine' Eq.trans (if_neg (of_decide_eq_false ?e7)) ?r7; (case e7 => kernel_rfl); (case r7 => first | with_reducible assumption | with_reducible exact if_pos rfl | (refine' Eq.trans (if_neg (of_decide_eq_false ?e6)) ?r6; (case e6 => kernel_rfl); (case r6 => first | with_reducible assumption | with_reducible exact if_pos rfl | (refine' Eq.trans (if_neg (of_decide_eq_false ?e5)) ?r5; (case e5 => kernel_rfl); (case r5 => first | with_reducible assumption | with_reducible exact if_pos rfl | (refine' Eq.trans (if_neg (of_decide_eq_false ?e4)) ?r4; (case e4 => kernel_rfl); (case r4 => first | with_reducible assumption | with_reducible exact if_pos rfl | (refine' Eq.trans (if_neg (of_decide_eq_false ?e3)) ?r3; (case e3 => kernel_rfl); (case r3 => first | with_reducible assumption | with_reducible exact if_pos rfl | (refine' Eq.trans (if_neg (of_decide_eq_false ?e2)) ?r2; (case e2 => kernel_rfl); (case r2 => first | with_reducible assumption | with_reducible exact if_pos rfl | (refine' Eq.trans (if_neg (of_decide_eq_false ?e1)) ?r1; (case e1 => kernel_rfl); (case r1 => first | with_reducible assumption | with_reducible exact if_pos rfl))))))))))))))))
  have kx : m9 (Str.ofString "cut") = some (.int k tx) := by rw [hm9]; show ite _ _ _ = _; first | with_reducible assumption | with_reducible exact if_pos rfl | (refine' Eq.trans (if_neg (of_decide_eq_false ?e8)) ?r8; (case e8 => kernel_rfl); (case r8 => first | with_reducible assumption | with_reducible exact if_pos rfl | (refine' Eq.trans (if_neg (of_decide_eq_false ?e7)) ?r7; (case e7 => kernel_rfl); (case r7 => first | with_reducible assumption | with_reducible exact if_pos rfl | (refine' Eq.trans (if_neg (of_decide_eq_false ?e6)) ?r6; (case e6 => kernel_rfl); (case r6 => first | with_reducible assumption | with_reducible exact if_pos rfl | (refine' Eq.trans (if_neg (of_decide_eq_false ?e5)) ?r5; (case e5 => kernel_rfl); (case r5 => first | with_reducible assumption | with_reducible exact if_pos rfl | (refine' Eq.trans (if_neg (of_decide_eq_false ?e4)) ?r4; (case e4 => kernel_rfl); (case r4 => first | with_reducible assumption | with_reducible exact if_pos rfl | (refine' Eq.trans (if_neg (of_decide_eq_false ?e3)) ?r3; (case e3 => kernel_rfl); (case r3 => first | with_reducible assumption | with_reducible exact if_pos rfl | (refine' Eq.trans (if_neg (of_decide_eq_false ?e2)) ?r2; (case e2 => kernel_rfl); (case r2 => first | with_reducible assumption | with_reducible exact if_pos rfl | (refine' Eq.trans (if_neg (of_decide_eq_false ?e1)) ?r1; (case e1 => kernel_rfl); (case r1 => first | with_reducible assumption | with_reducible exact if_pos rfl))))))))))))))))
  replace V1 := V1.mono hs9
  replace V2 := V2.mono hs9
  replace V3 := V3.mono hs9
  replace VP := VP.mono hs9
  replace hD := hs9 _ hD
  clear hm9 F8 N8 hs9
  refine join (chunk_cuts w h₀ L ce cc m9 a₁ b₁ c₁ d₁ k ta tb tx news9 v2 k2 V2 g1 g2 kx x1 x2 o2 z1 z2 z3 z4) hfd (by decide) B F9 X N9 T hd hu ?_
  rintro m10 news10 h10 tk10 F10 N10 ⟨vl, vr, hm10, hs10, VL, VR⟩
  replace g0 : m10 (Str.ofString "draw") = some (.ref D) := by rw [hm10]; show ite _ _ _ = _; first | with_reducible assumption | with_reducible exact if_pos rfl | (refine' Eq.trans (if_neg (of_decide_eq_false ?e8)) ?r8; (case e8 => kernel_rfl); (case r8 => first | with_reducible assumption | with_reducible exact if_pos rfl | (refine' Eq.trans (if_neg (of_decide_eq_false ?e7)) ?r7; (case e7 => kernel_rfl); (case r7 => first | with_reducible assumption | with_reducible exact if_pos rfl | (refine' Eq.trans (if_neg (of_decide_eq_false ?e6)) ?r6; (case e6 => kernel_rfl); (case r6 => first | with_reducible assumption | with_reducible exact if_pos rfl | (refine' Eq.trans (if_neg (of_decide_eq_false ?e5)) ?r5; (case e5 => kernel_rfl); (case r5 => first | with_reducible assumption | with_reducible exact if_pos rfl | (refine' Eq.trans (if_neg (of_decide_eq_false ?e4)) ?r4; (case e4 => kernel_rfl); (case r4 => first | with_reducible assumption | with_reducible exact if_pos rfl | (refine' Eq.trans (if_neg (of_decide_eq_false ?e3)) ?r3; (case e3 => kernel_rfl); (case r3 => first | with_reducible assumption | with_reducible exact if_pos rfl | (refine' Eq.trans (if_neg (of_decide_eq_false ?e2)) ?r2; (case e2 => kernel_rfl); (case r2 => first | with_reducible assumption | with_reducible exact if_pos rfl | (refine' Eq.trans (if_neg (of_decide_eq_false ?e1)) ?r1; (case e1 => kernel_rfl); (case r1 => first | with_reducible assumption | with_reducible exact if_pos rfl))))))))))))))))
  replace g1 : m10 (Str.ofString "low") = some (.int a₁ ta) := by rw [hm10]; show ite _ _ _ = _; first | with_reducible assumption | with_reducible exact if_pos rfl | (refine' Eq.trans (if_neg (of_decide_eq_false ?e8)) ?r8; (case e8 => kernel_rfl); (case r8 => first | with_reducible assumption | with_reducible exact if_pos rfl | (refine' Eq.trans (if_neg (of_decide_eq_false ?e7)) ?r7; (case e7 => kernel_rfl); (case r7 => first | with_reducible assumption | with_reducible exact if_pos rfl | (refine' Eq.trans (if_neg (of_decide_eq_false ?e6)) ?r6; (case e6 => kernel_rfl); (case r6 => first | with_reducible assumption | with_reducible exact if_pos rfl | (refine' Eq.trans (if_neg (of_decide_eq_false ?e5)) ?r5; (case e5 => kernel_rfl); (case r5 => first | with_reducible assumption | with_reducible exact if_pos rfl | (refine' Eq.trans (if_neg (of_decide_eq_false ?e4)) ?r4; (case e4 => kernel_rfl); (case r4 => first | with_reducible assumption | with_reducible exact if_pos rfl | (refine' Eq.trans (if_neg (of_decide_eq_false ?e3)) ?r3; (case e3 => kernel_rfl); (case r3 => first | with_reducible assumption | with_reducible exact if_pos rfl | (refine' Eq.trans (if_neg (of_decide_eq_false ?e2)) ?r2; (case e2 => kernel_rfl); (case r2 => first | with_reducible assumption | with_reducible exact if_pos rfl | (refine' Eq.trans (if_neg (of_decide_eq_false ?e1)) ?r1; (case e1 => kernel_rfl); (case r1 => first | with_reducible assumption | with_reducible exact if_pos rfl))))))))))))))))
  replace g2 : m10 (Str.ofString "high") = some (.int b₁ tb) := by rw [hm10]; show ite _ _ _ = _; first | with_reducible assumption | with_reducible exact if_pos rfl | (refine' Eq.trans (if_neg (of_decide_eq_false ?e8)) ?r8; (case e8 => kernel_rfl); (case r8 => first | with_reducible assumption | with_reducible exact if_pos rfl | (refine' Eq.trans (if_neg (of_decide_eq_false ?e7)) ?r7; (case e7 => kernel_rfl); (case r7 => first | with_reducible assumption | with_reducible exact if_pos rfl | (refine' Eq.trans (if_neg (of_decide_eq_false ?e6)) ?r6; (case e6 => kernel_rfl); (case r6 => first | with_reducible assumption | with_reducible exact if_pos rfl | (refine' Eq.trans (if_neg (of_decide_eq_false ?e5)) ?r5; (case e5 => kernel_rfl); (case r5 => first | with_reducible assumption | with_reducible exact if_pos rfl | (refine' Eq.trans (if_neg (of_decide_eq_false ?e4)) ?r4; (case e4 => kernel_rfl); (case r4 => first | with_reducible assumption | with_reducible exact if_pos rfl | (refine' Eq.trans (if_neg (of_decide_eq_false ?e3)) ?r3; (case e3 => kernel_rfl); (case r3 => first | with_reducible assumption | with_reducible exact if_pos rfl | (refine' Eq.trans (if_neg (of_decide_eq_false ?e2)) ?r2; (case e2 => kernel_rfl); (case r2 => first | with_reducible assumption | with_reducible exact if_pos rfl | (refine' Eq.trans (if_neg (of_decide_eq_false ?e1)) ?r1; (case e1 => kernel_rfl); (case r1 => first | with_reducible assumption | with_reducible exact if_pos rfl))))))))))))))))
  replace g3 : m10 (Str.ofString "second") = some (.int c₁ tc) := by rw [hm10]; show ite _ _ _ = _; first | with_reducible assumption | with_reducible exact if_pos rfl | (refine' Eq.trans (if_neg (of_decide_eq_false ?e8)) ?r8; (case e8 => kernel_rfl); (case r8 => first | with_reducible assumption | with_reducible exact if_pos rfl | (refine' Eq.trans (if_neg (of_decide_eq_false ?e7)) ?r7; (case e7 => kernel_rfl); (case r7 => first | with_reducible assumption | with_reducible exact if_pos rfl | (refine' Eq.trans (if_neg (of_decide_eq_false ?e6)) ?r6; (case e6 => kernel_rfl); (case r6 => first | with_reducible assumption | with_reducible exact if_pos rfl | (refine' Eq.trans (if_neg (of_decide_eq_false ?e5)) ?r5; (case e5 => kernel_rfl); (case r5 => first | with_reducible assumption | with_reducible exact if_pos rfl | (refine' Eq.trans (if_neg (of_decide_eq_false ?e4)) ?r4; (case e4 => kernel_rfl); (case r4 => first | with_reducible assumption | with_reducible exact if_pos rfl | (refine' Eq.trans (if_neg (of_decide_eq_false ?e3)) ?r3; (case e3 => kernel_rfl); (case r3 => first | with_reducible assumption | with_reducible exact if_pos rfl | (refine' Eq.trans (if_neg (of_decide_eq_false ?e2)) ?r2; (case e2 => kernel_rfl); (case r2 => first | with_reducible assumption | with_reducible exact if_pos rfl | (refine' Eq.trans (if_neg (of_decide_eq_false ?e1)) ?r1; (case e1 => kernel_rfl); (case r1 => first | with_reducible assumption | with_reducible exact if_pos rfl))))))))))))))))
  replace g4 : m10 (Str.ofString "further") = some (.int d₁ td) := by rw [hm10]; show ite _ _ _ = _; first | with_reducible assumption | with_reducible exact if_pos rfl | (refine' Eq.trans (if_neg (of_decide_eq_false ?e8)) ?r8; (case e8 => kernel_rfl); (case r8 => first | with_reducible assumption | with_reducible exact if_pos rfl | (refine' Eq.trans (if_neg (of_decide_eq_false ?e7)) ?r7; (case e7 => kernel_rfl); (case r7 => first | with_reducible assumption | with_reducible exact if_pos rfl | (refine' Eq.trans (if_neg (of_decide_eq_false ?e6)) ?r6; (case e6 => kernel_rfl); (case r6 => first | with_reducible assumption | with_reducible exact if_pos rfl | (refine' Eq.trans (if_neg (of_decide_eq_false ?e5)) ?r5; (case e5 => kernel_rfl); (case r5 => first | with_reducible assumption | with_reducible exact if_pos rfl | (refine' Eq.trans (if_neg (of_decide_eq_false ?e4)) ?r4; (case e4 => kernel_rfl); (case r4 => first | with_reducible assumption | with_reducible exact if_pos rfl | (refine' Eq.trans (if_neg (of_decide_eq_false ?e3)) ?r3; (case e3 => kernel_rfl); (case r3 => first | with_reducible assumption | with_reducible exact if_pos rfl | (refine' Eq.trans (if_neg (of_decide_eq_false ?e2)) ?r2; (case e2 => kernel_rfl); (case r2 => first | with_reducible assumption | with_reducible exact if_pos rfl | (refine' Eq.trans (if_neg (of_decide_eq_false ?e1)) ?r1; (case e1 => kernel_rfl); (case r1 => first | with_reducible assumption | with_reducible exact if_pos rfl))))))))))))))))
  replace g5 : m10 (Str.ofString "third") = some (.int e₁ te) := by rw [hm10]; show ite _ _ _ = _; first | with_reducible assumption | with_reducible exact if_pos rfl | (refine' Eq.trans (if_neg (of_decide_eq_false ?e8)) ?r8; (case e8 => kernel_rfl); (case r8 => first | with_reducible assumption | with_reducible exact if_pos rfl | (refine' Eq.trans (if_neg (of_decide_eq_false ?e7)) ?r7; (case e7 => kernel_rfl); (case r7 => first | with_reducible assumption | with_reducible exact if_pos rfl | (refine' Eq.trans (if_neg (of_decide_eq_false ?e6)) ?r6; (case e6 => kernel_rfl); (case r6 => first | with_reducible assumption | with_reducible exact if_pos rfl | (refine' Eq.trans (if_neg (of_decide_eq_false ?e5)) ?r5; (case e5 => kernel_rfl); (case r5 => first | with_reducible assumption | with_reducible exact if_pos rfl | (refine' Eq.trans (if_neg (of_decide_eq_false ?e4)) ?r4; (case e4 => kernel_rfl); (case r4 => first | with_reducible assumption | with_reducible exact if_pos rfl | (refine' Eq.trans (if_neg (of_decide_eq_false ?e3)) ?r3; (case e3 => kernel_rfl); (case r3 => first | with_reducible assumption | with_reducible exact if_pos rfl | (refine' Eq.trans (if_neg (of_decide_eq_false ?e2)) ?r2; (case e2 => kernel_rfl); (case r2 => first | with_reducible assumption | with_reducible exact if_pos rfl | (refine' Eq.trans (if_neg (of_decide_eq_false ?e1)) ?r1; (case e1 => kernel_rfl); (case r1 => first | with_reducible assumption | with_reducible exact if_pos rfl))))))))))))))))
  replace g6 : m10 (Str.ofString "last") = some (.int f₁ tf) := by rw [hm10]; show ite _ _ _ = _; first | with_reducible assumption | with_reducible exact if_pos rfl | (refine' Eq.trans (if_neg (of_decide_eq_false ?e8)) ?r8; (case e8 => kernel_rfl); (case r8 => first | with_reducible assumption | with_reducible exact if_pos rfl | (refine' Eq.trans (if_neg (of_decide_eq_false ?e7)) ?r7; (case e7 => kernel_rfl); (case r7 => first | with_reducible assumption | with_reducible exact if_pos rfl | (refine' Eq.trans (if_neg (of_decide_eq_false ?e6)) ?r6; (case e6 => kernel_rfl); (case r6 => first | with_reducible assumption | with_reducible exact if_pos rfl | (refine' Eq.trans (if_neg (of_decide_eq_false ?e5)) ?r5; (case e5 => kernel_rfl); (case r5 => first | with_reducible assumption | with_reducible exact if_pos rfl | (refine' Eq.trans (if_neg (of_decide_eq_false ?e4)) ?r4; (case e4 => kernel_rfl); (case r4 => first | with_reducible assumption | with_reducible exact if_pos rfl | (refine' Eq.trans (if_neg (of_decide_eq_false ?e3)) ?r3; (case e3 => kernel_rfl); (case r3 => first | with_reducible assumption | with_reducible exact if_pos rfl | (refine' Eq.trans (if_neg (of_decide_eq_false ?e2)) ?r2; (case e2 => kernel_rfl); (case r2 => first | with_reducible assumption | with_reducible exact if_pos rfl | (refine' Eq.trans (if_neg (of_decide_eq_false ?e1)) ?r1; (case e1 => kernel_rfl); (case r1 => first | with_reducible assumption | with_reducible exact if_pos rfl))))))))))))))))
  replace k1 : m10 (Str.ofString "one") = some (v1) := by rw [hm10]; show ite _ _ _ = _; first | with_reducible assumption | with_reducible exact if_pos rfl | (refine' Eq.trans (if_neg (of_decide_eq_false ?e8)) ?r8; (case e8 => kernel_rfl); (case r8 => first | with_reducible assumption | with_reducible exact if_pos rfl | (refine' Eq.trans (if_neg (of_decide_eq_false ?e7)) ?r7; (case e7 => kernel_rfl); (case r7 => first | with_reducible assumption | with_reducible exact if_pos rfl | (refine' Eq.trans (if_neg (of_decide_eq_false ?e6)) ?r6; (case e6 => kernel_rfl); (case r6 => first | with_reducible assumption | with_reducible exact if_pos rfl | (refine' Eq.trans (if_neg (of_decide_eq_false ?e5)) ?r5; (case e5 => kernel_rfl); (case r5 => first | with_reducible assumption | with_reducible exact if_pos rfl | (refine' Eq.trans (if_neg (of_decide_eq_false ?e4)) ?r4; (case e4 => kernel_rfl); (case r4 => first | with_reducible assumption | with_reducible exact if_pos rfl | (refine' Eq.trans (if_neg (of_decide_eq_false ?e3)) ?r3; (case e3 => kernel_rfl); (case r3 => first | with_reducible assumption | with_reducible exact if_pos rfl | (refine' Eq.trans (if_neg (of_decide_eq_false ?e2)) ?r2; (case e2 => kernel_rfl); (case r2 => first | with_reducible assumption | with_reducible exact if_pos rfl | (refine' Eq.trans (if_neg (of_decide_eq_false ?e1)) ?r1; (case e1 => kernel_rfl); (case r1 => first | with_reducible assumption | with_reducible exact if_pos rfl))))))))))))))))
  replace k2 : m10 (Str.ofString "two") = some (v2) := by rw [hm10]; show ite _ _ _ = _; first | with_reducible assumption | with_reducible exact if_pos rfl | (refine' Eq.trans (if_neg (of_decide_eq_false ?e8)) ?r8; (case e8 => kernel_rfl); (case r8 => first | with_reducible assumption | with_reducible exact if_pos rfl | (refine' Eq.trans (if_neg (of_decide_eq_false ?e7)) ?r7; (case e7 => kernel_rfl); (case r7 => first | with_reducible assumption | with_reducible exact if_pos rfl | (refine' Eq.trans (if_neg (of_decide_eq_false ?e6)) ?r6; (case e6 => kernel_rfl); (case r6 => first | with_reducible assumption | with_reducible exact if_pos rfl | (refine' Eq.trans (if_neg (of_decide_eq_false ?e5)) ?r5; (case e5 => kernel_rfl); (case r5 => first | with_reducible assumption | with_reducible exact if_pos rfl | (refine' Eq.trans (if_neg (of_decide_eq_false ?e4)) ?r4; (case e4 => kernel_rfl); (case r4 => first | with_reducible assumption | with_reducible exact if_pos rfl | (refine' Eq.trans (if_neg (of_decide_eq_false ?e3)) ?r3; (case e3 => kernel_rfl); (case r3 => first | with_reducible assumption | with_reducible exact if_pos rfl | (refine' Eq.trans (if_neg (of_decide_eq_false ?e2)) ?r2; (case e2 => kernel_rfl); (case r2 => first | with_reducible assumption | with_reducible exact if_pos rfl | (refine' Eq.trans (if_neg (of_decide_eq_false ?e1)) ?r1; (case e1 => kernel_rfl); (case r1 => first | with_reducible assumption | with_reducible exact if_pos rfl))))))))))))))))
  replace k3 : m10 (Str.ofString "three") = some (v3) := by rw [hm10]; show ite _ _ _ = _; first | with_reducible assumption | with_reducible exact if_pos rfl | (refine' Eq.trans (if_neg (of_decide_eq_false ?e8)) ?r8; (case e8 => kernel_rfl); (case r8 => first | with_reducible assumption | with_reducible exact if_pos rfl | (refine' Eq.trans (if_neg (of_decide_eq_false ?e7)) ?r7; (case e7 => kernel_rfl); (case r7 => first | with_reducible assumption | with_reducible exact if_pos rfl | (refine' Eq.trans (if_neg (of_decide_eq_false ?e6)) ?r6; (case e6 => kernel_rfl); (case r6 => first | with_reducible assumption | with_reducible exact if_pos rfl | (refine' Eq.trans (if_neg (of_decide_eq_false ?e5)) ?r5; (case e5 => kernel_rfl); (case r5 => first | with_reducible assumption | with_reducible exact if_pos rfl | (refine' Eq.trans (if_neg (of_decide_eq_false ?e4)) ?r4; (case e4 => kernel_rfl); (case r4 => first | with_reducible assumption | with_reducible exact if_pos rfl | (refine' Eq.trans (if_neg (of_decide_eq_false ?e3)) ?r3; (case e3 => kernel_rfl); (case r3 => first | with_reducible assumption | with_reducible exact if_pos rfl | (refine' Eq.trans (if_neg (of_decide_eq_false ?e2)) ?r2; (case e2 => kernel_rfl); (case r2 => first | with_reducible assumption | with_reducible exact if_pos rfl | (refine' Eq.trans (if_neg (of_decide_eq_false ?e1)) ?r1; (case e1 => kernel_rfl); (case r1 => first | with_reducible assumption | with_reducible exact if_pos rfl))))))))))))))))
  replace kp : m10 (Str.ofString "product") = some (vp) := by rw [hm10]; show ite _ _ _ = _; first | with_reducible assumption | with_reducible exact if_pos rfl | (refine' Eq.trans (if_neg (of_decide_eq_false ?e8)) ?r8; (case e8 => kernel_rfl); (case r8 => first | with_reducible assumption | with_reducible exact if_pos rfl | (refine' Eq.trans (if_neg (of_decide_eq_false ?e7)) ?r7; (case e7 => kernel_rfl); (case r7 => first | with_reducible assumption | with_reducible exact if_pos rfl | (refine' Eq.trans (if_neg (of_decide_eq_false ?e6)) ?r6; (case e6 => kernel_rfl); (case r6 => first | with_reducible assumption | with_reducible exact if_pos rfl | (refine' Eq.trans (if_neg (of_decide_eq_false ?e5)) ?r5; (case e5 => kernel_rfl); (case r5 => first | with_reducible assumption | with_reducible exact if_pos rfl | (refine' Eq.trans (if_neg (of_decide_eq_false ?e4)) ?r4; (case e4 => kernel_rfl); (case r4 => first | with_reducible assumption | with_reducible exact if_pos rfl | (refine' Eq.trans (if_neg (of_decide_eq_false ?e3)) ?r3; (case e3 => kernel_rfl); (case r3 => first | with_reducible assumption | with_reducible exact if_pos rfl | (refine' Eq.trans (if_neg (of_decide_eq_false ?e2)) ?r2; (case e2 => kernel_rfl); (case r2 => first | with_reducible assumption | with_reducible exact if_pos rfl | (refine' Eq.trans (if_neg (of_decide_eq_false ?e1)) ?r1; (case e1 => kernel_rfl); (case r1 => first | with_reducible assumption | with_reducible exact if_pos rfl))))))))))))))))
  have kl : m10 (Str.ofString "left") = some (vl) := by rw [hm10]; show ite _ _ _ = _; first | with_reducible assumption | with_reducible exact if_pos rfl | (refine' Eq.trans (if_neg (of_decide_eq_false ?e8)) ?r8; (case e8 => kernel_rfl); (case r8 => first | with_reducible assumption | with_reducible exact if_pos rfl | (refine' Eq.trans (if_neg (of_decide_eq_false ?e7)) ?r7; (case e7 => kernel_rfl); (case r7 => first | with_reducible assumption | with_reducible exact if_pos rfl | (refine' Eq.trans (if_neg (of_decide_eq_false ?e6)) ?r6; (case e6 => kernel_rfl); (case r6 => first | with_reducible assumption | with_reducible exact if_pos rfl | (refine' Eq.trans (if_neg (of_decide_eq_false ?e5)) ?r5; (case e5 => kernel_rfl); (case r5 => first | with_reducible assumption | with_reducible exact if_pos rfl | (refine' Eq.trans (if_neg (of_decide_eq_false ?e4)) ?r4; (case e4 => kernel_rfl); (case r4 => first | with_reducible assumption | with_reducible exact if_pos rfl | (refine' Eq.trans (if_neg (of_decide_eq_false ?e3)) ?r3; (case e3 => kernel_rfl); (case r3 => first | with_reducible assumption | with_reducible exact if_pos rfl | (refine' Eq.trans (if_neg (of_decide_eq_false ?e2)) ?r2; (case e2 => kernel_rfl); (case r2 => first | with_reducible assumption | with_reducible exact if_pos rfl | (refine' Eq.trans (if_neg (of_decide_eq_false ?e1)) ?r1; (case e1 => kernel_rfl); (case r1 => first | with_reducible assumption | with_reducible exact if_pos rfl))))))))))))))))
  have kr : m10 (Str.ofString "right") = some (vr) := by rw [hm10]; show ite _ _ _ = _; first | with_reducible assumption | with_reducible exact if_pos rfl | (refine' Eq.trans (if_neg (of_decide_eq_false ?e8)) ?r8; (case e8 => kernel_rfl); (case r8 => first | with_reducible assumption | with_reducible exact if_pos rfl | (refine' Eq.trans (if_neg (of_decide_eq_false ?e7)) ?r7; (case e7 => kernel_rfl); (case r7 => first | with_reducible assumption | with_reducible exact if_pos rfl | (refine' Eq.trans (if_neg (of_decide_eq_false ?e6)) ?r6; (case e6 => kernel_rfl); (case r6 => first | with_reducible assumption | with_reducible exact if_pos rfl | (refine' Eq.trans (if_neg (of_decide_eq_false ?e5)) ?r5; (case e5 => kernel_rfl); (case r5 => first | with_reducible assumption | with_reducible exact if_pos rfl | (refine' Eq.trans (if_neg (of_decide_eq_false ?e4)) ?r4; (case e4 => kernel_rfl); (case r4 => first | with_reducible assumption | with_reducible exact if_pos rfl | (refine' Eq.trans (if_neg (of_decide_eq_false ?e3)) ?r3; (case e3 => kernel_rfl); (case r3 => first | with_reducible assumption | with_reducible exact if_pos rfl | (refine' Eq.trans (if_neg (of_decide_eq_false ?e2)) ?r2; (case e2 => kernel_rfl); (case r2 => first | with_reducible assumption | with_reducible exact if_pos rfl | (refine' Eq.trans (if_neg (of_decide_eq_false ?e1)) ?r1; (case e1 => kernel_rfl); (case r1 => first | with_reducible assumption | with_reducible exact if_pos rfl))))))))))))))))
  replace V1 := V1.mono hs10
  replace V2 := V2.mono hs10
  replace V3 := V3.mono hs10
  replace VP := VP.mono hs10
  replace hD := hs10 _ hD
  clear hm10 F9 N9 hs10 kx
  obtain ⟨w3, w4⟩ := mEnds_small (i := a₁) (j := k) (x := c₁) (y := d₁) (A := 80) (B := 80) (by omega) (by omega) (by omega) (by omega)
  obtain ⟨w5, w6⟩ := mEnds_small (i := k) (j := b₁) (x := c₁) (y := d₁) (A := 80) (B := 80) (by omega) (by omega) (by omega) (by omega)
  have ce1 := cut_eq (c := c₁) (d := d₁) x1 x2
  refine join (chunk_if2 w h₀ L ce cc m10 _ _ _ _ _ _ news10 vl vr vp kl kr kp VL VR VP (by omega) (by omega) (by omega) (by omega) ce1.1 ce1.2) hfd (by decide) B F10 X N10 T hd hu ?_
  rintro m11 news11 h11 tk11 F11 N11 ⟨hm11, hs11⟩
  subst hm11
  replace V1 := V1.mono hs11
  replace V2 := V2.mono hs11
  replace V3 := V3.mono hs11
  replace VP := VP.mono hs11
  replace hD := hs11 _ hD
  clear F10 N10 hs11 VL VR kl kr w3 w4 w5 w6 ce1
  refine join (chunk_if3 w h₀ L ce cc m11 a₁ b₁ c₁ d₁ _ _ news11 v1 v2 vp k1 k2 kp V1 V2 VP o1 o2 (mLo_le _ _ _ _) z1 z2 z3 z4 (by omega) (by omega) (abs_mul o1 o2)) hfd (by decide) B F11 X N11 T hd hu ?_
  rintro m12 news12 h12 tk12 F12 N12 ⟨hm12, hs12⟩
  subst hm12
  replace V1 := V1.mono hs12
  replace V2 := V2.mono hs12
  replace V3 := V3.mono hs12
  replace hD := hs12 _ hD
  clear F11 N11 hs12 VP kp w1 w2
  refine join (chunk_if4 w h₀ L ce cc m12 a₁ b₁ c₁ d₁ news12 v1 v2 k1 k2 V1 V2 z1 z2 z3 z4 o1 o2) hfd (by decide) B F12 X N12 T hd hu ?_
  rintro m13 news13 h13 tk13 F13 N13 ⟨hm13, hs13⟩
  subst hm13
  replace V1 := V1.mono hs13
  replace V3 := V3.mono hs13
  replace hD := hs13 _ hD
  clear F12 N12 hs13 V2 k2
  refine join (chunk_if5 w h₀ L ce cc m13 a₁ b₁ e₁ f₁ ta tb te tf news13 v1 v3 k1 k3 g1 g2 g5 g6 V1 V3 z1 z2 z5 z6 o1 o3) hfd (by decide) B F13 X N13 T hd hu ?_
  rintro m14 news14 h14 tk14 F14 N14 ⟨hm14, hs14⟩
  subst hm14
  replace V1 := V1.mono hs14
  replace hD := hs14 _ hD
  clear F13 N13 hs14 V3 k3 g3 g4 g5 g6 z3 z4 z5 z6 o2 o3
  refine join (chunk_pows w h₀ L ce cc D m14 ys ds news14 hD hI hl g0) hfd (by decide) B F14 X N14 T hd hu ?_
  rintro m15 news15 h15 tk15 F15 N15 ⟨p, q, tp, tq, hm15, hs15, ⟨p1, p2⟩, ⟨pq1, pq2⟩⟩
  replace g1 : m15 (Str.ofString "low") = some (.int a₁ ta) := by rw [hm15]; show ite _ _ _ = _; first | with_reducible assumption | with_reducible exact if_pos rfl | (refine' Eq.trans (if_neg (of_decide_eq_false ?e8)) ?r8; (case e8 => kernel_rfl); (case r8 => first | with_reducible assumption | with_reducible exact if_pos rfl | (refine' Eq.trans (if_neg (of_decide_eq_false ?e7)) ?r7; (case e7 => kernel_rfl); (case r7 => first | with_reducible assumption | with_reducible exact if_pos rfl | (refine' Eq.trans (if_neg (of_decide_eq_false ?e6)) ?r6; (case e6 => kernel_rfl); (case r6 => first | with_reducible assumption | with_reducible exact if_pos rfl | (refine' Eq.trans (if_neg (of_decide_eq_false ?e5)) ?r5; (case e5 => kernel_rfl); (case r5 => first | with_reducible assumption | with_reducible exact if_pos rfl | (refine' Eq.trans (if_neg (of_decide_eq_false ?e4)) ?r4; (case e4 => kernel_rfl); (case r4 => first | with_reducible assumption | with_reducible exact if_pos rfl | (refine' Eq.trans (if_neg (of_decide_eq_false ?e3)) ?r3; (case e3 => kernel_rfl); (case r3 => first | with_reducible assumption | with_reducible exact if_pos rfl | (refine' Eq.trans (if_neg (of_decide_eq_false ?e2)) ?r2; (case e2 => kernel_rfl); (case r2 => first | with_reducible assumption | with_reducible exact if_pos rfl | (refine' Eq.trans (if_neg (of_decide_eq_false ?e1)) ?r1; (case e1 => kernel_rfl); (case r1 => first | with_reducible assumption | with_reducible exact if_pos rfl))))))))))))))))
  replace g2 : m15 (Str.ofString "high") = some (.int b₁ tb) := by rw [hm15]; show ite _ _ _ = _; first | with_reducible assumption | with_reducible exact if_pos rfl | (refine' Eq.trans (if_neg (of_decide_eq_false ?e8)) ?r8; (case e8 => kernel_rfl); (case r8 => first | with_reducible assumption | with_reducible exact if_pos rfl | (refine' Eq.trans (if_neg (of_decide_eq_false ?e7)) ?r7; (case e7 => kernel_rfl); (case r7 => first | with_reducible assumption | with_reducible exact if_pos rfl | (refine' Eq.trans (if_neg (of_decide_eq_false ?e6)) ?r6; (case e6 => kernel_rfl); (case r6 => first | with_reducible assumption | with_reducible exact if_pos rfl | (refine' Eq.trans (if_neg (of_decide_eq_false ?e5)) ?r5; (case e5 => kernel_rfl); (case r5 => first | with_reducible assumption | with_reducible exact if_pos rfl | (refine' Eq.trans (if_neg (of_decide_eq_false ?e4)) ?r4; (case e4 => kernel_rfl); (case r4 => first | with_reducible assumption | with_reducible exact if_pos rfl | (refine' Eq.trans (if_neg (of_decide_eq_false ?e3)) ?r3; (case e3 => kernel_rfl); (case r3 => first | with_reducible assumption | with_reducible exact if_pos rfl | (refine' Eq.trans (if_neg (of_decide_eq_false ?e2)) ?r2; (case e2 => kernel_rfl); (case r2 => first | with_reducible assumption | with_reducible exact if_pos rfl | (refine' Eq.trans (if_neg (of_decide_eq_false ?e1)) ?r1; (case e1 => kernel_rfl); (case r1 => first | with_reducible assumption | with_reducible exact if_pos rfl))))))))))))))))
  replace k1 : m15 (Str.ofString "one") = some (v1) := by rw [hm15]; show ite _ _ _ = _; first | with_reducible assumption | with_reducible exact if_pos rfl | (refine' Eq.trans (if_neg (of_decide_eq_false ?e8)) ?r8; (case e8 => kernel_rfl); (case r8 => first | with_reducible assumption | with_reducible exact if_pos rfl | (refine' Eq.trans (if_neg (of_decide_eq_false ?e7)) ?r7; (case e7 => kernel_rfl); (case r7 => first | with_reducible assumption | with_reducible exact if_pos rfl | (refine' Eq.trans (if_neg (of_decide_eq_false ?e6)) ?r6; (case e6 => kernel_rfl); (case r6 => first | with_reducible assumption | with_reducible exact if_pos rfl | (refine' Eq.trans (if_neg (of_decide_eq_false ?e5)) ?r5; (case e5 => kernel_rfl); (case r5 => first | with_reducible assumption | with_reducible exact if_pos rfl | (refine' Eq.trans (if_neg (of_decide_eq_false ?e4)) ?r4; (case e4 => kernel_rfl); (case r4 => first | with_reducible assumption | with_reducible exact if_pos rfl | (refine' Eq.trans (if_neg (of_decide_eq_false ?e3)) ?r3; (case e3 => kernel_rfl); (case r3 => first | with_reducible assumption | with_reducible exact if_pos rfl | (refine' Eq.trans (if_neg (of_decide_eq_false ?e2)) ?r2; (case e2 => kernel_rfl); (case r2 => first | with_reducible assumption | with_reducible exact if_pos rfl | (refine' Eq.trans (if_neg (of_decide_eq_false ?e1)) ?r1; (case e1 => kernel_rfl); (case r1 => first | with_reducible assumption | with_reducible exact if_pos rfl))))))))))))))))
  have q1 : m15 (Str.ofString "power") = some (.int p tp) := by rw [hm15]; show ite _ _ _ = _; first | with_reducible assumption | with_reducible exact if_pos rfl | (refine' Eq.trans (if_neg (of_decide_eq_false ?e8)) ?r8; (case e8 => kernel_rfl); (case r8 => first | with_reducible assumption | with_reducible exact if_pos rfl | (refine' Eq.trans (if_neg (of_decide_eq_false ?e7)) ?r7; (case e7 => kernel_rfl); (case r7 => first | with_reducible assumption | with_reducible exact if_pos rfl | (refine' Eq.trans (if_neg (of_decide_eq_false ?e6)) ?r6; (case e6 => kernel_rfl); (case r6 => first | with_reducible assumption | with_reducible exact if_pos rfl | (refine' Eq.trans (if_neg (of_decide_eq_false ?e5)) ?r5; (case e5 => kernel_rfl); (case r5 => first | with_reducible assumption | with_reducible exact if_pos rfl | (refine' Eq.trans (if_neg (of_decide_eq_false ?e4)) ?r4; (case e4 => kernel_rfl); (case r4 => first | with_reducible assumption | with_reducible exact if_pos rfl | (refine' Eq.trans (if_neg (of_decide_eq_false ?e3)) ?r3; (case e3 => kernel_rfl); (case r3 => first | with_reducible assumption | with_reducible exact if_pos rfl | (refine' Eq.trans (if_neg (of_decide_eq_false ?e2)) ?r2; (case e2 => kernel_rfl); (case r2 => first | with_reducible assumption | with_reducible exact if_pos rfl | (refine' Eq.trans (if_neg (of_decide_eq_false ?e1)) ?r1; (case e1 => kernel_rfl); (case r1 => first | with_reducible assumption | with_reducible exact if_pos rfl))))))))))))))))
  have q2 : m15 (Str.ofString "more") = some (.int q tq) := by rw [hm15]; show ite _ _ _ = _; first | with_reducible assumption | with_reducible exact if_pos rfl | (refine' Eq.trans (if_neg (of_decide_eq_false ?e8)) ?r8; (case e8 => kernel_rfl); (case r8 => first | with_reducible assumption | with_reducible exact if_pos rfl | (refine' Eq.trans (if_neg (of_decide_eq_false ?e7)) ?r7; (case e7 => kernel_rfl); (case r7 => first | with_reducible assumption | with_reducible exact if_pos rfl | (refine' Eq.trans (if_neg (of_decide_eq_false ?e6)) ?r6; (case e6 => kernel_rfl); (case r6 => first | with_reducible assumption | with_reducible exact if_pos rfl | (refine' Eq.trans (if_neg (of_decide_eq_false ?e5)) ?r5; (case e5 => kernel_rfl); (case r5 => first | with_reducible assumption | with_reducible exact if_pos rfl | (refine' Eq.trans (if_neg (of_decide_eq_false ?e4)) ?r4; (case e4 => kernel_rfl); (case r4 => first | with_reducible assumption | with_reducible exact if_pos rfl | (refine' Eq.trans (if_neg (of_decide_eq_false ?e3)) ?r3; (case e3 => kernel_rfl); (case r3 => first | with_reducible assumption | with_reducible exact if_pos rfl | (refine' Eq.trans (if_neg (of_decide_eq_false ?e2)) ?r2; (case e2 => kernel_rfl); (case r2 => first | with_reducible assumption | with_reducible exact if_pos rfl | (refine' Eq.trans (if_neg (of_decide_eq_false ?e1)) ?r1; (case e1 => kernel_rfl); (case r1 => first | with_reducible assumption | with_reducible exact if_pos rfl))))))))))))))))
  replace V1 := V1.mono hs15
  clear hm15 F14 N14 hs15 g0 hD
  have ha : a₁.natAbs ≤ 80 := by omega
  have hb : b₁.natAbs ≤ 80 := by omega
  have hP : 1 ≤ p.toNat := by omega
  have hM : 1 ≤ q.toNat := by omega
  have hP4 : p.toNat ≤ 4 := by omega
  have hM4 : q.toNat ≤ 4 := by omega
  have eadd : (p + q).toNat = p.toNat + q.toNat := by omega
  have pb := pq_bounds p1 p2 pq1 pq2
  have n16 : (p * q).toNat ≤ 16 := by omega
  have emul : (p * q).toNat = p.toNat * q.toNat := Int.toNat_mul (by omega) (by omega)
  refine join (chunk_raised w h₀ L ce cc m15 a₁ b₁ p q tp tq news15 v1 k1 q1 q2 V1 o1 z1 z2 p1 p2 pq1 pq2 (npow ha (by omega)) (npow hb (by omega)) (npow ha (by omega)) (npow hb (by omega)) (npow ha (by omega)) (npow hb (by omega))) hfd (by decide) B F15 X N15 T hd hu ?_
  rintro m16 news16 h16 tk16 F16 N16 ⟨vr1, vr2, vr3, hm16, hs16, R1, R2, R3⟩
  replace g1 : m16 (Str.ofString "low") = some (.int a₁ ta) := by rw [hm16]; show ite _ _ _ = _; first | with_reducible assumption | with_reducible exact if_pos rfl | (refine' Eq.trans (if_neg (of_decide_eq_false ?e8)) ?r8; (case e8 => kernel_rfl); (case r8 => first | with_reducible assumption | with_reducible exact if_pos rfl | (refine' Eq.trans (if_neg (of_decide_eq_false ?e7)) ?r7; (case e7 => kernel_rfl); (case r7 => first | with_reducible assumption | with_reducible exact if_pos rfl | (refine' Eq.trans (if_neg (of_decide_eq_false ?e6)) ?r6; (case e6 => kernel_rfl); (case r6 => first | with_reducible assumption | with_reducible exact if_pos rfl | (refine' Eq.trans (if_neg (of_decide_eq_false ?e5)) ?r5; (case e5 => kernel_rfl); (case r5 => first | with_reducible assumption | with_reducible exact if_pos rfl | (refine' Eq.trans (if_neg (of_decide_eq_false ?e4)) ?r4; (case e4 => kernel_rfl); (case r4 => first | with_reducible assumption | with_reducible exact if_pos rfl | (refine' Eq.trans (if_neg (of_decide_eq_false ?e3)) ?r3; (case e3 => kernel_rfl); (case r3 => first | with_reducible assumption | with_reducible exact if_pos rfl | (refine' Eq.trans (if_neg (of_decide_eq_false ?e2)) ?r2; (case e2 => kernel_rfl); (case r2 => first | with_reducible assumption | with_reducible exact if_pos rfl | (refine' Eq.trans (if_neg (of_decide_eq_false ?e1)) ?r1; (case e1 => kernel_rfl); (case r1 => first | with_reducible assumption | with_reducible exact if_pos rfl))))))))))))))))
  replace g2 : m16 (Str.ofString "high") = some (.int b₁ tb) := by rw [hm16]; show ite _ _ _ = _; first | with_reducible assumption | with_reducible exact if_pos rfl | (refine' Eq.trans (if_neg (of_decide_eq_false ?e8)) ?r8; (case e8 => kernel_rfl); (case r8 => first | with_reducible assumption | with_reducible exact if_pos rfl | (refine' Eq.trans (if_neg (of_decide_eq_false ?e7)) ?r7; (case e7 => kernel_rfl); (case r7 => first | with_reducible assumption | with_reducible exact if_pos rfl | (refine' Eq.trans (if_neg (of_decide_eq_false ?e6)) ?r6; (case e6 => kernel_rfl); (case r6 => first | with_reducible assumption | with_reducible exact if_pos rfl | (refine' Eq.trans (if_neg (of_decide_eq_false ?e5)) ?r5; (case e5 => kernel_rfl); (case r5 => first | with_reducible assumption | with_reducible exact if_pos rfl | (refine' Eq.trans (if_neg (of_decide_eq_false ?e4)) ?r4; (case e4 => kernel_rfl); (case r4 => first | with_reducible assumption | with_reducible exact if_pos rfl | (refine' Eq.trans (if_neg (of_decide_eq_false ?e3)) ?r3; (case e3 => kernel_rfl); (case r3 => first | with_reducible assumption | with_reducible exact if_pos rfl | (refine' Eq.trans (if_neg (of_decide_eq_false ?e2)) ?r2; (case e2 => kernel_rfl); (case r2 => first | with_reducible assumption | with_reducible exact if_pos rfl | (refine' Eq.trans (if_neg (of_decide_eq_false ?e1)) ?r1; (case e1 => kernel_rfl); (case r1 => first | with_reducible assumption | with_reducible exact if_pos rfl))))))))))))))))
  replace k1 : m16 (Str.ofString "one") = some (v1) := by rw [hm16]; show ite _ _ _ = _; first | with_reducible assumption | with_reducible exact if_pos rfl | (refine' Eq.trans (if_neg (of_decide_eq_false ?e8)) ?r8; (case e8 => kernel_rfl); (case r8 => first | with_reducible assumption | with_reducible exact if_pos rfl | (refine' Eq.trans (if_neg (of_decide_eq_false ?e7)) ?r7; (case e7 => kernel_rfl); (case r7 => first | with_reducible assumption | with_reducible exact if_pos rfl | (refine' Eq.trans (if_neg (of_decide_eq_false ?e6)) ?r6; (case e6 => kernel_rfl); (case r6 => first | with_reducible assumption | with_reducible exact if_pos rfl | (refine' Eq.trans (if_neg (of_decide_eq_false ?e5)) ?r5; (case e5 => kernel_rfl); (case r5 => first | with_reducible assumption | with_reducible exact if_pos rfl | (refine' Eq.trans (if_neg (of_decide_eq_false ?e4)) ?r4; (case e4 => kernel_rfl); (case r4 => first | with_reducible assumption | with_reducible exact if_pos rfl | (refine' Eq.trans (if_neg (of_decide_eq_false ?e3)) ?r3; (case e3 => kernel_rfl); (case r3 => first | with_reducible assumption | with_reducible exact if_pos rfl | (refine' Eq.trans (if_neg (of_decide_eq_false ?e2)) ?r2; (case e2 => kernel_rfl); (case r2 => first | with_reducible assumption | with_reducible exact if_pos rfl | (refine' Eq.trans (if_neg (of_decide_eq_false ?e1)) ?r1; (case e1 => kernel_rfl); (case r1 => first | with_reducible assumption | with_reducible exact if_pos rfl))))))))))))))))
  replace q1 : m16 (Str.ofString "power") = some (.int p tp) := by rw [hm16]; show ite _ _ _ = _; first | with_reducible assumption | with_reducible exact if_pos rfl | (refine' Eq.trans (if_neg (of_decide_eq_false ?e8)) ?r8; (case e8 => kernel_rfl); (case r8 => first | with_reducible assumption | with_reducible exact if_pos rfl | (refine' Eq.trans (if_neg (of_decide_eq_false ?e7)) ?r7; (case e7 => kernel_rfl); (case r7 => first | with_reducible assumption | with_reducible exact if_pos rfl | (refine' Eq.trans (if_neg (of_decide_eq_false ?e6)) ?r6; (case e6 => kernel_rfl); (case r6 => first | with_reducible assumption | with_reducible exact if_pos rfl | (refine' Eq.trans (if_neg (of_decide_eq_false ?e5)) ?r5; (case e5 => kernel_rfl); (case r5 => first | with_reducible assumption | with_reducible exact if_pos rfl | (refine' Eq.trans (if_neg (of_decide_eq_false ?e4)) ?r4; (case e4 => kernel_rfl); (case r4 => first | with_reducible assumption | with_reducible exact if_pos rfl | (refine' Eq.trans (if_neg (of_decide_eq_false ?e3)) ?r3; (case e3 => kernel_rfl); (case r3 => first | with_reducible assumption | with_reducible exact if_pos rfl | (refine' Eq.trans (if_neg (of_decide_eq_false ?e2)) ?r2; (case e2 => kernel_rfl); (case r2 => first | with_reducible assumption | with_reducible exact if_pos rfl | (refine' Eq.trans (if_neg (of_decide_eq_false ?e1)) ?r1; (case e1 => kernel_rfl); (case r1 => first | with_reducible assumption | with_reducible exact if_pos rfl))))))))))))))))
  replace q2 : m16 (Str.ofString "more") = some (.int q tq) := by rw [hm16]; show ite _ _ _ = _; first | with_reducible assumption | with_reducible exact if_pos rfl | (refine' Eq.trans (if_neg (of_decide_eq_false ?e8)) ?r8; (case e8 => kernel_rfl); (case r8 => first | with_reducible assumption | with_reducible exact if_pos rfl | (refine' Eq.trans (if_neg (of_decide_eq_false ?e7)) ?r7; (case e7 => kernel_rfl); (case r7 => first | with_reducible assumption | with_reducible exact if_pos rfl | (refine' Eq.trans (if_neg (of_decide_eq_false ?e6)) ?r6; (case e6 => kernel_rfl); (case r6 => first | with_reducible assumption | with_reducible exact if_pos rfl | (refine' Eq.trans (if_neg (of_decide_eq_false ?e5)) ?r5; (case e5 => kernel_rfl); (case r5 => first | with_reducible assumption | with_reducible exact if_pos rfl | (refine' Eq.trans (if_neg (of_decide_eq_false ?e4)) ?r4; (case e4 => kernel_rfl); (case r4 => first | with_reducible assumption | with_reducible exact if_pos rfl | (refine' Eq.trans (if_neg (of_decide_eq_false ?e3)) ?r3; (case e3 => kernel_rfl); (case r3 => first | with_reducible assumption | with_reducible exact if_pos rfl | (refine' Eq.trans (if_neg (of_decide_eq_false ?e2)) ?r2; (case e2 => kernel_rfl); (case r2 => first | with_reducible assumption | with_reducible exact if_pos rfl | (refine' Eq.trans (if_neg (of_decide_eq_false ?e1)) ?r1; (case e1 => kernel_rfl); (case r1 => first | with_reducible assumption | with_reducible exact if_pos rfl))))))))))))))))
  have r1 : m16 (Str.ofString "raised") = some (vr1) := by rw [hm16]; show ite _ _ _ = _; first | with_reducible assumption | with_reducible exact if_pos rfl | (refine' Eq.trans (if_neg (of_decide_eq_false ?e8)) ?r8; (case e8 => kernel_rfl); (case r8 => first | with_reducible assumption | with_reducible exact if_pos rfl | (refine' Eq.trans (if_neg (of_decide_eq_false ?e7)) ?r7; (case e7 => kernel_rfl); (case r7 => first | with_reducible assumption | with_reducible exact if_pos rfl | (refine' Eq.trans (if_neg (of_decide_eq_false ?e6)) ?r6; (case e6 => kernel_rfl); (case r6 => first | with_reducible assumption | with_reducible exact if_pos rfl | (refine' Eq.trans (if_neg (of_decide_eq_false ?e5)) ?r5; (case e5 => kernel_rfl); (case r5 => first | with_reducible assumption | with_reducible exact if_pos rfl | (refine' Eq.trans (if_neg (of_decide_eq_false ?e4)) ?r4; (case e4 => kernel_rfl); (case r4 => first | with_reducible assumption | with_reducible exact if_pos rfl | (refine' Eq.trans (if_neg (of_decide_eq_false ?e3)) ?r3; (case e3 => kernel_rfl); (case r3 => first | with_reducible assumption | with_reducible exact if_pos rfl | (refine' Eq.trans (if_neg (of_decide_eq_false ?e2)) ?r2; (case e2 => kernel_rfl); (case r2 => first | with_reducible assumption | with_reducible exact if_pos rfl | (refine' Eq.trans (if_neg (of_decide_eq_false ?e1)) ?r1; (case e1 => kernel_rfl); (case r1 => first | with_reducible assumption | with_reducible exact if_pos rfl))))))))))))))))
  have r2 : m16 (Str.ofString "times") = some (vr2) := by rw [hm16]; show ite _ _ _ = _; first | with_reducible assumption | with_reducible exact if_pos rfl | (refine' Eq.trans (if_neg (of_decide_eq_false ?e8)) ?r8; (case e8 => kernel_rfl); (case r8 => first | with_reducible assumption | with_reducible exact if_pos rfl | (refine' Eq.trans (if_neg (of_decide_eq_false ?e7)) ?r7; (case e7 => kernel_rfl); (case r7 => first | with_reducible assumption | with_reducible exact if_pos rfl | (refine' Eq.trans (if_neg (of_decide_eq_false ?e6)) ?r6; (case e6 => kernel_rfl); (case r6 => first | with_reducible assumption | with_reducible exact if_pos rfl | (refine' Eq.trans (if_neg (of_decide_eq_false ?e5)) ?r5; (case e5 => kernel_rfl); (case r5 => first | with_reducible assumption | with_reducible exact if_pos rfl | (refine' Eq.trans (if_neg (of_decide_eq_false ?e4)) ?r4; (case e4 => kernel_rfl); (case r4 => first | with_reducible assumption | with_reducible exact if_pos rfl | (refine' Eq.trans (if_neg (of_decide_eq_false ?e3)) ?r3; (case e3 => kernel_rfl); (case r3 => first | with_reducible assumption | with_reducible exact if_pos rfl | (refine' Eq.trans (if_neg (of_decide_eq_false ?e2)) ?r2; (case e2 => kernel_rfl); (case r2 => first | with_reducible assumption | with_reducible exact if_pos rfl | (refine' Eq.trans (if_neg (of_decide_eq_false ?e1)) ?r1; (case e1 => kernel_rfl); (case r1 => first | with_reducible assumption | with_reducible exact if_pos rfl))))))))))))))))
  have r3 : m16 (Str.ofString "total") = some (vr3) := by rw [hm16]; show ite _ _ _ = _; first | with_reducible assumption | with_reducible exact if_pos rfl | (refine' Eq.trans (if_neg (of_decide_eq_false ?e8)) ?r8; (case e8 => kernel_rfl); (case r8 => first | with_reducible assumption | with_reducible exact if_pos rfl | (refine' Eq.trans (if_neg (of_decide_eq_false ?e7)) ?r7; (case e7 => kernel_rfl); (case r7 => first | with_reducible assumption | with_reducible exact if_pos rfl | (refine' Eq.trans (if_neg (of_decide_eq_false ?e6)) ?r6; (case e6 => kernel_rfl); (case r6 => first | with_reducible assumption | with_reducible exact if_pos rfl | (refine' Eq.trans (if_neg (of_decide_eq_false ?e5)) ?r5; (case e5 => kernel_rfl); (case r5 => first | with_reducible assumption | with_reducible exact if_pos rfl | (refine' Eq.trans (if_neg (of_decide_eq_false ?e4)) ?r4; (case e4 => kernel_rfl); (case r4 => first | with_reducible assumption | with_reducible exact if_pos rfl | (refine' Eq.trans (if_neg (of_decide_eq_false ?e3)) ?r3; (case e3 => kernel_rfl); (case r3 => first | with_reducible assumption | with_reducible exact if_pos rfl | (refine' Eq.trans (if_neg (of_decide_eq_false ?e2)) ?r2; (case e2 => kernel_rfl); (case r2 => first | with_reducible assumption | with_reducible exact if_pos rfl | (refine' Eq.trans (if_neg (of_decide_eq_false ?e1)) ?r1; (case e1 => kernel_rfl); (case r1 => first | with_reducible assumption | with_reducible exact if_pos rfl))))))))))))))))
  replace V1 := V1.mono hs16
  clear hm16 F15 N15 hs16
  refine join (chunk_found w h₀ L ce cc m16 a₁ b₁ p q ta tb tp tq news16 q1 q2 g1 g2 o1 z1 z2 p1 p2 pq1 pq2) hfd (by decide) B F16 X N16 T hd hu ?_
  rintro m17 news17 h17 tk17 F17 N17 ⟨C, hm17, hs17, hF⟩
  replace g1 : m17 (Str.ofString "low") = some (.int a₁ ta) := by rw [hm17]; show ite _ _ _ = _; first | with_reducible assumption | with_reducible exact if_pos rfl | (refine' Eq.trans (if_neg (of_decide_eq_false ?e8)) ?r8; (case e8 => kernel_rfl); (case r8 => first | with_reducible assumption | with_reducible exact if_pos rfl | (refine' Eq.trans (if_neg (of_decide_eq_false ?e7)) ?r7; (case e7 => kernel_rfl); (case r7 => first | with_reducible assumption | with_reducible exact if_pos rfl | (refine' Eq.trans (if_neg (of_decide_eq_false ?e6)) ?r6; (case e6 => kernel_rfl); (case r6 => first | with_reducible assumption | with_reducible exact if_pos rfl | (refine' Eq.trans (if_neg (of_decide_eq_false ?e5)) ?r5; (case e5 => kernel_rfl); (case r5 => first | with_reducible assumption | with_reducible exact if_pos rfl | (refine' Eq.trans (if_neg (of_decide_eq_false ?e4)) ?r4; (case e4 => kernel_rfl); (case r4 => first | with_reducible assumption | with_reducible exact if_pos rfl | (refine' Eq.trans (if_neg (of_decide_eq_false ?e3)) ?r3; (case e3 => kernel_rfl); (case r3 => first | with_reducible assumption | with_reducible exact if_pos rfl | (refine' Eq.trans (if_neg (of_decide_eq_false ?e2)) ?r2; (case e2 => kernel_rfl); (case r2 => first | with_reducible assumption | with_reducible exact if_pos rfl | (refine' Eq.trans (if_neg (of_decide_eq_false ?e1)) ?r1; (case e1 => kernel_rfl); (case r1 => first | with_reducible assumption | with_reducible exact if_pos rfl))))))))))))))))
  replace g2 : m17 (Str.ofString "high") = some (.int b₁ tb) := by rw [hm17]; show ite _ _ _ = _; first | with_reducible assumption | with_reducible exact if_pos rfl | (refine' Eq.trans (if_neg (of_decide_eq_false ?e8)) ?r8; (case e8 => kernel_rfl); (case r8 => first | with_reducible assumption | with_reducible exact if_pos rfl | (refine' Eq.trans (if_neg (of_decide_eq_false ?e7)) ?r7; (case e7 => kernel_rfl); (case r7 => first | with_reducible assumption | with_reducible exact if_pos rfl | (refine' Eq.trans (if_neg (of_decide_eq_false ?e6)) ?r6; (case e6 => kernel_rfl); (case r6 => first | with_reducible assumption | with_reducible exact if_pos rfl | (refine' Eq.trans (if_neg (of_decide_eq_false ?e5)) ?r5; (case e5 => kernel_rfl); (case r5 => first | with_reducible assumption | with_reducible exact if_pos rfl | (refine' Eq.trans (if_neg (of_decide_eq_false ?e4)) ?r4; (case e4 => kernel_rfl); (case r4 => first | with_reducible assumption | with_reducible exact if_pos rfl | (refine' Eq.trans (if_neg (of_decide_eq_false ?e3)) ?r3; (case e3 => kernel_rfl); (case r3 => first | with_reducible assumption | with_reducible exact if_pos rfl | (refine' Eq.trans (if_neg (of_decide_eq_false ?e2)) ?r2; (case e2 => kernel_rfl); (case r2 => first | with_reducible assumption | with_reducible exact if_pos rfl | (refine' Eq.trans (if_neg (of_decide_eq_false ?e1)) ?r1; (case e1 => kernel_rfl); (case r1 => first | with_reducible assumption | with_reducible exact if_pos rfl))))))))))))))))
  replace k1 : m17 (Str.ofString "one") = some (v1) := by rw [hm17]; show ite _ _ _ = _; first | with_reducible assumption | with_reducible exact if_pos rfl | (refine' Eq.trans (if_neg (of_decide_eq_false ?e8)) ?r8; (case e8 => kernel_rfl); (case r8 => first | with_reducible assumption | with_reducible exact if_pos rfl | (refine' Eq.trans (if_neg (of_decide_eq_false ?e7)) ?r7; (case e7 => kernel_rfl); (case r7 => first | with_reducible assumption | with_reducible exact if_pos rfl | (refine' Eq.trans (if_neg (of_decide_eq_false ?e6)) ?r6; (case e6 => kernel_rfl); (case r6 => first | with_reducible assumption | with_reducible exact if_pos rfl | (refine' Eq.trans (if_neg (of_decide_eq_false ?e5)) ?r5; (case e5 => kernel_rfl); (case r5 => first | with_reducible assumption | with_reducible exact if_pos rfl | (refine' Eq.trans (if_neg (of_decide_eq_false ?e4)) ?r4; (case e4 => kernel_rfl); (case r4 => first | with_reducible assumption | with_reducible exact if_pos rfl | (refine' Eq.trans (if_neg (of_decide_eq_false ?e3)) ?r3; (case e3 => kernel_rfl); (case r3 => first | with_reducible assumption | with_reducible exact if_pos rfl | (refine' Eq.trans (if_neg (of_decide_eq_false ?e2)) ?r2; (case e2 => kernel_rfl); (case r2 => first | with_reducible assumption | with_reducible exact if_pos rfl | (refine' Eq.trans (if_neg (of_decide_eq_false ?e1)) ?r1; (case e1 => kernel_rfl); (case r1 => first | with_reducible assumption | with_reducible exact if_pos rfl))))))))))))))))
  replace q1 : m17 (Str.ofString "power") = some (.int p tp) := by rw [hm17]; show ite _ _ _ = _; first | with_reducible assumption | with_reducible exact if_pos rfl | (refine' Eq.trans (if_neg (of_decide_eq_false ?e8)) ?r8; (case e8 => kernel_rfl); (case r8 => first | with_reducible assumption | with_reducible exact if_pos rfl | (refine' Eq.trans (if_neg (of_decide_eq_false ?e7)) ?r7; (case e7 => kernel_rfl); (case r7 => first | with_reducible assumption | with_reducible exact if_pos rfl | (refine' Eq.trans (if_neg (of_decide_eq_false ?e6)) ?r6; (case e6 => kernel_rfl); (case r6 => first | with_reducible assumption | with_reducible exact if_pos rfl | (refine' Eq.trans (if_neg (of_decide_eq_false ?e5)) ?r5; (case e5 => kernel_rfl); (case r5 => first | with_reducible assumption | with_reducible exact if_pos rfl | (refine' Eq.trans (if_neg (of_decide_eq_false ?e4)) ?r4; (case e4 => kernel_rfl); (case r4 => first | with_reducible assumption | with_reducible exact if_pos rfl | (refine' Eq.trans (if_neg (of_decide_eq_false ?e3)) ?r3; (case e3 => kernel_rfl); (case r3 => first | with_reducible assumption | with_reducible exact if_pos rfl | (refine' Eq.trans (if_neg (of_decide_eq_false ?e2)) ?r2; (case e2 => kernel_rfl); (case r2 => first | with_reducible assumption | with_reducible exact if_pos rfl | (refine' Eq.trans (if_neg (of_decide_eq_false ?e1)) ?r1; (case e1 => kernel_rfl); (case r1 => first | with_reducible assumption | with_reducible exact if_pos rfl))))))))))))))))
  replace q2 : m17 (Str.ofString "more") = some (.int q tq) := by rw [hm17]; show ite _ _ _ = _; first | with_reducible assumption | with_reducible exact if_pos rfl | (refine' Eq.trans (if_neg (of_decide_eq_false ?e8)) ?r8; (case e8 => kernel_rfl); (case r8 => first | with_reducible assumption | with_reducible exact if_pos rfl | (refine' Eq.trans (if_neg (of_decide_eq_false ?e7)) ?r7; (case e7 => kernel_rfl); (case r7 => first | with_reducible assumption | with_reducible exact if_pos rfl | (refine' Eq.trans (if_neg (of_decide_eq_false ?e6)) ?r6; (case e6 => kernel_rfl); (case r6 => first | with_reducible assumption | with_reducible exact if_pos rfl | (refine' Eq.trans (if_neg (of_decide_eq_false ?e5)) ?r5; (case e5 => kernel_rfl); (case r5 => first | with_reducible assumption | with_reducible exact if_pos rfl | (refine' Eq.trans (if_neg (of_decide_eq_false ?e4)) ?r4; (case e4 => kernel_rfl); (case r4 => first | with_reducible assumption | with_reducible exact if_pos rfl | (refine' Eq.trans (if_neg (of_decide_eq_false ?e3)) ?r3; (case e3 => kernel_rfl); (case r3 => first | with_reducible assumption | with_reducible exact if_pos rfl | (refine' Eq.trans (if_neg (of_decide_eq_false ?e2)) ?r2; (case e2 => kernel_rfl); (case r2 => first | with_reducible assumption | with_reducible exact if_pos rfl | (refine' Eq.trans (if_neg (of_decide_eq_false ?e1)) ?r1; (case e1 => kernel_rfl); (case r1 => first | with_reducible assumption | with_reducible exact if_pos rfl))))))))))))))))
  replace r1 : m17 (Str.ofString "raised") = some (vr1) := by rw [hm17]; show ite _ _ _ = _; first | with_reducible assumption | with_reducible exact if_pos rfl | (refine' Eq.trans (if_neg (of_decide_eq_false ?e8)) ?r8; (case e8 => kernel_rfl); (case r8 => first | with_reducible assumption | with_reducible exact if_pos rfl | (refine' Eq.trans (if_neg (of_decide_eq_false ?e7)) ?r7; (case e7 => kernel_rfl); (case r7 => first | with_reducible assumption | with_reducible exact if_pos rfl | (refine' Eq.trans (if_neg (of_decide_eq_false ?e6)) ?r6; (case e6 => kernel_rfl); (case r6 => first | with_reducible assumption | with_reducible exact if_pos rfl | (refine' Eq.trans (if_neg (of_decide_eq_false ?e5)) ?r5; (case e5 => kernel_rfl); (case r5 => first | with_reducible assumption | with_reducible exact if_pos rfl | (refine' Eq.trans (if_neg (of_decide_eq_false ?e4)) ?r4; (case e4 => kernel_rfl); (case r4 => first | with_reducible assumption | with_reducible exact if_pos rfl | (refine' Eq.trans (if_neg (of_decide_eq_false ?e3)) ?r3; (case e3 => kernel_rfl); (case r3 => first | with_reducible assumption | with_reducible exact if_pos rfl | (refine' Eq.trans (if_neg (of_decide_eq_false ?e2)) ?r2; (case e2 => kernel_rfl); (case r2 => first | with_reducible assumption | with_reducible exact if_pos rfl | (refine' Eq.trans (if_neg (of_decide_eq_false ?e1)) ?r1; (case e1 => kernel_rfl); (case r1 => first | with_reducible assumption | with_reducible exact if_pos rfl))))))))))))))))
  replace r2 : m17 (Str.ofString "times") = some (vr2) := by rw [hm17]; show ite _ _ _ = _; first | with_reducible assumption | with_reducible exact if_pos rfl | (refine' Eq.trans (if_neg (of_decide_eq_false ?e8)) ?r8; (case e8 => kernel_rfl); (case r8 => first | with_reducible assumption | with_reducible exact if_pos rfl | (refine' Eq.trans (if_neg (of_decide_eq_false ?e7)) ?r7; (case e7 => kernel_rfl); (case r7 => first | with_reducible assumption | with_reducible exact if_pos rfl | (refine' Eq.trans (if_neg (of_decide_eq_false ?e6)) ?r6; (case e6 => kernel_rfl); (case r6 => first | with_reducible assumption | with_reducible exact if_pos rfl | (refine' Eq.trans (if_neg (of_decide_eq_false ?e5)) ?r5; (case e5 => kernel_rfl); (case r5 => first | with_reducible assumption | with_reducible exact if_pos rfl | (refine' Eq.trans (if_neg (of_decide_eq_false ?e4)) ?r4; (case e4 => kernel_rfl); (case r4 => first | with_reducible assumption | with_reducible exact if_pos rfl | (refine' Eq.trans (if_neg (of_decide_eq_false ?e3)) ?r3; (case e3 => kernel_rfl); (case r3 => first | with_reducible assumption | with_reducible exact if_pos rfl | (refine' Eq.trans (if_neg (of_decide_eq_false ?e2)) ?r2; (case e2 => kernel_rfl); (case r2 => first | with_reducible assumption | with_reducible exact if_pos rfl | (refine' Eq.trans (if_neg (of_decide_eq_false ?e1)) ?r1; (case e1 => kernel_rfl); (case r1 => first | with_reducible assumption | with_reducible exact if_pos rfl))))))))))))))))
  replace r3 : m17 (Str.ofString "total") = some (vr3) := by rw [hm17]; show ite _ _ _ = _; first | with_reducible assumption | with_reducible exact if_pos rfl | (refine' Eq.trans (if_neg (of_decide_eq_false ?e8)) ?r8; (case e8 => kernel_rfl); (case r8 => first | with_reducible assumption | with_reducible exact if_pos rfl | (refine' Eq.trans (if_neg (of_decide_eq_false ?e7)) ?r7; (case e7 => kernel_rfl); (case r7 => first | with_reducible assumption | with_reducible exact if_pos rfl | (refine' Eq.trans (if_neg (of_decide_eq_false ?e6)) ?r6; (case e6 => kernel_rfl); (case r6 => first | with_reducible assumption | with_reducible exact if_pos rfl | (refine' Eq.trans (if_neg (of_decide_eq_false ?e5)) ?r5; (case e5 => kernel_rfl); (case r5 => first | with_reducible assumption | with_reducible exact if_pos rfl | (refine' Eq.trans (if_neg (of_decide_eq_false ?e4)) ?r4; (case e4 => kernel_rfl); (case r4 => first | with_reducible assumption | with_reducible exact if_pos rfl | (refine' Eq.trans (if_neg (of_decide_eq_false ?e3)) ?r3; (case e3 => kernel_rfl); (case r3 => first | with_reducible assumption | with_reducible exact if_pos rfl | (refine' Eq.trans (if_neg (of_decide_eq_false ?e2)) ?r2; (case e2 => kernel_rfl); (case r2 => first | with_reducible assumption | with_reducible exact if_pos rfl | (refine' Eq.trans (if_neg (of_decide_eq_false ?e1)) ?r1; (case e1 => kernel_rfl); (case r1 => first | with_reducible assumption | with_reducible exact if_pos rfl))))))))))))))))
  have kf : m17 (Str.ofString "found") = some (.ref C) := by rw [hm17]; show ite _ _ _ = _; first | with_reducible assumption | with_reducible exact if_pos rfl | (refine' Eq.trans (if_neg (of_decide_eq_false ?e8)) ?r8; (case e8 => kernel_rfl); (case r8 => first | with_reducible assumption | with_reducible exact if_pos rfl | (refine' Eq.trans (if_neg (of_decide_eq_false ?e7)) ?r7; (case e7 => kernel_rfl); (case r7 => first | with_reducible assumption | with_reducible exact if_pos rfl | (refine' Eq.trans (if_neg (of_decide_eq_false ?e6)) ?r6; (case e6 => kernel_rfl); (case r6 => first | with_reducible assumption | with_reducible exact if_pos rfl | (refine' Eq.trans (if_neg (of_decide_eq_false ?e5)) ?r5; (case e5 => kernel_rfl); (case r5 => first | with_reducible assumption | with_reducible exact if_pos rfl | (refine' Eq.trans (if_neg (of_decide_eq_false ?e4)) ?r4; (case e4 => kernel_rfl); (case r4 => first | with_reducible assumption | with_reducible exact if_pos rfl | (refine' Eq.trans (if_neg (of_decide_eq_false ?e3)) ?r3; (case e3 => kernel_rfl); (case r3 => first | with_reducible assumption | with_reducible exact if_pos rfl | (refine' Eq.trans (if_neg (of_decide_eq_false ?e2)) ?r2; (case e2 => kernel_rfl); (case r2 => first | with_reducible assumption | with_reducible exact if_pos rfl | (refine' Eq.trans (if_neg (of_decide_eq_false ?e1)) ?r1; (case e1 => kernel_rfl); (case r1 => first | with_reducible assumption | with_reducible exact if_pos rfl))))))))))))))))
  replace V1 := V1.mono hs17
  replace R1 := R1.mono hs17
  replace R2 := R2.mono hs17
  replace R3 := R3.mono hs17
  clear hm17 F16 N16 hs17
  refine join (chunk_if6 w h₀ L ce cc C m17 p q _ _ tp tq news17 vr3 r3 q1 q2 kf R3 hF p1 p2 pq1 pq2) hfd (by decide) B F17 X N17 T hd hu ?_
  rintro m18 news18 h18 tk18 F18 N18 ⟨hm18, hs18⟩
  subst hm18
  replace V1 := V1.mono hs18
  replace R1 := R1.mono hs18
  replace R2 := R2.mono hs18
  replace R3 := R3.mono hs18
  clear F17 N17 hs18 hF kf
  have R3' := iv_ex R3 (show -3 * (p + q) = -3 * p + -3 * q by omega)
  have W1 := pEnds_small (N := p.toNat) (k := 4) (c := 80) o1 hP ha hb hP4 (by decide)
  have W2 := pEnds_small (N := q.toNat) (k := 4) (c := 80) o1 hM ha hb hM4 (by decide)
  have W3 := pEnds_small (N := (p + q).toNat) (k := 8) (c := 80) o1 (by omega) ha hb (by omega) (by decide)
  have W4 := mEnds_small W1.1 W1.2 W2.1 W2.2
  have pp := pow_pow o1 hP hM
  rw [← emul] at pp
  have pw := pow_within (m := q.toNat) o1 hP
  rw [← eadd] at pw
  have lp := pLo_pHi (N := p.toNat) o1
  have lm := pLo_pHi (N := q.toNat) o1
  have ak := alike o1 hP hM
  rw [← eadd] at ak
  refine join (chunk_if7 w h₀ L ce cc m18 a₁ b₁ p q _ _ _ _ _ _ tp tq news18 v1 vr1 vr2 vr3 k1 r1 r2 r3 q1 q2 V1 R1 R2 R3' o1 z1 z2 p1 p2 pq1 pq2 pb.1 pb.2 lp lm (lt31 W1.1) (lt31 W1.2) (lt31 W2.1) (lt31 W2.2) (lt64 W3.1) (lt64 W3.2) (lt64m W4.1) (lt64m W4.2) pp.1 pp.2 (Int.mul_assoc _ _ _) pw.1 pw.2 (npow2 W1.1 hM4) (npow2 W1.2 hM4) (npow ha n16) (npow hb n16)) hfd (by decide) B F18 X N18 T hd hu ?_
  rintro m19 news19 h19 tk19 F19 N19 ⟨hm19, hs19⟩
  subst hm19
  replace R1 := R1.mono hs19
  replace R2 := R2.mono hs19
  replace R3' := R3'.mono hs19
  clear F18 N18 hs19
  refine join (chunk_alike w h₀ L ce cc m19 a₁ b₁ p q ta tb tp tq news19 q1 q2 g1 g2 z1 z2 p1 p2 pq1 pq2) hfd (by decide) B F19 X N19 T hd hu ?_
  rintro m20 news20 h20 tk20 F20 N20 ⟨c, hm20, hs20, hc⟩
  replace r1 : m20 (Str.ofString "raised") = some (vr1) := by rw [hm20]; show ite _ _ _ = _; first | with_reducible assumption | with_reducible exact if_pos rfl | (refine' Eq.trans (if_neg (of_decide_eq_false ?e8)) ?r8; (case e8 => kernel_rfl); (case r8 => first | with_reducible assumption | with_reducible exact if_pos rfl | (refine' Eq.trans (if_neg (of_decide_eq_false ?e7)) ?r7; (case e7 => kernel_rfl); (case r7 => first | with_reducible assumption | with_reducible exact if_pos rfl | (refine' Eq.trans (if_neg (of_decide_eq_false ?e6)) ?r6; (case e6 => kernel_rfl); (case r6 => first | with_reducible assumption | with_reducible exact if_pos rfl | (refine' Eq.trans (if_neg (of_decide_eq_false ?e5)) ?r5; (case e5 => kernel_rfl); (case r5 => first | with_reducible assumption | with_reducible exact if_pos rfl | (refine' Eq.trans (if_neg (of_decide_eq_false ?e4)) ?r4; (case e4 => kernel_rfl); (case r4 => first | with_reducible assumption | with_reducible exact if_pos rfl | (refine' Eq.trans (if_neg (of_decide_eq_false ?e3)) ?r3; (case e3 => kernel_rfl); (case r3 => first | with_reducible assumption | with_reducible exact if_pos rfl | (refine' Eq.trans (if_neg (of_decide_eq_false ?e2)) ?r2; (case e2 => kernel_rfl); (case r2 => first | with_reducible assumption | with_reducible exact if_pos rfl | (refine' Eq.trans (if_neg (of_decide_eq_false ?e1)) ?r1; (case e1 => kernel_rfl); (case r1 => first | with_reducible assumption | with_reducible exact if_pos rfl))))))))))))))))
  replace r2 : m20 (Str.ofString "times") = some (vr2) := by rw [hm20]; show ite _ _ _ = _; first | with_reducible assumption | with_reducible exact if_pos rfl | (refine' Eq.trans (if_neg (of_decide_eq_false ?e8)) ?r8; (case e8 => kernel_rfl); (case r8 => first | with_reducible assumption | with_reducible exact if_pos rfl | (refine' Eq.trans (if_neg (of_decide_eq_false ?e7)) ?r7; (case e7 => kernel_rfl); (case r7 => first | with_reducible assumption | with_reducible exact if_pos rfl | (refine' Eq.trans (if_neg (of_decide_eq_false ?e6)) ?r6; (case e6 => kernel_rfl); (case r6 => first | with_reducible assumption | with_reducible exact if_pos rfl | (refine' Eq.trans (if_neg (of_decide_eq_false ?e5)) ?r5; (case e5 => kernel_rfl); (case r5 => first | with_reducible assumption | with_reducible exact if_pos rfl | (refine' Eq.trans (if_neg (of_decide_eq_false ?e4)) ?r4; (case e4 => kernel_rfl); (case r4 => first | with_reducible assumption | with_reducible exact if_pos rfl | (refine' Eq.trans (if_neg (of_decide_eq_false ?e3)) ?r3; (case e3 => kernel_rfl); (case r3 => first | with_reducible assumption | with_reducible exact if_pos rfl | (refine' Eq.trans (if_neg (of_decide_eq_false ?e2)) ?r2; (case e2 => kernel_rfl); (case r2 => first | with_reducible assumption | with_reducible exact if_pos rfl | (refine' Eq.trans (if_neg (of_decide_eq_false ?e1)) ?r1; (case e1 => kernel_rfl); (case r1 => first | with_reducible assumption | with_reducible exact if_pos rfl))))))))))))))))
  replace r3 : m20 (Str.ofString "total") = some (vr3) := by rw [hm20]; show ite _ _ _ = _; first | with_reducible assumption | with_reducible exact if_pos rfl | (refine' Eq.trans (if_neg (of_decide_eq_false ?e8)) ?r8; (case e8 => kernel_rfl); (case r8 => first | with_reducible assumption | with_reducible exact if_pos rfl | (refine' Eq.trans (if_neg (of_decide_eq_false ?e7)) ?r7; (case e7 => kernel_rfl); (case r7 => first | with_reducible assumption | with_reducible exact if_pos rfl | (refine' Eq.trans (if_neg (of_decide_eq_false ?e6)) ?r6; (case e6 => kernel_rfl); (case r6 => first | with_reducible assumption | with_reducible exact if_pos rfl | (refine' Eq.trans (if_neg (of_decide_eq_false ?e5)) ?r5; (case e5 => kernel_rfl); (case r5 => first | with_reducible assumption | with_reducible exact if_pos rfl | (refine' Eq.trans (if_neg (of_decide_eq_false ?e4)) ?r4; (case e4 => kernel_rfl); (case r4 => first | with_reducible assumption | with_reducible exact if_pos rfl | (refine' Eq.trans (if_neg (of_decide_eq_false ?e3)) ?r3; (case e3 => kernel_rfl); (case r3 => first | with_reducible assumption | with_reducible exact if_pos rfl | (refine' Eq.trans (if_neg (of_decide_eq_false ?e2)) ?r2; (case e2 => kernel_rfl); (case r2 => first | with_reducible assumption | with_reducible exact if_pos rfl | (refine' Eq.trans (if_neg (of_decide_eq_false ?e1)) ?r1; (case e1 => kernel_rfl); (case r1 => first | with_reducible assumption | with_reducible exact if_pos rfl))))))))))))))))
  have ka : m20 (Str.ofString "alike") = some (.bool c) := by rw [hm20]; show ite _ _ _ = _; first | with_reducible assumption | with_reducible exact if_pos rfl | (refine' Eq.trans (if_neg (of_decide_eq_false ?e8)) ?r8; (case e8 => kernel_rfl); (case r8 => first | with_reducible assumption | with_reducible exact if_pos rfl | (refine' Eq.trans (if_neg (of_decide_eq_false ?e7)) ?r7; (case e7 => kernel_rfl); (case r7 => first | with_reducible assumption | with_reducible exact if_pos rfl | (refine' Eq.trans (if_neg (of_decide_eq_false ?e6)) ?r6; (case e6 => kernel_rfl); (case r6 => first | with_reducible assumption | with_reducible exact if_pos rfl | (refine' Eq.trans (if_neg (of_decide_eq_false ?e5)) ?r5; (case e5 => kernel_rfl); (case r5 => first | with_reducible assumption | with_reducible exact if_pos rfl | (refine' Eq.trans (if_neg (of_decide_eq_false ?e4)) ?r4; (case e4 => kernel_rfl); (case r4 => first | with_reducible assumption | with_reducible exact if_pos rfl | (refine' Eq.trans (if_neg (of_decide_eq_false ?e3)) ?r3; (case e3 => kernel_rfl); (case r3 => first | with_reducible assumption | with_reducible exact if_pos rfl | (refine' Eq.trans (if_neg (of_decide_eq_false ?e2)) ?r2; (case e2 => kernel_rfl); (case r2 => first | with_reducible assumption | with_reducible exact if_pos rfl | (refine' Eq.trans (if_neg (of_decide_eq_false ?e1)) ?r1; (case e1 => kernel_rfl); (case r1 => first | with_reducible assumption | with_reducible exact if_pos rfl))))))))))))))))
  replace R1 := R1.mono hs20
  replace R2 := R2.mono hs20
  replace R3' := R3'.mono hs20
  clear hm20 F19 N19 hs20
  refine join_ret hfd (i := 22) (by decide) (fun st hst => ?_)
  refine chunk_ret w h₀ L ce cc m20 _ _ _ _ _ _ _ _ _ c news20 vr1 vr2 vr3 r1 r2 r3 ka R1 R2 R3' rfl lp lm (lt31 W1.1) (lt31 W1.2) (lt31 W2.1) (lt31 W2.2) ?_ fd st p₀ loose mean mg mb dp un gd cn a ccd outer A₀ base _ _ _ hfd hst B F20 X N20 T hd hu (fun h' tk' F' => hret _ h' tk' F')
  clear pp pw W1 W2 W3 W4 lp lm
  rw [Bool.eq_iff_iff, decide_eq_true_iff, ak, hc]
  clear ak hc
  omega
theorem seqE {M : Model} {A : Around} {E : Value → Shared → Prop} {s : Shared} {env : Env} {st : Stmt} {rest : List Stmt} {Q : Flow → Shared → Prop} {h₀ : Heap} {L : Addr} {m : Names} {D ce : Addr} {od oc : Obj} {l : Led} (F : Fr h₀ L s.heap m) (N : News h₀ L s.heap ((D, od) :: (ce, oc) :: l))
    (h1 : wpAny M A (exec st env) (fun fl s' => JS (fun s' => ∃ (E' : Addr) (oe : Obj) (h : Heap) (tk : Nat) (kd : Int) (t : Tok), s' = { s with heap := h, toks := tk } ∧ Fr h₀ L h (fun y => if y = Str.ofString "kind" then some (.int kd t) else m y) ∧ News h₀ L h [(E', listOf #[] 0), (ce, oe), (D, od)] ∧ oe.data = .cell (some (.ref E')) ∧ AllLt E' [(ce, oe), (D, od)]) fl s') E s)
    (h2 : ∀ (E' : Addr) (oe : Obj) (h : Heap) (tk : Nat) (kd : Int) (t : Tok), Fr h₀ L h (fun y => if y = Str.ofString "kind" then some (.int kd t) else m y) → News h₀ L h [(E', listOf #[] 0), (ce, oe), (D, od)] → oe.data = .cell (some (.ref E')) → AllLt E' [(ce, oe), (D, od)] → wpAny M A (execs rest env) Q E { s with heap := h, toks := tk }) :
    wpAny M A (execs (st :: rest) env) Q E s := by
  refine seqJ _ h1 fun s' h => ?_
  obtain ⟨E', oe, h, tk, kd, t, rfl, F, N, I, e⟩ := h
  exact h2 E' oe h tk kd t F N I e
end Mine
open Mine
theorem PySem.Challenge.cw_aw5012_01_holds : PySem.Challenge.rw_aw5012_01.Holds := by
  exact Mine.hd (by
  k_go0
  refine seqD (by k_asm) (by k_asm) (Str.ofString "draw") ?_ ?_
  · k_steps
    all_goals (refine ⟨rfl, _, _, _, _, _, rfl, by k_asm, by k_asm, by k_asm, ?_⟩)
    all_goals rfl
  · intro D0 h0 tk0 ys ds F1 N1 hI10 hl10
    k_sweep
    refine seqE F1 N1 ?_ ?_
    · k_steps
      all_goals (refine ⟨rfl, _, _, _, _, _, _, rfl, by k_asm, cb_drop (by k_asm) ?n9, by k_asm, ?l9⟩)
      case n9 =>
        intro p hp
        simp only [List.mem_cons, List.mem_append, List.mem_nil_iff, or_false] at hp ⊢
        rcases hp with rfl | rfl | rfl <;> simp
      case l9 => exact ⟨by omega, by omega, trivial⟩
    · intro E' oe h tk kd t F2 N2 hoe hlt
      rename World => w9
      have hfd := lawFd_of (w := w9) (by k_is)
      refine' law_rest w9 _ _ _ _ _ E' oe ys ds kd t _ hoe hI10 hl10 hlt ?kd ?dr hfd ?B F2 ?X N2 ?T ?hd ?hu ?hret
      case kd => exact if_pos rfl
      case dr => rfl
      case B => k_asm
      case X => k_asm
      case T => k_asm
      case hd => k_room
      case hu => units_room
      case hret =>
        intro m' h' tk' F'
        dsimp only
        k_steps)
