import PyProof.Rows.All
import Wide.All
import OpenK.AllK
import Wide.FinOn
import PySem.Challenge.RW_ji0012_01
open PySem PySem.W PyProof.Rows
set_option Elab.async false
set_option maxRecDepth 100000
set_option maxHeartbeats 8000000
set_option linter.all false
set_option compiler.extract_closed false

namespace Mine
open_top hd for PySem.Challenge.rw_ji0012_01
end Mine
section
open PySem.Calls
set_option maxHeartbeats 200000

namespace Mine
/-- the size of the circle -/
structure Sz (b half full : Int) : Prop where
  b1 : 2 ≤ b
  b2 : b ≤ 40
  F : (2 : Int) ^ b.toNat = full
  H : (2 : Int) ^ (b - 1).toNat = half
  fh : full = half + half
  h1 : 2 ≤ half
  h2 : half ≤ 549755813888
theorem fmod_two {a full : Int} (hf : 0 < full) : (a.fmod full).fmod full = a.fmod full := by
  rw [Int.fmod_eq_emod_of_nonneg _ (Int.le_of_lt hf), Int.fmod_eq_emod_of_nonneg _ (Int.le_of_lt hf), Int.emod_emod_of_dvd _ (Int.dvd_refl _)]
theorem Sz.of {b : Int} (h1 : 2 ≤ b) (h2 : b ≤ 40) : Sz b ((2 : Int) ^ (b - 1).toNat) ((2 : Int) ^ (b - 1).toNat + (2 : Int) ^ (b - 1).toNat) := by
  obtain ⟨n, hn⟩ : ∃ n : Nat, (b - 1).toNat = n ∧ b.toNat = n + 1 ∧ 1 ≤ n ∧ n ≤ 39 := ⟨(b - 1).toNat, rfl, by omega, by omega, by omega⟩
  obtain ⟨e1, e2, n1, n2⟩ := hn
  have e : (2 : Int) ^ b.toNat = (2 : Int) ^ n + (2 : Int) ^ n := by rw [e2, Int.pow_succ]; omega
  have bd : ∀ k : Nat, k ≤ 39 → 1 ≤ k → (2 : Int) ≤ 2 ^ k ∧ (2 : Int) ^ k ≤ 549755813888 := by decide +kernel
  rw [e1]
  exact ⟨h1, h2, e, by rw [e1], rfl, (bd n n2 n1).1, (bd n n2 n1).2⟩

/-- the value that a step leads to, going about the circle -/
def moved (v d full : Int) : Int :=
  if v + d ≥ full then (if v + d - full < 0 then v + d - full + full else v + d - full) else (if v + d < 0 then v + d + full else v + d)
theorem fmod_of (a n q : Int) (hn : 0 < n) (h0 : 0 ≤ a - n * q) (h1 : a - n * q < n) : a.fmod n = a - n * q := by
  rw [Int.fmod_eq_emod_of_nonneg _ (Int.le_of_lt hn)]
  have := (Int.ediv_emod_unique (a := a) (b := n) (r := a - n * q) (q := q) hn).mpr ⟨by omega, h0, h1⟩
  exact this.2
theorem fmod_moved {v d full : Int} (h0 : 0 ≤ v) (h1 : v < full) (h2 : -full < d) (h3 : d < full) : (v + d).fmod full = moved v d full := by
  have hf : 0 < full := by omega
  unfold moved
  split
  · rw [if_neg (by omega), fmod_of (v + d) full 1 hf (by omega) (by omega)]; omega
  · split
    · rw [fmod_of (v + d) full (-1) hf (by omega) (by omega)]; omega
    · rw [fmod_of (v + d) full 0 hf (by omega) (by omega)]; omega
theorem moved_in {v d full : Int} (h0 : 0 ≤ v) (h1 : v < full) (h2 : -full < d) (h3 : d < full) : 0 ≤ moved v d full ∧ moved v d full < full := by
  unfold moved
  split
  · split <;> omega
  · split <;> omega
theorem fmod_in {a full : Int} (hf : 0 < full) : 0 ≤ a.fmod full ∧ a.fmod full < full := by
  rw [Int.fmod_eq_emod_of_nonneg _ (Int.le_of_lt hf)]
  exact ⟨Int.emod_nonneg _ (by omega), Int.emod_lt_of_pos _ hf⟩
theorem into_eq (a full : Int) : a - a.fdiv full * full = a.fmod full := by
  rw [Int.fmod_def, Int.mul_comm]
abbrev LtS (v u half : Int) : Prop := (v < u ∧ u - v < half) ∨ (u < v ∧ half < v - u)
abbrev GtS (v u half : Int) : Prop := (v < u ∧ half < u - v) ∨ (u < v ∧ v - u < half)
theorem noPylong_mine {x y : Int} (h : 0 < y) (h2 : y ≤ 1099511627776) : Builtin.divisionGoesByPylong x y = false := by
  refine PyProof.noPylong_of_log2 ?_
  have h3 : y.natAbs.log2 < 41 := (Nat.log2_lt (by omega)).mpr (by omega)
  omega
/-- a Serial's dict -/
abbrev serD (w : World) (v b : Int) (k1 t1 k2 t2 : Tok) : Obj :=
  dictOf [⟨PyData.keyHash w.params (Str.ofString "value"), .str (Str.ofString "value") k1, .int v t1⟩, ⟨PyData.keyHash w.params (Str.ofString "bits"), .str (Str.ofString "bits") k2, .int b t2⟩] 2
section
variable {prog : Program} {w : World} {A : Around} {E : Value → Shared → Prop} {s : Shared} {b half full : Int} {t u : Tok}
theorem pow_full {Q : Value → Shared → Prop} (hz : Sz b half full) (h : Q (.int full s.toks) { s with toks := s.toks + 1 }) : wpAny (model prog w) A (binaryOp .Pow (.int 2 t) (.int b u)) Q E s := by
  obtain ⟨hb1, hb2, hF, hH, hfh, hh1, hh2⟩ := hz
  exact pow_int_small (by omega) (by omega) (by decide) (hF ▸ h)
theorem pow_half {Q : Value → Shared → Prop} (hz : Sz b half full) (h : Q (.int half s.toks) { s with toks := s.toks + 1 }) : wpAny (model prog w) A (binaryOp .Pow (.int 2 t) (.int (b - 1) u)) Q E s := by
  obtain ⟨hb1, hb2, hF, hH, hfh, hh1, hh2⟩ := hz
  exact pow_int_small (by omega) (by omega) (by decide) (hH ▸ h)
end
end Mine
namespace Mine
section
variable {h₀ h' : Heap} {L : Addr} {m : Str → Option Value} {news news' : List (Addr × Obj)} {s : Shared} {Q : Value → Shared → Prop} {tk' : Nat}
theorem ret_bool {x y : Bool} (hret : ∀ (h' : Heap) (tk' : Nat), Fr h₀ L h' m → News h₀ L h' news → Q (.bool x) { s with heap := h', toks := tk' }) (F : Fr h₀ L h' m) (N : News h₀ L h' news') (hs : ∀ p ∈ news, p ∈ news') (e : y = x) :
    Q (.bool y) { s with heap := h', toks := tk' } := e ▸ hret h' tk' F fun p hp => N p (hs p hp)
theorem ret_int {x y : Int} {t : Tok} (hret : ∀ (t : Tok) (h' : Heap) (tk' : Nat), Fr h₀ L h' m → News h₀ L h' news → Q (.int x t) { s with heap := h', toks := tk' }) (F : Fr h₀ L h' m) (N : News h₀ L h' news') (hs : ∀ p ∈ news, p ∈ news') (e : y = x) :
    Q (.int y t) { s with heap := h', toks := tk' } := e ▸ hret t h' tk' F fun p hp => N p (hs p hp)
end
end Mine
theorem Mine.mem_back {α : Type} {a : α} {l : List α} (h : a ∈ l) : List.Mem a l := h
namespace Mine
section
variable {prog : Program} {w : World} {A : Around} {E : Value → Shared → Prop} {s : Shared} {env : Env}
/-- `raise ValueError`: the class alone is raised; the new exception's own tuple is known to be empty -/
theorem raise_VE {x : Str} {np pos : Pos} {Q : Flow → Shared → Prop} (hh : A.handled = none)
    (hx : wpAny (model prog w) A (eval (.Name x np) env) (fun v s₁ => v = .type "ValueError" ∧ s₁ = s) E s)
    (h : ∀ h' e, Heap.MadeExc s.heap h' e "ValueError" [] → E (.ref e) { s with heap := h' }) :
    wpAny (model prog w) A (exec (.Raise (some (.Name x np)) none pos) env) Q E s := by
  have hc := excClass_ValueError
  have hself : isSubtype (.type "ValueError") (.type "ValueError") = pure true := by rw [isSubtype_type]; kernel_rfl
  show wpAny (model prog w) A (do standAt pos; raiseStmt env (some (do let v ← eval (.Name x np) env; standAt pos; pure v)) none) Q E s
  refine wpAny_bind (wpAny_standAt ?_)
  unfold raiseStmt
  dsimp only
  refine wpAny_bind (wpAny_bind (wpAny_mono hx (fun v s₁ h₁ => wpAny_bind (wpAny_standAt (wpAny_pure ?_))) fun _ _ e => e))
  obtain ⟨rfl, rfl⟩ := h₁
  refine wpAny_bind (wpAny_pure ?_)
  dsimp only
  refine wpAny_bind (wpAny_holding ?_)
  unfold excFromValue isExcClass
  refine wpAny_bind (wpAny_bind (wpAny_pure ?_))
  simp only [if_true]
  rw [hc.base]
  refine wpAny_pure ?_
  simp only [if_true]
  obtain ⟨hp, g, d, tk, os⟩ := s₁
  refine wpAny_bind (wpAny_call_exc PySem.F.excCall_ValueError fun h' e hm => ?_)
  obtain ⟨t, he, _, _⟩ := hm.there
  have hT : Shared.TypeIs ⟨h', g, d, tk, os⟩ (.ref e) "ValueError" := ⟨_, he, rfl⟩
  refine wpAny_bind (wpAny_isInstance hT hc.base ?_)
  simp only [Bool.not_true, Bool.false_eq_true, if_false]
  refine wpAny_pure ?_
  refine wpAny_bind (wpAny_pure ?_)
  simp only [if_true]
  refine wpAny_bind (wpAny_holding ?_)
  unfold raisedFor
  simp only [Bool.false_eq_true, if_false]
  refine wpAny_bind (wpAny_typeOf hT ?_)
  refine wpAny_bind (call_issubclass (issubclass_self hc hself) ?_)
  refine wpAny_bind (wpAny_truthy_bool ?_)
  refine wpAny_bind (wpAny_pure ?_)
  refine wpAny_pure ?_
  unfold setFlight raiseNew
  refine wpAny_bind (wpAny_bind (wpAny_field (i := 1) (x := Value.none) he rfl rfl ?_))
  rw [if_neg (by decide)]
  refine wpAny_pure (wpAny_bind (wpAny_handled ?_))
  rw [hh]
  first
    | exact wpAny_throw (h h' e hm)
    | exact wpAny_bind (wpAny_pure (wpAny_throw (h h' e hm)))
end
end Mine
namespace Mine
theorem abs_gt {h d : Int} : (h - 1 < if d < 0 then -d else d) ↔ (h ≤ d ∨ d ≤ -h) := by
  split <;> omega
section
variable {w : World} {h₀ h' : Heap} {L : Addr} {m : Str → Option Value} {news rest : List (Addr × Obj)} {s : Shared} {Q : Value → Shared → Prop} {tk' : Nat} {b v v' : Int} {x y dy : Addr} {k1 t1 k2 t2 : Tok}
theorem ret_ser (hret : ∀ y dy k1 t1 k2 t2 h' tk', Fr h₀ L h' m → News h₀ L h' ((y, instObj 109 dy) :: (dy, serD w v b k1 t1 k2 t2) :: news) → (∀ p ∈ news, p.1 < dy) → dy < y → Q (.ref y) { s with heap := h', toks := tk' })
    (F : Fr h₀ L h' m) (N : News h₀ L h' ((y, instObj 109 dy) :: (dy, serD w v' b k1 t1 k2 t2) :: news)) (l1 : ∀ p ∈ news, p.1 < dy) (l2 : dy < y) (e : v' = v) : Q (.ref y) { s with heap := h', toks := tk' } := by
  subst e
  exact hret _ _ _ _ _ _ _ _ F N l1 l2
theorem ret_in (hret : ∀ k1 t1 k2 t2 h' tk', Fr h₀ L h' m → News h₀ L h' ((dy, serD w v b k1 t1 k2 t2) :: rest) → Q (.ref x) { s with heap := h', toks := tk' })
    (F : Fr h₀ L h' m) (N : News h₀ L h' ((dy, serD w v' b k1 t1 k2 t2) :: rest)) (e : v' = v) : Q (.ref x) { s with heap := h', toks := tk' } := by
  subst e
  exact hret _ _ _ _ _ _ F N
end
theorem add_two {v d full : Int} (h0 : 0 ≤ v) (h1 : v < full) (h2 : -full < d) (h3 : d < full) : ((v + d).fmod full).fmod full = moved v d full := by
  rw [fmod_two (by omega), fmod_moved h0 h1 h2 h3]
theorem sub_two {v d full : Int} (h0 : 0 ≤ v) (h1 : v < full) (h2 : -full < d) (h3 : d < full) : ((v - d).fmod full).fmod full = moved v (-d) full := by
  rw [fmod_two (by omega), Int.sub_eq_add_neg, fmod_moved h0 h1 (by omega) (by omega)]
theorem sub_one {v d full : Int} (h0 : 0 ≤ v) (h1 : v < full) (h2 : -full < d) (h3 : d < full) : (v - d).fmod full = moved v (-d) full := by
  rw [Int.sub_eq_add_neg, fmod_moved h0 h1 (by omega) (by omega)]
end Mine
namespace Mine
theorem atV {n : Int} : -1000000000000000000000000 < n.fmod 1000000000000000000000000 ∧ n.fmod 1000000000000000000000000 < 1000000000000000000000000 := by
  have h := fmod_in (a := n) (full := 1000000000000000000000000) (by decide)
  omega
theorem atN {n : Int} : -1000000000000000000000000 < -(n.fmod 1000000000000000000000000) ∧ -(n.fmod 1000000000000000000000000) < 1000000000000000000000000 := by
  have h := fmod_in (a := n) (full := 1000000000000000000000000) (by decide)
  omega
theorem fdiv8 {n : Int} (h1 : -1000000000000000000000000 < n) (h2 : n < 1000000000000000000000000) : -1000000000000000000000000 < n.fdiv 8 ∧ n.fdiv 8 < 1000000000000000000000000 := by
  rw [Int.fdiv_eq_ediv_of_nonneg _ (by decide)]
  omega
end Mine
namespace Mine
theorem startV {half : Int} (h1 : 2 ≤ half) (h2 : half ≤ 549755813888) (i : Nat) :
    -1000000000000000000000000 < [0, half, half - 1, half + 1, half + half - 1, 1].getD i 0 ∧ [0, half, half - 1, half + 1, half + half - 1, 1].getD i 0 < 1000000000000000000000000 := by
  rcases i with _ | _ | _ | _ | _ | _ | i <;> simp [List.getD] <;> omega
end Mine
namespace Mine
section
variable {h₀ h' : Heap} {L : Addr} {m : Str → Option Value} {news news' : List (Addr × Obj)} {s : Shared} {Q : Value → Shared → Prop} {tk' : Nat} {r lo hi : Int} {t : Tok}
theorem ret_intB (hret : ∀ r t h' tk', lo < r → r < hi → Fr h₀ L h' m → News h₀ L h' news → Q (.int r t) { s with heap := h', toks := tk' }) (F : Fr h₀ L h' m) (N : News h₀ L h' news') (h1 : lo < r) (h2 : r < hi) (hs : ∀ p ∈ news, p ∈ news') :
    Q (.int r t) { s with heap := h', toks := tk' } := hret _ _ _ _ h1 h2 F fun p hp => N p (hs p hp)
theorem ret_intA (hret : ∀ r t h' tk', Fr h₀ L h' m → News h₀ L h' news → Q (.int r t) { s with heap := h', toks := tk' }) (F : Fr h₀ L h' m) (N : News h₀ L h' news') (hs : ∀ p ∈ news, p ∈ news') :
    Q (.int r t) { s with heap := h', toks := tk' } := hret _ _ _ _ F fun p hp => N p (hs p hp)
end
end Mine

namespace Mine
def sgn (how d : Int) : Int := if how = 1 ∨ how = 3 then -d else d
theorem sgn_0 {how d : Int} (h : how = 0 ∨ how = 2) : sgn how d = d := by unfold sgn; rw [if_neg (by omega)]
theorem sgn_1 {how d : Int} (h : how = 1 ∨ how = 3) : sgn how d = -d := by unfold sgn; rw [if_pos h]
end Mine
namespace Mine
theorem beqI (a b : Int) : (a == b) = decide (a = b) := by
  rw [Bool.eq_iff_iff]; simp
theorem gap_of {v u full gap : Int} (h0 : 0 ≤ v) (h1 : v < full) (h2 : 0 ≤ u) (h3 : u < full) (hg : gap = moved u (-v) full) : (v ≤ u ∧ gap = u - v) ∨ (u < v ∧ gap = u - v + full) := by
  subst hg
  unfold moved
  split
  · omega
  · split <;> omega
end Mine
namespace Mine
theorem moved_fwd {v d full : Int} (h0 : 0 ≤ v) (h1 : v < full) (h2 : 0 ≤ d) (h3 : d < full) : (v + d < full ∧ moved v d full = v + d) ∨ (full ≤ v + d ∧ moved v d full = v + d - full) := by
  unfold moved
  split
  · split <;> omega
  · split <;> omega
theorem moved_bwd {v d full : Int} (h0 : 0 ≤ v) (h1 : v < full) (h2 : 0 ≤ d) (h3 : d < full) : (d ≤ v ∧ moved v (-d) full = v - d) ∨ (v < d ∧ moved v (-d) full = v - d + full) := by
  unfold moved
  split
  · split <;> omega
  · split <;> omega
section
variable {v d full : Int}
theorem moved_emod (h0 : 0 ≤ v) (h1 : v < full) (h2 : -full < d) (h3 : d < full) : moved v d full = (v + d) % full := by
  rw [← fmod_moved h0 h1 h2 h3, Int.fmod_eq_emod_of_nonneg _ (Int.le_of_lt (Int.lt_of_le_of_lt h0 h1))]
theorem moved_twice {e : Int} (h0 : 0 ≤ v) (h1 : v < full) (h2 : -full < d) (h3 : d < full) (h4 : -full < e) (h5 : e < full) : moved (moved v d full) e full = (v + d + e) % full := by
  have h := moved_in h0 h1 h2 h3
  rw [moved_emod h.1 h.2 h4 h5, moved_emod h0 h1 h2 h3, Int.emod_add_emod]
theorem moved_there (h0 : 0 ≤ v) (h1 : v < full) (h2 : 0 ≤ d) (h3 : d < full) : moved (moved v d full) (-d) full = v ∧ moved (moved v (-d) full) d full = v := by
  have a : -full < d := by omega
  have b : -full < -d := by omega
  have c : -d < full := by omega
  refine ⟨?_, ?_⟩
  · rw [moved_twice h0 h1 a h3 b c, Int.add_neg_cancel_right, Int.emod_eq_of_lt h0 h1]
  · rw [moved_twice h0 h1 b c a h3, Int.neg_add_cancel_right, Int.emod_eq_of_lt h0 h1]
end
end Mine

namespace Mine
section
variable {prog : Program} {w : World} {A : Around} {E : Value → Shared → Prop} {s : Shared} {env : Env} {h₀ : Heap} {x : Str} {body : List Stmt} {Q : Flow → Shared → Prop}

/-- what a turn must leave: the frame as it was but for the loop's name and the names that the body stores -/
def Kept (x : Str) (stored : List Str) (m₀ m : Str → Option Value) : Prop := ∀ z, z ≠ x → stored.contains z = false → m z = m₀ z
theorem kept_fr {L : Addr} {h : Heap} {stored : List Str} {m₀ m₁ : Str → Option Value} {v : Value} (hk : Kept x stored m₀ m₁) (F : Fr h₀ L h (fun y => if y = x then some v else m₁ y)) :
    Fr h₀ L h (fun y => if y = x then some v else if stored.contains y then m₁ y else m₀ y) := by
  have e : (fun y => if y = x then some v else if stored.contains y then m₁ y else m₀ y) = fun y => if y = x then some v else m₁ y := by
    funext y
    by_cases h1 : y = x
    · rw [if_pos h1, if_pos h1]
    · rw [if_neg h1, if_neg h1]
      cases h2 : stored.contains y with
      | true => simp
      | false => simp only [Bool.false_eq_true, if_false]; exact (hk y h1 h2).symm
  rw [e]; exact F
theorem kept_out {L : Addr} {h : Heap} {stored : List Str} {m₀ m₁ : Str → Option Value} (hk : Kept x stored m₀ m₁) (F : Fr h₀ L h m₁) :
    Fr h₀ L h (fun y => if y = x then m₁ y else if stored.contains y then m₁ y else m₀ y) := by
  have e : (fun y => if y = x then m₁ y else if stored.contains y then m₁ y else m₀ y) = m₁ := by
    funext y
    by_cases h1 : y = x
    · rw [if_pos h1]
    · rw [if_neg h1]
      cases h2 : stored.contains y with
      | true => simp
      | false => simp only [Bool.false_eq_true, if_false]; exact (hk y h1 h2).symm
  rw [e]; exact F

/-- a loop that changes no object of the ledger -/
theorem loop_keep {I : Addr} {fp wr : List Addr} {n : Nat} {P : Nat → Value → Prop} {St : Nat → Heap → Prop} {m₀ : Str → Option Value} {news : List (Addr × Obj)} (stored : List Str)
    (W : Walks prog w A I fp wr n P St) (hLf : env.locals ∉ fp) (hwr : ∀ b ∈ wr, h₀.get? b = none) (hnw : ∀ p ∈ news, p.1 ∉ wr) (hst : St 0 s.heap) (F : Fr h₀ env.locals s.heap m₀) (N : News h₀ env.locals s.heap news)
    (turn : ∀ i v (u : Str → Option Value) h tk own, i < n → P i v → Fr h₀ env.locals h (fun y => if y = x then some v else if stored.contains y then u y else m₀ y) → News h₀ env.locals h (own ++ news) →
      wpAny (model prog w) A (execs body env) (InvPost h₀ env.locals (Kept x stored m₀) (own ++ news) { s with heap := h, toks := tk } Q) E { s with heap := h, toks := tk })
    (done : ∀ (u : Str → Option Value) h tk, Fr h₀ env.locals h (fun y => if y = x then u y else if stored.contains y then u y else m₀ y) → News h₀ env.locals h news → Q .next { s with heap := h, toks := tk }) :
    LoopAtV prog w A h₀ env x body Q E (.ref I) s := by
  let J' : Nat → (Str → Option Value) → List (Addr × Obj) → Prop := fun _ m₁ news₁ => news₁ = news ∧ Kept x stored m₀ m₁
  refine ⟨I, fp, wr, n, P, St, m₀, news, J', rfl, W, hLf, hwr, hnw, hst, F, N, ⟨rfl, fun _ _ _ => rfl⟩, ?_, ?_⟩
  · rintro i v m₁ news₁ s₁ own ⟨hh', tk', rfl⟩ hin hP ⟨rfl, hJ⟩ hoff _ _ _ _ F₁ N₁
    refine wpAny_mono (turn i v m₁ hh' tk' own hin hP (kept_fr hJ F₁) N₁) (fun f s₂ p => ?_) fun _ _ e => e
    have fin : InvEnd h₀ env.locals (Kept x stored m₀) (own ++ news₁) { s with heap := hh', toks := tk' } s₂ → LoopStepU h₀ env.locals wr own (J' (i + 1)) { s with heap := hh', toks := tk' } .next s₂ := by
      rintro ⟨h', tk, m', news', e, F', N', hn, hm⟩
      exact ⟨rfl, h', tk, m', news₁, e, F', fun p hp => N' p (hn p hp), hoff, rfl, hm⟩
    cases f with
    | ret v => exact .ret p
    | brk => exact .brk p
    | next => exact .next (fin p)
    | cont => exact .cont (fin p)
  · rintro h' tk' m' news' F' N' _ ⟨rfl, hJ⟩
    exact done m' h' tk' (kept_out hJ F') N'

theorem iter_range {r : Addr} {a₀ b₀ : Int} {t₀ u₀ v₀ : Tok} {m₀ : Str → Option Value} {news : List (Addr × Obj)} (n : Nat) (stored : List Str)
    (hh : A.handled = none) (hr : IsRange s.heap r a₀ b₀ 1 t₀ u₀ v₀) (hsmall : Builtin.Range.small a₀ b₀ 1 = true) (hn : Builtin.Range.rangeSize a₀ b₀ 1 = (n : Int)) (F : Fr h₀ env.locals s.heap m₀) (N : News h₀ env.locals s.heap news)
    (turn : ∀ (i : Nat) t (u : Str → Option Value) h tk own, i < n → Fr h₀ env.locals h (fun y => if y = x then some (.int (a₀ + i) t) else if stored.contains y then u y else m₀ y) → News h₀ env.locals h (own ++ news) →
      wpAny (model prog w) A (execs body env) (InvPost h₀ env.locals (Kept x stored m₀) (own ++ news) { s with heap := h, toks := tk } Q) E { s with heap := h, toks := tk })
    (done : ∀ (u : Str → Option Value) h tk, Fr h₀ env.locals h (fun y => if y = x then u y else if stored.contains y then u y else m₀ y) → News h₀ env.locals h news → Q .next { s with heap := h, toks := tk }) :
    wpAny (model prog w) A (pyIter (.ref r)) (fun it s₂ => LoopAtV prog w A h₀ env x body Q E it s₂) E s := by
  refine wpAny_pyIter_range hr hsmall ?_
  have W : Walks prog w A s.heap.objs.size [s.heap.objs.size] [s.heap.objs.size] n (fun i v => ∃ t, v = .int (a₀ + i * 1) t)
      (fun i h => IsRangeIter h s.heap.objs.size (a₀ + (i : Nat) * 1) ((n : Int) - (i : Nat)) 1) := Walks.range hh _ a₀ 1 n
  refine loop_keep stored W ?_ ?_ ?_ (by show IsRangeIter _ _ _ _ _; rw [hn]; simpa using Heap.get?_push_size _ rfl) (F.push _) (fun p hp => ⟨Heap.get?_push_of_some _ (N p hp).1, (N p hp).2⟩) ?_ ?_
  · intro hm
    exact absurd F.ns.lt ((List.mem_singleton.mp hm) ▸ Nat.lt_irrefl _)
  · intro b hb
    rw [List.mem_singleton.mp hb]
    exact next_is_new F
  · intro p hp hI
    exact absurd (Heap.lt_size (N p hp).1) ((List.mem_singleton.mp hI) ▸ Nat.lt_irrefl _)
  · rintro i v u h tk own hi ⟨t, rfl⟩ F₁ N₁
    have e1 : a₀ + (i : Int) * 1 = a₀ + (i : Int) := by omega
    rw [e1] at F₁
    exact turn i t u h tk own hi F₁ N₁
  · exact fun u h tk F₁ N₁ => done u h tk F₁ N₁

theorem iter_led {l : Addr} {vs : List Value} {c : Nat} {m₀ : Str → Option Value} {news : List (Addr × Obj)} (stored : List Str)
    (hh : A.handled = none) (hl : (l, listOf vs.toArray c) ∈ news) (F : Fr h₀ env.locals s.heap m₀) (N : News h₀ env.locals s.heap news)
    (turn : ∀ (i : Nat) v (u : Str → Option Value) h tk own, vs[i]? = some v → Fr h₀ env.locals h (fun y => if y = x then some v else if stored.contains y then u y else m₀ y) → News h₀ env.locals h (own ++ news) →
      wpAny (model prog w) A (execs body env) (InvPost h₀ env.locals (Kept x stored m₀) (own ++ news) { s with heap := h, toks := tk } Q) E { s with heap := h, toks := tk })
    (done : ∀ (u : Str → Option Value) h tk, Fr h₀ env.locals h (fun y => if y = x then u y else if stored.contains y then u y else m₀ y) → News h₀ env.locals h news → Q .next { s with heap := h, toks := tk }) :
    wpAny (model prog w) A (pyIter (.ref l)) (fun it s₂ => LoopAtV prog w A h₀ env x body Q E it s₂) E s := by
  have hol : s.heap.get? l = some (listOf vs.toArray c) := (N _ hl).1
  have hls : s.heap.IsList l vs.toArray := ⟨_, hol, rfl, _, rfl⟩
  have hne : l ≠ s.heap.objs.size := Nat.ne_of_lt (Heap.lt_size hol)
  refine wpAny_pyIter_list hls ?_
  have W := Walks.list (prog := prog) (w := w) hh s.heap.objs.size l hne vs.toArray
  refine loop_keep stored W ?_ ?_ ?_ ⟨⟨_, Heap.get?_push_size _ rfl, rfl, rfl⟩, hls.at fun o e => Heap.get?_push_of_some _ e⟩ (F.push _) (fun p hp => ⟨Heap.get?_push_of_some _ (N p hp).1, (N p hp).2⟩) ?_ ?_
  · intro hm
    rcases List.mem_cons.mp hm with e | hm
    · exact absurd F.ns.lt (e ▸ Nat.lt_irrefl _)
    · exact (N _ hl).2.1 (List.mem_singleton.mp hm).symm
  · intro b hb
    rw [List.mem_singleton.mp hb]
    exact next_is_new F
  · intro p hp hI
    exact absurd (Heap.lt_size (N p hp).1) ((List.mem_singleton.mp hI) ▸ Nat.lt_irrefl _)
  · rintro i v u h tk own hi hv F₁ N₁
    exact turn i v u h tk own (by simpa using hv) F₁ N₁
  · exact fun u h tk F₁ N₁ => done u h tk F₁ N₁
end
end Mine

namespace Mine
/-- the law's own state, by membership in the ledger: the pool (refs by cell), the cells, the values by cell, and a Serial for each cell -/
structure Pool (w : World) (b full : Int) (pa ca va : Addr) (obs : List (Addr × Addr)) (vals : List Int) (ks : List Nat) (news : List (Addr × Obj)) : Prop where
  pool : ∃ n, (pa, listOf (ks.map fun k => Value.ref (obs.getD k (0, 0)).1).toArray n) ∈ news
  cells : ∃ cs n, (ca, listOf (List.toArray cs) n) ∈ news ∧ IntsAre cs (ks.map Int.ofNat)
  values : ∃ us n, (va, listOf (List.toArray us) n) ∈ news ∧ IntsAre us vals
  apart : pa ≠ ca ∧ pa ≠ va ∧ ca ≠ va
  len : vals.length = obs.length
  lt : ∀ k ∈ ks, k < obs.length
  obj : ∀ k, k < obs.length → ∃ k1 t1 k2 t2, ((obs.getD k (0, 0)).1, instObj 109 (obs.getD k (0, 0)).2) ∈ news ∧ ((obs.getD k (0, 0)).2, serD w (vals.getD k 0) b k1 t1 k2 t2) ∈ news
  in0 : ∀ k, k < obs.length → 0 ≤ vals.getD k 0 ∧ vals.getD k 0 < full
  nox : ∀ i j, i < obs.length → j < obs.length → (obs.getD i (0, 0)).1 = (obs.getD j (0, 0)).1 → i = j
  nod : ∀ i j, i < obs.length → j < obs.length → (obs.getD i (0, 0)).2 = (obs.getD j (0, 0)).2 → i = j
theorem intsAre_at {vs : List Value} {ns : List Int} (h : IntsAre vs ns) {i : Nat} (hi : i < ns.length) : ∃ t, vs[i]? = some (.int (ns.getD i 0) t) := by
  obtain ⟨t, ht⟩ := h.get i ns[i] (by simp [hi])
  exact ⟨t, by rw [ht]; simp [List.getD, hi]⟩
/-- one place of the pool -/
theorem Pool.at {w : World} {b full : Int} {pa ca va : Addr} {obs : List (Addr × Addr)} {vals : List Int} {ks : List Nat} {news : List (Addr × Obj)} (P : Pool w b full pa ca va obs vals ks news) {i : Nat} (hi : i < ks.length) :
    ∃ (k : Nat) (x d : Addr) (v : Int) (k1 t1 k2 t2 : Tok), ks.getD i 0 = k ∧ k < obs.length ∧ obs.getD k (0, 0) = (x, d) ∧ vals.getD k 0 = v ∧ (ks.map fun k => Value.ref (obs.getD k (0, 0)).1)[i]? = some (.ref x) ∧
      (x, instObj 109 d) ∈ news ∧ (d, serD w v b k1 t1 k2 t2) ∈ news ∧ 0 ≤ v ∧ v < full := by
  have hk : ks.getD i 0 ∈ ks := by simp [List.getD, hi]
  have hlt := P.lt _ hk
  obtain ⟨k1, t1, k2, t2, h1, h2⟩ := P.obj _ hlt
  obtain ⟨h3, h4⟩ := P.in0 _ hlt
  exact ⟨ks.getD i 0, (obs.getD (ks.getD i 0) (0, 0)).1, (obs.getD (ks.getD i 0) (0, 0)).2, vals.getD (ks.getD i 0) 0, k1, t1, k2, t2, rfl, hlt, rfl, rfl, by simp [hi, List.getD], h1, h2, h3, h4⟩
/-- the same, handed on -/
theorem Pool.atC {w : World} {b full : Int} {pa ca va : Addr} {obs : List (Addr × Addr)} {vals : List Int} {ks : List Nat} {news : List (Addr × Obj)} (P : Pool w b full pa ca va obs vals ks news) {i : Nat} (hi : i < ks.length) {C : Prop}
    (h : ∀ (k : Nat) (x d : Addr) (v : Int) (k1 t1 k2 t2 : Tok), ks.getD i 0 = k → k < obs.length → obs.getD k (0, 0) = (x, d) → vals.getD k 0 = v → (ks.map fun k => Value.ref (obs.getD k (0, 0)).1)[i]? = some (.ref x) →
      (x, instObj 109 d) ∈ news → (d, serD w v b k1 t1 k2 t2) ∈ news → 0 ≤ v → v < full → C) : C := by
  obtain ⟨k, x, d, v, k1, t1, k2, t2, e1, e2, e3, e4, e5, e6, e7, e8, e9⟩ := P.at hi
  exact h k x d v k1 t1 k2 t2 e1 e2 e3 e4 e5 e6 e7 e8 e9
theorem Pool.mono {w : World} {b full : Int} {pa ca va : Addr} {obs : List (Addr × Addr)} {vals : List Int} {ks : List Nat} {news news' : List (Addr × Obj)} (P : Pool w b full pa ca va obs vals ks news) (hs : ∀ p ∈ news, p ∈ news') : Pool w b full pa ca va obs vals ks news' := by
  obtain ⟨⟨n1, h1⟩, ⟨cs, n2, h2, h2'⟩, ⟨us, n3, h3, h3'⟩, h0, h4, h5, h6, h7, h8, h9⟩ := P
  refine ⟨⟨n1, hs _ h1⟩, ⟨cs, n2, hs _ h2, h2'⟩, ⟨us, n3, hs _ h3, h3'⟩, h0, h4, h5, fun k hk => ?_, h7, h8, h9⟩
  obtain ⟨k1, t1, k2, t2, a, b⟩ := h6 k hk
  exact ⟨k1, t1, k2, t2, hs _ a, hs _ b⟩

section
variable {prog : Program} {w : World} {A : Around} {E : Value → Shared → Prop} {s : Shared} {h₀ : Heap} {L : Addr} {news : List (Addr × Obj)}
/-- an item of a list of the ledger at a place that is known to hold it -/
theorem item_led {value slice : PySem.Expr} {l : Addr} {vs : List Value} {c : Nat} {k : Int} {u : Tok} {v : Value} {Q : Value → Shared → Prop}
    (N : News h₀ L s.heap news) (hm : (l, listOf vs.toArray c) ∈ news) (h0 : 0 ≤ k) (hhi : k < 2 ^ 63) (hx : vs[k.toNat]? = some v) (h : Q v s)
    (hs : subscripted slice false (.ref l) (.int k u) = operate [.ref l, .int k u] (getItem (.ref l) (.int k u))) :
    wpAny (model prog w) A (subscriptTail value slice (.ref l) (.int k u)) Q E s := by
  have hl : s.heap.IsList l vs.toArray := ⟨_, (N _ hm).1, rfl, _, rfl⟩
  exact tail_any hl.typeIs slot_list_getitem.lookup (wpAny_getItem_list hl h0 hhi (by simpa using hx) h) hs
end
theorem rs0 (n : Nat) : Builtin.Range.rangeSize 0 (n : Int) 1 = (n : Int) := by
  unfold Builtin.Range.rangeSize
  simp
  omega
end Mine
namespace Mine
theorem rsm {n : Nat} (h : n ≤ 100) : Builtin.Range.small 0 (n : Int) 1 = true := by
  have h' : ∀ m : Nat, m < 101 → Builtin.Range.small 0 (m : Int) 1 = true := by decide +kernel
  exact h' n (by omega)
theorem map_ofNat_getD {ks : List Nat} {i k : Nat} (h : ks.getD i 0 = k) : (ks.map Int.ofNat).getD i 0 = (k : Int) := by
  subst h
  rw [List.getD_eq_getElem?_getD, List.getD_eq_getElem?_getD, List.getElem?_map]
  cases ks[i]? <;> rfl
end Mine

namespace Mine
/-- the ledger without what stands at d -/
def off (d : Addr) (l : List (Addr × Obj)) : List (Addr × Obj) := l.filter fun p => p.1 != d
theorem mem_off {d : Addr} {l : List (Addr × Obj)} {p : Addr × Obj} : p ∈ off d l ↔ p ∈ l ∧ p.1 ≠ d := by
  unfold off
  simp
theorem off_off {d : Addr} {l : List (Addr × Obj)} : OwnOff (off d l) [d] := by
  intro p hp b hb
  rw [List.mem_singleton.mp hb]
  exact (mem_off.mp hp).2
theorem off_ne {d : Addr} {l : List (Addr × Obj)} : ∀ p ∈ off d l, p.1 ≠ d := fun _ hp => (mem_off.mp hp).2
theorem news_off {h₀ h : Heap} {L d : Addr} {o : Obj} {l : List (Addr × Obj)} (N : News h₀ L h l) (hm : (d, o) ∈ l) : News h₀ L h ((d, o) :: off d l) := by
  intro p hp
  rcases List.mem_cons.mp hp with rfl | hp
  · exact N _ hm
  · exact N _ (mem_off.mp hp).1
theorem setL_ok : ∀ {l : List Value} {k : Nat} {v : Value}, k < l.length → ki_setL l k v = some (l.set k v)
  | [], _, _, h => absurd h (Nat.not_lt_zero _)
  | a :: r, 0, v, _ => rfl
  | a :: r, k + 1, v, h => by
    have := setL_ok (l := r) (k := k) (v := v) (by simpa using h)
    simp only [ki_setL, this, List.set_cons_succ]
section
variable {prog : Program} {w : World} {A : Around} {E : Value → Shared → Prop} {s : Shared} {h₀ : Heap} {L : Addr} {m : Str → Option Value} {news : List (Addr × Obj)} {l : Addr} {vs : List Value} {c : Nat}
theorem append_led {x : Value} {Q : Value → Shared → Prop} (F : Fr h₀ L s.heap m) (N : News h₀ L s.heap news) (hm : (l, listOf vs.toArray c) ∈ news) (hsz : vs.length ≤ 1000)
    (h : ∀ h', Fr h₀ L h' m → News h₀ L h' ((l, listOf (vs ++ [x]).toArray (c + 1)) :: off l news) → Q .none { s with heap := h' }) : wpAny (model prog w) A (call (.builtin "list.append") [.ref l, x]) Q E s := by
  refine append_K F (news_off N hm) (.head off_ne) (fun h' F' N' => h h' F' ?_) (by rw [List.size_toArray, sizeLine_eq]; omega)
  rwa [List.push_toArray] at N'
theorem set_led {k : Int} {t : Tok} {v : Value} {Q : Unit → Shared → Prop} (F : Fr h₀ L s.heap m) (N : News h₀ L s.heap news) (hm : (l, listOf vs.toArray c) ∈ news) (h0 : 0 ≤ k) (hk : k.toNat < vs.length) (hsz : vs.length ≤ 1000)
    (h : ∀ h', Fr h₀ L h' m → News h₀ L h' ((l, listOf (vs.set k.toNat v).toArray c) :: off l news) → Q () { s with heap := h' }) : wpAny (model prog w) A (setItem (.ref l) (.int k t) v) Q E s :=
  ki_set F (news_off N hm) h0 (by omega) (setL_ok (l := vs.toArray.toList) (by simpa using hk)) (.head off_ne) h
end
end Mine
namespace Mine
theorem one_obj {h₀ h : Heap} {L a : Addr} {o o' : Obj} {l : List (Addr × Obj)} (N : News h₀ L h l) (h1 : (a, o) ∈ l) (h2 : (a, o') ∈ l) : o = o' := by
  have e := (N _ h1).1.symm.trans (N _ h2).1
  exact Option.some.inj e
theorem mem_split {h₀ h : Heap} {L d : Addr} {o : Obj} {l : List (Addr × Obj)} (N : News h₀ L h l) (hm : (d, o) ∈ l) {q : Addr × Obj} (hq : q ∈ l) : q ∈ (d, o) :: off d l := by
  by_cases e : q.1 = d
  · obtain ⟨a, o'⟩ := q
    obtain rfl : a = d := e
    rw [one_obj N hm hq]
    exact .head _
  · exact .tail _ (mem_off.mpr ⟨hq, e⟩)
theorem ne_list {h₀ h : Heap} {L a d : Addr} {vs : Array Value} {n : Nat} {o : Obj} {l : List (Addr × Obj)} (N : News h₀ L h l) (h1 : (a, listOf vs n) ∈ l) (h2 : (d, o) ∈ l) (hc : o.cls ≠ .type "list") : a ≠ d := by
  intro e
  subst e
  have := one_obj N h1 h2
  rw [← this] at hc
  exact hc rfl
theorem ne_inst {h₀ h : Heap} {L x d e : Addr} {o : Obj} {l : List (Addr × Obj)} (N : News h₀ L h l) (h1 : (x, instObj 109 d) ∈ l) (h2 : (e, o) ∈ l) (hc : o.cls ≠ .ref 109) : x ≠ e := by
  intro q
  subst q
  have := one_obj N h1 h2
  rw [← this] at hc
  exact hc rfl
end Mine
theorem Mine.par4 (n : Int) : (n.fmod 4).fmod 2 = 1 ↔ (n.fmod 4 = 1 ∨ n.fmod 4 = 3) := by
  have h := Mine.fmod_in (a := n) (full := 4) (by decide)
  generalize n.fmod 4 = x at h
  rw [Int.fmod_eq_emod_of_nonneg _ (by decide)]
  omega

namespace Mine
theorem dict_ne : Value.type "dict" ≠ Value.type "list" := fun e => absurd (Value.type.inj e) (by decide)
theorem cls_list {vs : Array Value} {n : Nat} : (listOf vs n).cls = .type "list" := rfl
theorem getD_set_self {l : List Int} {k : Nat} {v d : Int} (h : k < l.length) : (l.set k v).getD k d = v := by
  simp [List.getD, h]
theorem getD_set_ne {l : List Int} {k j : Nat} {v d : Int} (h : k ≠ j) : (l.set k v).getD j d = l.getD j d := by
  simp [List.getD, List.getElem?_set, h]
theorem getD_app_lt {α : Type} {l : List α} {k : Nat} {a d : α} (h : k < l.length) : (l ++ [a]).getD k d = l.getD k d := by
  simp [List.getD, List.getElem?_append, h]
theorem getD_app_at {α : Type} {l : List α} {a d : α} : (l ++ [a]).getD l.length d = a := by
  simp [List.getD]
section
variable {w : World} {b full : Int} {pa ca va : Addr} {obs : List (Addr × Addr)} {vals : List Int} {ks : List Nat} {news news' : List (Addr × Obj)} {h₀ h : Heap} {L : Addr}
theorem Pool.set (P : Pool w b full pa ca va obs vals ks news) (N : News h₀ L h news) {k x d : Nat} (hk : k < obs.length) (ho : obs.getD k (0, 0) = (x, d)) {v' : Int} (h0 : 0 ≤ v') (h1 : v' < full)
    (hs : ∀ p ∈ news, p.1 ≠ d → p.1 ≠ va → p ∈ news') {k1 t1 k2 t2 : Tok} (hd : (d, serD w v' b k1 t1 k2 t2) ∈ news') {us' : List Value} {n : Nat} (hu : (va, listOf us'.toArray n) ∈ news') (hi : IntsAre us' (vals.set k v')) :
    Pool w b full pa ca va obs (vals.set k v') ks news' := by
  obtain ⟨n1, p1⟩ := P.pool
  obtain ⟨cv, n2, p2, p2'⟩ := P.cells
  obtain ⟨us, n3, p3, p3'⟩ := P.values
  obtain ⟨q1, q2, q3⟩ := P.apart
  obtain ⟨ka, ta, kb, tb, o1, o2⟩ := P.obj k hk
  rw [ho] at o1 o2
  refine ⟨⟨n1, hs _ p1 (ne_list N p1 o2 dict_ne) q2⟩, ⟨cv, n2, hs _ p2 (ne_list N p2 o2 dict_ne) q3, p2'⟩, ⟨us', n, hu, hi⟩, P.apart, by rw [List.length_set]; exact P.len, P.lt, fun j hj => ?_, fun j hj => ?_, P.nox, P.nod⟩
  · obtain ⟨kc, tc, kd, td, z1, z2⟩ := P.obj j hj
    by_cases e : k = j
    · subst e
      rw [getD_set_self (by rw [P.len]; exact hk)]
      rw [ho]
      exact ⟨k1, t1, k2, t2, hs _ o1 (ne_inst N o1 o2 (by intro e; cases e)) (ne_inst N o1 p3 (by intro e; cases e)), hd⟩
    · rw [getD_set_ne e]
      refine ⟨kc, tc, kd, td, hs _ z1 (ne_inst N z1 o2 (by intro e; cases e)) (ne_inst N z1 p3 (by intro e; cases e)), hs _ z2 (fun q => e ?_) (fun q => ?_)⟩
      · exact P.nod k j hk hj (by rw [ho]; exact q.symm)
      · exact (ne_list N p3 z2 dict_ne) q.symm
  · by_cases e : k = j
    · subst e
      rw [getD_set_self (by rw [P.len]; exact hk)]
      exact ⟨h0, h1⟩
    · rw [getD_set_ne e]
      exact P.in0 j hj
theorem Pool.add (P : Pool w b full pa ca va obs vals ks news) (N : News h₀ L h news) {y dy : Nat} {v : Int} (h0 : 0 ≤ v) (h1 : v < full) (hy : ∀ p ∈ news, p.1 ≠ y) (hdy : ∀ p ∈ news, p.1 ≠ dy)
    (hs : ∀ p ∈ news, p.1 ≠ pa → p.1 ≠ ca → p.1 ≠ va → p ∈ news') {n1' n2' n3' : Nat} {cv us : List Value} {tc tu : Tok} {k1 t1 k2 t2 : Tok} (hcv : IntsAre cv (ks.map Int.ofNat)) (hus : IntsAre us vals)
    (hp : (pa, listOf ((ks.map fun k => Value.ref (obs.getD k (0, 0)).1) ++ [Value.ref y]).toArray n1') ∈ news') (hc : (ca, listOf (cv ++ [Value.int (vals.length : Int) tc]).toArray n2') ∈ news') (hu : (va, listOf (us ++ [Value.int v tu]).toArray n3') ∈ news')
    (hx : (y, instObj 109 dy) ∈ news') (hd : (dy, serD w v b k1 t1 k2 t2) ∈ news') :
    Pool w b full pa ca va (obs ++ [(y, dy)]) (vals ++ [v]) (ks ++ [obs.length]) news' := by
  obtain ⟨m1, p1⟩ := P.pool
  obtain ⟨cv', m2, p2, p2'⟩ := P.cells
  obtain ⟨us', m3, p3, p3'⟩ := P.values
  have hlen := P.len
  have em : (ks ++ [obs.length]).map (fun k => Value.ref ((obs ++ [(y, dy)]).getD k (0, 0)).1) = (ks.map fun k => Value.ref (obs.getD k (0, 0)).1) ++ [Value.ref y] := by
    rw [List.map_append]
    congr 1
    · refine List.map_congr_left fun k hk => ?_
      rw [getD_app_lt (P.lt k hk)]
    · simp only [List.map_cons, List.map_nil]
      rw [getD_app_at]
  have old : ∀ j, j < obs.length → (obs.getD j (0, 0)).1 ≠ y ∧ (obs.getD j (0, 0)).2 ≠ dy := fun j hj => by
    obtain ⟨_, _, _, _, z1, z2⟩ := P.obj j hj
    exact ⟨hy _ z1, hdy _ z2⟩
  refine ⟨⟨n1', by rw [em]; exact hp⟩, ⟨_, n2', hc, ?_⟩, ⟨_, n3', hu, ?_⟩, P.apart, by simp [hlen], fun k hk => ?_, fun j hj => ?_, fun j hj => ?_, fun i j hi hj e => ?_, fun i j hi hj e => ?_⟩
  · rw [List.map_append]
    simp only [List.map_cons, List.map_nil]
    have e2 : Int.ofNat obs.length = (vals.length : Int) := by rw [hlen]; rfl
    rw [e2]
    exact IntsAre.append hcv (.cons _ _ .nil)
  · exact IntsAre.append hus (.cons _ _ .nil)
  · rw [List.length_append, List.length_singleton]
    rcases List.mem_append.mp hk with z | z
    · exact Nat.lt_succ_of_lt (P.lt k z)
    · rw [List.mem_singleton.mp z]; exact Nat.lt_succ_self _
  · rw [List.length_append, List.length_singleton] at hj
    by_cases e : j < obs.length
    · rw [getD_app_lt e, getD_app_lt (by rw [hlen]; exact e)]
      obtain ⟨kc, tc', kd, td, z1, z2⟩ := P.obj j e
      refine ⟨kc, tc', kd, td, hs _ z1 ?_ ?_ ?_, hs _ z2 ?_ ?_ ?_⟩
      · exact ne_inst N z1 p1 (by intro e; cases e)
      · exact ne_inst N z1 p2 (by intro e; cases e)
      · exact ne_inst N z1 p3 (by intro e; cases e)
      · exact fun q => (ne_list N p1 z2 dict_ne) q.symm
      · exact fun q => (ne_list N p2 z2 dict_ne) q.symm
      · exact fun q => (ne_list N p3 z2 dict_ne) q.symm
    · obtain rfl : j = obs.length := by omega
      rw [getD_app_at, ← hlen, getD_app_at]
      exact ⟨k1, t1, k2, t2, hx, hd⟩
  · rw [List.length_append, List.length_singleton] at hj
    by_cases e : j < obs.length
    · rw [getD_app_lt (by rw [hlen]; exact e)]
      exact P.in0 j e
    · obtain rfl : j = obs.length := by omega
      rw [← hlen, getD_app_at]
      exact ⟨h0, h1⟩
  · rw [List.length_append, List.length_singleton] at hi hj
    by_cases a : i < obs.length <;> by_cases c : j < obs.length
    · rw [getD_app_lt a, getD_app_lt c] at e
      exact P.nox i j a c e
    · obtain rfl : j = obs.length := by omega
      rw [getD_app_lt a, getD_app_at] at e
      exact absurd e (old i a).1
    · obtain rfl : i = obs.length := by omega
      rw [getD_app_at, getD_app_lt c] at e
      exact absurd e.symm (old j c).1
    · omega
  · rw [List.length_append, List.length_singleton] at hi hj
    by_cases a : i < obs.length <;> by_cases c : j < obs.length
    · rw [getD_app_lt a, getD_app_lt c] at e
      exact P.nod i j a c e
    · obtain rfl : j = obs.length := by omega
      rw [getD_app_lt a, getD_app_at] at e
      exact absurd e (old i a).2
    · obtain rfl : i = obs.length := by omega
      rw [getD_app_at, getD_app_lt c] at e
      exact absurd e.symm (old j c).2
    · omega
end
end Mine
namespace Mine
theorem intsAre_set : ∀ {us : List Value} {vals : List Int} {k : Nat} {v : Int} {t : Tok}, IntsAre us vals → IntsAre (us.set k (.int v t)) (vals.set k v)
  | _, _, _, _, _, .nil => by simpa using IntsAre.nil
  | _, _, 0, v, t, .cons n t' r => by simpa using IntsAre.cons v t r
  | _, _, k + 1, v, t, .cons n t' r => by simpa using IntsAre.cons n t' (intsAre_set (k := k) (v := v) (t := t) r)
end Mine
namespace Mine
theorem cls_ne {h₀ h : Heap} {L a : Addr} {o : Obj} {l : List (Addr × Obj)} {p : Addr × Obj} (N : News h₀ L h l) (hp : p ∈ l) (hm : (a, o) ∈ l) (hc : p.2.cls ≠ o.cls) : p.1 ≠ a := by
  intro e
  obtain ⟨b, o'⟩ := p
  obtain rfl : b = a := e
  exact hc (by rw [one_obj N hp hm])
end Mine

namespace Mine
section
variable {prog : Program} {w : World} {A : Around} {E : Value → Shared → Prop} {s : Shared} {env : Env} {h₀ : Heap} {x : Str} {body : List Stmt} {Q : Flow → Shared → Prop}
/-- the end of a turn: the frame but for the loop's names, what is not ours still stands, the word holds -/
def TurnEnd (h₀ : Heap) (L : Addr) (x : Str) (stored : List Str) (m₀ : Str → Option Value) (own : List (Addr × Obj)) (Inv : List (Addr × Obj) → Prop) (s₁ s₂ : Shared) : Prop :=
  ∃ h' tk m' news', s₂ = { s₁ with heap := h', toks := tk } ∧ Fr h₀ L h' m' ∧ News h₀ L h' news' ∧ (∀ p ∈ own, p ∈ news') ∧ Kept x stored m₀ m' ∧ Inv news'
def TurnPost (h₀ : Heap) (L : Addr) (x : Str) (stored : List Str) (m₀ : Str → Option Value) (own : List (Addr × Obj)) (Inv : List (Addr × Obj) → Prop) (s₁ : Shared) (Q : Flow → Shared → Prop) (f : Flow) (s₂ : Shared) : Prop :=
  match f with
  | .ret v => Q (.ret v) s₂
  | .brk => Q .next s₂
  | _ => TurnEnd h₀ L x stored m₀ own Inv s₁ s₂
theorem iter_rangeI {r : Addr} {a₀ b₀ : Int} {t₀ u₀ v₀ : Tok} {m₀ : Str → Option Value} {news : List (Addr × Obj)} (n : Nat) (stored : List Str) (Inv : Nat → List (Addr × Obj) → Prop)
    (mono : ∀ i l l', Inv i l → (∀ p ∈ l, p.2.cls ≠ .type "range_iterator" → p ∈ l') → Inv i l')
    (hh : A.handled = none) (hr : IsRange s.heap r a₀ b₀ 1 t₀ u₀ v₀) (hsmall : Builtin.Range.small a₀ b₀ 1 = true) (hn : Builtin.Range.rangeSize a₀ b₀ 1 = (n : Int)) (F : Fr h₀ env.locals s.heap m₀) (N : News h₀ env.locals s.heap news) (hi : Inv 0 news)
    (turn : ∀ (i : Nat) t (u : Str → Option Value) h tk own news₁, i < n → Inv i (own ++ news₁) → (∀ p ∈ own, p.2.cls = .type "range_iterator") → Fr h₀ env.locals h (fun y => if y = x then some (.int (a₀ + i) t) else if stored.contains y then u y else m₀ y) → News h₀ env.locals h (own ++ news₁) →
      wpAny (model prog w) A (execs body env) (TurnPost h₀ env.locals x stored m₀ own (Inv (i + 1)) { s with heap := h, toks := tk } Q) E { s with heap := h, toks := tk })
    (done : ∀ (u : Str → Option Value) h tk news₁, Inv n news₁ → Fr h₀ env.locals h (fun y => if y = x then u y else if stored.contains y then u y else m₀ y) → News h₀ env.locals h news₁ → Q .next { s with heap := h, toks := tk }) :
    wpAny (model prog w) A (pyIter (.ref r)) (fun it s₂ => LoopAtV prog w A h₀ env x body Q E it s₂) E s := by
  refine wpAny_pyIter_range hr hsmall ?_
  have W : Walks prog w A s.heap.objs.size [s.heap.objs.size] [s.heap.objs.size] n (fun i v => ∃ t, v = .int (a₀ + i * 1) t)
      (fun i h => IsRangeIter h s.heap.objs.size (a₀ + (i : Nat) * 1) ((n : Int) - (i : Nat)) 1) := Walks.range hh _ a₀ 1 n
  let J' : Nat → (Str → Option Value) → List (Addr × Obj) → Prop := fun i m₁ news₁ => Inv i news₁ ∧ Kept x stored m₀ m₁
  refine ⟨_, _, _, n, _, _, m₀, news, J', rfl, W, ?_, ?_, ?_, ?_, F.push _, (fun p hp => ⟨Heap.get?_push_of_some _ (N p hp).1, (N p hp).2⟩), ⟨hi, fun _ _ _ => rfl⟩, ?_, ?_⟩
  · intro hm
    exact absurd F.ns.lt ((List.mem_singleton.mp hm) ▸ Nat.lt_irrefl _)
  · intro b hb
    rw [List.mem_singleton.mp hb]
    exact next_is_new F
  · intro p hp hI
    exact absurd (Heap.lt_size (N p hp).1) ((List.mem_singleton.mp hI) ▸ Nat.lt_irrefl _)
  · show IsRangeIter _ _ _ _ _
    rw [hn]
    simpa using Heap.get?_push_size _ rfl
  · rintro i v m₁ news₁ s₁ own ⟨hh', tk', rfl⟩ hin ⟨t, rfl⟩ ⟨hI, hK⟩ hoff hown hat hall hst F₁ N₁
    have e1 : a₀ + (i : Int) * 1 = a₀ + (i : Int) := by omega
    rw [e1] at F₁
    have hst' : hh'.get? s.heap.objs.size = _ := hst
    have hcls : ∀ p ∈ own, p.2.cls = .type "range_iterator" := by
      intro p hp
      have h1 := hat p hp
      rw [List.mem_singleton.mp (hown p hp)] at h1
      have h2 := Option.some.inj (h1.symm.trans hst')
      rw [h2]
    refine wpAny_mono (turn i t m₁ hh' tk' own news₁ hin (mono _ _ _ hI fun p hp _ => List.mem_append_right _ hp) hcls (kept_fr hK F₁) N₁) (fun f s₂ p => ?_) fun _ _ e => e
    have fin : TurnEnd h₀ env.locals x stored m₀ own (Inv (i + 1)) { s with heap := hh', toks := tk' } s₂ → LoopStepU h₀ env.locals [s.heap.objs.size] own (J' (i + 1)) { s with heap := hh', toks := tk' } .next s₂ := by
      rintro ⟨h', tk, m', news', e, F', N', ho, hm, hI'⟩
      refine ⟨rfl, h', tk, m', off s.heap.objs.size news', e, F', fun p hp => N' p ((List.mem_append.mp hp).elim (ho p) fun h => (mem_off.mp h).1), fun p hp hq => ?_, ?_, hm⟩
      · exact (mem_off.mp hp).2 (List.mem_singleton.mp hq)
      · refine mono _ _ _ hI' fun p hp hc => mem_off.mpr ⟨hp, fun e => hc ?_⟩
        have hb := hall s.heap.objs.size (List.mem_singleton.mpr rfl) (next_is_new F) _ hst'
        have h1 := (N' p hp).1
        rw [e, (N' _ (ho _ hb)).1] at h1
        rw [← Option.some.inj h1]
    cases f with
    | ret v => exact .ret p
    | brk => exact .brk p
    | next => exact .next (fin p)
    | cont => exact .cont (fin p)
  · rintro h' tk' m' news' F' N' _ ⟨hI, hK⟩
    exact done m' h' tk' news' hI (kept_out hK F') N'
end
end Mine

namespace Mine
section
variable {w : World} {b full : Int} {pa ca va : Addr} {obs : List (Addr × Addr)} {vals : List Int} {ks : List Nat} {news news' : List (Addr × Obj)} {h₀ h : Heap} {L : Addr}
theorem Pool.monoR (P : Pool w b full pa ca va obs vals ks news) (hs : ∀ p ∈ news, p.2.cls ≠ .type "range_iterator" → p ∈ news') : Pool w b full pa ca va obs vals ks news' := by
  have l : Value.type "list" ≠ Value.type "range_iterator" := fun e => absurd (Value.type.inj e) (by decide)
  have d : Value.type "dict" ≠ Value.type "range_iterator" := fun e => absurd (Value.type.inj e) (by decide)
  obtain ⟨⟨n1, h1⟩, ⟨cs, n2, h2, h2'⟩, ⟨us, n3, h3, h3'⟩, h0, h4, h5, h6, h7, h8, h9⟩ := P
  refine ⟨⟨n1, hs _ h1 l⟩, ⟨cs, n2, hs _ h2 l, h2'⟩, ⟨us, n3, hs _ h3 l, h3'⟩, h0, h4, h5, fun k hk => ?_, h7, h8, h9⟩
  obtain ⟨k1, t1, k2, t2, a, b⟩ := h6 k hk
  exact ⟨k1, t1, k2, t2, hs _ a (by intro e; cases e), hs _ b d⟩
/-- the word between the turns of the eight deeds -/
def LInv (w : World) (b full : Int) (pa ca va : Addr) (i : Nat) (l : List (Addr × Obj)) : Prop :=
  ∃ obs vals ks, Pool w b full pa ca va obs vals ks l ∧ 3 ≤ ks.length ∧ ks.length ≤ 3 + i ∧ obs.length ≤ 2 + i
theorem LInv.mono {w : World} {b full : Int} {pa ca va : Addr} (i : Nat) (l l' : List (Addr × Obj)) (h : LInv w b full pa ca va i l) (hs : ∀ p ∈ l, p.2.cls ≠ .type "range_iterator" → p ∈ l') : LInv w b full pa ca va i l' := by
  obtain ⟨obs, vals, ks, P, a, b, c⟩ := h
  exact ⟨obs, vals, ks, P.monoR hs, a, b, c⟩
theorem pool_start {u1 u2 : Int} {a1 a2 b1 b2 b3 : Tok} {c1 c2 c3 : Nat} {x1 x2 d1 d2 : Addr} {ka ta kb tb kc tc kd td : Tok} {q : Addr × Obj}
    (N : News h₀ L h [(va, listOf #[.int (u1.fmod full) a1, .int (u2.fmod full) a2] c1), (ca, listOf #[.int 0 b1, .int 1 b2, .int 0 b3] c2), (pa, listOf (#[.ref x1, .ref x2].push (.ref x1)) c3), (x2, instObj 109 d2), (d2, serD w (u2.fmod full) b kc tc kd td), (x1, instObj 109 d1), (d1, serD w (u1.fmod full) b ka ta kb tb), q])
    (hx : x1 ≠ x2) (hd : d1 ≠ d2) (hpc : pa ≠ ca) (hpv : pa ≠ va) (hcv : ca ≠ va) (hf : 0 < full) :
    ∃ obs vals ks led, News h₀ L h led ∧ Pool w b full pa ca va obs vals ks led ∧ ks.length = 3 ∧ obs.length = 2 := by
  refine ⟨[(x1, d1), (x2, d2)], [u1.fmod full, u2.fmod full], [0, 1, 0], _, N, ⟨⟨c3, ?_⟩, ⟨[.int 0 b1, .int 1 b2, .int 0 b3], c2, ?_, ?_⟩, ⟨[.int (u1.fmod full) a1, .int (u2.fmod full) a2], c1, ?_, ?_⟩, ⟨hpc, hpv, hcv⟩, rfl, ?_, ?_, ?_, ?_, ?_⟩, rfl, rfl⟩
  · exact .tail _ (.tail _ (.head _))
  · exact .tail _ (.head _)
  · exact .cons _ _ (.cons _ _ (.cons _ _ .nil))
  · exact .head _
  · exact .cons _ _ (.cons _ _ .nil)
  · intro k hk
    simp at hk
    rcases hk with rfl | rfl | rfl <;> simp
  · intro k hk
    match k, hk with
    | 0, _ => exact ⟨ka, ta, kb, tb, .tail _ (.tail _ (.tail _ (.tail _ (.tail _ (.head _))))), .tail _ (.tail _ (.tail _ (.tail _ (.tail _ (.tail _ (.head _))))))⟩
    | 1, _ => exact ⟨kc, tc, kd, td, .tail _ (.tail _ (.tail _ (.head _))), .tail _ (.tail _ (.tail _ (.tail _ (.head _))))⟩
    | k + 2, h => exact absurd h (by simp)
  · intro k hk
    match k, hk with
    | 0, _ => exact fmod_in hf
    | 1, _ => exact fmod_in hf
    | k + 2, h => exact absurd h (by simp)
  · intro i j hi hj e
    match i, j, hi, hj, e with
    | 0, 0, _, _, _ => rfl
    | 1, 1, _, _, _ => rfl
    | 0, 1, _, _, e => exact absurd e hx
    | 1, 0, _, _, e => exact absurd e.symm hx
    | i + 2, _, h, _, _ => exact absurd h (by simp)
    | _, j + 2, _, h, _ => exact absurd h (by simp)
  · intro i j hi hj e
    match i, j, hi, hj, e with
    | 0, 0, _, _, _ => rfl
    | 1, 1, _, _, _ => rfl
    | 0, 1, _, _, e => exact absurd e hd
    | 1, 0, _, _, e => exact absurd e.symm hd
    | i + 2, _, h, _, _ => exact absurd h (by simp)
    | _, j + 2, _, h, _ => exact absurd h (by simp)
end
end Mine
namespace Mine
theorem Pool.place {w : World} {b full : Int} {pa ca va : Addr} {obs : List (Addr × Addr)} {vals : List Int} {ks : List Nat} {news : List (Addr × Obj)} {ps cv us : List Value} (P : Pool w b full pa ca va obs vals ks news)
    (hps : (ks.map fun k => Value.ref (obs.getD k (0, 0)).1) = ps) (hci : IntsAre cv (ks.map Int.ofNat)) (hui : IntsAre us vals) : ∀ i : Nat, i < ks.length → ∀ {C : Prop},
    (∀ (x d : Addr) (v : Int) (ka ta kb tb tc tv : Tok) (k : Nat), ps[((0 : Int) + (i : Int)).toNat]? = some (.ref x) → cv[((0 : Int) + (i : Int)).toNat]? = some (.int (k : Int) tc) → us[((k : Int)).toNat]? = some (.int v tv) →
      (x, instObj 109 d) ∈ news → (d, serD w v b ka ta kb tb) ∈ news → 0 ≤ v → v < full → ps[i]? = some (.ref x) → k < obs.length → C) → C := by
  intro i hi C h
  obtain ⟨k, x, d, v, k1, t1, k2, t2, e1, e2, e3, e4, e5, e6, e7, e8, e9⟩ := P.at hi
  obtain ⟨tc, e10⟩ := intsAre_at hci (i := i) (by rw [List.length_map]; exact hi)
  obtain ⟨tv, e11⟩ := intsAre_at hui (i := k) (by rw [P.len]; exact e2)
  have ei : ((0 : Int) + (i : Int)).toNat = i := by omega
  rw [hps] at e5
  exact h x d v k1 t1 k2 t2 tc tv k (by rw [ei]; exact e5) (by rw [ei, e10, map_ofNat_getD e1]) (by rw [Int.toNat_natCast, e11, e4]) e6 e7 e8 e9 e5 e2
theorem two_items {t1 t2 : Tok} {i : Nat} {v : Value} (h : ([Value.int 11 t1, Value.int 12 t2] : List Value)[i]? = some v) : ∃ (p : Int) (tp : Tok), v = .int p tp ∧ 0 ≤ p ∧ p ≤ 13 := by
  match i, h with
  | 0, h => exact ⟨11, t1, (Option.some.inj h).symm, by decide, by decide⟩
  | 1, h => exact ⟨12, t2, (Option.some.inj h).symm, by decide, by decide⟩
  | i + 2, h => simp at h
section
variable {v half : Int}
theorem about_back (h0 : 0 ≤ v) (h1 : v < half + half) (h2 : 2 ≤ half) :
    moved (moved (moved (moved v (half - 1) (half + half)) (half - 1) (half + half)) 1 (half + half)) 1 (half + half) = v := by
  have a : -(half + half) < half - 1 := by omega
  have b : half - 1 < half + half := by omega
  have c : -(half + half) < (1 : Int) := by omega
  have d : (1 : Int) < half + half := by omega
  have m1 := moved_in h0 h1 a b
  have m2 := moved_in m1.1 m1.2 a b
  have e : v + (half - 1) + (half - 1) + 1 + 1 = v + (half + half) := by omega
  rw [moved_twice m2.1 m2.2 c d c d, moved_twice h0 h1 a b a b, Int.add_assoc, Int.emod_add_emod, ← Int.add_assoc, e, Int.add_emod_right, Int.emod_eq_of_lt h0 h1]
end
end Mine

namespace Mine
theorem kept_base {x : Str} {stored : List Str} {m₀ v u : Str → Option Value} : Kept x stored m₀ (fun y => if y = x then v y else if stored.contains y then u y else m₀ y) := by
  intro z h1 h2
  show (if z = x then v z else if stored.contains z then u z else m₀ z) = m₀ z
  rw [if_neg h1, if_neg (by rw [h2]; decide)]
theorem kept_store {x a : Str} {stored : List Str} {m₀ m₁ v : Str → Option Value} (ha : stored.contains a = true) (h : Kept x stored m₀ m₁) : Kept x stored m₀ (fun y => if y = a then v y else m₁ y) := by
  intro z h1 h2
  show (if z = a then v z else m₁ z) = m₀ z
  rw [if_neg (fun e => by rw [e, ha] at h2; cases h2)]
  exact h z h1 h2
theorem kept_in {x : Str} {st stored : List Str} {m₀ m₁ u : Str → Option Value} (ha : ∀ z, st.contains z = true → stored.contains z = true) (h : Kept x stored m₀ m₁) : Kept x stored m₀ (fun y => if st.contains y then u y else m₁ y) := by
  intro z h1 h2
  show (if st.contains z then u z else m₁ z) = m₀ z
  rw [if_neg (fun e => by rw [ha z e] at h2; cases h2)]
  exact h z h1 h2
theorem ite_no {c : Prop} [Decidable c] {a b : Prop} (h : ¬ c) (k : b) : if c then a else b := by rw [if_neg h]; exact k
theorem one_in {a : Str} {stored : List Str} (h : stored.contains a = true) : ∀ z, [a].contains z = true → stored.contains z = true := by
  intro z hz
  have e : z = a := by simpa using hz
  rw [e]; exact h
end Mine
namespace Mine
/-- what the law's frame holds, whatever else it holds -/
structure Named (M : Str → Option Value) (pa ca va l : Addr) (b half full : Int) (tb th tf : Tok) : Prop where
  pool : M (Str.ofString "pool") = some (.ref pa)
  cells : M (Str.ofString "cells") = some (.ref ca)
  values : M (Str.ofString "values") = some (.ref va)
  script : M (Str.ofString "script") = some (.ref l)
  bits : M (Str.ofString "bits") = some (.int b tb)
  half : M (Str.ofString "half") = some (.int half th)
  full : M (Str.ofString "full") = some (.int full tf)
theorem named {h₀ h : Heap} {L : Addr} {m : Str → Option Value} {pa ca va l : Addr} {b half full : Int} {tb th tf : Tok} (F : Fr h₀ L h m) (h1 : m (Str.ofString "pool") = some (.ref pa)) (h2 : m (Str.ofString "cells") = some (.ref ca))
    (h3 : m (Str.ofString "values") = some (.ref va)) (h4 : m (Str.ofString "script") = some (.ref l)) (h5 : m (Str.ofString "bits") = some (.int b tb)) (h6 : m (Str.ofString "half") = some (.int half th)) (h7 : m (Str.ofString "full") = some (.int full tf)) :
    ∃ M, Fr h₀ L h M ∧ Named M pa ca va l b half full tb th tf := ⟨m, F, h1, h2, h3, h4, h5, h6, h7⟩
end Mine

namespace Mine
section
variable {v u d gap half full : Int}
theorem lt_of_fwd {w : Int} (hfh : full = half + half) (hd1 : 1 ≤ d) (hdh : d < half) (h : (v + d < full ∧ w = v + d) ∨ (full ≤ v + d ∧ w = v + d - full)) : LtS v w half := by
  rcases h with ⟨_, rfl⟩ | ⟨_, rfl⟩
  · exact .inl ⟨by omega, by omega⟩
  · exact .inr ⟨by omega, by omega⟩
theorem lt_of_bwd {w : Int} (hfh : full = half + half) (hd1 : 1 ≤ d) (hdh : d < half) (h : (d ≤ v ∧ w = v - d) ∨ (v < d ∧ w = v - d + full)) : LtS w v half := by
  rcases h with ⟨_, rfl⟩ | ⟨_, rfl⟩
  · exact .inl ⟨by omega, by omega⟩
  · exact .inr ⟨by omega, by omega⟩
theorem gt_of_lt (h : LtS v u half) : GtS u v half := by
  rcases h with ⟨a, b⟩ | ⟨a, b⟩
  · exact .inr ⟨a, b⟩
  · exact .inl ⟨a, b⟩
theorem fwd_facts {d : Int} (hfh : full = half + half) (h0 : 0 ≤ v) (h1 : v < full) (hd1 : 1 ≤ d) (hdh : d < half) :
    (!decide (LtS v (moved v d full) half)) = false ∧ (!decide (GtS (moved v d full) v half)) = false ∧ (!decide (LtS (moved v (-d) full) v half)) = false ∧ (!decide (GtS v (moved v (-d) full) half)) = false ∧
    decide (LtS v (moved v d full) half) = true ∧ decide (GtS (moved v d full) v half) = true ∧ decide (LtS (moved v (-d) full) v half) = true ∧ decide (GtS v (moved v (-d) full) half) = true ∧
    decide (moved (moved v d full) (-d) full = v) = true ∧ decide (moved (moved v (-d) full) d full = v) = true := by
  have e : 0 ≤ d := by omega
  have f : d < full := by omega
  have a := lt_of_fwd hfh hd1 hdh (moved_fwd h0 h1 e f)
  have b := lt_of_bwd hfh hd1 hdh (moved_bwd h0 h1 e f)
  have c := moved_there h0 h1 e f
  rw [decide_eq_true a, decide_eq_true (gt_of_lt a), decide_eq_true b, decide_eq_true (gt_of_lt b), decide_eq_true c.1, decide_eq_true c.2]
  exact ⟨rfl, rfl, rfl, rfl, rfl, rfl, rfl, rfl, rfl, rfl⟩
theorem dec_eq {p q : Prop} [Decidable p] [Decidable q] (h : p ↔ q) : (decide p != decide q) = false := by
  rw [bne_eq_false_iff_eq, decide_eq_decide]; exact h
theorem dec_beq {p q : Prop} [Decidable p] [Decidable q] (h : p ↔ q) : (decide p == decide q) = true := by
  rw [beq_iff_eq, decide_eq_decide]; exact h
theorem dec_ne {p q : Prop} [Decidable p] [Decidable q] (h : p ↔ q) : ((decide ¬ p) == decide q) = false := by
  rw [beq_eq_false_iff_ne, ne_eq, decide_eq_decide, h]
  intro e
  by_cases k : q
  · exact (e.mpr k) k
  · exact k (e.mp k)
theorem cmp_pos (hfh : full = half + half) (hh : 2 ≤ half) (h0 : 0 ≤ v) (h1 : v < full) (h2 : 0 ≤ u) (h3 : u < full) (hE : (v ≤ u ∧ gap = u - v) ∨ (u < v ∧ gap = u - v + full)) (hp : 0 < gap) :
    decide (0 < gap) = true ∧ (decide (v = u) != (gap == 0)) = false ∧ ((decide ¬ v = u) == (gap == 0)) = false ∧ (decide (LtS v u half) != decide (gap < half)) = false ∧ (decide (GtS v u half) != decide (half < gap)) = false ∧
    (gap == 0) = false ∧ (decide (v = u ∨ LtS v u half) == decide (gap < half)) = true ∧ (decide (v = u ∨ GtS v u half) == decide (half < gap)) = true := by
  have a : ¬ v = u := by omega
  have b : ¬ gap = 0 := by omega
  have l : LtS v u half ↔ gap < half := by rcases hE with ⟨_, rfl⟩ | ⟨_, rfl⟩ <;> omega
  have g : GtS v u half ↔ half < gap := by rcases hE with ⟨_, rfl⟩ | ⟨_, rfl⟩ <;> omega
  rw [beqI gap 0]
  exact ⟨decide_eq_true hp, dec_eq (iff_of_false a b), dec_ne (iff_of_false a b), dec_eq l, dec_eq g, decide_eq_false b, dec_beq ((or_iff_right a).trans l), dec_beq ((or_iff_right a).trans g)⟩
theorem cmp_zero (hfh : full = half + half) (hh : 2 ≤ half) (h0 : 0 ≤ v) (h1 : v < full) (h2 : 0 ≤ u) (h3 : u < full) (hE : (v ≤ u ∧ gap = u - v) ∨ (u < v ∧ gap = u - v + full)) (hp : ¬ 0 < gap) :
    decide (0 < gap) = false ∧ (decide (v = u) != (gap == 0)) = false ∧ ((decide ¬ v = u) == (gap == 0)) = false ∧ (decide (LtS v u half) != decide (0 < gap)) = false ∧ (decide (GtS v u half) != decide (half < gap)) = false ∧
    (gap == 0) = true ∧ (decide (v = u ∨ LtS v u half) == (gap == 0)) = true ∧ (decide (v = u ∨ GtS v u half) == (gap == 0)) = true := by
  have a : v = u := by omega
  have b : gap = 0 := by omega
  have c : ¬ half < gap := by omega
  have l : ¬ LtS v u half := by subst a; exact fun h => h.elim (fun h => Int.lt_irrefl _ h.1) fun h => Int.lt_irrefl _ h.1
  have g : ¬ GtS v u half := by subst a; exact fun h => h.elim (fun h => Int.lt_irrefl _ h.1) fun h => Int.lt_irrefl _ h.1
  rw [beqI gap 0]
  exact ⟨decide_eq_false hp, dec_eq (iff_of_true a b), dec_ne (iff_of_true a b), dec_eq (iff_of_false l hp), dec_eq (iff_of_false g c), decide_eq_true b, dec_beq (iff_of_true (.inl a) b), dec_beq (iff_of_true (.inl a) b)⟩
end
end Mine

namespace Mine
section
variable {M : Model} {A : Around} {E : Value → Shared → Prop} {s : Shared} {env : Env} {st : Stmt} {Q : Flow → Shared → Prop} {h₀ h' : Heap} {L : Addr} {m : Str → Option Value} {news news' : List (Addr × Obj)} {R : Value → Int → Prop} {o : Value} {dv e : Int} {t : Tok} {tk' : Nat}
theorem fr_swap {h : Heap} {a b : Str} {v u : Option Value} (hab : a ≠ b) (F : Fr h₀ L h (fun y => if y = a then v else if y = b then u else m y)) : Fr h₀ L h (fun y => if y = b then u else if y = a then v else m y) := by
  have e : (fun y => if y = b then u else if y = a then v else m y) = fun y => if y = a then v else if y = b then u else m y := by
    funext y
    by_cases h1 : y = a
    · rw [if_pos h1, if_neg (fun h2 => hab (h1.symm.trans h2)), if_pos h1]
    · rw [if_neg h1, if_neg h1]
  rw [e]; exact F
theorem fr_over {h : Heap} {a : Str} {v u : Option Value} (F : Fr h₀ L h (fun y => if y = a then v else if y = a then u else m y)) : Fr h₀ L h (fun y => if y = a then v else m y) := by
  have e : (fun y => if y = a then v else m y) = fun y => if y = a then v else if y = a then u else m y := by
    funext y
    by_cases h1 : y = a
    · rw [if_pos h1, if_pos h1]
    · rw [if_neg h1, if_neg h1, if_neg h1]
  rw [e]; exact F
/-- where the three ways of choosing the step meet -/
def StepEnd (h₀ : Heap) (L : Addr) (m : Str → Option Value) (news : List (Addr × Obj)) (R : Value → Int → Prop) (s : Shared) (f : Flow) (s₂ : Shared) : Prop :=
  f = .next ∧ ∃ o dv t h' tk', s₂ = { s with heap := h', toks := tk' } ∧ Fr h₀ L h' (fun y => if y = Str.ofString "step" then some (.int dv t) else if y = Str.ofString "other" then some o else m y) ∧ News h₀ L h' news ∧ R o dv
theorem StepEnd.same (F : Fr h₀ L h' (fun y => if y = Str.ofString "step" then some (.int dv t) else if y = Str.ofString "other" then some o else m y)) (N : News h₀ L h' news') (hs : ∀ p ∈ news, p ∈ news') (r : R o dv) :
    StepEnd h₀ L m news R s .next { s with heap := h', toks := tk' } := ⟨rfl, o, dv, t, h', tk', rfl, F, fun p hp => N p (hs p hp), r⟩
theorem StepEnd.swap (F : Fr h₀ L h' (fun y => if y = Str.ofString "other" then some o else if y = Str.ofString "step" then some (.int dv t) else m y)) (N : News h₀ L h' news') (hs : ∀ p ∈ news, p ∈ news') (r : R o dv) :
    StepEnd h₀ L m news R s .next { s with heap := h', toks := tk' } := StepEnd.same (fr_swap (by decide) F) N hs r
theorem join_step (R : Value → Int → Prop) (_F : Fr h₀ L s.heap m) (_N : News h₀ L s.heap news) (h1 : wpAny M A (exec st env) (fun f s₂ => StepEnd h₀ L m news R s f s₂) E s)
    (h2 : ∀ o dv t h' tk', R o dv → Fr h₀ L h' (fun y => if y = Str.ofString "step" then some (.int dv t) else if y = Str.ofString "other" then some o else m y) → News h₀ L h' news → Q .next { s with heap := h', toks := tk' }) :
    wpAny M A (exec st env) Q E s := by
  refine wpAny_mono h1 (fun f s₂ h => ?_) fun _ _ h => h
  obtain ⟨rfl, o, dv, t, h', tk', rfl, F, N, r⟩ := h
  exact h2 o dv t h' tk' r F N
/-- where the two ways of turning the step meet -/
def NegEnd (h₀ : Heap) (L : Addr) (m : Str → Option Value) (news : List (Addr × Obj)) (e : Int) (s : Shared) (f : Flow) (s₂ : Shared) : Prop :=
  f = .next ∧ ∃ t h' tk', s₂ = { s with heap := h', toks := tk' } ∧ Fr h₀ L h' (fun y => if y = Str.ofString "step" then some (.int e t) else m y) ∧ News h₀ L h' news
theorem NegEnd.over {u : Option Value} (F : Fr h₀ L h' (fun y => if y = Str.ofString "step" then some (.int dv t) else if y = Str.ofString "step" then u else m y)) (N : News h₀ L h' news') (hs : ∀ p ∈ news, p ∈ news') (r : dv = e) :
    NegEnd h₀ L m news e s .next { s with heap := h', toks := tk' } := r ▸ ⟨rfl, t, h', tk', rfl, fr_over F, fun p hp => N p (hs p hp)⟩
theorem NegEnd.same (F : Fr h₀ L h' (fun y => if y = Str.ofString "step" then some (.int dv t) else m y)) (N : News h₀ L h' news') (hs : ∀ p ∈ news, p ∈ news') (r : dv = e) :
    NegEnd h₀ L m news e s .next { s with heap := h', toks := tk' } := r ▸ ⟨rfl, t, h', tk', rfl, F, fun p hp => N p (hs p hp)⟩
theorem join_neg (e : Int) (_F : Fr h₀ L s.heap (fun y => if y = Str.ofString "step" then some (.int dv t) else m y)) (_N : News h₀ L s.heap news) (h1 : wpAny M A (exec st env) (fun f s₂ => NegEnd h₀ L m news e s f s₂) E s)
    (h2 : ∀ t h' tk', Fr h₀ L h' (fun y => if y = Str.ofString "step" then some (.int e t) else m y) → News h₀ L h' news → Q .next { s with heap := h', toks := tk' }) :
    wpAny M A (exec st env) Q E s := by
  refine wpAny_mono h1 (fun f s₂ h => ?_) fun _ _ h => h
  obtain ⟨rfl, t, h', tk', rfl, F, N⟩ := h
  exact h2 t h' tk' F N
end
theorem sgn_out {how d h : Int} : (h ≤ sgn how d ∨ sgn how d ≤ -h) ↔ (h ≤ d ∨ d ≤ -h) := by
  unfold sgn
  split <;> omega
end Mine
end

namespace Mine
theorem fill : ∀ (x : OpenLaw) (k : Params → Frag), x = PySem.Challenge.rw_ji0012_01 → k = hd.heap_39 → True := by
  k_fill
  intros; trivial
local macro_rules | `(tactic| walk_at "mine cases") => `(tactic| ((case cB => k_asm); (case cF => k_asm); (case cX => k_asm); (case cN => k_asm); (case cT => k_asm); (case cK => first | exact rfl | assumption); (case cD => ktr_room); (case cU => ktr_units); (try ((case hx => k_mem))); (try ((case hxd => k_mem))); (try ((case hy => k_mem); (case hyd => k_mem))); (try ((case hz => assumption))); (try ((case hP => assumption))); (try ((case hoff => assumption))); (try ((case hL => assumption); (case hI => assumption))); (try ((case hv0 => (first | assumption | exact (moved_in (by assumption) (by assumption) (by omega) (by omega)).1)))); (try ((case hv1 => (first | assumption | exact (moved_in (by assumption) (by assumption) (by omega) (by omega)).2)))); (try ((case hu0 => (first | assumption | exact (moved_in (by assumption) (by assumption) (by omega) (by omega)).1)))); (try ((case hu1 => (first | assumption | exact (moved_in (by assumption) (by assumption) (by omega) (by omega)).2)))); (try ((case hg => first | assumption | rfl))); (try ((case hn0 => first | assumption | decide | omega); (case hn1 => first | assumption | decide | omega))); (try ((case hkl => first | assumption | decide | omega); (case hob => first | assumption | decide | omega))); (try ((case hp0 => first | assumption | decide | omega); (case hp1 => first | assumption | decide | omega))); (try ((case hd1 => first | assumption | decide | omega); (case hdh => first | assumption | decide | omega))); (try ((case hlen => first | assumption | decide | omega)))))
local macro_rules | `(tactic| walk_at "mine keep") => `(tactic| (k_whole; intro h' tk' F' N'; (try k_sweep); (try dsimp only [PySem.W.CmpBack, PySem.W.InitBack]); (try k_fold)))
local macro_rules | `(tactic| walk_at "mine keepi") => `(tactic| (k_whole; intro t' h' tk' F' N'; (try k_sweep); (try dsimp only [PySem.W.CmpBack, PySem.W.InitBack]); (try k_fold)))
local macro_rules | `(tactic| walk_at "mine keepr") => `(tactic| (k_whole; intro r' t' h' tk' hr0 hr1 F' N'; (try k_sweep); (try dsimp only [PySem.W.CmpBack, PySem.W.InitBack]); (try k_fold)))
local macro_rules | `(tactic| walk_at "mine both") => `(tactic| (all_goals (intro _ _; intros; first | (exfalso; omega) | ((try k_sweep); (try dsimp only [PySem.W.CmpBack, PySem.W.InitBack]); (try k_fold)))))
local macro_rules | `(tactic| walk_at "leaving ref") => `(tactic| (k_here; (refine' leave_raiseS ?k1 ?k0 ?k2 ?k3 ?_; (case k0 => exact Heap.MadeExc.of (by assumption)); (case k2 => assumption); (case k1 => assumption); (case k3 => k_asm); k_whole; intro h' t' S' R' U'; (try dsimp only at S' R' U' ⊢))))
local macro_rules | `(tactic| walk_at "exec Raise some none") => `(tactic| (k_here; (with_reducible show wpAny _ _ (exec (Stmt.Raise (some (Expr.Name _ _)) none _) _) _ _ _); (with_reducible rename Fr _ _ _ _ => kF); k_dflt (refine' raise_VE rfl (name_B kF ?k1 ?k2 ?k3 PyProof.Rows.Boot.«ValueError» ?k5 ⟨rfl, rfl⟩) ?_; (case k1 => k_asm); (case k2 => k_asm); (case k3 => k_is); (case k5 => decide)); intro h' e' hx'; (try dsimp only)))
local macro_rules | `(tactic| k_mem) => `(tactic| (refine mem_back ?_; ktr_member))
local macro_rules | `(tactic| k_room) => `(tactic| ktr_room)
local macro_rules | `(tactic| k_units) => `(tactic| ktr_units)
local macro_rules | `(tactic| walk_at "binaryOp Pow int int") => `(tactic| (k_here; first | (with_reducible refine pow_full (by assumption) ?_) | (with_reducible refine pow_half (by assumption) ?_)))
local macro_rules | `(tactic| walk_at "binaryOp FloorDiv int int") => `(tactic| (k_here; refine floordiv_int ?kbe ?_ (Or.inl (noPylong_mine ?kb1 ?kb2)); (case kbe => omega); (case kb1 => omega); (case kb2 => omega)))

set_option maxHeartbeats 8000000 in
theorem c_ser {w : World} {mean : ExcName → Option Value} {mg mb : Str → Option Value} {v b half full : Int} {t1 t2 : Tok} {news : List (Addr × Obj)} (hz : Sz b half full) :
  ∀ {dp un : Nat} {gd : Option (List Code)} {cn : Str} {cs : Scope} {a : Addr} {ccd : Value} {cl : List (Str × Addr)} {outer : List Env} {A₀ : Around} {base h₀ : Heap} {L : Addr} {m : Str → Option Value} {s : Shared} {Q E : Value → Shared → Prop},
    ∀ (cB : Below A₀ base outer h₀) (cF : Fr h₀ L s.heap m) (cX : (hd.heap_39 w.params).In h₀) (cN : News h₀ L s.heap news) (cT : Top hd.view_39 (looseW hd.view_39 []) mean mg mb h₀) (cK : cs.kind = .function) (cD : dp + 3 < recursionLimit) (cU : un + 16 < cLine),

    ∀ (hret : ∀ x d k1 t1 k2 t2 h' tk', Fr h₀ L h' m → News h₀ L h' ((x, instObj 109 d) :: (d, serD w (v.fmod full) b k1 t1 k2 t2) :: news) → (∀ p ∈ news, p.1 < d) → d < x → Q (.ref x) { s with heap := h', toks := tk' }),
    wpAny (model PySem.Challenge.rw_ji0012_01.row.prog w) (ktrTop dp un gd cn cs L a ccd cl outer) (call (.ref 109) [.int v t1, .int b t2]) Q E s := by
  obtain ⟨hb1, hb2, hF, hH, hfh, hh1, hh2⟩ := id hz
  intro dp un gd cn cs a ccd cl outer A₀ base h₀ L m s Q E B F X N T hk hD hU hret
  k_dflt (refine' call_cls ?k1 ?k2 ?k3 ?k4 ?k5 ?k6 ?_; (case k1 => k_asm); (case k2 => k_asm); (case k3 => k_asm); (case k4 => k_is); (case k5 => k_is); (case k6 => k_is); k_whole; intro x' d' h' F' N' l1 l2; (try k_lt l1); (try k_lt2 l2); (try k_sweep); refine' code_def ?k1 ?k2 ?k3 ?k4 ?k5 ?kA ?kF ?kK ?k6 ?k7 ?k8 ?k9 ?kB ?_ ?c2 ?c3 ?c4 ?c5; (case kA => exact rfl); (case kF => exact rfl); (case kK => first | exact rfl | assumption); (case k1 => k_asm); (case k2 => k_asm); (case k3 => k_asm); (case k4 => k_asm); (case k5 => k_asm); (case k6 => k_is); (case k7 => k_is); (case k8 => ktr_room); (case k9 => first | exact BindsTo.of_eq rfl | exact binds_K (by k_in) rfl (by k_is) rfl rfl rfl | fail "k_enter: no rule for these arguments"); (case c5 => decide); (case kB => exact locs rfl); (case c2 => exact rfl); (case c3 => exact rfl); (case c4 => exact rfl); k_whole; intro g' L' h' FG' F' N' B' X' T'; (try dsimp only); (try k_lift B'); (try k_fold))
  k_steps
  all_goals exact hret _ _ _ _ _ _ _ _ (by assumption) (by assumption) l1 l2


local macro_rules | `(tactic| walk_at "call ref") => `(tactic| (k_here; k_dflt ((first | ((with_reducible show wpAny _ _ (call (Value.ref 109) [_, Value.int _ _]) _ _ _); apply c_ser)); walk_at "mine cases"); k_whole; intro x' d' k1' t1' k2' t2' h' tk' F' N' l1 l2; (try (have l3' := l1; k_lt l3')); (try k_lt2 l2); (try k_sweep); (try dsimp only [PySem.W.CmpBack, PySem.W.InitBack]); (try k_fold)))

set_option maxHeartbeats 8000000 in
theorem c_eq_s {w : World} {mean : ExcName → Option Value} {mg mb : Str → Option Value} {v1 b half full : Int} {x1 d1 : Addr} {ka ta kb tb : Tok} {v2 : Int} {x2 d2 : Addr} {kc tc kd td : Tok} {news : List (Addr × Obj)} (hz : Sz b half full) (hx : (x1, instObj 109 d1) ∈ news) (hxd : (d1, serD w v1 b ka ta kb tb) ∈ news) (hy : (x2, instObj 109 d2) ∈ news) (hyd : (d2, serD w v2 b kc tc kd td) ∈ news) :
  ∀ {dp un : Nat} {gd : Option (List Code)} {cn : Str} {cs : Scope} {a : Addr} {ccd : Value} {cl : List (Str × Addr)} {outer : List Env} {A₀ : Around} {base h₀ : Heap} {L : Addr} {m : Str → Option Value} {s : Shared} {Q E : Value → Shared → Prop},
    ∀ (cB : Below A₀ base outer h₀) (cF : Fr h₀ L s.heap m) (cX : (hd.heap_39 w.params).In h₀) (cN : News h₀ L s.heap news) (cT : Top hd.view_39 (looseW hd.view_39 []) mean mg mb h₀) (cK : cs.kind = .function) (cD : dp + 1 < recursionLimit) (cU : un + 8 < cLine),

    ∀ (hret : ∀ h' tk', Fr h₀ L h' m → News h₀ L h' news → Q (.bool (decide (v1 = v2))) { s with heap := h', toks := tk' }),
    wpAny (model PySem.Challenge.rw_ji0012_01.row.prog w) (ktrTop dp un gd cn cs L a ccd cl outer) (call (.ref 43) [.ref x1, .ref x2]) Q E s := by
  obtain ⟨hb1, hb2, hF, hH, hfh, hh1, hh2⟩ := id hz
  intro dp un gd cn cs a ccd cl outer A₀ base h₀ L m s Q E B F X N T hk hD hU hret
  have hbb : (b != b) = false := bne_self_eq_false b
  refine wpAny_call ?_
  k_dflt cell_enter
  repeat' (first | (k_unfold; (try dsimp only)) | (k_end; kc_close) | ((fail_if_success (with_reducible show InvEnd _ _ _ _ _ _)); walk1 <;> (try dsimp only)) | (dsimp only; walk1) | (leave1; walk_say "STEP leave1"; try dsimp only) | fail "no step")
  all_goals first
    | (exfalso; omega)
    | (exfalso; simp_all; done)
    | (refine ret_bool hret (by assumption) (by assumption) (by intro p hp; k_ownIn) ?_; rw [Bool.eq_iff_iff]; (try simp only [decide_eq_true_eq, beq_iff_eq, bne_iff_ne, ne_eq, LtS, GtS, true_iff, Bool.false_eq_true, false_iff]); first | done | omega)


set_option maxHeartbeats 8000000 in
theorem c_eq_i {w : World} {mean : ExcName → Option Value} {mg mb : Str → Option Value} {v1 b half full : Int} {x1 d1 : Addr} {ka ta kb tb : Tok} {u : Int} {tu : Tok} {news : List (Addr × Obj)} (hz : Sz b half full) (hx : (x1, instObj 109 d1) ∈ news) (hxd : (d1, serD w v1 b ka ta kb tb) ∈ news) :
  ∀ {dp un : Nat} {gd : Option (List Code)} {cn : Str} {cs : Scope} {a : Addr} {ccd : Value} {cl : List (Str × Addr)} {outer : List Env} {A₀ : Around} {base h₀ : Heap} {L : Addr} {m : Str → Option Value} {s : Shared} {Q E : Value → Shared → Prop},
    ∀ (cB : Below A₀ base outer h₀) (cF : Fr h₀ L s.heap m) (cX : (hd.heap_39 w.params).In h₀) (cN : News h₀ L s.heap news) (cT : Top hd.view_39 (looseW hd.view_39 []) mean mg mb h₀) (cK : cs.kind = .function) (cD : dp + 4 < recursionLimit) (cU : un + 24 < cLine),

    ∀ (hret : ∀ h' tk', Fr h₀ L h' m → News h₀ L h' news → Q (.bool (decide (v1 = (u.fmod full)))) { s with heap := h', toks := tk' }),
    wpAny (model PySem.Challenge.rw_ji0012_01.row.prog w) (ktrTop dp un gd cn cs L a ccd cl outer) (call (.ref 43) [.ref x1, .int u tu]) Q E s := by
  obtain ⟨hb1, hb2, hF, hH, hfh, hh1, hh2⟩ := id hz
  intro dp un gd cn cs a ccd cl outer A₀ base h₀ L m s Q E B F X N T hk hD hU hret
  refine wpAny_call ?_
  k_dflt cell_enter
  repeat' (first | (k_unfold; (try dsimp only)) | (k_end; kc_close) | ((fail_if_success (with_reducible show InvEnd _ _ _ _ _ _)); walk1 <;> (try dsimp only)) | (dsimp only; walk1) | (leave1; walk_say "STEP leave1"; try dsimp only) | fail "no step")
  all_goals first
    | (exfalso; omega)
    | (exfalso; simp_all; done)
    | (refine ret_bool hret (by assumption) (by assumption) (by intro p hp; k_ownIn) ?_; rw [Bool.eq_iff_iff]; (try simp only [decide_eq_true_eq, beq_iff_eq, bne_iff_ne, ne_eq, LtS, GtS, true_iff, Bool.false_eq_true, false_iff]); first | done | omega)


set_option maxHeartbeats 8000000 in
theorem c_ne_s {w : World} {mean : ExcName → Option Value} {mg mb : Str → Option Value} {v1 b half full : Int} {x1 d1 : Addr} {ka ta kb tb : Tok} {v2 : Int} {x2 d2 : Addr} {kc tc kd td : Tok} {news : List (Addr × Obj)} (hz : Sz b half full) (hx : (x1, instObj 109 d1) ∈ news) (hxd : (d1, serD w v1 b ka ta kb tb) ∈ news) (hy : (x2, instObj 109 d2) ∈ news) (hyd : (d2, serD w v2 b kc tc kd td) ∈ news) :
  ∀ {dp un : Nat} {gd : Option (List Code)} {cn : Str} {cs : Scope} {a : Addr} {ccd : Value} {cl : List (Str × Addr)} {outer : List Env} {A₀ : Around} {base h₀ : Heap} {L : Addr} {m : Str → Option Value} {s : Shared} {Q E : Value → Shared → Prop},
    ∀ (cB : Below A₀ base outer h₀) (cF : Fr h₀ L s.heap m) (cX : (hd.heap_39 w.params).In h₀) (cN : News h₀ L s.heap news) (cT : Top hd.view_39 (looseW hd.view_39 []) mean mg mb h₀) (cK : cs.kind = .function) (cD : dp + 1 < recursionLimit) (cU : un + 8 < cLine),

    ∀ (hret : ∀ h' tk', Fr h₀ L h' m → News h₀ L h' news → Q (.bool (decide (¬ v1 = v2))) { s with heap := h', toks := tk' }),
    wpAny (model PySem.Challenge.rw_ji0012_01.row.prog w) (ktrTop dp un gd cn cs L a ccd cl outer) (call (.ref 50) [.ref x1, .ref x2]) Q E s := by
  obtain ⟨hb1, hb2, hF, hH, hfh, hh1, hh2⟩ := id hz
  intro dp un gd cn cs a ccd cl outer A₀ base h₀ L m s Q E B F X N T hk hD hU hret
  have hbb : (b != b) = false := bne_self_eq_false b
  refine wpAny_call ?_
  k_dflt cell_enter
  repeat' (first | (k_unfold; (try dsimp only)) | (k_end; kc_close) | ((fail_if_success (with_reducible show InvEnd _ _ _ _ _ _)); walk1 <;> (try dsimp only)) | (dsimp only; walk1) | (leave1; walk_say "STEP leave1"; try dsimp only) | fail "no step")
  all_goals first
    | (exfalso; omega)
    | (exfalso; simp_all; done)
    | (refine ret_bool hret (by assumption) (by assumption) (by intro p hp; k_ownIn) ?_; rw [Bool.eq_iff_iff]; (try simp only [decide_eq_true_eq, beq_iff_eq, bne_iff_ne, ne_eq, LtS, GtS, true_iff, Bool.false_eq_true, false_iff]); first | done | omega)


set_option maxHeartbeats 8000000 in
theorem c_ne_i {w : World} {mean : ExcName → Option Value} {mg mb : Str → Option Value} {v1 b half full : Int} {x1 d1 : Addr} {ka ta kb tb : Tok} {u : Int} {tu : Tok} {news : List (Addr × Obj)} (hz : Sz b half full) (hx : (x1, instObj 109 d1) ∈ news) (hxd : (d1, serD w v1 b ka ta kb tb) ∈ news) :
  ∀ {dp un : Nat} {gd : Option (List Code)} {cn : Str} {cs : Scope} {a : Addr} {ccd : Value} {cl : List (Str × Addr)} {outer : List Env} {A₀ : Around} {base h₀ : Heap} {L : Addr} {m : Str → Option Value} {s : Shared} {Q E : Value → Shared → Prop},
    ∀ (cB : Below A₀ base outer h₀) (cF : Fr h₀ L s.heap m) (cX : (hd.heap_39 w.params).In h₀) (cN : News h₀ L s.heap news) (cT : Top hd.view_39 (looseW hd.view_39 []) mean mg mb h₀) (cK : cs.kind = .function) (cD : dp + 4 < recursionLimit) (cU : un + 24 < cLine),

    ∀ (hret : ∀ h' tk', Fr h₀ L h' m → News h₀ L h' news → Q (.bool (decide (¬ v1 = (u.fmod full)))) { s with heap := h', toks := tk' }),
    wpAny (model PySem.Challenge.rw_ji0012_01.row.prog w) (ktrTop dp un gd cn cs L a ccd cl outer) (call (.ref 50) [.ref x1, .int u tu]) Q E s := by
  obtain ⟨hb1, hb2, hF, hH, hfh, hh1, hh2⟩ := id hz
  intro dp un gd cn cs a ccd cl outer A₀ base h₀ L m s Q E B F X N T hk hD hU hret
  refine wpAny_call ?_
  k_dflt cell_enter
  repeat' (first | (k_unfold; (try dsimp only)) | (k_end; kc_close) | ((fail_if_success (with_reducible show InvEnd _ _ _ _ _ _)); walk1 <;> (try dsimp only)) | (dsimp only; walk1) | (leave1; walk_say "STEP leave1"; try dsimp only) | fail "no step")
  all_goals first
    | (exfalso; omega)
    | (exfalso; simp_all; done)
    | (refine ret_bool hret (by assumption) (by assumption) (by intro p hp; k_ownIn) ?_; rw [Bool.eq_iff_iff]; (try simp only [decide_eq_true_eq, beq_iff_eq, bne_iff_ne, ne_eq, LtS, GtS, true_iff, Bool.false_eq_true, false_iff]); first | done | omega)


set_option maxHeartbeats 8000000 in
theorem c_lt_s {w : World} {mean : ExcName → Option Value} {mg mb : Str → Option Value} {v1 b half full : Int} {x1 d1 : Addr} {ka ta kb tb : Tok} {v2 : Int} {x2 d2 : Addr} {kc tc kd td : Tok} {news : List (Addr × Obj)} (hz : Sz b half full) (hx : (x1, instObj 109 d1) ∈ news) (hxd : (d1, serD w v1 b ka ta kb tb) ∈ news) (hy : (x2, instObj 109 d2) ∈ news) (hyd : (d2, serD w v2 b kc tc kd td) ∈ news) :
  ∀ {dp un : Nat} {gd : Option (List Code)} {cn : Str} {cs : Scope} {a : Addr} {ccd : Value} {cl : List (Str × Addr)} {outer : List Env} {A₀ : Around} {base h₀ : Heap} {L : Addr} {m : Str → Option Value} {s : Shared} {Q E : Value → Shared → Prop},
    ∀ (cB : Below A₀ base outer h₀) (cF : Fr h₀ L s.heap m) (cX : (hd.heap_39 w.params).In h₀) (cN : News h₀ L s.heap news) (cT : Top hd.view_39 (looseW hd.view_39 []) mean mg mb h₀) (cK : cs.kind = .function) (cD : dp + 1 < recursionLimit) (cU : un + 8 < cLine),

    ∀ (hret : ∀ h' tk', Fr h₀ L h' m → News h₀ L h' news → Q (.bool (decide (LtS v1 v2 half))) { s with heap := h', toks := tk' }),
    wpAny (model PySem.Challenge.rw_ji0012_01.row.prog w) (ktrTop dp un gd cn cs L a ccd cl outer) (call (.ref 57) [.ref x1, .ref x2]) Q E s := by
  obtain ⟨hb1, hb2, hF, hH, hfh, hh1, hh2⟩ := id hz
  intro dp un gd cn cs a ccd cl outer A₀ base h₀ L m s Q E B F X N T hk hD hU hret
  have hbb : (b != b) = false := bne_self_eq_false b
  refine wpAny_call ?_
  k_dflt cell_enter
  repeat' (first | (k_unfold; (try dsimp only)) | (k_end; kc_close) | ((fail_if_success (with_reducible show InvEnd _ _ _ _ _ _)); walk1 <;> (try dsimp only)) | (dsimp only; walk1) | (leave1; walk_say "STEP leave1"; try dsimp only) | fail "no step")
  all_goals first
    | (exfalso; omega)
    | (exfalso; simp_all; done)
    | (refine ret_bool hret (by assumption) (by assumption) (by intro p hp; k_ownIn) ?_; rw [Bool.eq_iff_iff]; (try simp only [decide_eq_true_eq, beq_iff_eq, bne_iff_ne, ne_eq, LtS, GtS, true_iff, Bool.false_eq_true, false_iff]); first | done | omega)


set_option maxHeartbeats 8000000 in
theorem c_lt_i {w : World} {mean : ExcName → Option Value} {mg mb : Str → Option Value} {v1 b half full : Int} {x1 d1 : Addr} {ka ta kb tb : Tok} {u : Int} {tu : Tok} {news : List (Addr × Obj)} (hz : Sz b half full) (hx : (x1, instObj 109 d1) ∈ news) (hxd : (d1, serD w v1 b ka ta kb tb) ∈ news) :
  ∀ {dp un : Nat} {gd : Option (List Code)} {cn : Str} {cs : Scope} {a : Addr} {ccd : Value} {cl : List (Str × Addr)} {outer : List Env} {A₀ : Around} {base h₀ : Heap} {L : Addr} {m : Str → Option Value} {s : Shared} {Q E : Value → Shared → Prop},
    ∀ (cB : Below A₀ base outer h₀) (cF : Fr h₀ L s.heap m) (cX : (hd.heap_39 w.params).In h₀) (cN : News h₀ L s.heap news) (cT : Top hd.view_39 (looseW hd.view_39 []) mean mg mb h₀) (cK : cs.kind = .function) (cD : dp + 4 < recursionLimit) (cU : un + 24 < cLine),

    ∀ (hret : ∀ h' tk', Fr h₀ L h' m → News h₀ L h' news → Q (.bool (decide (LtS v1 (u.fmod full) half))) { s with heap := h', toks := tk' }),
    wpAny (model PySem.Challenge.rw_ji0012_01.row.prog w) (ktrTop dp un gd cn cs L a ccd cl outer) (call (.ref 57) [.ref x1, .int u tu]) Q E s := by
  obtain ⟨hb1, hb2, hF, hH, hfh, hh1, hh2⟩ := id hz
  intro dp un gd cn cs a ccd cl outer A₀ base h₀ L m s Q E B F X N T hk hD hU hret
  refine wpAny_call ?_
  k_dflt cell_enter
  repeat' (first | (k_unfold; (try dsimp only)) | (k_end; kc_close) | ((fail_if_success (with_reducible show InvEnd _ _ _ _ _ _)); walk1 <;> (try dsimp only)) | (dsimp only; walk1) | (leave1; walk_say "STEP leave1"; try dsimp only) | fail "no step")
  all_goals first
    | (exfalso; omega)
    | (exfalso; simp_all; done)
    | (refine ret_bool hret (by assumption) (by assumption) (by intro p hp; k_ownIn) ?_; rw [Bool.eq_iff_iff]; (try simp only [decide_eq_true_eq, beq_iff_eq, bne_iff_ne, ne_eq, LtS, GtS, true_iff, Bool.false_eq_true, false_iff]); first | done | omega)


set_option maxHeartbeats 8000000 in
theorem c_gt_s {w : World} {mean : ExcName → Option Value} {mg mb : Str → Option Value} {v1 b half full : Int} {x1 d1 : Addr} {ka ta kb tb : Tok} {v2 : Int} {x2 d2 : Addr} {kc tc kd td : Tok} {news : List (Addr × Obj)} (hz : Sz b half full) (hx : (x1, instObj 109 d1) ∈ news) (hxd : (d1, serD w v1 b ka ta kb tb) ∈ news) (hy : (x2, instObj 109 d2) ∈ news) (hyd : (d2, serD w v2 b kc tc kd td) ∈ news) :
  ∀ {dp un : Nat} {gd : Option (List Code)} {cn : Str} {cs : Scope} {a : Addr} {ccd : Value} {cl : List (Str × Addr)} {outer : List Env} {A₀ : Around} {base h₀ : Heap} {L : Addr} {m : Str → Option Value} {s : Shared} {Q E : Value → Shared → Prop},
    ∀ (cB : Below A₀ base outer h₀) (cF : Fr h₀ L s.heap m) (cX : (hd.heap_39 w.params).In h₀) (cN : News h₀ L s.heap news) (cT : Top hd.view_39 (looseW hd.view_39 []) mean mg mb h₀) (cK : cs.kind = .function) (cD : dp + 1 < recursionLimit) (cU : un + 8 < cLine),

    ∀ (hret : ∀ h' tk', Fr h₀ L h' m → News h₀ L h' news → Q (.bool (decide (GtS v1 v2 half))) { s with heap := h', toks := tk' }),
    wpAny (model PySem.Challenge.rw_ji0012_01.row.prog w) (ktrTop dp un gd cn cs L a ccd cl outer) (call (.ref 71) [.ref x1, .ref x2]) Q E s := by
  obtain ⟨hb1, hb2, hF, hH, hfh, hh1, hh2⟩ := id hz
  intro dp un gd cn cs a ccd cl outer A₀ base h₀ L m s Q E B F X N T hk hD hU hret
  have hbb : (b != b) = false := bne_self_eq_false b
  refine wpAny_call ?_
  k_dflt cell_enter
  repeat' (first | (k_unfold; (try dsimp only)) | (k_end; kc_close) | ((fail_if_success (with_reducible show InvEnd _ _ _ _ _ _)); walk1 <;> (try dsimp only)) | (dsimp only; walk1) | (leave1; walk_say "STEP leave1"; try dsimp only) | fail "no step")
  all_goals first
    | (exfalso; omega)
    | (exfalso; simp_all; done)
    | (refine ret_bool hret (by assumption) (by assumption) (by intro p hp; k_ownIn) ?_; rw [Bool.eq_iff_iff]; (try simp only [decide_eq_true_eq, beq_iff_eq, bne_iff_ne, ne_eq, LtS, GtS, true_iff, Bool.false_eq_true, false_iff]); first | done | omega)


set_option maxHeartbeats 8000000 in
theorem c_gt_i {w : World} {mean : ExcName → Option Value} {mg mb : Str → Option Value} {v1 b half full : Int} {x1 d1 : Addr} {ka ta kb tb : Tok} {u : Int} {tu : Tok} {news : List (Addr × Obj)} (hz : Sz b half full) (hx : (x1, instObj 109 d1) ∈ news) (hxd : (d1, serD w v1 b ka ta kb tb) ∈ news) :
  ∀ {dp un : Nat} {gd : Option (List Code)} {cn : Str} {cs : Scope} {a : Addr} {ccd : Value} {cl : List (Str × Addr)} {outer : List Env} {A₀ : Around} {base h₀ : Heap} {L : Addr} {m : Str → Option Value} {s : Shared} {Q E : Value → Shared → Prop},
    ∀ (cB : Below A₀ base outer h₀) (cF : Fr h₀ L s.heap m) (cX : (hd.heap_39 w.params).In h₀) (cN : News h₀ L s.heap news) (cT : Top hd.view_39 (looseW hd.view_39 []) mean mg mb h₀) (cK : cs.kind = .function) (cD : dp + 4 < recursionLimit) (cU : un + 24 < cLine),

    ∀ (hret : ∀ h' tk', Fr h₀ L h' m → News h₀ L h' news → Q (.bool (decide (GtS v1 (u.fmod full) half))) { s with heap := h', toks := tk' }),
    wpAny (model PySem.Challenge.rw_ji0012_01.row.prog w) (ktrTop dp un gd cn cs L a ccd cl outer) (call (.ref 71) [.ref x1, .int u tu]) Q E s := by
  obtain ⟨hb1, hb2, hF, hH, hfh, hh1, hh2⟩ := id hz
  intro dp un gd cn cs a ccd cl outer A₀ base h₀ L m s Q E B F X N T hk hD hU hret
  refine wpAny_call ?_
  k_dflt cell_enter
  repeat' (first | (k_unfold; (try dsimp only)) | (k_end; kc_close) | ((fail_if_success (with_reducible show InvEnd _ _ _ _ _ _)); walk1 <;> (try dsimp only)) | (dsimp only; walk1) | (leave1; walk_say "STEP leave1"; try dsimp only) | fail "no step")
  all_goals first
    | (exfalso; omega)
    | (exfalso; simp_all; done)
    | (refine ret_bool hret (by assumption) (by assumption) (by intro p hp; k_ownIn) ?_; rw [Bool.eq_iff_iff]; (try simp only [decide_eq_true_eq, beq_iff_eq, bne_iff_ne, ne_eq, LtS, GtS, true_iff, Bool.false_eq_true, false_iff]); first | done | omega)


local macro_rules | `(tactic| walk_at "call ref") => `(tactic| (k_here; k_dflt ((first | ((with_reducible show wpAny _ _ (call (Value.ref 43) [_, Value.ref _]) _ _ _); apply c_eq_s) | ((with_reducible show wpAny _ _ (call (Value.ref 43) [_, Value.int _ _]) _ _ _); apply c_eq_i) | ((with_reducible show wpAny _ _ (call (Value.ref 50) [_, Value.ref _]) _ _ _); apply c_ne_s) | ((with_reducible show wpAny _ _ (call (Value.ref 50) [_, Value.int _ _]) _ _ _); apply c_ne_i) | ((with_reducible show wpAny _ _ (call (Value.ref 57) [_, Value.ref _]) _ _ _); apply c_lt_s) | ((with_reducible show wpAny _ _ (call (Value.ref 57) [_, Value.int _ _]) _ _ _); apply c_lt_i) | ((with_reducible show wpAny _ _ (call (Value.ref 71) [_, Value.ref _]) _ _ _); apply c_gt_s) | ((with_reducible show wpAny _ _ (call (Value.ref 71) [_, Value.int _ _]) _ _ _); apply c_gt_i)); walk_at "mine cases"); walk_at "mine keep"))

set_option maxHeartbeats 8000000 in
theorem c_le_s {w : World} {mean : ExcName → Option Value} {mg mb : Str → Option Value} {v1 b half full : Int} {x1 d1 : Addr} {ka ta kb tb : Tok} {v2 : Int} {x2 d2 : Addr} {kc tc kd td : Tok} {news : List (Addr × Obj)} (hz : Sz b half full) (hx : (x1, instObj 109 d1) ∈ news) (hxd : (d1, serD w v1 b ka ta kb tb) ∈ news) (hy : (x2, instObj 109 d2) ∈ news) (hyd : (d2, serD w v2 b kc tc kd td) ∈ news) :
  ∀ {dp un : Nat} {gd : Option (List Code)} {cn : Str} {cs : Scope} {a : Addr} {ccd : Value} {cl : List (Str × Addr)} {outer : List Env} {A₀ : Around} {base h₀ : Heap} {L : Addr} {m : Str → Option Value} {s : Shared} {Q E : Value → Shared → Prop},
    ∀ (cB : Below A₀ base outer h₀) (cF : Fr h₀ L s.heap m) (cX : (hd.heap_39 w.params).In h₀) (cN : News h₀ L s.heap news) (cT : Top hd.view_39 (looseW hd.view_39 []) mean mg mb h₀) (cK : cs.kind = .function) (cD : dp + 3 < recursionLimit) (cU : un + 24 < cLine),

    ∀ (hret : ∀ h' tk', Fr h₀ L h' m → News h₀ L h' news → Q (.bool (decide (v1 = v2 ∨ LtS v1 v2 half))) { s with heap := h', toks := tk' }),
    wpAny (model PySem.Challenge.rw_ji0012_01.row.prog w) (ktrTop dp un gd cn cs L a ccd cl outer) (call (.ref 64) [.ref x1, .ref x2]) Q E s := by
  obtain ⟨hb1, hb2, hF, hH, hfh, hh1, hh2⟩ := id hz
  intro dp un gd cn cs a ccd cl outer A₀ base h₀ L m s Q E B F X N T hk hD hU hret
  refine wpAny_call ?_
  k_dflt cell_enter
  repeat' (first | (k_unfold; (try dsimp only)) | (k_end; kc_close) | ((fail_if_success (with_reducible show InvEnd _ _ _ _ _ _)); walk1 <;> (try dsimp only)) | (dsimp only; walk1) | (leave1; walk_say "STEP leave1"; try dsimp only) | fail "no step")
  all_goals first
    | (exfalso; omega)
    | (exfalso; simp_all; done)
    | (refine ret_bool hret (by assumption) (by assumption) (by intro p hp; k_ownIn) ?_; rw [Bool.eq_iff_iff]; (try simp only [decide_eq_true_eq, beq_iff_eq, bne_iff_ne, ne_eq, LtS, GtS, true_iff, Bool.false_eq_true, false_iff]); first | done | omega)


set_option maxHeartbeats 8000000 in
theorem c_le_i {w : World} {mean : ExcName → Option Value} {mg mb : Str → Option Value} {v1 b half full : Int} {x1 d1 : Addr} {ka ta kb tb : Tok} {u : Int} {tu : Tok} {news : List (Addr × Obj)} (hz : Sz b half full) (hx : (x1, instObj 109 d1) ∈ news) (hxd : (d1, serD w v1 b ka ta kb tb) ∈ news) :
  ∀ {dp un : Nat} {gd : Option (List Code)} {cn : Str} {cs : Scope} {a : Addr} {ccd : Value} {cl : List (Str × Addr)} {outer : List Env} {A₀ : Around} {base h₀ : Heap} {L : Addr} {m : Str → Option Value} {s : Shared} {Q E : Value → Shared → Prop},
    ∀ (cB : Below A₀ base outer h₀) (cF : Fr h₀ L s.heap m) (cX : (hd.heap_39 w.params).In h₀) (cN : News h₀ L s.heap news) (cT : Top hd.view_39 (looseW hd.view_39 []) mean mg mb h₀) (cK : cs.kind = .function) (cD : dp + 6 < recursionLimit) (cU : un + 40 < cLine),

    ∀ (hret : ∀ h' tk', Fr h₀ L h' m → News h₀ L h' news → Q (.bool (decide (v1 = (u.fmod full) ∨ LtS v1 (u.fmod full) half))) { s with heap := h', toks := tk' }),
    wpAny (model PySem.Challenge.rw_ji0012_01.row.prog w) (ktrTop dp un gd cn cs L a ccd cl outer) (call (.ref 64) [.ref x1, .int u tu]) Q E s := by
  obtain ⟨hb1, hb2, hF, hH, hfh, hh1, hh2⟩ := id hz
  intro dp un gd cn cs a ccd cl outer A₀ base h₀ L m s Q E B F X N T hk hD hU hret
  refine wpAny_call ?_
  k_dflt cell_enter
  repeat' (first | (k_unfold; (try dsimp only)) | (k_end; kc_close) | ((fail_if_success (with_reducible show InvEnd _ _ _ _ _ _)); walk1 <;> (try dsimp only)) | (dsimp only; walk1) | (leave1; walk_say "STEP leave1"; try dsimp only) | fail "no step")
  all_goals first
    | (exfalso; omega)
    | (exfalso; simp_all; done)
    | (refine ret_bool hret (by assumption) (by assumption) (by intro p hp; k_ownIn) ?_; rw [Bool.eq_iff_iff]; (try simp only [decide_eq_true_eq, beq_iff_eq, bne_iff_ne, ne_eq, LtS, GtS, true_iff, Bool.false_eq_true, false_iff]); first | done | omega)


set_option maxHeartbeats 8000000 in
theorem c_ge_s {w : World} {mean : ExcName → Option Value} {mg mb : Str → Option Value} {v1 b half full : Int} {x1 d1 : Addr} {ka ta kb tb : Tok} {v2 : Int} {x2 d2 : Addr} {kc tc kd td : Tok} {news : List (Addr × Obj)} (hz : Sz b half full) (hx : (x1, instObj 109 d1) ∈ news) (hxd : (d1, serD w v1 b ka ta kb tb) ∈ news) (hy : (x2, instObj 109 d2) ∈ news) (hyd : (d2, serD w v2 b kc tc kd td) ∈ news) :
  ∀ {dp un : Nat} {gd : Option (List Code)} {cn : Str} {cs : Scope} {a : Addr} {ccd : Value} {cl : List (Str × Addr)} {outer : List Env} {A₀ : Around} {base h₀ : Heap} {L : Addr} {m : Str → Option Value} {s : Shared} {Q E : Value → Shared → Prop},
    ∀ (cB : Below A₀ base outer h₀) (cF : Fr h₀ L s.heap m) (cX : (hd.heap_39 w.params).In h₀) (cN : News h₀ L s.heap news) (cT : Top hd.view_39 (looseW hd.view_39 []) mean mg mb h₀) (cK : cs.kind = .function) (cD : dp + 3 < recursionLimit) (cU : un + 24 < cLine),

    ∀ (hret : ∀ h' tk', Fr h₀ L h' m → News h₀ L h' news → Q (.bool (decide (v1 = v2 ∨ GtS v1 v2 half))) { s with heap := h', toks := tk' }),
    wpAny (model PySem.Challenge.rw_ji0012_01.row.prog w) (ktrTop dp un gd cn cs L a ccd cl outer) (call (.ref 78) [.ref x1, .ref x2]) Q E s := by
  obtain ⟨hb1, hb2, hF, hH, hfh, hh1, hh2⟩ := id hz
  intro dp un gd cn cs a ccd cl outer A₀ base h₀ L m s Q E B F X N T hk hD hU hret
  refine wpAny_call ?_
  k_dflt cell_enter
  repeat' (first | (k_unfold; (try dsimp only)) | (k_end; kc_close) | ((fail_if_success (with_reducible show InvEnd _ _ _ _ _ _)); walk1 <;> (try dsimp only)) | (dsimp only; walk1) | (leave1; walk_say "STEP leave1"; try dsimp only) | fail "no step")
  all_goals first
    | (exfalso; omega)
    | (exfalso; simp_all; done)
    | (refine ret_bool hret (by assumption) (by assumption) (by intro p hp; k_ownIn) ?_; rw [Bool.eq_iff_iff]; (try simp only [decide_eq_true_eq, beq_iff_eq, bne_iff_ne, ne_eq, LtS, GtS, true_iff, Bool.false_eq_true, false_iff]); first | done | omega)


set_option maxHeartbeats 8000000 in
theorem c_ge_i {w : World} {mean : ExcName → Option Value} {mg mb : Str → Option Value} {v1 b half full : Int} {x1 d1 : Addr} {ka ta kb tb : Tok} {u : Int} {tu : Tok} {news : List (Addr × Obj)} (hz : Sz b half full) (hx : (x1, instObj 109 d1) ∈ news) (hxd : (d1, serD w v1 b ka ta kb tb) ∈ news) :
  ∀ {dp un : Nat} {gd : Option (List Code)} {cn : Str} {cs : Scope} {a : Addr} {ccd : Value} {cl : List (Str × Addr)} {outer : List Env} {A₀ : Around} {base h₀ : Heap} {L : Addr} {m : Str → Option Value} {s : Shared} {Q E : Value → Shared → Prop},
    ∀ (cB : Below A₀ base outer h₀) (cF : Fr h₀ L s.heap m) (cX : (hd.heap_39 w.params).In h₀) (cN : News h₀ L s.heap news) (cT : Top hd.view_39 (looseW hd.view_39 []) mean mg mb h₀) (cK : cs.kind = .function) (cD : dp + 6 < recursionLimit) (cU : un + 40 < cLine),

    ∀ (hret : ∀ h' tk', Fr h₀ L h' m → News h₀ L h' news → Q (.bool (decide (v1 = (u.fmod full) ∨ GtS v1 (u.fmod full) half))) { s with heap := h', toks := tk' }),
    wpAny (model PySem.Challenge.rw_ji0012_01.row.prog w) (ktrTop dp un gd cn cs L a ccd cl outer) (call (.ref 78) [.ref x1, .int u tu]) Q E s := by
  obtain ⟨hb1, hb2, hF, hH, hfh, hh1, hh2⟩ := id hz
  intro dp un gd cn cs a ccd cl outer A₀ base h₀ L m s Q E B F X N T hk hD hU hret
  refine wpAny_call ?_
  k_dflt cell_enter
  repeat' (first | (k_unfold; (try dsimp only)) | (k_end; kc_close) | ((fail_if_success (with_reducible show InvEnd _ _ _ _ _ _)); walk1 <;> (try dsimp only)) | (dsimp only; walk1) | (leave1; walk_say "STEP leave1"; try dsimp only) | fail "no step")
  all_goals first
    | (exfalso; omega)
    | (exfalso; simp_all; done)
    | (refine ret_bool hret (by assumption) (by assumption) (by intro p hp; k_ownIn) ?_; rw [Bool.eq_iff_iff]; (try simp only [decide_eq_true_eq, beq_iff_eq, bne_iff_ne, ne_eq, LtS, GtS, true_iff, Bool.false_eq_true, false_iff]); first | done | omega)


local macro_rules | `(tactic| walk_at "call ref") => `(tactic| (k_here; k_dflt ((first | ((with_reducible show wpAny _ _ (call (Value.ref 64) [_, Value.ref _]) _ _ _); apply c_le_s) | ((with_reducible show wpAny _ _ (call (Value.ref 64) [_, Value.int _ _]) _ _ _); apply c_le_i) | ((with_reducible show wpAny _ _ (call (Value.ref 78) [_, Value.ref _]) _ _ _); apply c_ge_s) | ((with_reducible show wpAny _ _ (call (Value.ref 78) [_, Value.int _ _]) _ _ _); apply c_ge_i)); walk_at "mine cases"); walk_at "mine keep"))

set_option maxHeartbeats 8000000 in
theorem c_add_i {w : World} {mean : ExcName → Option Value} {mg mb : Str → Option Value} {v1 b half full : Int} {x1 d1 : Addr} {ka ta kb tb : Tok} {d : Int} {td : Tok} {news : List (Addr × Obj)} (hz : Sz b half full) (hv0 : 0 ≤ v1) (hv1 : v1 < full) (hx : (x1, instObj 109 d1) ∈ news) (hxd : (d1, serD w v1 b ka ta kb tb) ∈ news) :
  ∀ {dp un : Nat} {gd : Option (List Code)} {cn : Str} {cs : Scope} {a : Addr} {ccd : Value} {cl : List (Str × Addr)} {outer : List Env} {A₀ : Around} {base h₀ : Heap} {L : Addr} {m : Str → Option Value} {s : Shared} {Q E : Value → Shared → Prop},
    ∀ (cB : Below A₀ base outer h₀) (cF : Fr h₀ L s.heap m) (cX : (hd.heap_39 w.params).In h₀) (cN : News h₀ L s.heap news) (cT : Top hd.view_39 (looseW hd.view_39 []) mean mg mb h₀) (cK : cs.kind = .function) (cD : dp + 5 < recursionLimit) (cU : un + 32 < cLine),

    ∀ (hret : -half < d → d < half → ∀ y dy k1 t1 k2 t2 h' tk', Fr h₀ L h' m → News h₀ L h' ((y, instObj 109 dy) :: (dy, serD w (moved v1 (d) full) b k1 t1 k2 t2) :: news) → (∀ p ∈ news, p.1 < dy) → dy < y → Q (.ref y) { s with heap := h', toks := tk' }),
    ∀ (hexc : half ≤ d ∨ d ≤ -half → ∀ e t h' tk' g, Fr h₀ L g m → g.UpToSlots h' → RaisedS base g (envX cn cs L a ccd cl :: outer) e (.type "ValueError") t [] (news) h' → E (.ref e) { s with heap := h', toks := tk' }),
    wpAny (model PySem.Challenge.rw_ji0012_01.row.prog w) (ktrTop dp un gd cn cs L a ccd cl outer) (call (.ref 85) [.ref x1, .int d td]) Q E s := by
  obtain ⟨hb1, hb2, hF, hH, hfh, hh1, hh2⟩ := id hz
  intro dp un gd cn cs a ccd cl outer A₀ base h₀ L m s Q E B F X N T hk hD hU hret hexc
  refine wpAny_call ?_
  k_dflt cell_enter
  repeat' (first | (k_unfold; (try dsimp only)) | (k_end; kc_close) | ((fail_if_success (with_reducible show InvEnd _ _ _ _ _ _)); walk1 <;> (try dsimp only)) | (dsimp only; walk1) | (leave1; walk_say "STEP leave1"; try dsimp only) | fail "no step")
  all_goals first
    | (exfalso; simp only [abs_gt] at *; omega)
    | (refine hexc ?_ _ _ _ _ _ (by assumption) (by assumption) (by assumption); simp only [abs_gt] at *; omega)
    | (refine ret_ser (hret ?_ ?_) (by assumption) (by assumption) (by assumption) (by assumption) (add_two (by assumption) (by assumption) ?_ ?_) <;> (simp only [abs_gt] at *; omega))


set_option maxHeartbeats 8000000 in
theorem c_add_s {w : World} {mean : ExcName → Option Value} {mg mb : Str → Option Value} {v1 b half full : Int} {x1 d1 : Addr} {ka ta kb tb : Tok} {v2 : Int} {x2 d2 : Addr} {kc tc kd td : Tok} {news : List (Addr × Obj)} (hz : Sz b half full) (hv0 : 0 ≤ v1) (hv1 : v1 < full) (hu0 : 0 ≤ v2) (hu1 : v2 < full) (hx : (x1, instObj 109 d1) ∈ news) (hxd : (d1, serD w v1 b ka ta kb tb) ∈ news) (hy : (x2, instObj 109 d2) ∈ news) (hyd : (d2, serD w v2 b kc tc kd td) ∈ news) :
  ∀ {dp un : Nat} {gd : Option (List Code)} {cn : Str} {cs : Scope} {a : Addr} {ccd : Value} {cl : List (Str × Addr)} {outer : List Env} {A₀ : Around} {base h₀ : Heap} {L : Addr} {m : Str → Option Value} {s : Shared} {Q E : Value → Shared → Prop},
    ∀ (cB : Below A₀ base outer h₀) (cF : Fr h₀ L s.heap m) (cX : (hd.heap_39 w.params).In h₀) (cN : News h₀ L s.heap news) (cT : Top hd.view_39 (looseW hd.view_39 []) mean mg mb h₀) (cK : cs.kind = .function) (cD : dp + 5 < recursionLimit) (cU : un + 32 < cLine),

    ∀ (hret : -half < v2 → v2 < half → ∀ y dy k1 t1 k2 t2 h' tk', Fr h₀ L h' m → News h₀ L h' ((y, instObj 109 dy) :: (dy, serD w (moved v1 (v2) full) b k1 t1 k2 t2) :: news) → (∀ p ∈ news, p.1 < dy) → dy < y → Q (.ref y) { s with heap := h', toks := tk' }),
    ∀ (hexc : half ≤ v2 ∨ v2 ≤ -half → ∀ e t h' tk' g, Fr h₀ L g m → g.UpToSlots h' → RaisedS base g (envX cn cs L a ccd cl :: outer) e (.type "ValueError") t [] (news) h' → E (.ref e) { s with heap := h', toks := tk' }),
    wpAny (model PySem.Challenge.rw_ji0012_01.row.prog w) (ktrTop dp un gd cn cs L a ccd cl outer) (call (.ref 85) [.ref x1, .ref x2]) Q E s := by
  obtain ⟨hb1, hb2, hF, hH, hfh, hh1, hh2⟩ := id hz
  intro dp un gd cn cs a ccd cl outer A₀ base h₀ L m s Q E B F X N T hk hD hU hret hexc
  refine wpAny_call ?_
  k_dflt cell_enter
  repeat' (first | (k_unfold; (try dsimp only)) | (k_end; kc_close) | ((fail_if_success (with_reducible show InvEnd _ _ _ _ _ _)); walk1 <;> (try dsimp only)) | (dsimp only; walk1) | (leave1; walk_say "STEP leave1"; try dsimp only) | fail "no step")
  all_goals first
    | (exfalso; simp only [abs_gt] at *; omega)
    | (refine hexc ?_ _ _ _ _ _ (by assumption) (by assumption) (by assumption); simp only [abs_gt] at *; omega)
    | (refine ret_ser (hret ?_ ?_) (by assumption) (by assumption) (by assumption) (by assumption) (add_two (by assumption) (by assumption) ?_ ?_) <;> (simp only [abs_gt] at *; omega))


set_option maxHeartbeats 8000000 in
theorem c_add_t {w : World} {mean : ExcName → Option Value} {mg mb : Str → Option Value} {v1 b half full : Int} {x1 d1 : Addr} {ka ta kb tb : Tok} {y : Str} {ty : Tok} {news : List (Addr × Obj)} (hz : Sz b half full) (hx : (x1, instObj 109 d1) ∈ news) (hxd : (d1, serD w v1 b ka ta kb tb) ∈ news) :
  ∀ {dp un : Nat} {gd : Option (List Code)} {cn : Str} {cs : Scope} {a : Addr} {ccd : Value} {cl : List (Str × Addr)} {outer : List Env} {A₀ : Around} {base h₀ : Heap} {L : Addr} {m : Str → Option Value} {s : Shared} {Q E : Value → Shared → Prop},
    ∀ (cB : Below A₀ base outer h₀) (cF : Fr h₀ L s.heap m) (cX : (hd.heap_39 w.params).In h₀) (cN : News h₀ L s.heap news) (cT : Top hd.view_39 (looseW hd.view_39 []) mean mg mb h₀) (cK : cs.kind = .function) (cD : dp + 5 < recursionLimit) (cU : un + 32 < cLine),

    ∀ (hexc : ∀ e t h' tk' g, Fr h₀ L g m → g.UpToSlots h' → RaisedS base g (envX cn cs L a ccd cl :: outer) e (.type "ValueError") t [] (news) h' → E (.ref e) { s with heap := h', toks := tk' }),
    wpAny (model PySem.Challenge.rw_ji0012_01.row.prog w) (ktrTop dp un gd cn cs L a ccd cl outer) (call (.ref 85) [.ref x1, .str y ty]) Q E s := by
  obtain ⟨hb1, hb2, hF, hH, hfh, hh1, hh2⟩ := id hz
  intro dp un gd cn cs a ccd cl outer A₀ base h₀ L m s Q E B F X N T hk hD hU hexc
  refine wpAny_call ?_
  k_dflt cell_enter
  repeat' (first | (k_unfold; (try dsimp only)) | (k_end; kc_close) | ((fail_if_success (with_reducible show InvEnd _ _ _ _ _ _)); walk1 <;> (try dsimp only)) | (dsimp only; walk1) | (leave1; walk_say "STEP leave1"; try dsimp only) | fail "no step")
  all_goals exact hexc _ _ _ _ _ (by assumption) (by assumption) (by assumption)


set_option maxHeartbeats 8000000 in
theorem c_sub_i {w : World} {mean : ExcName → Option Value} {mg mb : Str → Option Value} {v1 b half full : Int} {x1 d1 : Addr} {ka ta kb tb : Tok} {d : Int} {td : Tok} {news : List (Addr × Obj)} (hz : Sz b half full) (hv0 : 0 ≤ v1) (hv1 : v1 < full) (hx : (x1, instObj 109 d1) ∈ news) (hxd : (d1, serD w v1 b ka ta kb tb) ∈ news) :
  ∀ {dp un : Nat} {gd : Option (List Code)} {cn : Str} {cs : Scope} {a : Addr} {ccd : Value} {cl : List (Str × Addr)} {outer : List Env} {A₀ : Around} {base h₀ : Heap} {L : Addr} {m : Str → Option Value} {s : Shared} {Q E : Value → Shared → Prop},
    ∀ (cB : Below A₀ base outer h₀) (cF : Fr h₀ L s.heap m) (cX : (hd.heap_39 w.params).In h₀) (cN : News h₀ L s.heap news) (cT : Top hd.view_39 (looseW hd.view_39 []) mean mg mb h₀) (cK : cs.kind = .function) (cD : dp + 5 < recursionLimit) (cU : un + 32 < cLine),

    ∀ (hret : -half < d → d < half → ∀ y dy k1 t1 k2 t2 h' tk', Fr h₀ L h' m → News h₀ L h' ((y, instObj 109 dy) :: (dy, serD w (moved v1 (-d) full) b k1 t1 k2 t2) :: news) → (∀ p ∈ news, p.1 < dy) → dy < y → Q (.ref y) { s with heap := h', toks := tk' }),
    ∀ (hexc : half ≤ d ∨ d ≤ -half → ∀ e t h' tk' g, Fr h₀ L g m → g.UpToSlots h' → RaisedS base g (envX cn cs L a ccd cl :: outer) e (.type "ValueError") t [] (news) h' → E (.ref e) { s with heap := h', toks := tk' }),
    wpAny (model PySem.Challenge.rw_ji0012_01.row.prog w) (ktrTop dp un gd cn cs L a ccd cl outer) (call (.ref 99) [.ref x1, .int d td]) Q E s := by
  obtain ⟨hb1, hb2, hF, hH, hfh, hh1, hh2⟩ := id hz
  intro dp un gd cn cs a ccd cl outer A₀ base h₀ L m s Q E B F X N T hk hD hU hret hexc
  refine wpAny_call ?_
  k_dflt cell_enter
  repeat' (first | (k_unfold; (try dsimp only)) | (k_end; kc_close) | ((fail_if_success (with_reducible show InvEnd _ _ _ _ _ _)); walk1 <;> (try dsimp only)) | (dsimp only; walk1) | (leave1; walk_say "STEP leave1"; try dsimp only) | fail "no step")
  all_goals first
    | (exfalso; simp only [abs_gt] at *; omega)
    | (refine hexc ?_ _ _ _ _ _ (by assumption) (by assumption) (by assumption); simp only [abs_gt] at *; omega)
    | (refine ret_ser (hret ?_ ?_) (by assumption) (by assumption) (by assumption) (by assumption) (sub_two (by assumption) (by assumption) ?_ ?_) <;> (simp only [abs_gt] at *; omega))


set_option maxHeartbeats 8000000 in
theorem c_sub_s {w : World} {mean : ExcName → Option Value} {mg mb : Str → Option Value} {v1 b half full : Int} {x1 d1 : Addr} {ka ta kb tb : Tok} {v2 : Int} {x2 d2 : Addr} {kc tc kd td : Tok} {news : List (Addr × Obj)} (hz : Sz b half full) (hv0 : 0 ≤ v1) (hv1 : v1 < full) (hu0 : 0 ≤ v2) (hu1 : v2 < full) (hx : (x1, instObj 109 d1) ∈ news) (hxd : (d1, serD w v1 b ka ta kb tb) ∈ news) (hy : (x2, instObj 109 d2) ∈ news) (hyd : (d2, serD w v2 b kc tc kd td) ∈ news) :
  ∀ {dp un : Nat} {gd : Option (List Code)} {cn : Str} {cs : Scope} {a : Addr} {ccd : Value} {cl : List (Str × Addr)} {outer : List Env} {A₀ : Around} {base h₀ : Heap} {L : Addr} {m : Str → Option Value} {s : Shared} {Q E : Value → Shared → Prop},
    ∀ (cB : Below A₀ base outer h₀) (cF : Fr h₀ L s.heap m) (cX : (hd.heap_39 w.params).In h₀) (cN : News h₀ L s.heap news) (cT : Top hd.view_39 (looseW hd.view_39 []) mean mg mb h₀) (cK : cs.kind = .function) (cD : dp + 5 < recursionLimit) (cU : un + 32 < cLine),

    ∀ (hret : -half < v2 → v2 < half → ∀ y dy k1 t1 k2 t2 h' tk', Fr h₀ L h' m → News h₀ L h' ((y, instObj 109 dy) :: (dy, serD w (moved v1 (-v2) full) b k1 t1 k2 t2) :: news) → (∀ p ∈ news, p.1 < dy) → dy < y → Q (.ref y) { s with heap := h', toks := tk' }),
    ∀ (hexc : half ≤ v2 ∨ v2 ≤ -half → ∀ e t h' tk' g, Fr h₀ L g m → g.UpToSlots h' → RaisedS base g (envX cn cs L a ccd cl :: outer) e (.type "ValueError") t [] (news) h' → E (.ref e) { s with heap := h', toks := tk' }),
    wpAny (model PySem.Challenge.rw_ji0012_01.row.prog w) (ktrTop dp un gd cn cs L a ccd cl outer) (call (.ref 99) [.ref x1, .ref x2]) Q E s := by
  obtain ⟨hb1, hb2, hF, hH, hfh, hh1, hh2⟩ := id hz
  intro dp un gd cn cs a ccd cl outer A₀ base h₀ L m s Q E B F X N T hk hD hU hret hexc
  refine wpAny_call ?_
  k_dflt cell_enter
  repeat' (first | (k_unfold; (try dsimp only)) | (k_end; kc_close) | ((fail_if_success (with_reducible show InvEnd _ _ _ _ _ _)); walk1 <;> (try dsimp only)) | (dsimp only; walk1) | (leave1; walk_say "STEP leave1"; try dsimp only) | fail "no step")
  all_goals first
    | (exfalso; simp only [abs_gt] at *; omega)
    | (refine hexc ?_ _ _ _ _ _ (by assumption) (by assumption) (by assumption); simp only [abs_gt] at *; omega)
    | (refine ret_ser (hret ?_ ?_) (by assumption) (by assumption) (by assumption) (by assumption) (sub_two (by assumption) (by assumption) ?_ ?_) <;> (simp only [abs_gt] at *; omega))


set_option maxHeartbeats 8000000 in
theorem c_sub_t {w : World} {mean : ExcName → Option Value} {mg mb : Str → Option Value} {v1 b half full : Int} {x1 d1 : Addr} {ka ta kb tb : Tok} {y : Str} {ty : Tok} {news : List (Addr × Obj)} (hz : Sz b half full) (hx : (x1, instObj 109 d1) ∈ news) (hxd : (d1, serD w v1 b ka ta kb tb) ∈ news) :
  ∀ {dp un : Nat} {gd : Option (List Code)} {cn : Str} {cs : Scope} {a : Addr} {ccd : Value} {cl : List (Str × Addr)} {outer : List Env} {A₀ : Around} {base h₀ : Heap} {L : Addr} {m : Str → Option Value} {s : Shared} {Q E : Value → Shared → Prop},
    ∀ (cB : Below A₀ base outer h₀) (cF : Fr h₀ L s.heap m) (cX : (hd.heap_39 w.params).In h₀) (cN : News h₀ L s.heap news) (cT : Top hd.view_39 (looseW hd.view_39 []) mean mg mb h₀) (cK : cs.kind = .function) (cD : dp + 5 < recursionLimit) (cU : un + 32 < cLine),

    ∀ (hexc : ∀ e t h' tk' g, Fr h₀ L g m → g.UpToSlots h' → RaisedS base g (envX cn cs L a ccd cl :: outer) e (.type "ValueError") t [] (news) h' → E (.ref e) { s with heap := h', toks := tk' }),
    wpAny (model PySem.Challenge.rw_ji0012_01.row.prog w) (ktrTop dp un gd cn cs L a ccd cl outer) (call (.ref 99) [.ref x1, .str y ty]) Q E s := by
  obtain ⟨hb1, hb2, hF, hH, hfh, hh1, hh2⟩ := id hz
  intro dp un gd cn cs a ccd cl outer A₀ base h₀ L m s Q E B F X N T hk hD hU hexc
  refine wpAny_call ?_
  k_dflt cell_enter
  repeat' (first | (k_unfold; (try dsimp only)) | (k_end; kc_close) | ((fail_if_success (with_reducible show InvEnd _ _ _ _ _ _)); walk1 <;> (try dsimp only)) | (dsimp only; walk1) | (leave1; walk_say "STEP leave1"; try dsimp only) | fail "no step")
  all_goals exact hexc _ _ _ _ _ (by assumption) (by assumption) (by assumption)


set_option maxHeartbeats 8000000 in
theorem c_iadd_i {w : World} {mean : ExcName → Option Value} {mg mb : Str → Option Value} {v1 b half full : Int} {x1 d1 : Addr} {ka ta kb tb : Tok} {d : Int} {td : Tok} {rest : List (Addr × Obj)} (hz : Sz b half full) (hv0 : 0 ≤ v1) (hv1 : v1 < full) (hx : (x1, instObj 109 d1) ∈ rest) (hoff : OwnOff rest [d1]) :
  ∀ {dp un : Nat} {gd : Option (List Code)} {cn : Str} {cs : Scope} {a : Addr} {ccd : Value} {cl : List (Str × Addr)} {outer : List Env} {A₀ : Around} {base h₀ : Heap} {L : Addr} {m : Str → Option Value} {s : Shared} {Q E : Value → Shared → Prop},
    ∀ (cB : Below A₀ base outer h₀) (cF : Fr h₀ L s.heap m) (cX : (hd.heap_39 w.params).In h₀) (cN : News h₀ L s.heap ((d1, serD w v1 b ka ta kb tb) :: rest)) (cT : Top hd.view_39 (looseW hd.view_39 []) mean mg mb h₀) (cK : cs.kind = .function) (cD : dp + 5 < recursionLimit) (cU : un + 32 < cLine),

    ∀ (hret : -half < d → d < half → ∀ k1 t1 k2 t2 h' tk', Fr h₀ L h' m → News h₀ L h' ((d1, serD w (moved v1 (d) full) b k1 t1 k2 t2) :: rest) → Q (.ref x1) { s with heap := h', toks := tk' }),
    ∀ (hexc : half ≤ d ∨ d ≤ -half → ∀ e t h' tk' g, Fr h₀ L g m → g.UpToSlots h' → RaisedS base g (envX cn cs L a ccd cl :: outer) e (.type "ValueError") t [] ((d1, serD w v1 b ka ta kb tb) :: rest) h' → E (.ref e) { s with heap := h', toks := tk' }),
    wpAny (model PySem.Challenge.rw_ji0012_01.row.prog w) (ktrTop dp un gd cn cs L a ccd cl outer) (call (.ref 92) [.ref x1, .int d td]) Q E s := by
  obtain ⟨hb1, hb2, hF, hH, hfh, hh1, hh2⟩ := id hz
  intro dp un gd cn cs a ccd cl outer A₀ base h₀ L m s Q E B F X N T hk hD hU hret hexc
  refine wpAny_call ?_
  k_dflt cell_enter
  repeat' (first | (k_unfold; (try dsimp only)) | (k_end; kc_close) | ((fail_if_success (with_reducible show InvEnd _ _ _ _ _ _)); walk1 <;> (try dsimp only)) | (dsimp only; walk1) | (leave1; walk_say "STEP leave1"; try dsimp only) | fail "no step")
  all_goals first
    | (exfalso; simp only [abs_gt] at *; omega)
    | (refine hexc ?_ _ _ _ _ _ (by assumption) (by assumption) (by assumption); simp only [abs_gt] at *; omega)
    | (refine ret_in (hret ?_ ?_) (by assumption) (by assumption) (fmod_moved (by assumption) (by assumption) ?_ ?_) <;> (simp only [abs_gt] at *; omega))


set_option maxHeartbeats 8000000 in
theorem c_iadd_s {w : World} {mean : ExcName → Option Value} {mg mb : Str → Option Value} {v1 b half full : Int} {x1 d1 : Addr} {ka ta kb tb : Tok} {v2 : Int} {x2 d2 : Addr} {kc tc kd td : Tok} {rest : List (Addr × Obj)} (hz : Sz b half full) (hv0 : 0 ≤ v1) (hv1 : v1 < full) (hu0 : 0 ≤ v2) (hu1 : v2 < full) (hx : (x1, instObj 109 d1) ∈ rest) (hoff : OwnOff rest [d1]) (hy : (x2, instObj 109 d2) ∈ (d1, serD w v1 b ka ta kb tb) :: rest) (hyd : (d2, serD w v2 b kc tc kd td) ∈ (d1, serD w v1 b ka ta kb tb) :: rest) :
  ∀ {dp un : Nat} {gd : Option (List Code)} {cn : Str} {cs : Scope} {a : Addr} {ccd : Value} {cl : List (Str × Addr)} {outer : List Env} {A₀ : Around} {base h₀ : Heap} {L : Addr} {m : Str → Option Value} {s : Shared} {Q E : Value → Shared → Prop},
    ∀ (cB : Below A₀ base outer h₀) (cF : Fr h₀ L s.heap m) (cX : (hd.heap_39 w.params).In h₀) (cN : News h₀ L s.heap ((d1, serD w v1 b ka ta kb tb) :: rest)) (cT : Top hd.view_39 (looseW hd.view_39 []) mean mg mb h₀) (cK : cs.kind = .function) (cD : dp + 5 < recursionLimit) (cU : un + 32 < cLine),

    ∀ (hret : -half < v2 → v2 < half → ∀ k1 t1 k2 t2 h' tk', Fr h₀ L h' m → News h₀ L h' ((d1, serD w (moved v1 (v2) full) b k1 t1 k2 t2) :: rest) → Q (.ref x1) { s with heap := h', toks := tk' }),
    ∀ (hexc : half ≤ v2 ∨ v2 ≤ -half → ∀ e t h' tk' g, Fr h₀ L g m → g.UpToSlots h' → RaisedS base g (envX cn cs L a ccd cl :: outer) e (.type "ValueError") t [] ((d1, serD w v1 b ka ta kb tb) :: rest) h' → E (.ref e) { s with heap := h', toks := tk' }),
    wpAny (model PySem.Challenge.rw_ji0012_01.row.prog w) (ktrTop dp un gd cn cs L a ccd cl outer) (call (.ref 92) [.ref x1, .ref x2]) Q E s := by
  obtain ⟨hb1, hb2, hF, hH, hfh, hh1, hh2⟩ := id hz
  intro dp un gd cn cs a ccd cl outer A₀ base h₀ L m s Q E B F X N T hk hD hU hret hexc
  refine wpAny_call ?_
  k_dflt cell_enter
  repeat' (first | (k_unfold; (try dsimp only)) | (k_end; kc_close) | ((fail_if_success (with_reducible show InvEnd _ _ _ _ _ _)); walk1 <;> (try dsimp only)) | (dsimp only; walk1) | (leave1; walk_say "STEP leave1"; try dsimp only) | fail "no step")
  all_goals first
    | (exfalso; simp only [abs_gt] at *; omega)
    | (refine hexc ?_ _ _ _ _ _ (by assumption) (by assumption) (by assumption); simp only [abs_gt] at *; omega)
    | (refine ret_in (hret ?_ ?_) (by assumption) (by assumption) (fmod_moved (by assumption) (by assumption) ?_ ?_) <;> (simp only [abs_gt] at *; omega))


set_option maxHeartbeats 8000000 in
theorem c_iadd_t {w : World} {mean : ExcName → Option Value} {mg mb : Str → Option Value} {v1 b half full : Int} {x1 d1 : Addr} {ka ta kb tb : Tok} {y : Str} {ty : Tok} {rest : List (Addr × Obj)} (hz : Sz b half full) (hx : (x1, instObj 109 d1) ∈ rest) (hoff : OwnOff rest [d1]) :
  ∀ {dp un : Nat} {gd : Option (List Code)} {cn : Str} {cs : Scope} {a : Addr} {ccd : Value} {cl : List (Str × Addr)} {outer : List Env} {A₀ : Around} {base h₀ : Heap} {L : Addr} {m : Str → Option Value} {s : Shared} {Q E : Value → Shared → Prop},
    ∀ (cB : Below A₀ base outer h₀) (cF : Fr h₀ L s.heap m) (cX : (hd.heap_39 w.params).In h₀) (cN : News h₀ L s.heap ((d1, serD w v1 b ka ta kb tb) :: rest)) (cT : Top hd.view_39 (looseW hd.view_39 []) mean mg mb h₀) (cK : cs.kind = .function) (cD : dp + 5 < recursionLimit) (cU : un + 32 < cLine),

    ∀ (hexc : ∀ e t h' tk' g, Fr h₀ L g m → g.UpToSlots h' → RaisedS base g (envX cn cs L a ccd cl :: outer) e (.type "ValueError") t [] ((d1, serD w v1 b ka ta kb tb) :: rest) h' → E (.ref e) { s with heap := h', toks := tk' }),
    wpAny (model PySem.Challenge.rw_ji0012_01.row.prog w) (ktrTop dp un gd cn cs L a ccd cl outer) (call (.ref 92) [.ref x1, .str y ty]) Q E s := by
  obtain ⟨hb1, hb2, hF, hH, hfh, hh1, hh2⟩ := id hz
  intro dp un gd cn cs a ccd cl outer A₀ base h₀ L m s Q E B F X N T hk hD hU hexc
  refine wpAny_call ?_
  k_dflt cell_enter
  repeat' (first | (k_unfold; (try dsimp only)) | (k_end; kc_close) | ((fail_if_success (with_reducible show InvEnd _ _ _ _ _ _)); walk1 <;> (try dsimp only)) | (dsimp only; walk1) | (leave1; walk_say "STEP leave1"; try dsimp only) | fail "no step")
  all_goals exact hexc _ _ _ _ _ (by assumption) (by assumption) (by assumption)


set_option maxHeartbeats 8000000 in
theorem c_isub_i {w : World} {mean : ExcName → Option Value} {mg mb : Str → Option Value} {v1 b half full : Int} {x1 d1 : Addr} {ka ta kb tb : Tok} {d : Int} {td : Tok} {rest : List (Addr × Obj)} (hz : Sz b half full) (hv0 : 0 ≤ v1) (hv1 : v1 < full) (hx : (x1, instObj 109 d1) ∈ rest) (hoff : OwnOff rest [d1]) :
  ∀ {dp un : Nat} {gd : Option (List Code)} {cn : Str} {cs : Scope} {a : Addr} {ccd : Value} {cl : List (Str × Addr)} {outer : List Env} {A₀ : Around} {base h₀ : Heap} {L : Addr} {m : Str → Option Value} {s : Shared} {Q E : Value → Shared → Prop},
    ∀ (cB : Below A₀ base outer h₀) (cF : Fr h₀ L s.heap m) (cX : (hd.heap_39 w.params).In h₀) (cN : News h₀ L s.heap ((d1, serD w v1 b ka ta kb tb) :: rest)) (cT : Top hd.view_39 (looseW hd.view_39 []) mean mg mb h₀) (cK : cs.kind = .function) (cD : dp + 5 < recursionLimit) (cU : un + 32 < cLine),

    ∀ (hret : -half < d → d < half → ∀ k1 t1 k2 t2 h' tk', Fr h₀ L h' m → News h₀ L h' ((d1, serD w (moved v1 (-d) full) b k1 t1 k2 t2) :: rest) → Q (.ref x1) { s with heap := h', toks := tk' }),
    ∀ (hexc : half ≤ d ∨ d ≤ -half → ∀ e t h' tk' g, Fr h₀ L g m → g.UpToSlots h' → RaisedS base g (envX cn cs L a ccd cl :: outer) e (.type "ValueError") t [] ((d1, serD w v1 b ka ta kb tb) :: rest) h' → E (.ref e) { s with heap := h', toks := tk' }),
    wpAny (model PySem.Challenge.rw_ji0012_01.row.prog w) (ktrTop dp un gd cn cs L a ccd cl outer) (call (.ref 106) [.ref x1, .int d td]) Q E s := by
  obtain ⟨hb1, hb2, hF, hH, hfh, hh1, hh2⟩ := id hz
  intro dp un gd cn cs a ccd cl outer A₀ base h₀ L m s Q E B F X N T hk hD hU hret hexc
  refine wpAny_call ?_
  k_dflt cell_enter
  repeat' (first | (k_unfold; (try dsimp only)) | (k_end; kc_close) | ((fail_if_success (with_reducible show InvEnd _ _ _ _ _ _)); walk1 <;> (try dsimp only)) | (dsimp only; walk1) | (leave1; walk_say "STEP leave1"; try dsimp only) | fail "no step")
  all_goals first
    | (exfalso; simp only [abs_gt] at *; omega)
    | (refine hexc ?_ _ _ _ _ _ (by assumption) (by assumption) (by assumption); simp only [abs_gt] at *; omega)
    | (refine ret_in (hret ?_ ?_) (by assumption) (by assumption) (sub_one (by assumption) (by assumption) ?_ ?_) <;> (simp only [abs_gt] at *; omega))


set_option maxHeartbeats 8000000 in
theorem c_isub_s {w : World} {mean : ExcName → Option Value} {mg mb : Str → Option Value} {v1 b half full : Int} {x1 d1 : Addr} {ka ta kb tb : Tok} {v2 : Int} {x2 d2 : Addr} {kc tc kd td : Tok} {rest : List (Addr × Obj)} (hz : Sz b half full) (hv0 : 0 ≤ v1) (hv1 : v1 < full) (hu0 : 0 ≤ v2) (hu1 : v2 < full) (hx : (x1, instObj 109 d1) ∈ rest) (hoff : OwnOff rest [d1]) (hy : (x2, instObj 109 d2) ∈ (d1, serD w v1 b ka ta kb tb) :: rest) (hyd : (d2, serD w v2 b kc tc kd td) ∈ (d1, serD w v1 b ka ta kb tb) :: rest) :
  ∀ {dp un : Nat} {gd : Option (List Code)} {cn : Str} {cs : Scope} {a : Addr} {ccd : Value} {cl : List (Str × Addr)} {outer : List Env} {A₀ : Around} {base h₀ : Heap} {L : Addr} {m : Str → Option Value} {s : Shared} {Q E : Value → Shared → Prop},
    ∀ (cB : Below A₀ base outer h₀) (cF : Fr h₀ L s.heap m) (cX : (hd.heap_39 w.params).In h₀) (cN : News h₀ L s.heap ((d1, serD w v1 b ka ta kb tb) :: rest)) (cT : Top hd.view_39 (looseW hd.view_39 []) mean mg mb h₀) (cK : cs.kind = .function) (cD : dp + 5 < recursionLimit) (cU : un + 32 < cLine),

    ∀ (hret : -half < v2 → v2 < half → ∀ k1 t1 k2 t2 h' tk', Fr h₀ L h' m → News h₀ L h' ((d1, serD w (moved v1 (-v2) full) b k1 t1 k2 t2) :: rest) → Q (.ref x1) { s with heap := h', toks := tk' }),
    ∀ (hexc : half ≤ v2 ∨ v2 ≤ -half → ∀ e t h' tk' g, Fr h₀ L g m → g.UpToSlots h' → RaisedS base g (envX cn cs L a ccd cl :: outer) e (.type "ValueError") t [] ((d1, serD w v1 b ka ta kb tb) :: rest) h' → E (.ref e) { s with heap := h', toks := tk' }),
    wpAny (model PySem.Challenge.rw_ji0012_01.row.prog w) (ktrTop dp un gd cn cs L a ccd cl outer) (call (.ref 106) [.ref x1, .ref x2]) Q E s := by
  obtain ⟨hb1, hb2, hF, hH, hfh, hh1, hh2⟩ := id hz
  intro dp un gd cn cs a ccd cl outer A₀ base h₀ L m s Q E B F X N T hk hD hU hret hexc
  refine wpAny_call ?_
  k_dflt cell_enter
  repeat' (first | (k_unfold; (try dsimp only)) | (k_end; kc_close) | ((fail_if_success (with_reducible show InvEnd _ _ _ _ _ _)); walk1 <;> (try dsimp only)) | (dsimp only; walk1) | (leave1; walk_say "STEP leave1"; try dsimp only) | fail "no step")
  all_goals first
    | (exfalso; simp only [abs_gt] at *; omega)
    | (refine hexc ?_ _ _ _ _ _ (by assumption) (by assumption) (by assumption); simp only [abs_gt] at *; omega)
    | (refine ret_in (hret ?_ ?_) (by assumption) (by assumption) (sub_one (by assumption) (by assumption) ?_ ?_) <;> (simp only [abs_gt] at *; omega))


set_option maxHeartbeats 8000000 in
theorem c_isub_t {w : World} {mean : ExcName → Option Value} {mg mb : Str → Option Value} {v1 b half full : Int} {x1 d1 : Addr} {ka ta kb tb : Tok} {y : Str} {ty : Tok} {rest : List (Addr × Obj)} (hz : Sz b half full) (hx : (x1, instObj 109 d1) ∈ rest) (hoff : OwnOff rest [d1]) :
  ∀ {dp un : Nat} {gd : Option (List Code)} {cn : Str} {cs : Scope} {a : Addr} {ccd : Value} {cl : List (Str × Addr)} {outer : List Env} {A₀ : Around} {base h₀ : Heap} {L : Addr} {m : Str → Option Value} {s : Shared} {Q E : Value → Shared → Prop},
    ∀ (cB : Below A₀ base outer h₀) (cF : Fr h₀ L s.heap m) (cX : (hd.heap_39 w.params).In h₀) (cN : News h₀ L s.heap ((d1, serD w v1 b ka ta kb tb) :: rest)) (cT : Top hd.view_39 (looseW hd.view_39 []) mean mg mb h₀) (cK : cs.kind = .function) (cD : dp + 5 < recursionLimit) (cU : un + 32 < cLine),

    ∀ (hexc : ∀ e t h' tk' g, Fr h₀ L g m → g.UpToSlots h' → RaisedS base g (envX cn cs L a ccd cl :: outer) e (.type "ValueError") t [] ((d1, serD w v1 b ka ta kb tb) :: rest) h' → E (.ref e) { s with heap := h', toks := tk' }),
    wpAny (model PySem.Challenge.rw_ji0012_01.row.prog w) (ktrTop dp un gd cn cs L a ccd cl outer) (call (.ref 106) [.ref x1, .str y ty]) Q E s := by
  obtain ⟨hb1, hb2, hF, hH, hfh, hh1, hh2⟩ := id hz
  intro dp un gd cn cs a ccd cl outer A₀ base h₀ L m s Q E B F X N T hk hD hU hexc
  refine wpAny_call ?_
  k_dflt cell_enter
  repeat' (first | (k_unfold; (try dsimp only)) | (k_end; kc_close) | ((fail_if_success (with_reducible show InvEnd _ _ _ _ _ _)); walk1 <;> (try dsimp only)) | (dsimp only; walk1) | (leave1; walk_say "STEP leave1"; try dsimp only) | fail "no step")
  all_goals exact hexc _ _ _ _ _ (by assumption) (by assumption) (by assumption)


local macro_rules | `(tactic| walk_at "call ref") => `(tactic| (k_here; k_dflt ((first | ((with_reducible show wpAny _ _ (call (Value.ref 85) [_, Value.int _ _]) _ _ _); apply c_add_i) | ((with_reducible show wpAny _ _ (call (Value.ref 85) [_, Value.ref _]) _ _ _); apply c_add_s) | ((with_reducible show wpAny _ _ (call (Value.ref 85) [_, Value.str _ _]) _ _ _); apply c_add_t) | ((with_reducible show wpAny _ _ (call (Value.ref 99) [_, Value.int _ _]) _ _ _); apply c_sub_i) | ((with_reducible show wpAny _ _ (call (Value.ref 99) [_, Value.ref _]) _ _ _); apply c_sub_s) | ((with_reducible show wpAny _ _ (call (Value.ref 99) [_, Value.str _ _]) _ _ _); apply c_sub_t) | ((with_reducible show wpAny _ _ (call (Value.ref 92) [_, Value.int _ _]) _ _ _); apply c_iadd_i) | ((with_reducible show wpAny _ _ (call (Value.ref 92) [_, Value.ref _]) _ _ _); apply c_iadd_s) | ((with_reducible show wpAny _ _ (call (Value.ref 92) [_, Value.str _ _]) _ _ _); apply c_iadd_t) | ((with_reducible show wpAny _ _ (call (Value.ref 106) [_, Value.int _ _]) _ _ _); apply c_isub_i) | ((with_reducible show wpAny _ _ (call (Value.ref 106) [_, Value.ref _]) _ _ _); apply c_isub_s) | ((with_reducible show wpAny _ _ (call (Value.ref 106) [_, Value.str _ _]) _ _ _); apply c_isub_t)); walk_at "mine cases"); walk_at "mine both"))

set_option maxHeartbeats 8000000 in
theorem c_into {w : World} {mean : ExcName → Option Value} {mg mb : Str → Option Value} {n b half full : Int} {tn tf : Tok} {news : List (Addr × Obj)} (hz : Sz b half full) (hn0 : -1000000000000000000000000 < n) (hn1 : n < 1000000000000000000000000) :
  ∀ {dp un : Nat} {gd : Option (List Code)} {cn : Str} {cs : Scope} {a : Addr} {ccd : Value} {cl : List (Str × Addr)} {outer : List Env} {A₀ : Around} {base h₀ : Heap} {L : Addr} {m : Str → Option Value} {s : Shared} {Q E : Value → Shared → Prop},
    ∀ (cB : Below A₀ base outer h₀) (cF : Fr h₀ L s.heap m) (cX : (hd.heap_39 w.params).In h₀) (cN : News h₀ L s.heap news) (cT : Top hd.view_39 (looseW hd.view_39 []) mean mg mb h₀) (cK : cs.kind = .function) (cD : dp + 1 < recursionLimit) (cU : un + 8 < cLine),

    ∀ (hret : ∀ t h' tk', Fr h₀ L h' m → News h₀ L h' news → Q (.int (n.fmod full) t) { s with heap := h', toks := tk' }),
    wpAny (model PySem.Challenge.rw_ji0012_01.row.prog w) (ktrTop dp un gd cn cs L a ccd cl outer) (call (.ref 149) [.int n tn, .int full tf]) Q E s := by
  obtain ⟨hb1, hb2, hF, hH, hfh, hh1, hh2⟩ := id hz
  intro dp un gd cn cs a ccd cl outer A₀ base h₀ L m s Q E B F X N T hk hD hU hret
  refine wpAny_call ?_
  k_dflt cell_enter
  repeat' (first | (k_unfold; (try dsimp only)) | (k_end; kc_close) | ((fail_if_success (with_reducible show InvEnd _ _ _ _ _ _)); walk1 <;> (try dsimp only)) | (dsimp only; walk1) | (leave1; walk_say "STEP leave1"; try dsimp only) | fail "no step")
  all_goals exact ret_int hret (by assumption) (by assumption) (by intro p hp; k_ownIn) (into_eq _ _)


set_option maxHeartbeats 8000000 in
theorem c_moved {w : World} {mean : ExcName → Option Value} {mg mb : Str → Option Value} {v d full : Int} {tv td tf : Tok} {news : List (Addr × Obj)}  :
  ∀ {dp un : Nat} {gd : Option (List Code)} {cn : Str} {cs : Scope} {a : Addr} {ccd : Value} {cl : List (Str × Addr)} {outer : List Env} {A₀ : Around} {base h₀ : Heap} {L : Addr} {m : Str → Option Value} {s : Shared} {Q E : Value → Shared → Prop},
    ∀ (cB : Below A₀ base outer h₀) (cF : Fr h₀ L s.heap m) (cX : (hd.heap_39 w.params).In h₀) (cN : News h₀ L s.heap news) (cT : Top hd.view_39 (looseW hd.view_39 []) mean mg mb h₀) (cK : cs.kind = .function) (cD : dp + 1 < recursionLimit) (cU : un + 8 < cLine),

    ∀ (hret : ∀ t h' tk', Fr h₀ L h' m → News h₀ L h' news → Q (.int (moved v d full) t) { s with heap := h', toks := tk' }),
    wpAny (model PySem.Challenge.rw_ji0012_01.row.prog w) (ktrTop dp un gd cn cs L a ccd cl outer) (call (.ref 156) [.int v tv, .int d td, .int full tf]) Q E s := by
  intro dp un gd cn cs a ccd cl outer A₀ base h₀ L m s Q E B F X N T hk hD hU hret
  refine wpAny_call ?_
  k_dflt cell_enter
  repeat' (first | (k_unfold; (try dsimp only)) | (k_end; kc_close) | ((fail_if_success (with_reducible show InvEnd _ _ _ _ _ _)); walk1 <;> (try dsimp only)) | (dsimp only; walk1) | (leave1; walk_say "STEP leave1"; try dsimp only) | fail "no step")
  all_goals (refine ret_int hret (by assumption) (by assumption) (by intro p hp; k_ownIn) ?_; unfold moved; (repeat' split) <;> omega)


set_option maxHeartbeats 8000000 in
theorem c_start {w : World} {mean : ExcName → Option Value} {mg mb : Str → Option Value} {n b half full : Int} {tn th : Tok} {news : List (Addr × Obj)} (hz : Sz b half full) (hn0 : -1000000000000000000000000 < n) (hn1 : n < 1000000000000000000000000) :
  ∀ {dp un : Nat} {gd : Option (List Code)} {cn : Str} {cs : Scope} {a : Addr} {ccd : Value} {cl : List (Str × Addr)} {outer : List Env} {A₀ : Around} {base h₀ : Heap} {L : Addr} {m : Str → Option Value} {s : Shared} {Q E : Value → Shared → Prop},
    ∀ (cB : Below A₀ base outer h₀) (cF : Fr h₀ L s.heap m) (cX : (hd.heap_39 w.params).In h₀) (cN : News h₀ L s.heap news) (cT : Top hd.view_39 (looseW hd.view_39 []) mean mg mb h₀) (cK : cs.kind = .function) (cD : dp + 1 < recursionLimit) (cU : un + 8 < cLine),

    ∀ (hret : ∀ r t h' tk', -1000000000000000000000000 < r → r < 1000000000000000000000000 → Fr h₀ L h' m → News h₀ L h' news → Q (.int r t) { s with heap := h', toks := tk' }),
    wpAny (model PySem.Challenge.rw_ji0012_01.row.prog w) (ktrTop dp un gd cn cs L a ccd cl outer) (call (.ref 128) [.int n tn, .int half th]) Q E s := by
  obtain ⟨hb1, hb2, hF, hH, hfh, hh1, hh2⟩ := id hz
  intro dp un gd cn cs a ccd cl outer A₀ base h₀ L m s Q E B F X N T hk hD hU hret
  refine wpAny_call ?_
  k_dflt cell_enter
  repeat' (first | (k_unfold; (try dsimp only)) | (k_end; kc_close) | ((fail_if_success (with_reducible show InvEnd _ _ _ _ _ _)); walk1 <;> (try dsimp only)) | (dsimp only; walk1) | (leave1; walk_say "STEP leave1"; try dsimp only) | fail "no step")
  all_goals first
    | exact ret_intB hret (by assumption) (by assumption) (fdiv8 hn0 hn1).1 (fdiv8 hn0 hn1).2 (by intro p hp; k_ownIn)
    | (have hv := startV hh1 hh2 (n.fmod 8).toNat; exact ret_intB hret (by assumption) (by assumption) hv.1 hv.2 (by intro p hp; k_ownIn))


set_option maxHeartbeats 8000000 in
theorem c_step {w : World} {mean : ExcName → Option Value} {mg mb : Str → Option Value} {n b half full : Int} {tn th : Tok} {news : List (Addr × Obj)} (hz : Sz b half full) :
  ∀ {dp un : Nat} {gd : Option (List Code)} {cn : Str} {cs : Scope} {a : Addr} {ccd : Value} {cl : List (Str × Addr)} {outer : List Env} {A₀ : Around} {base h₀ : Heap} {L : Addr} {m : Str → Option Value} {s : Shared} {Q E : Value → Shared → Prop},
    ∀ (cB : Below A₀ base outer h₀) (cF : Fr h₀ L s.heap m) (cX : (hd.heap_39 w.params).In h₀) (cN : News h₀ L s.heap news) (cT : Top hd.view_39 (looseW hd.view_39 []) mean mg mb h₀) (cK : cs.kind = .function) (cD : dp + 1 < recursionLimit) (cU : un + 8 < cLine),

    ∀ (hret : ∀ r t h' tk', Fr h₀ L h' m → News h₀ L h' news → Q (.int r t) { s with heap := h', toks := tk' }),
    wpAny (model PySem.Challenge.rw_ji0012_01.row.prog w) (ktrTop dp un gd cn cs L a ccd cl outer) (call (.ref 135) [.int n tn, .int half th]) Q E s := by
  obtain ⟨hb1, hb2, hF, hH, hfh, hh1, hh2⟩ := id hz
  intro dp un gd cn cs a ccd cl outer A₀ base h₀ L m s Q E B F X N T hk hD hU hret
  refine wpAny_call ?_
  k_dflt cell_enter
  repeat' (first | (k_unfold; (try dsimp only)) | (k_end; kc_close) | ((fail_if_success (with_reducible show InvEnd _ _ _ _ _ _)); walk1 <;> (try dsimp only)) | (dsimp only; walk1) | (leave1; walk_say "STEP leave1"; try dsimp only) | fail "no step")
  all_goals exact ret_intA hret (by assumption) (by assumption) (by intro p hp; k_ownIn)


set_option maxHeartbeats 8000000 in
theorem c_at {w : World} {mean : ExcName → Option Value} {mg mb : Str → Option Value} {p : Int} {l : Addr} {tp : Tok} {vs : List Value} {ns : List Int} {news : List (Addr × Obj)} (hp0 : 0 ≤ p) (hp1 : p ≤ 13) :
  ∀ {dp un : Nat} {gd : Option (List Code)} {cn : Str} {cs : Scope} {a : Addr} {ccd : Value} {cl : List (Str × Addr)} {outer : List Env} {A₀ : Around} {base h₀ : Heap} {L : Addr} {m : Str → Option Value} {s : Shared} {Q E : Value → Shared → Prop},
    ∀ (cB : Below A₀ base outer h₀) (cF : Fr h₀ L s.heap m) (cX : (hd.heap_39 w.params).In h₀) (cN : News h₀ L s.heap news) (cT : Top hd.view_39 (looseW hd.view_39 []) mean mg mb h₀) (cK : cs.kind = .function) (cD : dp + 1 < recursionLimit) (cU : un + 8 < cLine),

    ∀ (hL : base.IsList l vs.toArray),
    ∀ (hI : IntsAre vs ns),
    ∀ (hlen : ns.length ≤ 63),
    ∀ (hret : ∀ r t h' tk', -1000000000000000000000000 < r → r < 1000000000000000000000000 → Fr h₀ L h' m → News h₀ L h' news → Q (.int r t) { s with heap := h', toks := tk' }),
    wpAny (model PySem.Challenge.rw_ji0012_01.row.prog w) (ktrTop dp un gd cn cs L a ccd cl outer) (call (.ref 121) [.ref l, .int p tp]) Q E s := by
  intro dp un gd cn cs a ccd cl outer A₀ base h₀ L m s Q E B F X N T hk hD hU hL hI hlen hret
  refine wpAny_call ?_
  k_dflt cell_enter
  repeat' (first | (k_unfold; (try dsimp only)) | (k_end; kc_close) | ((fail_if_success (with_reducible show InvEnd _ _ _ _ _ _)); walk1 <;> (try dsimp only)) | (dsimp only; walk1) | (leave1; walk_say "STEP leave1"; try dsimp only) | fail "no step")
  all_goals first
    | exact hret _ _ _ _ atV.1 atV.2 (by assumption) (by assumption)
    | exact hret _ _ _ _ atN.1 atN.2 (by assumption) (by assumption)


local macro_rules | `(tactic| walk_at "call ref") => `(tactic| (k_here; k_dflt ((first | ((with_reducible show wpAny _ _ (call (Value.ref 149) [_, Value.int _ _]) _ _ _); apply c_into) | ((with_reducible show wpAny _ _ (call (Value.ref 156) [_, Value.int _ _, _]) _ _ _); apply c_moved)); walk_at "mine cases"); walk_at "mine keepi"))
local macro_rules | `(tactic| walk_at "call ref") => `(tactic| (k_here; k_dflt ((first | ((with_reducible show wpAny _ _ (call (Value.ref 128) [_, Value.int _ _]) _ _ _); apply c_start) | ((with_reducible show wpAny _ _ (call (Value.ref 121) [_, Value.int _ _]) _ _ _); apply c_at)); walk_at "mine cases"); walk_at "mine keepr"))
local macro_rules | `(tactic| walk_at "call ref") => `(tactic| (k_here; k_dflt ((first | ((with_reducible show wpAny _ _ (call (Value.ref 135) [_, Value.int _ _]) _ _ _); apply c_step)); walk_at "mine cases"); k_whole; intro r' t' h' tk' F' N'; (try k_sweep); (try dsimp only [PySem.W.CmpBack, PySem.W.InitBack]); (try k_fold)))

set_option maxHeartbeats 8000000 in
theorem c_done_i {w : World} {mean : ExcName → Option Value} {mg mb : Str → Option Value} {v1 b half full : Int} {x1 d1 : Addr} {ka ta kb tb : Tok} {how d : Int} {th td : Tok} {rest : List (Addr × Obj)} (hz : Sz b half full) (hv0 : 0 ≤ v1) (hv1 : v1 < full) (hh0 : 0 ≤ how) (hh3 : how ≤ 3) (hx : (x1, instObj 109 d1) ∈ rest) (hoff : OwnOff rest [d1]) :
  ∀ {dp un : Nat} {gd : Option (List Code)} {cn : Str} {cs : Scope} {a : Addr} {ccd : Value} {outer : List Env} {A₀ : Around} {base h₀ : Heap} {L : Addr} {m : Str → Option Value} {s : Shared} {Q E : Value → Shared → Prop},
    ∀ (cB : Below A₀ base outer h₀) (cF : Fr h₀ L s.heap m) (cX : (hd.heap_39 w.params).In h₀) (cN : News h₀ L s.heap ((d1, serD w v1 b ka ta kb tb) :: rest)) (cT : Top hd.view_39 (looseW hd.view_39 []) mean mg mb h₀) (cK : cs.kind = .function) (cD : dp + 8 < recursionLimit) (cU : un + 48 < cLine),

    ∀ (XB : (hd.heap_39 w.params).In base),
    ∀ (TB : Top hd.view_39 (looseW hd.view_39 []) mean mg mb base),
    ∀ (KD : KtsDicts (outer.filterMap (·.frame)) h₀),
    ∀ (hnone : half ≤ d ∨ d ≤ -half → ∀ h₁ h' tk', KtsTurn (outer.filterMap (·.frame)) h₀ h₁ → Fr h₁ L h' m → News h₁ L h' ((d1, serD w v1 b ka ta kb tb) :: rest) → Below A₀ base outer h₁ → (hd.heap_39 w.params).In h₁ → Top hd.view_39 (looseW hd.view_39 []) mean mg mb h₁ → KtsDicts (outer.filterMap (·.frame)) h₁ → Q .none { s with heap := h', toks := tk' }),
    ∀ (hnew : how ≤ 1 → -half < d → d < half → ∀ y dy k1 t1 k2 t2, ∀ h₁ h' tk', KtsTurn (outer.filterMap (·.frame)) h₀ h₁ → Fr h₁ L h' m → News h₁ L h' ((y, instObj 109 dy) :: (dy, serD w (moved v1 (sgn how d) full) b k1 t1 k2 t2) :: (d1, serD w v1 b ka ta kb tb) :: rest) → Below A₀ base outer h₁ → (hd.heap_39 w.params).In h₁ → Top hd.view_39 (looseW hd.view_39 []) mean mg mb h₁ → KtsDicts (outer.filterMap (·.frame)) h₁ → (∀ p ∈ (d1, serD w v1 b ka ta kb tb) :: rest, p.1 < dy) → dy < y → Q (.ref y) { s with heap := h', toks := tk' }),
    ∀ (hin : 2 ≤ how → -half < d → d < half → ∀ k1 t1 k2 t2, ∀ h₁ h' tk', KtsTurn (outer.filterMap (·.frame)) h₀ h₁ → Fr h₁ L h' m → News h₁ L h' ((d1, serD w (moved v1 (sgn how d) full) b k1 t1 k2 t2) :: rest) → Below A₀ base outer h₁ → (hd.heap_39 w.params).In h₁ → Top hd.view_39 (looseW hd.view_39 []) mean mg mb h₁ → KtsDicts (outer.filterMap (·.frame)) h₁ → Q (.ref x1) { s with heap := h', toks := tk' }),
    wpAny (model PySem.Challenge.rw_ji0012_01.row.prog w) (ktrTop dp un gd cn cs L a ccd [] outer) (call (.ref 142) [.int how th, .ref x1, .int d td]) Q E s := by
  obtain ⟨hb1, hb2, hF, hH, hfh, hh1, hh2⟩ := id hz
  intro dp un gd cn cs a ccd outer A₀ base h₀ L m s Q E B F X N T hk hD hU XB TB KD hnone hnew hin
  refine wpAny_call ?_
  k_dflt (refine' code_defS ?k1 ?k2 ?k3 ?k4 ?k5 ?XB ?TB ?D ?T0 ?kA ?k6 ?k7 ?k8 ?k9 ?kB ?_ ?cK ?c2 ?c3 ?c4 ?c5; (case kA => exact rfl); (case k2 => k_asm); (case k1 => k_asm); (case XB => assumption); (case TB => assumption); (case D => assumption); (case T0 => exact KtsTurn.refl); (case k3 => k_asm); (case k4 => k_asm); (case k5 => k_asm); (case k6 => k_is); (case k7 => k_is); (case k8 => ktr_room); (case k9 => first | exact binds_K (by k_in) rfl (by k_is) rfl rfl rfl | exact BindsTo.of_eq rfl); (case kB => exact locs rfl); (case cK => assumption); (case c2 => exact rfl); (case c3 => exact rfl); (case c4 => exact rfl); (case c5 => decide); k_whole; intro g' L' h' FG' F' N' B' X' T' D'; (try dsimp only); (try k_lift B'); (try k_fold))
  repeat' (first | (k_unfold; (try dsimp only)) | (k_end; kc_close) | ((fail_if_success (with_reducible show InvEnd _ _ _ _ _ _)); walk1 <;> (try dsimp only)) | (dsimp only; walk1) | (leave1; walk_say "STEP leave1"; try dsimp only) | fail "no step")
  all_goals first
    | (exfalso; omega)
    | (refine hnone ?_ _ _ _ (by assumption) (by assumption) (by assumption) (by assumption) (by assumption) (by assumption) (by assumption); omega)
    | (refine hnone ?_ _ _ _ KtsTurn.refl (by assumption) (by assumption) B X T KD; omega)
    | (rw [sgn_0 (by omega)] at hnew; exact hnew (by omega) (by assumption) (by assumption) _ _ _ _ _ _ _ _ _ KtsTurn.refl (by assumption) (by assumption) B X T KD (by assumption) (by assumption))
    | (rw [sgn_1 (by omega)] at hnew; exact hnew (by omega) (by assumption) (by assumption) _ _ _ _ _ _ _ _ _ KtsTurn.refl (by assumption) (by assumption) B X T KD (by assumption) (by assumption))
    | (rw [sgn_0 (by omega)] at hin; exact hin (by omega) (by assumption) (by assumption) _ _ _ _ _ _ _ KtsTurn.refl (by assumption) (by assumption) B X T KD)
    | (rw [sgn_1 (by omega)] at hin; exact hin (by omega) (by assumption) (by assumption) _ _ _ _ _ _ _ KtsTurn.refl (by assumption) (by assumption) B X T KD)


set_option maxHeartbeats 8000000 in
theorem c_done_s {w : World} {mean : ExcName → Option Value} {mg mb : Str → Option Value} {v1 b half full : Int} {x1 d1 : Addr} {ka ta kb tb : Tok} {v2 : Int} {x2 d2 : Addr} {kc tc kd td : Tok} {how : Int} {th : Tok} {rest : List (Addr × Obj)} (hz : Sz b half full) (hv0 : 0 ≤ v1) (hv1 : v1 < full) (hu0 : 0 ≤ v2) (hu1 : v2 < full) (hh0 : 0 ≤ how) (hh3 : how ≤ 3) (hx : (x1, instObj 109 d1) ∈ rest) (hoff : OwnOff rest [d1]) (hy : (x2, instObj 109 d2) ∈ (d1, serD w v1 b ka ta kb tb) :: rest) (hyd : (d2, serD w v2 b kc tc kd td) ∈ (d1, serD w v1 b ka ta kb tb) :: rest) :
  ∀ {dp un : Nat} {gd : Option (List Code)} {cn : Str} {cs : Scope} {a : Addr} {ccd : Value} {outer : List Env} {A₀ : Around} {base h₀ : Heap} {L : Addr} {m : Str → Option Value} {s : Shared} {Q E : Value → Shared → Prop},
    ∀ (cB : Below A₀ base outer h₀) (cF : Fr h₀ L s.heap m) (cX : (hd.heap_39 w.params).In h₀) (cN : News h₀ L s.heap ((d1, serD w v1 b ka ta kb tb) :: rest)) (cT : Top hd.view_39 (looseW hd.view_39 []) mean mg mb h₀) (cK : cs.kind = .function) (cD : dp + 8 < recursionLimit) (cU : un + 48 < cLine),

    ∀ (XB : (hd.heap_39 w.params).In base),
    ∀ (TB : Top hd.view_39 (looseW hd.view_39 []) mean mg mb base),
    ∀ (KD : KtsDicts (outer.filterMap (·.frame)) h₀),
    ∀ (hnone : half ≤ v2 ∨ v2 ≤ -half → ∀ h₁ h' tk', KtsTurn (outer.filterMap (·.frame)) h₀ h₁ → Fr h₁ L h' m → News h₁ L h' ((d1, serD w v1 b ka ta kb tb) :: rest) → Below A₀ base outer h₁ → (hd.heap_39 w.params).In h₁ → Top hd.view_39 (looseW hd.view_39 []) mean mg mb h₁ → KtsDicts (outer.filterMap (·.frame)) h₁ → Q .none { s with heap := h', toks := tk' }),
    ∀ (hnew : how ≤ 1 → -half < v2 → v2 < half → ∀ y dy k1 t1 k2 t2, ∀ h₁ h' tk', KtsTurn (outer.filterMap (·.frame)) h₀ h₁ → Fr h₁ L h' m → News h₁ L h' ((y, instObj 109 dy) :: (dy, serD w (moved v1 (sgn how v2) full) b k1 t1 k2 t2) :: (d1, serD w v1 b ka ta kb tb) :: rest) → Below A₀ base outer h₁ → (hd.heap_39 w.params).In h₁ → Top hd.view_39 (looseW hd.view_39 []) mean mg mb h₁ → KtsDicts (outer.filterMap (·.frame)) h₁ → (∀ p ∈ (d1, serD w v1 b ka ta kb tb) :: rest, p.1 < dy) → dy < y → Q (.ref y) { s with heap := h', toks := tk' }),
    ∀ (hin : 2 ≤ how → -half < v2 → v2 < half → ∀ k1 t1 k2 t2, ∀ h₁ h' tk', KtsTurn (outer.filterMap (·.frame)) h₀ h₁ → Fr h₁ L h' m → News h₁ L h' ((d1, serD w (moved v1 (sgn how v2) full) b k1 t1 k2 t2) :: rest) → Below A₀ base outer h₁ → (hd.heap_39 w.params).In h₁ → Top hd.view_39 (looseW hd.view_39 []) mean mg mb h₁ → KtsDicts (outer.filterMap (·.frame)) h₁ → Q (.ref x1) { s with heap := h', toks := tk' }),
    wpAny (model PySem.Challenge.rw_ji0012_01.row.prog w) (ktrTop dp un gd cn cs L a ccd [] outer) (call (.ref 142) [.int how th, .ref x1, .ref x2]) Q E s := by
  obtain ⟨hb1, hb2, hF, hH, hfh, hh1, hh2⟩ := id hz
  intro dp un gd cn cs a ccd outer A₀ base h₀ L m s Q E B F X N T hk hD hU XB TB KD hnone hnew hin
  refine wpAny_call ?_
  k_dflt (refine' code_defS ?k1 ?k2 ?k3 ?k4 ?k5 ?XB ?TB ?D ?T0 ?kA ?k6 ?k7 ?k8 ?k9 ?kB ?_ ?cK ?c2 ?c3 ?c4 ?c5; (case kA => exact rfl); (case k2 => k_asm); (case k1 => k_asm); (case XB => assumption); (case TB => assumption); (case D => assumption); (case T0 => exact KtsTurn.refl); (case k3 => k_asm); (case k4 => k_asm); (case k5 => k_asm); (case k6 => k_is); (case k7 => k_is); (case k8 => ktr_room); (case k9 => first | exact binds_K (by k_in) rfl (by k_is) rfl rfl rfl | exact BindsTo.of_eq rfl); (case kB => exact locs rfl); (case cK => assumption); (case c2 => exact rfl); (case c3 => exact rfl); (case c4 => exact rfl); (case c5 => decide); k_whole; intro g' L' h' FG' F' N' B' X' T' D'; (try dsimp only); (try k_lift B'); (try k_fold))
  repeat' (first | (k_unfold; (try dsimp only)) | (k_end; kc_close) | ((fail_if_success (with_reducible show InvEnd _ _ _ _ _ _)); walk1 <;> (try dsimp only)) | (dsimp only; walk1) | (leave1; walk_say "STEP leave1"; try dsimp only) | fail "no step")
  all_goals first
    | (exfalso; omega)
    | (refine hnone ?_ _ _ _ (by assumption) (by assumption) (by assumption) (by assumption) (by assumption) (by assumption) (by assumption); omega)
    | (refine hnone ?_ _ _ _ KtsTurn.refl (by assumption) (by assumption) B X T KD; omega)
    | (rw [sgn_0 (by omega)] at hnew; exact hnew (by omega) (by assumption) (by assumption) _ _ _ _ _ _ _ _ _ KtsTurn.refl (by assumption) (by assumption) B X T KD (by assumption) (by assumption))
    | (rw [sgn_1 (by omega)] at hnew; exact hnew (by omega) (by assumption) (by assumption) _ _ _ _ _ _ _ _ _ KtsTurn.refl (by assumption) (by assumption) B X T KD (by assumption) (by assumption))
    | (rw [sgn_0 (by omega)] at hin; exact hin (by omega) (by assumption) (by assumption) _ _ _ _ _ _ _ KtsTurn.refl (by assumption) (by assumption) B X T KD)
    | (rw [sgn_1 (by omega)] at hin; exact hin (by omega) (by assumption) (by assumption) _ _ _ _ _ _ _ KtsTurn.refl (by assumption) (by assumption) B X T KD)


set_option maxHeartbeats 8000000 in
theorem c_done_t {w : World} {mean : ExcName → Option Value} {mg mb : Str → Option Value} {v1 b half full : Int} {x1 d1 : Addr} {ka ta kb tb : Tok} {how : Int} {y : Str} {th ty : Tok} {rest : List (Addr × Obj)} (hz : Sz b half full) (hh0 : 0 ≤ how) (hh3 : how ≤ 3) (hx : (x1, instObj 109 d1) ∈ rest) (hoff : OwnOff rest [d1]) :
  ∀ {dp un : Nat} {gd : Option (List Code)} {cn : Str} {cs : Scope} {a : Addr} {ccd : Value} {outer : List Env} {A₀ : Around} {base h₀ : Heap} {L : Addr} {m : Str → Option Value} {s : Shared} {Q E : Value → Shared → Prop},
    ∀ (cB : Below A₀ base outer h₀) (cF : Fr h₀ L s.heap m) (cX : (hd.heap_39 w.params).In h₀) (cN : News h₀ L s.heap ((d1, serD w v1 b ka ta kb tb) :: rest)) (cT : Top hd.view_39 (looseW hd.view_39 []) mean mg mb h₀) (cK : cs.kind = .function) (cD : dp + 8 < recursionLimit) (cU : un + 48 < cLine),

    ∀ (XB : (hd.heap_39 w.params).In base),
    ∀ (TB : Top hd.view_39 (looseW hd.view_39 []) mean mg mb base),
    ∀ (KD : KtsDicts (outer.filterMap (·.frame)) h₀),
    ∀ (hnone : ∀ h₁ h' tk', KtsTurn (outer.filterMap (·.frame)) h₀ h₁ → Fr h₁ L h' m → News h₁ L h' ((d1, serD w v1 b ka ta kb tb) :: rest) → Below A₀ base outer h₁ → (hd.heap_39 w.params).In h₁ → Top hd.view_39 (looseW hd.view_39 []) mean mg mb h₁ → KtsDicts (outer.filterMap (·.frame)) h₁ → Q .none { s with heap := h', toks := tk' }),
    wpAny (model PySem.Challenge.rw_ji0012_01.row.prog w) (ktrTop dp un gd cn cs L a ccd [] outer) (call (.ref 142) [.int how th, .ref x1, .str y ty]) Q E s := by
  obtain ⟨hb1, hb2, hF, hH, hfh, hh1, hh2⟩ := id hz
  intro dp un gd cn cs a ccd outer A₀ base h₀ L m s Q E B F X N T hk hD hU XB TB KD hnone
  refine wpAny_call ?_
  k_dflt (refine' code_defS ?k1 ?k2 ?k3 ?k4 ?k5 ?XB ?TB ?D ?T0 ?kA ?k6 ?k7 ?k8 ?k9 ?kB ?_ ?cK ?c2 ?c3 ?c4 ?c5; (case kA => exact rfl); (case k2 => k_asm); (case k1 => k_asm); (case XB => assumption); (case TB => assumption); (case D => assumption); (case T0 => exact KtsTurn.refl); (case k3 => k_asm); (case k4 => k_asm); (case k5 => k_asm); (case k6 => k_is); (case k7 => k_is); (case k8 => ktr_room); (case k9 => first | exact binds_K (by k_in) rfl (by k_is) rfl rfl rfl | exact BindsTo.of_eq rfl); (case kB => exact locs rfl); (case cK => assumption); (case c2 => exact rfl); (case c3 => exact rfl); (case c4 => exact rfl); (case c5 => decide); k_whole; intro g' L' h' FG' F' N' B' X' T' D'; (try dsimp only); (try k_lift B'); (try k_fold))
  repeat' (first | (k_unfold; (try dsimp only)) | (k_end; kc_close) | ((fail_if_success (with_reducible show InvEnd _ _ _ _ _ _)); walk1 <;> (try dsimp only)) | (dsimp only; walk1) | (leave1; walk_say "STEP leave1"; try dsimp only) | fail "no step")
  all_goals first
    | exact hnone _ _ _ (by assumption) (by assumption) (by assumption) (by assumption) (by assumption) (by assumption) (by assumption)
    | exact hnone _ _ _ KtsTurn.refl (by assumption) (by assumption) B X T KD


set_option maxHeartbeats 8000000 in
theorem c_done_o {w : World} {mean : ExcName → Option Value} {mg mb : Str → Option Value} {v1 b half full : Int} {x1 d1 : Addr} {ka ta kb tb : Tok} {v2 : Int} {x2 d2 : Addr} {kc tc kd td : Tok} {how dv : Int} {o : Value} {th : Tok} {rest : List (Addr × Obj)} (hz : Sz b half full) (hv0 : 0 ≤ v1) (hv1 : v1 < full) (hu0 : 0 ≤ v2) (hu1 : v2 < full) (hh0 : 0 ≤ how) (hh3 : how ≤ 3) (hx : (x1, instObj 109 d1) ∈ rest) (hoff : OwnOff rest [d1]) (hy : (x2, instObj 109 d2) ∈ (d1, serD w v1 b ka ta kb tb) :: rest) (hyd : (d2, serD w v2 b kc tc kd td) ∈ (d1, serD w v1 b ka ta kb tb) :: rest) (hR : (∃ t, o = .int dv t) ∨ (o = .ref x2 ∧ dv = v2) ∨ (∃ y t, o = .str y t ∧ dv = half)) :
  ∀ {dp un : Nat} {gd : Option (List Code)} {cn : Str} {cs : Scope} {a : Addr} {ccd : Value} {outer : List Env} {A₀ : Around} {base h₀ : Heap} {L : Addr} {m : Str → Option Value} {s : Shared} {Q E : Value → Shared → Prop},
    ∀ (cB : Below A₀ base outer h₀) (cF : Fr h₀ L s.heap m) (cX : (hd.heap_39 w.params).In h₀) (cN : News h₀ L s.heap ((d1, serD w v1 b ka ta kb tb) :: rest)) (cT : Top hd.view_39 (looseW hd.view_39 []) mean mg mb h₀) (cK : cs.kind = .function) (cD : dp + 8 < recursionLimit) (cU : un + 48 < cLine),

    ∀ (XB : (hd.heap_39 w.params).In base),
    ∀ (TB : Top hd.view_39 (looseW hd.view_39 []) mean mg mb base),
    ∀ (KD : KtsDicts (outer.filterMap (·.frame)) h₀),
    ∀ (hnone : half ≤ dv ∨ dv ≤ -half → ∀ h₁ h' tk', KtsTurn (outer.filterMap (·.frame)) h₀ h₁ → Fr h₁ L h' m → News h₁ L h' ((d1, serD w v1 b ka ta kb tb) :: rest) → Below A₀ base outer h₁ → (hd.heap_39 w.params).In h₁ → Top hd.view_39 (looseW hd.view_39 []) mean mg mb h₁ → KtsDicts (outer.filterMap (·.frame)) h₁ → Q .none { s with heap := h', toks := tk' }),
    ∀ (hnew : how ≤ 1 → -half < dv → dv < half → ∀ y dy k1 t1 k2 t2, ∀ h₁ h' tk', KtsTurn (outer.filterMap (·.frame)) h₀ h₁ → Fr h₁ L h' m → News h₁ L h' ((y, instObj 109 dy) :: (dy, serD w (moved v1 (sgn how dv) full) b k1 t1 k2 t2) :: (d1, serD w v1 b ka ta kb tb) :: rest) → Below A₀ base outer h₁ → (hd.heap_39 w.params).In h₁ → Top hd.view_39 (looseW hd.view_39 []) mean mg mb h₁ → KtsDicts (outer.filterMap (·.frame)) h₁ → (∀ p ∈ (d1, serD w v1 b ka ta kb tb) :: rest, p.1 < dy) → dy < y → Q (.ref y) { s with heap := h', toks := tk' }),
    ∀ (hin : 2 ≤ how → -half < dv → dv < half → ∀ k1 t1 k2 t2, ∀ h₁ h' tk', KtsTurn (outer.filterMap (·.frame)) h₀ h₁ → Fr h₁ L h' m → News h₁ L h' ((d1, serD w (moved v1 (sgn how dv) full) b k1 t1 k2 t2) :: rest) → Below A₀ base outer h₁ → (hd.heap_39 w.params).In h₁ → Top hd.view_39 (looseW hd.view_39 []) mean mg mb h₁ → KtsDicts (outer.filterMap (·.frame)) h₁ → Q (.ref x1) { s with heap := h', toks := tk' }),
    wpAny (model PySem.Challenge.rw_ji0012_01.row.prog w) (ktrTop dp un gd cn cs L a ccd [] outer) (call (.ref 142) [.int how th, .ref x1, o]) Q E s := by
  intro dp un gd cn cs a ccd outer A₀ base h₀ L m s Q E B F X N T hk hD hU XB TB KD hnone hnew hin
  rcases hR with ⟨td, rfl⟩ | ⟨rfl, rfl⟩ | ⟨y, ty, rfl, rfl⟩
  · exact c_done_i hz hv0 hv1 hh0 hh3 hx hoff B F X N T hk hD hU XB TB KD hnone hnew hin
  · exact c_done_s hz hv0 hv1 hu0 hu1 hh0 hh3 hx hoff hy hyd B F X N T hk hD hU XB TB KD hnone hnew hin
  · exact c_done_t hz hh0 hh3 hx hoff B F X N T hk hD hU XB TB KD (hnone (.inl (Int.le_refl _)))


set_option maxHeartbeats 8000000 in
theorem c_compared_s {w : World} {mean : ExcName → Option Value} {mg mb : Str → Option Value} {v1 b half full : Int} {x1 d1 : Addr} {ka ta kb tb : Tok} {v2 : Int} {x2 d2 : Addr} {kc tc kd td : Tok} {gap : Int} {tg th : Tok} {news : List (Addr × Obj)} (hz : Sz b half full) (hx : (x1, instObj 109 d1) ∈ news) (hxd : (d1, serD w v1 b ka ta kb tb) ∈ news) (hy : (x2, instObj 109 d2) ∈ news) (hyd : (d2, serD w v2 b kc tc kd td) ∈ news) (hv0 : 0 ≤ v1) (hv1 : v1 < full) (hu0 : 0 ≤ v2) (hu1 : v2 < full) (hg : gap = moved v2 (-v1) full) :
  ∀ {dp un : Nat} {gd : Option (List Code)} {cn : Str} {cs : Scope} {a : Addr} {ccd : Value} {cl : List (Str × Addr)} {outer : List Env} {A₀ : Around} {base h₀ : Heap} {L : Addr} {m : Str → Option Value} {s : Shared} {Q E : Value → Shared → Prop},
    ∀ (cB : Below A₀ base outer h₀) (cF : Fr h₀ L s.heap m) (cX : (hd.heap_39 w.params).In h₀) (cN : News h₀ L s.heap news) (cT : Top hd.view_39 (looseW hd.view_39 []) mean mg mb h₀) (cK : cs.kind = .function) (cD : dp + 6 < recursionLimit) (cU : un + 48 < cLine),

    ∀ (hret : ∀ h' tk', Fr h₀ L h' m → News h₀ L h' news → Q (.bool true) { s with heap := h', toks := tk' }),
    wpAny (model PySem.Challenge.rw_ji0012_01.row.prog w) (ktrTop dp un gd cn cs L a ccd cl outer) (call (.ref 163) [.ref x1, .ref x2, .int gap tg, .int half th]) Q E s := by
  obtain ⟨hb1, hb2, hF, hH, hfh, hh1, hh2⟩ := id hz
  intro dp un gd cn cs a ccd cl outer A₀ base h₀ L m s Q E B F X N T hk hD hU hret
  have hE := gap_of hv0 hv1 hu0 hu1 hg
  by_cases hp : 0 < gap
  · obtain ⟨f1, f2, f3, f4, f5, f6, f7, f8⟩ := cmp_pos hfh hh1 hv0 hv1 hu0 hu1 hE hp
    clear hE hp
    refine wpAny_call ?_
    k_dflt cell_enter
    repeat' (first | (k_unfold; (try dsimp only)) | (k_end; kc_close) | ((fail_if_success (with_reducible show InvEnd _ _ _ _ _ _)); walk1 <;> (try dsimp only)) | (dsimp only; walk1) | (leave1; walk_say "STEP leave1"; try dsimp only) | fail "no step")
    all_goals exact ret_bool hret (by assumption) (by assumption) (by intro p hp; k_ownIn) (by assumption)
  · obtain ⟨f1, f2, f3, f4, f5, f6, f7, f8⟩ := cmp_zero hfh hh1 hv0 hv1 hu0 hu1 hE hp
    clear hE hp
    refine wpAny_call ?_
    k_dflt cell_enter
    repeat' (first | (k_unfold; (try dsimp only)) | (k_end; kc_close) | ((fail_if_success (with_reducible show InvEnd _ _ _ _ _ _)); walk1 <;> (try dsimp only)) | (dsimp only; walk1) | (leave1; walk_say "STEP leave1"; try dsimp only) | fail "no step")
    all_goals exact ret_bool hret (by assumption) (by assumption) (by intro p hp; k_ownIn) (by assumption)


set_option maxHeartbeats 8000000 in
theorem c_compared_i {w : World} {mean : ExcName → Option Value} {mg mb : Str → Option Value} {v1 b half full : Int} {x1 d1 : Addr} {ka ta kb tb : Tok} {u gap : Int} {tu tg th : Tok} {news : List (Addr × Obj)} (hz : Sz b half full) (hx : (x1, instObj 109 d1) ∈ news) (hxd : (d1, serD w v1 b ka ta kb tb) ∈ news) (hv0 : 0 ≤ v1) (hv1 : v1 < full) (hg : gap = moved (u.fmod full) (-v1) full) :
  ∀ {dp un : Nat} {gd : Option (List Code)} {cn : Str} {cs : Scope} {a : Addr} {ccd : Value} {cl : List (Str × Addr)} {outer : List Env} {A₀ : Around} {base h₀ : Heap} {L : Addr} {m : Str → Option Value} {s : Shared} {Q E : Value → Shared → Prop},
    ∀ (cB : Below A₀ base outer h₀) (cF : Fr h₀ L s.heap m) (cX : (hd.heap_39 w.params).In h₀) (cN : News h₀ L s.heap news) (cT : Top hd.view_39 (looseW hd.view_39 []) mean mg mb h₀) (cK : cs.kind = .function) (cD : dp + 8 < recursionLimit) (cU : un + 64 < cLine),

    ∀ (hret : ∀ h' tk', Fr h₀ L h' m → News h₀ L h' news → Q (.bool true) { s with heap := h', toks := tk' }),
    wpAny (model PySem.Challenge.rw_ji0012_01.row.prog w) (ktrTop dp un gd cn cs L a ccd cl outer) (call (.ref 163) [.ref x1, .int u tu, .int gap tg, .int half th]) Q E s := by
  obtain ⟨hb1, hb2, hF, hH, hfh, hh1, hh2⟩ := id hz
  intro dp un gd cn cs a ccd cl outer A₀ base h₀ L m s Q E B F X N T hk hD hU hret
  have hU0 := (fmod_in (a := u) (full := full) (by omega)).1
  have hU1 := (fmod_in (a := u) (full := full) (by omega)).2
  have hE := gap_of hv0 hv1 hU0 hU1 hg
  by_cases hp : 0 < gap
  · obtain ⟨f1, f2, f3, f4, f5, f6, f7, f8⟩ := cmp_pos hfh hh1 hv0 hv1 hU0 hU1 hE hp
    clear hE hp
    refine wpAny_call ?_
    k_dflt cell_enter
    repeat' (first | (k_unfold; (try dsimp only)) | (k_end; kc_close) | ((fail_if_success (with_reducible show InvEnd _ _ _ _ _ _)); walk1 <;> (try dsimp only)) | (dsimp only; walk1) | (leave1; walk_say "STEP leave1"; try dsimp only) | fail "no step")
    all_goals exact ret_bool hret (by assumption) (by assumption) (by intro p hp; k_ownIn) (by assumption)
  · obtain ⟨f1, f2, f3, f4, f5, f6, f7, f8⟩ := cmp_zero hfh hh1 hv0 hv1 hU0 hU1 hE hp
    clear hE hp
    refine wpAny_call ?_
    k_dflt cell_enter
    repeat' (first | (k_unfold; (try dsimp only)) | (k_end; kc_close) | ((fail_if_success (with_reducible show InvEnd _ _ _ _ _ _)); walk1 <;> (try dsimp only)) | (dsimp only; walk1) | (leave1; walk_say "STEP leave1"; try dsimp only) | fail "no step")
    all_goals exact ret_bool hret (by assumption) (by assumption) (by intro p hp; k_ownIn) (by assumption)


set_option maxHeartbeats 8000000 in
theorem c_forward {w : World} {mean : ExcName → Option Value} {mg mb : Str → Option Value} {v1 b half full : Int} {x1 d1 : Addr} {ka ta kb tb : Tok} {d : Int} {td : Tok} {news : List (Addr × Obj)} (hz : Sz b half full) (hx : (x1, instObj 109 d1) ∈ news) (hxd : (d1, serD w v1 b ka ta kb tb) ∈ news) (hv0 : 0 ≤ v1) (hv1 : v1 < full) (hd1 : 1 ≤ d) (hdh : d < half) :
  ∀ {dp un : Nat} {gd : Option (List Code)} {cn : Str} {cs : Scope} {a : Addr} {ccd : Value} {cl : List (Str × Addr)} {outer : List Env} {A₀ : Around} {base h₀ : Heap} {L : Addr} {m : Str → Option Value} {s : Shared} {Q E : Value → Shared → Prop},
    ∀ (cB : Below A₀ base outer h₀) (cF : Fr h₀ L s.heap m) (cX : (hd.heap_39 w.params).In h₀) (cN : News h₀ L s.heap news) (cT : Top hd.view_39 (looseW hd.view_39 []) mean mg mb h₀) (cK : cs.kind = .function) (cD : dp + 8 < recursionLimit) (cU : un + 64 < cLine),

    ∀ (hret : ∀ h' tk', Fr h₀ L h' m → News h₀ L h' news → Q (.bool true) { s with heap := h', toks := tk' }),
    wpAny (model PySem.Challenge.rw_ji0012_01.row.prog w) (ktrTop dp un gd cn cs L a ccd cl outer) (call (.ref 184) [.ref x1, .int d td]) Q E s := by
  obtain ⟨hb1, hb2, hF, hH, hfh, hh1, hh2⟩ := id hz
  intro dp un gd cn cs a ccd cl outer A₀ base h₀ L m s Q E B F X N T hk hD hU hret
  obtain ⟨f1, f2, f3, f4, f5, f6, f7, f8, f9, f10⟩ := fwd_facts hfh hv0 hv1 hd1 hdh
  have m1 := moved_in hv0 hv1 (show -full < d by omega) (show d < full by omega)
  have m2 := moved_in hv0 hv1 (show -full < -d by omega) (show -d < full by omega)
  obtain ⟨m1a, m1b⟩ := m1
  obtain ⟨m2a, m2b⟩ := m2
  refine wpAny_call ?_
  k_dflt cell_enter
  repeat' (first | (k_unfold; (try dsimp only)) | (k_end; kc_close) | ((fail_if_success (with_reducible show InvEnd _ _ _ _ _ _)); walk1 <;> (try dsimp only)) | (dsimp only; walk1) | (leave1; walk_say "STEP leave1"; try dsimp only) | fail "no step")
  all_goals exact ret_bool hret (by assumption) (by assumption) (by intro p hp; k_ownIn) (by assumption)


local macro_rules | `(tactic| walk_at "mine item") => `(tactic| (k_here; (with_reducible show wpAny _ _ (subscriptTail _ _ (Value.ref _) (Value.int _ _)) _ _ _); k_dflt (refine' item_led ?kN ?kM ?k2 ?k3 ?kx ?_ ?k6; (case kN => k_asm); (case kM => k_mem); (case kx => with_reducible assumption); (case k2 => (first | with_reducible assumption | omega)); (case k3 => omega); (case k6 => with_unfolding_all rfl); k_whole)))
local macro_rules | `(tactic| walk_at "subscriptTail Name Name ref int") => `(tactic| walk_at "mine item")
local macro_rules | `(tactic| walk_at "subscriptTail Name Subscript ref int") => `(tactic| walk_at "mine item")
local macro_rules | `(tactic| walk_at "subscriptTail Name BinOp ref int") => `(tactic| walk_at "mine item")
local macro_rules | `(tactic| walk_at "call builtin:len") => `(tactic| (k_here; (with_reducible show wpAny _ _ (call (Value.builtin "len") [Value.ref _]) _ _ _); k_dflt (refine' kst_len ?k1 ?k2 ?k3 ?k4 ?_; (case k1 => k_asm); (case k2 => k_mem); (case k3 => assumption); (case k4 => omega); k_whole)))

set_option maxHeartbeats 8000000 in
theorem c_values {w : World} {mean : ExcName → Option Value} {mg mb : Str → Option Value} {b half full : Int} {pa ca va : Addr} {obs : List (Addr × Addr)} {vals : List Int} {ks : List Nat} {tb : Tok} {news : List (Addr × Obj)} (hP : Pool w b full pa ca va obs vals ks news) (hkl : ks.length ≤ 100) (hob : obs.length ≤ 100) :
  ∀ {dp un : Nat} {gd : Option (List Code)} {cn : Str} {cs : Scope} {a : Addr} {ccd : Value} {cl : List (Str × Addr)} {outer : List Env} {A₀ : Around} {base h₀ : Heap} {L : Addr} {m : Str → Option Value} {s : Shared} {Q E : Value → Shared → Prop},
    ∀ (cB : Below A₀ base outer h₀) (cF : Fr h₀ L s.heap m) (cX : (hd.heap_39 w.params).In h₀) (cN : News h₀ L s.heap news) (cT : Top hd.view_39 (looseW hd.view_39 []) mean mg mb h₀) (cK : cs.kind = .function) (cD : dp + 2 < recursionLimit) (cU : un + 16 < cLine),

    ∀ (hret : ∀ h' tk', Fr h₀ L h' m → News h₀ L h' news → Q (.bool true) { s with heap := h', toks := tk' }),
    wpAny (model PySem.Challenge.rw_ji0012_01.row.prog w) (ktrTop dp un gd cn cs L a ccd cl outer) (call (.ref 170) [.ref pa, .ref ca, .ref va, .int b tb]) Q E s := by
  intro dp un gd cn cs a ccd cl outer A₀ base h₀ L m s Q E B F X N T hk hD hU hret
  obtain ⟨np, hp⟩ := hP.pool
  obtain ⟨cv, nc, hc, hci⟩ := hP.cells
  obtain ⟨us, nu, hu, hui⟩ := hP.values
  generalize hps : (ks.map fun k => Value.ref (obs.getD k (0, 0)).1) = ps at hp
  have hpl : ps.length = ks.length := by rw [← hps, List.length_map]
  refine wpAny_call ?_
  k_dflt cell_enter
  repeat' (first | (k_unfold; (try dsimp only)) | (k_end; kc_close) | ((fail_if_success (with_reducible show wpAny _ _ (pyIter _) _ _ _)); (fail_if_success (with_reducible show InvEnd _ _ _ _ _ _)); walk1 <;> (try dsimp only)) | ((fail_if_success (with_reducible show wpAny _ _ (pyIter _) _ _ _)); (fail_if_success (with_reducible show InvEnd _ _ _ _ _ _)); dsimp only; walk1) | ((fail_if_success (with_reducible show wpAny _ _ (pyIter _) _ _ _)); (fail_if_success (with_reducible show InvEnd _ _ _ _ _ _)); leave1; walk_say "STEP leave1"; try dsimp only) | fail "no step")
  with_unfolding_all refine' iter_range ks.length [] rfl ?hr ?hs ?rs ?hF ?hN ?turn ?done
  case hr => assumption
  case rs => exact rs0 _
  case hs => exact rsm hkl
  case hF => k_asm
  case hN => k_asm
  · intro i t u h tk own hi F1 N1
    refine hP.atC hi ?_
    intro k x d v k1 t1 k2 t2 e1 e2 e3 e4 e5 e6 e7 e8 e9
    obtain ⟨tc, e10⟩ := intsAre_at hci (i := i) (by simpa using hi)
    obtain ⟨tv, e11⟩ := intsAre_at hui (i := k) (by rw [hP.len]; exact e2)
    have ei : ((0 : Int) + (i : Int)).toNat = i := by omega
    rw [hps] at e5
    replace e5 : ps[((0 : Int) + (i : Int)).toNat]? = some (.ref x) := by rw [ei]; exact e5
    replace e10 : cv[((0 : Int) + (i : Int)).toNat]? = some (.int (k : Int) tc) := by rw [ei, e10, map_ofNat_getD e1]
    replace e11 : us[((k : Int)).toNat]? = some (.int v tv) := by rw [Int.toNat_natCast, e11, e4]
    repeat' (first | (k_unfold; (try dsimp only)) | (k_end; kc_close) | ((fail_if_success (with_reducible show InvEnd _ _ _ _ _ _)); walk1 <;> (try dsimp only)) | (dsimp only; walk1) | (leave1; walk_say "STEP leave1"; try dsimp only) | fail "no step")
    all_goals first
      | (exfalso; omega)
      | (refine InvEnd.intro (by assumption) (by assumption) (by intro p hp; first | exact hp | k_ownIn) ?_; intro z h1 h2; first | rfl | (simp [h1, h2]; done) | (simp_all; done))
  · intro u h tk F1 N1
    dsimp only
    repeat' (first | (k_unfold; (try dsimp only)) | (k_end; kc_close) | ((fail_if_success (with_reducible show InvEnd _ _ _ _ _ _)); walk1 <;> (try dsimp only)) | (dsimp only; walk1) | (leave1; walk_say "STEP leave1"; try dsimp only) | fail "no step")
    all_goals exact ret_bool hret (by assumption) (by assumption) (by intro p hp; first | exact hp | k_ownIn) rfl


local macro_rules | `(tactic| walk_at "call ref") => `(tactic| (k_here; k_dflt ((first | ((with_reducible show wpAny _ _ (call (Value.ref 163) [_, Value.ref _, _, _]) _ _ _); apply c_compared_s) | ((with_reducible show wpAny _ _ (call (Value.ref 163) [_, Value.int _ _, _, _]) _ _ _); apply c_compared_i) | ((with_reducible show wpAny _ _ (call (Value.ref 184) [_, Value.int _ _]) _ _ _); apply c_forward) | ((with_reducible show wpAny _ _ (call (Value.ref 170) [_, Value.ref _, _, _]) _ _ _); apply c_values (half := 0))); walk_at "mine cases"); walk_at "mine keep"))

local macro_rules | `(tactic| walk_at "eval Call") => `(tactic| (k_here; k_dflt (refine Call_ ?_)))
local macro_rules | `(tactic| walk_at "compareOp Is ref ref") => `(tactic| (k_here; with_reducible refine wpAny_is_ref_self ?_))

set_option maxHeartbeats 8000000 in
theorem c_deed {w : World} {mean : ExcName → Option Value} {mg mb : Str → Option Value} {b half full : Int} {pa ca va : Addr} {obs : List (Addr × Addr)} {vals : List Int} {ks : List Nat} {number : Int} {tn tb : Tok} {news : List (Addr × Obj)} (hz : Sz b half full) (hP : Pool w b full pa ca va obs vals ks news) (hkl : ks.length ≤ 50) (hob : obs.length ≤ 50) (hk1 : 1 ≤ ks.length) :
  ∀ {dp un : Nat} {gd : Option (List Code)} {cn : Str} {cs : Scope} {a : Addr} {ccd : Value} {A₀ : Around} {base h₀ : Heap} {L : Addr} {m : Str → Option Value} {s : Shared} {Q E : Value → Shared → Prop},
    ∀ (cB : Below A₀ base [] h₀) (cF : Fr h₀ L s.heap m) (cX : (hd.heap_39 w.params).In h₀) (cN : News h₀ L s.heap news) (cT : Top hd.view_39 (looseW hd.view_39 []) mean mg mb h₀) (cK : cs.kind = .function) (cD : dp + 12 < recursionLimit) (cU : un + 96 < cLine),

    ∀ (XB : (hd.heap_39 w.params).In base),
    ∀ (TB : Top hd.view_39 (looseW hd.view_39 []) mean mg mb base),
    ∀ (hret : ∀ obs' vals' ks' news' h' tk', Fr h₀ L h' m → News h₀ L h' news' → Pool w b full pa ca va obs' vals' ks' news' → ks.length ≤ ks'.length → ks'.length ≤ ks.length + 1 → obs'.length ≤ obs.length + 1 → (∀ p ∈ news, p.2.cls ≠ .type "list" → p.2.cls ≠ .type "dict" → p ∈ news') → Q (.bool true) { s with heap := h', toks := tk' }),
    wpAny (model PySem.Challenge.rw_ji0012_01.row.prog w) (ktrTop dp un gd cn cs L a ccd [] []) (call (.ref 177) [.int number tn, .ref pa, .ref ca, .ref va, .int b tb]) Q E s := by
  obtain ⟨hb1, hb2, hF, hH, hfh, hh1, hh2⟩ := id hz
  intro dp un gd cn cs a ccd A₀ base h₀ L m s Q E B F X N T hk hD hU XB TB hret
  obtain ⟨np, hp⟩ := hP.pool
  obtain ⟨cv, nc, hc, hci⟩ := hP.cells
  obtain ⟨us, nu, hu, hui⟩ := hP.values
  generalize hps : (ks.map fun k => Value.ref (obs.getD k (0, 0)).1) = ps at hp
  have hpl : ps.length = ks.length := by rw [← hps, List.length_map]
  have hul : us.length = vals.length := hui.length
  have hvl := hP.len
  have hn0 : (0 : Int) < (ks.length : Int) := by omega
  have hE1 := fmod_in (a := number.fdiv 32) (full := (ks.length : Int)) hn0
  refine hP.atC (i := ((number.fdiv 32).fmod (ks.length : Int)).toNat) (by omega) ?_
  intro k1 x1 d1 v1 ka1 ta1 kb1 tb1 p11 p21 p31 p41 p51 p61 p71 p81 p91
  obtain ⟨tc1, q11⟩ := intsAre_at hci (i := ((number.fdiv 32).fmod (ks.length : Int)).toNat) (by rw [List.length_map]; omega)
  obtain ⟨tv1, q21⟩ := intsAre_at hui (i := k1) (by rw [hP.len]; exact p21)
  rw [hps] at p51
  rw [map_ofNat_getD p11] at q11
  replace q21 : us[((k1 : Int)).toNat]? = some (.int v1 tv1) := by rw [Int.toNat_natCast, q21, p41]
  have hE2 := fmod_in (a := (number.fdiv 32).fdiv (ks.length : Int)) (full := (ks.length : Int)) hn0
  refine hP.atC (i := (((number.fdiv 32).fdiv (ks.length : Int)).fmod (ks.length : Int)).toNat) (by omega) ?_
  intro k2 x2 d2 v2 ka2 ta2 kb2 tb2 p12 p22 p32 p42 p52 p62 p72 p82 p92
  obtain ⟨tc2, q12⟩ := intsAre_at hci (i := (((number.fdiv 32).fdiv (ks.length : Int)).fmod (ks.length : Int)).toNat) (by rw [List.length_map]; omega)
  obtain ⟨tv2, q22⟩ := intsAre_at hui (i := k2) (by rw [hP.len]; exact p22)
  rw [hps] at p52
  rw [map_ofNat_getD p12] at q12
  replace q22 : us[((k2 : Int)).toNat]? = some (.int v2 tv2) := by rw [Int.toNat_natCast, q22, p42]
  have hw := fmod_in (a := number) (full := 4) (by decide)
  have hpar := par4 number
  have N2 := news_off N p71
  have hsp : ∀ q ∈ news, q ∈ (d1, serD w v1 b ka1 ta1 kb1 tb1) :: off d1 news := fun q hq => mem_split N p71 hq
  have s1 : (pa, listOf ps.toArray np) ∈ off d1 news := mem_off.mpr ⟨hp, ne_list N hp p71 dict_ne⟩
  have s2 : (ca, listOf cv.toArray nc) ∈ off d1 news := mem_off.mpr ⟨hc, ne_list N hc p71 dict_ne⟩
  have s3 : (va, listOf us.toArray nu) ∈ off d1 news := mem_off.mpr ⟨hu, ne_list N hu p71 dict_ne⟩
  have s5 := mem_split N p71 p62
  have s6 := mem_split N p71 p72
  have r1 : (x1, instObj 109 d1) ∈ off d1 news := mem_off.mpr ⟨p61, ne_inst N p61 p71 (by intro e; cases e)⟩
  have hoff : OwnOff (off d1 news) [d1] := off_off
  have hback : ∀ p ∈ news, p.1 ≠ d1 → p ∈ off d1 news := fun p h1 h2 => mem_off.mpr ⟨h1, h2⟩
  have N0 := N
  clear N
  obtain ⟨qa1, qa2, qa3⟩ := hP.apart
  have qd := ne_list N0 hu p71 dict_ne
  generalize off d1 news = rest at N2 hsp s1 s2 s3 s5 s6 r1 hoff hback
  refine wpAny_call ?_
  k_dflt (refine' code_defS0 ?k1 ?k2 ?k3 ?k4 ?k5 ?kA ?k6 ?k7 ?k8 ?k9 ?kB ?_ ?cK ?c2 ?c3 ?c4 ?c5; (case kA => exact rfl); (case k2 => k_asm); (case k1 => k_asm); (case k3 => k_asm); (case k4 => k_asm); (case k5 => k_asm); (case k6 => k_is); (case k7 => k_is); (case k8 => ktr_room); (case k9 => first | exact binds_K (by k_in) rfl (by k_is) rfl rfl rfl | exact BindsTo.of_eq rfl); (case kB => exact locs rfl); (case cK => assumption); (case c2 => exact rfl); (case c3 => exact rfl); (case c4 => exact rfl); (case c5 => decide); k_whole; intro g' L' h' FG' F' N' B' X' T' D'; (try dsimp only); (try k_lift B'); (try k_fold))
  repeat' (first | (k_unfold; (try dsimp only)) | (k_end; kc_close) | ((fail_if_success (with_reducible show wpAny _ _ (pyIter _) _ _ _)); (fail_if_success (with_reducible show wpAny _ _ (exec (Stmt.If _ _ _ _) _) _ _ _)); (fail_if_success (with_reducible show InvEnd _ _ _ _ _ _)); walk1 <;> (try dsimp only)) | ((fail_if_success (with_reducible show wpAny _ _ (pyIter _) _ _ _)); (fail_if_success (with_reducible show wpAny _ _ (exec (Stmt.If _ _ _ _) _) _ _ _)); (fail_if_success (with_reducible show InvEnd _ _ _ _ _ _)); dsimp only; walk1) | ((fail_if_success (with_reducible show wpAny _ _ (pyIter _) _ _ _)); (fail_if_success (with_reducible show wpAny _ _ (exec (Stmt.If _ _ _ _) _) _ _ _)); (fail_if_success (with_reducible show InvEnd _ _ _ _ _ _)); leave1; walk_say "STEP leave1"; try dsimp only) | fail "no step")
  rename Fr _ _ _ _ => FJ
  rename News _ _ _ _ => NJ
  refine join_step (fun o dv => (∃ t, o = .int dv t) ∨ (o = .ref x2 ∧ dv = v2) ∨ (∃ y t, o = .str y t ∧ dv = half)) FJ NJ ?_ ?_
  · clear hret
    repeat' (first | (k_unfold; (try dsimp only)) | (k_end; kc_close) | ((fail_if_success (with_reducible show InvEnd _ _ _ _ _ _)); walk1 <;> (try dsimp only)) | (dsimp only; walk1) | (leave1; walk_say "STEP leave1"; try dsimp only) | fail "no step")
    all_goals first
      | exact StepEnd.swap (by assumption) (by assumption) (by intro p hp; exact hp) (.inl ⟨_, rfl⟩)
      | exact StepEnd.same (by assumption) (by assumption) (by intro p hp; exact hp) (.inr (.inl ⟨rfl, rfl⟩))
      | exact StepEnd.same (by assumption) (by assumption) (by intro p hp; exact hp) (.inr (.inr ⟨_, _, rfl, rfl⟩))
  · intro o dv tdv h1 tk1 hR FJ2 NJ2
    clear FJ NJ
    try dsimp only
    obtain ⟨e, he⟩ : ∃ e, e = sgn (number.fmod 4) dv := ⟨_, rfl⟩
    have hx := sgn_out (how := number.fmod 4) (d := dv) (h := half)
    rw [← he] at hx
    repeat' (first | (k_unfold; (try dsimp only)) | (k_end; kc_close) | ((fail_if_success (with_reducible show wpAny _ _ (pyIter _) _ _ _)); (fail_if_success (with_reducible show wpAny _ _ (exec (Stmt.If _ _ _ _) _) _ _ _)); (fail_if_success (with_reducible show InvEnd _ _ _ _ _ _)); walk1 <;> (try dsimp only)) | ((fail_if_success (with_reducible show wpAny _ _ (pyIter _) _ _ _)); (fail_if_success (with_reducible show wpAny _ _ (exec (Stmt.If _ _ _ _) _) _ _ _)); (fail_if_success (with_reducible show InvEnd _ _ _ _ _ _)); dsimp only; walk1) | ((fail_if_success (with_reducible show wpAny _ _ (pyIter _) _ _ _)); (fail_if_success (with_reducible show wpAny _ _ (exec (Stmt.If _ _ _ _) _) _ _ _)); (fail_if_success (with_reducible show InvEnd _ _ _ _ _ _)); leave1; walk_say "STEP leave1"; try dsimp only) | fail "no step")
    refine join_neg e FJ2 NJ2 ?_ ?_
    · clear hret
      repeat' (first | (k_unfold; (try dsimp only)) | (k_end; kc_close) | ((fail_if_success (with_reducible show InvEnd _ _ _ _ _ _)); walk1 <;> (try dsimp only)) | (dsimp only; walk1) | (leave1; walk_say "STEP leave1"; try dsimp only) | fail "no step")
      all_goals first
        | (refine NegEnd.over (by assumption) (by assumption) (by intro p hp; exact hp) ?_; rw [he]; exact (sgn_1 (by omega)).symm)
        | (refine NegEnd.same (by assumption) (by assumption) (by intro p hp; exact hp) ?_; rw [he]; exact (sgn_0 (by omega)).symm)
    intro te h3 tk3 FJ3 NJ3
    clear FJ2 NJ2
    try dsimp only
    repeat' (first | (k_unfold; (try dsimp only)) | (k_end; kc_close) | ((fail_if_success (with_reducible show wpAny _ _ (pyIter _) _ _ _)); (fail_if_success (with_reducible show wpAny _ _ (call (Value.ref 142) _) _ _ _)); (fail_if_success (with_reducible show InvEnd _ _ _ _ _ _)); walk1 <;> (try dsimp only)) | ((fail_if_success (with_reducible show wpAny _ _ (pyIter _) _ _ _)); (fail_if_success (with_reducible show wpAny _ _ (call (Value.ref 142) _) _ _ _)); (fail_if_success (with_reducible show InvEnd _ _ _ _ _ _)); dsimp only; walk1) | ((fail_if_success (with_reducible show wpAny _ _ (pyIter _) _ _ _)); (fail_if_success (with_reducible show wpAny _ _ (call (Value.ref 142) _) _ _ _)); (fail_if_success (with_reducible show InvEnd _ _ _ _ _ _)); leave1; walk_say "STEP leave1"; try dsimp only) | fail "no step")
    refine' c_done_o hz p81 p91 p82 p92 (by omega) (by omega) r1 hoff s5 s6 hR B' (by k_asm) X' (by k_asm) T' rfl (by ktr_room) (by ktr_units) XB TB D' ?_ ?_ ?_
    · intro hbad h₁ h2 tk2 K1 F1 N1 B1 X1 P1 D1
      replace hbad := hx.mpr hbad
      clear hx hR
      repeat' (first | (k_unfold; (try dsimp only)) | (k_end; kc_close) | ((fail_if_success (with_reducible show InvEnd _ _ _ _ _ _)); walk1 <;> (try dsimp only)) | (dsimp only; walk1) | (leave1; walk_say "STEP leave1"; try dsimp only) | fail "no step")
      all_goals first
        | (exfalso; omega)
        | exact hret _ _ _ _ _ _ (by assumption) (by assumption) (hP.mono hsp) (by omega) (by omega) (by omega) (fun p hq _ _ => hsp p hq)
    · intro hsm hlo hhi y dy ky1 ty1 ky2 ty2 h₁ h2 tk2 K1 F1 N1 B1 X1 P1 D1 l1 l2
      rw [← he] at N1
      have hlo' : -half < e ∧ e < half := by omega
      obtain ⟨hl1, hl2⟩ := hlo'
      clear hx hlo hhi hR
      have hV := moved_in p81 p91 (show -full < e by omega) (show e < full by omega)
      obtain ⟨led, hled⟩ : ∃ l, l = (y, instObj 109 dy) :: (dy, serD w (moved v1 (e) full) b ky1 ty1 ky2 ty2) :: (d1, serD w v1 b ka1 ta1 kb1 tb1) :: rest := ⟨_, rfl⟩
      rw [← hled] at N1
      have m0 : ∀ q ∈ news, q ∈ led := fun q hq => by rw [hled]; exact .tail _ (.tail _ (hsp q hq))
      have m1 : (pa, listOf ps.toArray np) ∈ led := m0 _ hp
      have m2 : (ca, listOf cv.toArray nc) ∈ led := m0 _ hc
      have m3 : (va, listOf us.toArray nu) ∈ led := m0 _ hu
      have m4 : (y, instObj 109 dy) ∈ led := by rw [hled]; exact .head _
      have m5 : (dy, serD w (moved v1 (e) full) b ky1 ty1 ky2 ty2) ∈ led := by rw [hled]; exact .tail _ (.head _)
      have hny : ∀ p ∈ news, p.1 ≠ y := fun p hq => Nat.ne_of_lt (Nat.lt_trans (l1 p (hsp p hq)) l2)
      have hnd : ∀ p ∈ news, p.1 ≠ dy := fun p hq => Nat.ne_of_lt (l1 p (hsp p hq))
      have hcl : cv.length = ks.length := by simpa using hci.length
      clear hled
      repeat' (first | (k_unfold; (try dsimp only)) | (k_end; kc_close) | ((fail_if_success (with_reducible show wpAny _ _ (pyIter _) _ _ _)); (fail_if_success (with_reducible show wpAny _ _ (call (Value.builtin "list.append") _) _ _ _)); (fail_if_success (with_reducible show wpAny _ _ (PySem.setItem _ _ _) _ _ _)); (fail_if_success (with_reducible show InvEnd _ _ _ _ _ _)); walk1 <;> (try dsimp only)) | ((fail_if_success (with_reducible show wpAny _ _ (pyIter _) _ _ _)); (fail_if_success (with_reducible show wpAny _ _ (call (Value.builtin "list.append") _) _ _ _)); (fail_if_success (with_reducible show wpAny _ _ (PySem.setItem _ _ _) _ _ _)); (fail_if_success (with_reducible show InvEnd _ _ _ _ _ _)); dsimp only; walk1) | ((fail_if_success (with_reducible show wpAny _ _ (pyIter _) _ _ _)); (fail_if_success (with_reducible show wpAny _ _ (call (Value.builtin "list.append") _) _ _ _)); (fail_if_success (with_reducible show wpAny _ _ (PySem.setItem _ _ _) _ _ _)); (fail_if_success (with_reducible show InvEnd _ _ _ _ _ _)); leave1; walk_say "STEP leave1"; try dsimp only) | fail "no step")
      refine' iter_led [] rfl m1 (by k_asm) (by k_asm) ?_ ?_
      · intro i v u h9 tk9 own hv9 F9 N9
        have hi9 : i < ps.length := (List.getElem?_eq_some_iff.mp hv9).1
        refine hP.atC (i := i) (by omega) ?_
        intro k9 x9 d9 v9 ka9 ta9 kb9 tb9 z1 z2 z3 z4 z5 z6 z7 z8 z9
        rw [hps, hv9] at z5
        obtain rfl : v = .ref x9 := Option.some.inj z5
        have hne := ltN (Nat.lt_trans (l1 _ (hsp _ z6)) l2)
        have m9 := m0 _ z6
        repeat' (first | (k_unfold; (try dsimp only)) | (k_end; kc_close) | ((fail_if_success (with_reducible show InvEnd _ _ _ _ _ _)); walk1 <;> (try dsimp only)) | (dsimp only; walk1) | (leave1; walk_say "STEP leave1"; try dsimp only) | fail "no step")
        all_goals first
          | (exfalso; omega)
          | (refine InvEnd.intro (by assumption) (by assumption) (by intro p hp; first | exact hp | k_ownIn) ?_; intro z h1 h2; first | rfl | (simp [h1, h2]; done) | (simp_all; done))
      · intro u h9 tk9 F9 N9
        dsimp only
        repeat' (first | (k_unfold; (try dsimp only)) | (k_end; kc_close) | ((fail_if_success (with_reducible show wpAny _ _ (pyIter _) _ _ _)); (fail_if_success (with_reducible show wpAny _ _ (call (Value.builtin "list.append") _) _ _ _)); (fail_if_success (with_reducible show wpAny _ _ (PySem.setItem _ _ _) _ _ _)); (fail_if_success (with_reducible show InvEnd _ _ _ _ _ _)); walk1 <;> (try dsimp only)) | ((fail_if_success (with_reducible show wpAny _ _ (pyIter _) _ _ _)); (fail_if_success (with_reducible show wpAny _ _ (call (Value.builtin "list.append") _) _ _ _)); (fail_if_success (with_reducible show wpAny _ _ (PySem.setItem _ _ _) _ _ _)); (fail_if_success (with_reducible show InvEnd _ _ _ _ _ _)); dsimp only; walk1) | ((fail_if_success (with_reducible show wpAny _ _ (pyIter _) _ _ _)); (fail_if_success (with_reducible show wpAny _ _ (call (Value.builtin "list.append") _) _ _ _)); (fail_if_success (with_reducible show wpAny _ _ (PySem.setItem _ _ _) _ _ _)); (fail_if_success (with_reducible show InvEnd _ _ _ _ _ _)); leave1; walk_say "STEP leave1"; try dsimp only) | fail "no step")
        refine' append_led (by k_asm) (by k_asm) m1 (by omega) ?_
        intro h10 F10 N10
        obtain ⟨led2, hled2⟩ : ∃ l, l = (pa, listOf (ps ++ [Value.ref y]).toArray (np + 1)) :: off pa led := ⟨_, rfl⟩
        rw [← hled2] at N10
        have n0 : ∀ q ∈ led, q.1 ≠ pa → q ∈ led2 := fun q hq h => by rw [hled2]; exact .tail _ (mem_off.mpr ⟨hq, h⟩)
        have n1 : (pa, listOf (ps ++ [Value.ref y]).toArray (np + 1)) ∈ led2 := by rw [hled2]; exact .head _
        have n2 := n0 _ m2 (Ne.symm qa1)
        have n3 := n0 _ m3 (Ne.symm qa2)
        have n4 := n0 _ m4 (Ne.symm (hny _ hp))
        have n5 := n0 _ m5 (Ne.symm (hnd _ hp))
        clear hled2
        repeat' (first | (k_unfold; (try dsimp only)) | (k_end; kc_close) | ((fail_if_success (with_reducible show wpAny _ _ (pyIter _) _ _ _)); (fail_if_success (with_reducible show wpAny _ _ (call (Value.builtin "list.append") _) _ _ _)); (fail_if_success (with_reducible show wpAny _ _ (PySem.setItem _ _ _) _ _ _)); (fail_if_success (with_reducible show InvEnd _ _ _ _ _ _)); walk1 <;> (try dsimp only)) | ((fail_if_success (with_reducible show wpAny _ _ (pyIter _) _ _ _)); (fail_if_success (with_reducible show wpAny _ _ (call (Value.builtin "list.append") _) _ _ _)); (fail_if_success (with_reducible show wpAny _ _ (PySem.setItem _ _ _) _ _ _)); (fail_if_success (with_reducible show InvEnd _ _ _ _ _ _)); dsimp only; walk1) | ((fail_if_success (with_reducible show wpAny _ _ (pyIter _) _ _ _)); (fail_if_success (with_reducible show wpAny _ _ (call (Value.builtin "list.append") _) _ _ _)); (fail_if_success (with_reducible show wpAny _ _ (PySem.setItem _ _ _) _ _ _)); (fail_if_success (with_reducible show InvEnd _ _ _ _ _ _)); leave1; walk_say "STEP leave1"; try dsimp only) | fail "no step")
        refine' append_led (by k_asm) (by k_asm) n2 (by omega) ?_
        intro h11 F11 N11
        generalize hT1 : Value.int (vals.length : Int) _ = vt at N11
        obtain ⟨led3, hled3⟩ : ∃ l, l = (ca, listOf (cv ++ [vt]).toArray (nc + 1)) :: off ca led2 := ⟨_, rfl⟩
        rw [← hled3] at N11
        have o0 : ∀ q ∈ led2, q.1 ≠ ca → q ∈ led3 := fun q hq h => by rw [hled3]; exact .tail _ (mem_off.mpr ⟨hq, h⟩)
        have o2 : (ca, listOf (cv ++ [vt]).toArray (nc + 1)) ∈ led3 := by rw [hled3]; exact .head _
        have o1 := o0 _ n1 qa1
        have o3 := o0 _ n3 (Ne.symm qa3)
        have o4 := o0 _ n4 (Ne.symm (hny _ hc))
        have o5 := o0 _ n5 (Ne.symm (hnd _ hc))
        clear hled3
        repeat' (first | (k_unfold; (try dsimp only)) | (k_end; kc_close) | ((fail_if_success (with_reducible show wpAny _ _ (pyIter _) _ _ _)); (fail_if_success (with_reducible show wpAny _ _ (call (Value.builtin "list.append") _) _ _ _)); (fail_if_success (with_reducible show wpAny _ _ (PySem.setItem _ _ _) _ _ _)); (fail_if_success (with_reducible show InvEnd _ _ _ _ _ _)); walk1 <;> (try dsimp only)) | ((fail_if_success (with_reducible show wpAny _ _ (pyIter _) _ _ _)); (fail_if_success (with_reducible show wpAny _ _ (call (Value.builtin "list.append") _) _ _ _)); (fail_if_success (with_reducible show wpAny _ _ (PySem.setItem _ _ _) _ _ _)); (fail_if_success (with_reducible show InvEnd _ _ _ _ _ _)); dsimp only; walk1) | ((fail_if_success (with_reducible show wpAny _ _ (pyIter _) _ _ _)); (fail_if_success (with_reducible show wpAny _ _ (call (Value.builtin "list.append") _) _ _ _)); (fail_if_success (with_reducible show wpAny _ _ (PySem.setItem _ _ _) _ _ _)); (fail_if_success (with_reducible show InvEnd _ _ _ _ _ _)); leave1; walk_say "STEP leave1"; try dsimp only) | fail "no step")
        rw [← hfh]
        refine' append_led (by k_asm) (by k_asm) o3 (by omega) ?_
        intro h12 F12 N12
        generalize hT2 : Value.int (moved v1 (e) full) _ = vw at N12
        obtain ⟨led4, hled4⟩ : ∃ l, l = (va, listOf (us ++ [vw]).toArray (nu + 1)) :: off va led3 := ⟨_, rfl⟩
        rw [← hled4] at N12
        have w0 : ∀ q ∈ led3, q.1 ≠ va → q ∈ led4 := fun q hq h => by rw [hled4]; exact .tail _ (mem_off.mpr ⟨hq, h⟩)
        have w3 : (va, listOf (us ++ [vw]).toArray (nu + 1)) ∈ led4 := by rw [hled4]; exact .head _
        have w1 := w0 _ o1 qa2
        have w2 := w0 _ o2 qa3
        have w4 := w0 _ o4 (Ne.symm (hny _ hu))
        have w5 := w0 _ o5 (Ne.symm (hnd _ hu))
        clear hled4
        subst hT1 hT2
        rw [← hps] at w1
        repeat' (first | (k_unfold; (try dsimp only)) | (k_end; kc_close) | ((fail_if_success (with_reducible show InvEnd _ _ _ _ _ _)); walk1 <;> (try dsimp only)) | (dsimp only; walk1) | (leave1; walk_say "STEP leave1"; try dsimp only) | fail "no step")
        all_goals exact hret _ _ _ _ _ _ (by assumption) (by assumption) (hP.add N0 hV.1 hV.2 hny hnd (fun q hq a1 a2 a3 => w0 q (o0 q (n0 q (m0 q hq) a1) a2) a3) (by assumption) (by assumption) w1 w2 w3 w4 w5) (by simp) (by simp) (by simp) (fun q hq a1 _ => w0 q (o0 q (n0 q (m0 q hq) (cls_ne N0 hq hp a1)) (cls_ne N0 hq hc a1)) (cls_ne N0 hq hu a1))
    · intro hbig hlo hhi ky1 ty1 ky2 ty2 h₁ h2 tk2 K1 F1 N1 B1 X1 P1 D1
      rw [← he] at N1
      have hlo' : -half < e ∧ e < half := by omega
      obtain ⟨hl1, hl2⟩ := hlo'
      clear hx hlo hhi hR
      have hV := moved_in p81 p91 (show -full < e by omega) (show e < full by omega)
      repeat' (first | (k_unfold; (try dsimp only)) | (k_end; kc_close) | ((fail_if_success (with_reducible show wpAny _ _ (pyIter _) _ _ _)); (fail_if_success (with_reducible show wpAny _ _ (call (Value.builtin "list.append") _) _ _ _)); (fail_if_success (with_reducible show wpAny _ _ (PySem.setItem _ _ _) _ _ _)); (fail_if_success (with_reducible show InvEnd _ _ _ _ _ _)); walk1 <;> (try dsimp only)) | ((fail_if_success (with_reducible show wpAny _ _ (pyIter _) _ _ _)); (fail_if_success (with_reducible show wpAny _ _ (call (Value.builtin "list.append") _) _ _ _)); (fail_if_success (with_reducible show wpAny _ _ (PySem.setItem _ _ _) _ _ _)); (fail_if_success (with_reducible show InvEnd _ _ _ _ _ _)); dsimp only; walk1) | ((fail_if_success (with_reducible show wpAny _ _ (pyIter _) _ _ _)); (fail_if_success (with_reducible show wpAny _ _ (call (Value.builtin "list.append") _) _ _ _)); (fail_if_success (with_reducible show wpAny _ _ (PySem.setItem _ _ _) _ _ _)); (fail_if_success (with_reducible show InvEnd _ _ _ _ _ _)); leave1; walk_say "STEP leave1"; try dsimp only) | fail "no step")
      rw [← hfh]
      refine' set_led (by k_asm) (by k_asm) (List.Mem.tail _ s3) (by omega) (by rw [Int.toNat_natCast]; omega) (by omega) ?_
      intro h9 F9 N9
      rw [Int.toNat_natCast] at N9
      repeat' (first | (k_unfold; (try dsimp only)) | (k_end; kc_close) | ((fail_if_success (with_reducible show InvEnd _ _ _ _ _ _)); walk1 <;> (try dsimp only)) | (dsimp only; walk1) | (leave1; walk_say "STEP leave1"; try dsimp only) | fail "no step")
      all_goals first
        | (exfalso; omega)
        | exact hret _ _ _ _ _ _ (by assumption) (by assumption) (hP.set N0 p21 p31 hV.1 hV.2 (fun p a1 a2 a3 => .tail _ (mem_off.mpr ⟨.tail _ (hback p a1 a2), a3⟩)) (.tail _ (mem_off.mpr ⟨.head _, qd.symm⟩)) (.head _) (intsAre_set (by assumption))) (by omega) (by omega) (by omega) (fun p hq a1 a2 => .tail _ (mem_off.mpr ⟨.tail _ (hback p hq (cls_ne N0 hq p71 a2)), cls_ne N0 hq hu a1⟩))


local macro_rules | `(tactic| walk_at "eval Name") => `(tactic| (k_here; (rename Named _ _ _ _ _ _ _ _ _ _ _ => nmX); k_dflt (refine' nameX_L ?F ?v ?_ ?a ?b; (case F => k_asm); (case a => rfl); (case b => rfl); (case v => first | exact nmX.pool | exact nmX.values | exact nmX.cells | exact nmX.half | exact nmX.full | exact nmX.bits | exact nmX.script); k_whole)))
local macro_rules | `(tactic| k_mem) => `(tactic| (refine mem_back ?_; ktn_app; first | (refine List.mem_append.mpr (Or.inr ?_); k_mem) | (refine List.mem_append.mpr (Or.inl ?_); k_mem)))

set_option maxHeartbeats 8000000 in
theorem law_holds : PySem.Challenge.rw_ji0012_01.Holds := hd (by
  k_go0
  try k_fold
  repeat' (first | (k_unfold; (try dsimp only)) | (k_end; kc_close) | ((fail_if_success (with_reducible show wpAny _ _ (binaryOp Operator.Pow _ _) _ _ _)); (fail_if_success (with_reducible show wpAny _ _ (pyIter _) _ _ _)); (fail_if_success (with_reducible show InvEnd _ _ _ _ _ _)); walk1 <;> (try dsimp only)) | ((fail_if_success (with_reducible show wpAny _ _ (binaryOp Operator.Pow _ _) _ _ _)); (fail_if_success (with_reducible show wpAny _ _ (pyIter _) _ _ _)); (fail_if_success (with_reducible show InvEnd _ _ _ _ _ _)); dsimp only; walk1) | ((fail_if_success (with_reducible show wpAny _ _ (binaryOp Operator.Pow _ _) _ _ _)); (fail_if_success (with_reducible show wpAny _ _ (pyIter _) _ _ _)); (fail_if_success (with_reducible show InvEnd _ _ _ _ _ _)); leave1; walk_say "STEP leave1"; try dsimp only) | fail "no step")
  rename Int => r0
  have hb0 := fmod_in (a := r0) (full := 39) (by decide)
  obtain ⟨half, hz⟩ : ∃ half, Sz (r0.fmod 39 + 2) half (half + half) := ⟨_, Sz.of (by omega) (by omega)⟩
  obtain ⟨hb1, hb2, hF, hH, hfh, hh1, hh2⟩ := id hz
  refine pow_half hz ?_
  repeat' (first | (k_unfold; (try dsimp only)) | (k_end; kc_close) | ((fail_if_success (with_reducible show wpAny _ _ (call (Value.ref 170) _) _ _ _)); (fail_if_success (with_reducible show wpAny _ _ (pyIter _) _ _ _)); (fail_if_success (with_reducible show InvEnd _ _ _ _ _ _)); walk1 <;> (try dsimp only)) | ((fail_if_success (with_reducible show wpAny _ _ (call (Value.ref 170) _) _ _ _)); (fail_if_success (with_reducible show wpAny _ _ (pyIter _) _ _ _)); (fail_if_success (with_reducible show InvEnd _ _ _ _ _ _)); dsimp only; walk1) | ((fail_if_success (with_reducible show wpAny _ _ (call (Value.ref 170) _) _ _ _)); (fail_if_success (with_reducible show wpAny _ _ (pyIter _) _ _ _)); (fail_if_success (with_reducible show InvEnd _ _ _ _ _ _)); leave1; walk_say "STEP leave1"; try dsimp only) | fail "no step")
  rename News _ _ _ _ => N9
  rename Fr _ _ _ _ => F9
  obtain ⟨M, F10, nm⟩ := named F9 rfl rfl rfl rfl rfl rfl rfl
  clear F9
  obtain ⟨obs, vals, ks, led, N8, hP, hk3, ho2⟩ := pool_start (full := half + half) N9 (by refine neN ?_; omega) (by refine neN ?_; omega) (by refine neN ?_; omega) (by refine neN ?_; omega) (by refine neN ?_; omega) (by omega)
  clear N9
  repeat' (first | (k_unfold; (try dsimp only)) | (k_end; kc_close) | ((fail_if_success (with_reducible show wpAny _ _ (pyIter _) _ _ _)); (fail_if_success (with_reducible show InvEnd _ _ _ _ _ _)); walk1 <;> (try dsimp only)) | ((fail_if_success (with_reducible show wpAny _ _ (pyIter _) _ _ _)); (fail_if_success (with_reducible show InvEnd _ _ _ _ _ _)); dsimp only; walk1) | ((fail_if_success (with_reducible show wpAny _ _ (pyIter _) _ _ _)); (fail_if_success (with_reducible show InvEnd _ _ _ _ _ _)); leave1; walk_say "STEP leave1"; try dsimp only) | fail "no step")
  refine' iter_rangeI 8 [] (LInv _ _ _ _ _ _) LInv.mono rfl ?hr ?hs ?rs ?hF ?hN ⟨_, _, _, hP, by omega, by omega, by omega⟩ ?turn ?done
  case hr => assumption
  case hs => decide +kernel
  case rs => decide +kernel
  case hF => k_asm
  case hN => k_asm
  · intro i t u h tk own news₁ hi hI hown F1 N1
    try k_fold
    obtain ⟨obs, vals, ks, hP, a1, a2, a3⟩ := hI
    repeat' (first | (k_unfold; (try dsimp only)) | (k_end; kc_close) | ((fail_if_success (with_reducible show wpAny _ _ (pyIter _) _ _ _)); (fail_if_success (with_reducible show wpAny _ _ (call (Value.ref 177) _) _ _ _)); (fail_if_success (with_reducible show InvEnd _ _ _ _ _ _)); walk1 <;> (try dsimp only)) | ((fail_if_success (with_reducible show wpAny _ _ (pyIter _) _ _ _)); (fail_if_success (with_reducible show wpAny _ _ (call (Value.ref 177) _) _ _ _)); (fail_if_success (with_reducible show InvEnd _ _ _ _ _ _)); dsimp only; walk1) | ((fail_if_success (with_reducible show wpAny _ _ (pyIter _) _ _ _)); (fail_if_success (with_reducible show wpAny _ _ (call (Value.ref 177) _) _ _ _)); (fail_if_success (with_reducible show InvEnd _ _ _ _ _ _)); leave1; walk_say "STEP leave1"; try dsimp only) | fail "no step")
    refine' c_deed hz hP (by omega) (by omega) (by omega) ?cB ?cF ?cX ?cN ?cT ?cK ?cD ?cU ?cXB ?cTB ?_
    case cB => k_dflt k_asm
    case cF => k_dflt k_asm
    case cX => k_dflt k_asm
    case cN => k_dflt k_asm
    case cT => k_dflt k_asm
    case cK => first | exact rfl | assumption
    case cD => k_dflt ktr_room
    case cU => k_dflt ktr_units
    case cXB => k_dflt assumption
    case cTB => k_dflt assumption
    intro obs' vals' ks' news' h2 tk2 F2 N2 P2 b1 b2 b3 FR
    try dsimp only
    repeat' (first | (k_unfold; (try dsimp only)) | (k_end; kc_close) | ((fail_if_success (with_reducible show wpAny _ _ (pyIter _) _ _ _)); (fail_if_success (with_reducible show InvEnd _ _ _ _ _ _)); walk1 <;> (try dsimp only)) | ((fail_if_success (with_reducible show wpAny _ _ (pyIter _) _ _ _)); (fail_if_success (with_reducible show InvEnd _ _ _ _ _ _)); dsimp only; walk1) | ((fail_if_success (with_reducible show wpAny _ _ (pyIter _) _ _ _)); (fail_if_success (with_reducible show InvEnd _ _ _ _ _ _)); leave1; walk_say "STEP leave1"; try dsimp only) | fail "no step")
    all_goals first
      | (exfalso; omega)
      | (dsimp only [TurnPost]; refine ⟨_, _, _, _, rfl, by assumption, by assumption, fun p hp => FR p (List.mem_append_left _ hp) (by rw [hown p hp]; exact fun e => absurd (Value.type.inj e) (by decide)) (by rw [hown p hp]; exact fun e => absurd (Value.type.inj e) (by decide)), ?_, ⟨_, _, _, P2, by omega, by omega, by omega⟩⟩; intro z h1 h2; first | rfl | (simp [h1, h2]; done) | (simp_all; done))
  · intro u h tk news₁ hI F1 N1
    rename Named _ _ _ _ _ _ _ _ _ _ _ => nm
    obtain ⟨M1, F1x, nm1⟩ := named F1 nm.pool nm.cells nm.values nm.script nm.bits nm.half nm.full
    clear F1 nm
    obtain ⟨obs, vals, ks, hP, a1, a2, a3⟩ := hI
    obtain ⟨np, hp⟩ := hP.pool
    obtain ⟨cv, nc, hc, hci⟩ := hP.cells
    obtain ⟨us, nu, hu, hui⟩ := hP.values
    generalize hps : (ks.map fun k => Value.ref (obs.getD k (0, 0)).1) = ps at hp
    have hpl : ps.length = ks.length := by rw [← hps, List.length_map]
    have hPl := hP.place hps hci hui
    clear hci hui
    dsimp only
    try k_fold
    repeat' (first | (k_unfold; (try dsimp only)) | (k_end; kc_close) | ((fail_if_success (with_reducible show wpAny _ _ (pyIter _) _ _ _)); (fail_if_success (with_reducible show InvEnd _ _ _ _ _ _)); walk1 <;> (try dsimp only)) | ((fail_if_success (with_reducible show wpAny _ _ (pyIter _) _ _ _)); (fail_if_success (with_reducible show InvEnd _ _ _ _ _ _)); dsimp only; walk1) | ((fail_if_success (with_reducible show wpAny _ _ (pyIter _) _ _ _)); (fail_if_success (with_reducible show InvEnd _ _ _ _ _ _)); leave1; walk_say "STEP leave1"; try dsimp only) | fail "no step")
    refine' iter_range ks.length [Str.ofString "two", Str.ofString "gap"] rfl ?hr ?hs ?rs ?hF ?hN ?_ ?_
    case hr => assumption
    case hs => exact rsm (by omega)
    case rs => exact rs0 _
    case hF => k_asm
    case hN => k_asm
    · intro i t1 u1 h1 tk1 own1 hi F2 N2
      try k_fold
      refine hPl i hi ?_
      intro x1 d1 v1 ka1 ta1 kb1 tb1 tc1 tv1 k1 p1 q1 r1 s1 s2 w0 w1 z1 y1
      repeat' (first | (k_unfold; (try dsimp only)) | (k_end; kc_close) | ((fail_if_success (with_reducible show wpAny _ _ (pyIter _) _ _ _)); (fail_if_success (with_reducible show InvEnd _ _ _ _ _ _)); walk1 <;> (try dsimp only)) | ((fail_if_success (with_reducible show wpAny _ _ (pyIter _) _ _ _)); (fail_if_success (with_reducible show InvEnd _ _ _ _ _ _)); dsimp only; walk1) | ((fail_if_success (with_reducible show wpAny _ _ (pyIter _) _ _ _)); (fail_if_success (with_reducible show InvEnd _ _ _ _ _ _)); leave1; walk_say "STEP leave1"; try dsimp only) | fail "no step")
      refine' iter_range ks.length [Str.ofString "gap"] rfl ?hr ?hs ?rs ?hF ?hN ?_ ?_
      case hr => assumption
      case hs => exact rsm (by omega)
      case rs => exact rs0 _
      case hF => k_asm
      case hN => k_asm
      · intro j t2 u2 h2 tk2 own2 hj F3 N3
        try k_fold
        refine hPl j hj ?_
        intro x2 d2 v2 ka2 ta2 kb2 tb2 tc2 tv2 k2 p2 q2 r2 s3 s4 w2 w3 z2 y2
        repeat' (first | (k_unfold; (try dsimp only)) | (k_end; kc_close) | ((fail_if_success (with_reducible show wpAny _ _ (pyIter _) _ _ _)); (fail_if_success (with_reducible show InvEnd _ _ _ _ _ _)); walk1 <;> (try dsimp only)) | ((fail_if_success (with_reducible show wpAny _ _ (pyIter _) _ _ _)); (fail_if_success (with_reducible show InvEnd _ _ _ _ _ _)); dsimp only; walk1) | ((fail_if_success (with_reducible show wpAny _ _ (pyIter _) _ _ _)); (fail_if_success (with_reducible show InvEnd _ _ _ _ _ _)); leave1; walk_say "STEP leave1"; try dsimp only) | fail "no step")
        all_goals first
          | (exfalso; omega)
          | (refine InvEnd.intro (by assumption) (by assumption) (by intro p hp; first | exact hp | k_ownIn) ?_; (show Kept _ _ _ _); (repeat' (first | with_reducible exact kept_base | (with_reducible refine kept_store (by decide +kernel) ?_) | (with_reducible refine kept_in (one_in (by decide +kernel)) ?_))); done)
      · intro u2 h2 tk2 F3 N3
        dsimp only
        try k_fold
        repeat' (first | (k_unfold; (try dsimp only)) | (k_end; kc_close) | ((fail_if_success (with_reducible show wpAny _ _ (pyIter _) _ _ _)); (fail_if_success (with_reducible show InvEnd _ _ _ _ _ _)); walk1 <;> (try dsimp only)) | ((fail_if_success (with_reducible show wpAny _ _ (pyIter _) _ _ _)); (fail_if_success (with_reducible show InvEnd _ _ _ _ _ _)); dsimp only; walk1) | ((fail_if_success (with_reducible show wpAny _ _ (pyIter _) _ _ _)); (fail_if_success (with_reducible show InvEnd _ _ _ _ _ _)); leave1; walk_say "STEP leave1"; try dsimp only) | fail "no step")
        all_goals first
          | (exfalso; omega)
          | (refine InvEnd.intro (by assumption) (by assumption) (by intro p hp; first | exact hp | k_ownIn) ?_; (show Kept _ _ _ _); (repeat' (first | with_reducible exact kept_base | (with_reducible refine kept_store (by decide +kernel) ?_) | (with_reducible refine kept_in (one_in (by decide +kernel)) ?_))); done)
    · intro u1 h1 tk1 F2 N2
      rename Named _ _ _ _ _ _ _ _ _ _ _ => nm1
      obtain ⟨M2, F2x, nm2⟩ := named F2 nm1.pool nm1.cells nm1.values nm1.script nm1.bits nm1.half nm1.full
      clear F2 nm1
      dsimp only
      try k_fold
      repeat' (first | (k_unfold; (try dsimp only)) | (k_end; kc_close) | ((fail_if_success (with_reducible show wpAny _ _ (pyIter _) _ _ _)); (fail_if_success (with_reducible show InvEnd _ _ _ _ _ _)); walk1 <;> (try dsimp only)) | ((fail_if_success (with_reducible show wpAny _ _ (pyIter _) _ _ _)); (fail_if_success (with_reducible show InvEnd _ _ _ _ _ _)); dsimp only; walk1) | ((fail_if_success (with_reducible show wpAny _ _ (pyIter _) _ _ _)); (fail_if_success (with_reducible show InvEnd _ _ _ _ _ _)); leave1; walk_say "STEP leave1"; try dsimp only) | fail "no step")
      rename News _ _ _ _ => N4
      refine' iter_led (vs := [.int 11 _, .int 12 _]) [Str.ofString "whole", Str.ofString "one", Str.ofString "gap"] rfl (.head _) ?hF ?hN ?_ ?_
      case hF => k_asm
      case hN => k_asm
      · intro i v u2 h2 tk2 own2 hv F3 N3
        try k_fold
        obtain ⟨p, tp, rfl, hp0, hp1⟩ := two_items hv
        repeat' (first | (k_unfold; (try dsimp only)) | (k_end; kc_close) | ((fail_if_success (with_reducible show wpAny _ _ (pyIter _) _ _ _)); (fail_if_success (with_reducible show InvEnd _ _ _ _ _ _)); walk1 <;> (try dsimp only)) | ((fail_if_success (with_reducible show wpAny _ _ (pyIter _) _ _ _)); (fail_if_success (with_reducible show InvEnd _ _ _ _ _ _)); dsimp only; walk1) | ((fail_if_success (with_reducible show wpAny _ _ (pyIter _) _ _ _)); (fail_if_success (with_reducible show InvEnd _ _ _ _ _ _)); leave1; walk_say "STEP leave1"; try dsimp only) | fail "no step")
        refine' iter_range 3 [Str.ofString "gap"] rfl ?hr ?hs ?rs ?hF ?hN ?_ ?_
        case hr => assumption
        case hs => decide +kernel
        case rs => decide +kernel
        case hF => k_asm
        case hN => k_asm
        · intro i t3 u3 h3 tk3 own3 hi F4 N5
          try k_fold
          refine hPl i (by omega) ?_
          intro x1 d1 v1 ka1 ta1 kb1 tb1 tc1 tv1 k1 p1 q1 r1 s1 s2 w0 w1 z1 y1
          repeat' (first | (k_unfold; (try dsimp only)) | (k_end; kc_close) | ((fail_if_success (with_reducible show wpAny _ _ (pyIter _) _ _ _)); (fail_if_success (with_reducible show InvEnd _ _ _ _ _ _)); walk1 <;> (try dsimp only)) | ((fail_if_success (with_reducible show wpAny _ _ (pyIter _) _ _ _)); (fail_if_success (with_reducible show InvEnd _ _ _ _ _ _)); dsimp only; walk1) | ((fail_if_success (with_reducible show wpAny _ _ (pyIter _) _ _ _)); (fail_if_success (with_reducible show InvEnd _ _ _ _ _ _)); leave1; walk_say "STEP leave1"; try dsimp only) | fail "no step")
          all_goals first
            | (exfalso; omega)
            | (refine InvEnd.intro (by assumption) (by assumption) (by intro p hp; first | exact hp | k_ownIn) ?_; (show Kept _ _ _ _); (repeat' (first | with_reducible exact kept_base | (with_reducible refine kept_store (by decide +kernel) ?_) | (with_reducible refine kept_in (one_in (by decide +kernel)) ?_))); done)
        · intro u3 h3 tk3 F4 N5
          dsimp only
          try k_fold
          repeat' (first | (k_unfold; (try dsimp only)) | (k_end; kc_close) | ((fail_if_success (with_reducible show wpAny _ _ (pyIter _) _ _ _)); (fail_if_success (with_reducible show InvEnd _ _ _ _ _ _)); walk1 <;> (try dsimp only)) | ((fail_if_success (with_reducible show wpAny _ _ (pyIter _) _ _ _)); (fail_if_success (with_reducible show InvEnd _ _ _ _ _ _)); dsimp only; walk1) | ((fail_if_success (with_reducible show wpAny _ _ (pyIter _) _ _ _)); (fail_if_success (with_reducible show InvEnd _ _ _ _ _ _)); leave1; walk_say "STEP leave1"; try dsimp only) | fail "no step")
          all_goals first
            | (exfalso; omega)
            | (refine InvEnd.intro (by assumption) (by assumption) (by intro p hp; first | exact hp | k_ownIn) ?_; (show Kept _ _ _ _); (repeat' (first | with_reducible exact kept_base | (with_reducible refine kept_store (by decide +kernel) ?_) | (with_reducible refine kept_in (one_in (by decide +kernel)) ?_))); done)
      · intro u2 h2 tk2 F3 N3
        rename Named _ _ _ _ _ _ _ _ _ _ _ => nm2
        obtain ⟨M3, F3x, nm3⟩ := named F3 nm2.pool nm2.cells nm2.values nm2.script nm2.bits nm2.half nm2.full
        clear F3 nm2
        dsimp only
        try k_fold
        repeat' (first | (k_unfold; (try dsimp only)) | (k_end; kc_close) | ((fail_if_success (with_reducible show wpAny _ _ (pyIter _) _ _ _)); (fail_if_success (with_reducible show InvEnd _ _ _ _ _ _)); walk1 <;> (try dsimp only)) | ((fail_if_success (with_reducible show wpAny _ _ (pyIter _) _ _ _)); (fail_if_success (with_reducible show InvEnd _ _ _ _ _ _)); dsimp only; walk1) | ((fail_if_success (with_reducible show wpAny _ _ (pyIter _) _ _ _)); (fail_if_success (with_reducible show InvEnd _ _ _ _ _ _)); leave1; walk_say "STEP leave1"; try dsimp only) | fail "no step")
        refine' iter_led (vs := ps) [Str.ofString "step", Str.ofString "about"] rfl ?hm ?hF ?hN ?_ ?_
        case hN => k_asm
        case hF => k_asm
        case hm => first | exact hp | exact .tail _ hp
        · intro i v u4 h4 tk4 own4 hv F5 N6
          have hi9 : i < ps.length := (List.getElem?_eq_some_iff.mp hv).1
          refine hPl i (by omega) ?_
          intro x1 d1 v1 ka1 ta1 kb1 tb1 tc1 tv1 k1 p1 q1 r1 s1 s2 w0 w1 z1 y1
          rw [hv] at z1
          obtain rfl : v = .ref x1 := Option.some.inj z1
          have m1 := moved_in w0 w1 (show -(half + half) < half - 1 by omega) (show half - 1 < half + half by omega)
          have m2 := moved_in m1.1 m1.2 (show -(half + half) < half - 1 by omega) (show half - 1 < half + half by omega)
          have m3 := moved_in m2.1 m2.2 (show -(half + half) < (1 : Int) by omega) (show (1 : Int) < half + half by omega)
          have m4 := moved_in m3.1 m3.2 (show -(half + half) < (1 : Int) by omega) (show (1 : Int) < half + half by omega)
          have hab := about_back w0 w1 hh1
          have m1a := m1.1
          have m1b := m1.2
          clear m1
          have m2a := m2.1
          have m2b := m2.2
          clear m2
          have m3a := m3.1
          have m3b := m3.2
          clear m3
          have m4a := m4.1
          have m4b := m4.2
          clear m4
          try k_fold
          repeat' (first | (k_unfold; (try dsimp only)) | (k_end; kc_close) | ((fail_if_success (with_reducible show wpAny _ _ (pyIter _) _ _ _)); (fail_if_success (with_reducible show wpAny _ _ (call (Value.ref 184) _) _ _ _)); (fail_if_success (with_reducible show InvEnd _ _ _ _ _ _)); walk1 <;> (try dsimp only)) | ((fail_if_success (with_reducible show wpAny _ _ (pyIter _) _ _ _)); (fail_if_success (with_reducible show wpAny _ _ (call (Value.ref 184) _) _ _ _)); (fail_if_success (with_reducible show InvEnd _ _ _ _ _ _)); dsimp only; walk1) | ((fail_if_success (with_reducible show wpAny _ _ (pyIter _) _ _ _)); (fail_if_success (with_reducible show wpAny _ _ (call (Value.ref 184) _) _ _ _)); (fail_if_success (with_reducible show InvEnd _ _ _ _ _ _)); leave1; walk_say "STEP leave1"; try dsimp only) | fail "no step")
          rename Int => r9
          have hr9 := fmod_in (a := r9) (full := half - 1) (by omega)
          repeat' (first | (k_unfold; (try dsimp only)) | (k_end; kc_close) | ((fail_if_success (with_reducible show wpAny _ _ (pyIter _) _ _ _)); (fail_if_success (with_reducible show wpAny _ _ (compareOp CmpOp.NotEq (Value.int _ _) (Value.int _ _)) _ _ _)); (fail_if_success (with_reducible show InvEnd _ _ _ _ _ _)); walk1 <;> (try dsimp only)) | ((fail_if_success (with_reducible show wpAny _ _ (pyIter _) _ _ _)); (fail_if_success (with_reducible show wpAny _ _ (compareOp CmpOp.NotEq (Value.int _ _) (Value.int _ _)) _ _ _)); (fail_if_success (with_reducible show InvEnd _ _ _ _ _ _)); dsimp only; walk1) | ((fail_if_success (with_reducible show wpAny _ _ (pyIter _) _ _ _)); (fail_if_success (with_reducible show wpAny _ _ (compareOp CmpOp.NotEq (Value.int _ _) (Value.int _ _)) _ _ _)); (fail_if_success (with_reducible show InvEnd _ _ _ _ _ _)); leave1; walk_say "STEP leave1"; try dsimp only) | fail "no step")
          walk1
          try dsimp only
          walk1
          try dsimp only
          refine ite_no (by rw [hab]; simp) ?_
          repeat' (first | (k_unfold; (try dsimp only)) | (k_end; kc_close) | ((fail_if_success (with_reducible show wpAny _ _ (pyIter _) _ _ _)); (fail_if_success (with_reducible show InvEnd _ _ _ _ _ _)); walk1 <;> (try dsimp only)) | ((fail_if_success (with_reducible show wpAny _ _ (pyIter _) _ _ _)); (fail_if_success (with_reducible show InvEnd _ _ _ _ _ _)); dsimp only; walk1) | ((fail_if_success (with_reducible show wpAny _ _ (pyIter _) _ _ _)); (fail_if_success (with_reducible show InvEnd _ _ _ _ _ _)); leave1; walk_say "STEP leave1"; try dsimp only) | fail "no step")
          all_goals first
            | (exfalso; omega)
            | (refine InvEnd.intro (by assumption) (by assumption) (by intro p hp; first | exact hp | k_ownIn) ?_; (show Kept _ _ _ _); (repeat' (first | with_reducible exact kept_base | (with_reducible refine kept_store (by decide +kernel) ?_) | (with_reducible refine kept_in (one_in (by decide +kernel)) ?_))); done)
        · intro u4 h4 tk4 F5 N6
          dsimp only
          try k_fold
          repeat' (first | (k_unfold; (try dsimp only)) | (k_end; kc_close) | ((fail_if_success (with_reducible show wpAny _ _ (pyIter _) _ _ _)); (fail_if_success (with_reducible show wpAny _ _ (call (Value.ref 170) _) _ _ _)); (fail_if_success (with_reducible show InvEnd _ _ _ _ _ _)); walk1 <;> (try dsimp only)) | ((fail_if_success (with_reducible show wpAny _ _ (pyIter _) _ _ _)); (fail_if_success (with_reducible show wpAny _ _ (call (Value.ref 170) _) _ _ _)); (fail_if_success (with_reducible show InvEnd _ _ _ _ _ _)); dsimp only; walk1) | ((fail_if_success (with_reducible show wpAny _ _ (pyIter _) _ _ _)); (fail_if_success (with_reducible show wpAny _ _ (call (Value.ref 170) _) _ _ _)); (fail_if_success (with_reducible show InvEnd _ _ _ _ _ _)); leave1; walk_say "STEP leave1"; try dsimp only) | fail "no step")
          refine' c_values (half := 0) ?hP ?h2 ?h3 ?cB ?cF ?cX ?cN ?cT ?cK ?cD ?cU ?_
          case cN => k_dflt k_asm
          case hP => exact hP.mono fun p hp => List.Mem.tail _ hp
          case h2 => omega
          case h3 => omega
          case cB => k_dflt k_asm
          case cF => k_dflt k_asm
          case cX => k_dflt k_asm
          case cT => k_dflt k_asm
          case cK => first | exact rfl | assumption
          case cD => k_dflt ktr_room
          case cU => k_dflt ktr_units
          intro h5 tk5 F7 N8
          try dsimp only
          repeat' (first | (k_unfold; (try dsimp only)) | (k_end; kc_close) | ((fail_if_success (with_reducible show wpAny _ _ (pyIter _) _ _ _)); (fail_if_success (with_reducible show InvEnd _ _ _ _ _ _)); walk1 <;> (try dsimp only)) | ((fail_if_success (with_reducible show wpAny _ _ (pyIter _) _ _ _)); (fail_if_success (with_reducible show InvEnd _ _ _ _ _ _)); dsimp only; walk1) | ((fail_if_success (with_reducible show wpAny _ _ (pyIter _) _ _ _)); (fail_if_success (with_reducible show InvEnd _ _ _ _ _ _)); leave1; walk_say "STEP leave1"; try dsimp only) | fail "no step")
          skip)


end Mine

set_option maxRecDepth 100000 in
set_option maxHeartbeats 8000000 in
theorem PySem.Challenge.cw_ji0012_01_holds : PySem.Challenge.rw_ji0012_01.Holds := by
  exact Mine.law_holds
