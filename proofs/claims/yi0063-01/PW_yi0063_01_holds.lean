import PyProof.Rows.All
import Wide.All
import OpenK.AllK
import Wide.FinOn
import Lean
import PySem.Challenge.RW_yi0063_01
set_option Elab.async false
set_option linter.all false
open PySem PySem.W PyProof.Rows PySem.Calls PySem.NumText
set_option maxRecDepth 100000
namespace Mine

def bits2 (k : Int) : Str := baseText "0b" 2 (Builtin.bitAnd k (2 ^ Int.toNat 7 - 1))
def brX (k : Int) : Str := Txt.sliceBy (Txt.zfill (Txt.slice (bits2 k) (some 2) none) 7) none none (-1, 0)
def brv (k : Int) : Int := ((List.range 7).foldl (fun acc i => acc * 2 + (k.toNat >>> i) % 2) 0 : Nat)

noncomputable def isVal (x : (int_private% "Numeral")) (v : Int) : Bool := (int_private% "Numeral.rec") (motive := fun _ => Bool) false (fun _ => false) false (fun i => i == v) x
theorem isVal_eq {x : (int_private% "Numeral")} {v : Int} (h : isVal x v = true) : x = (int_private% "Numeral.value") v := by
  unfold isVal at h
  cases x
  · cases h
  · cases h
  · cases h
  · rename_i i
    have : i = v := by simpa using h
    rw [this]
noncomputable def brOk (n : Nat) : Bool :=
  decide ((bits2 n).length ≤ 9) && (decide ((Txt.slice (bits2 n) (some 2) none).length ≤ 7) && (decide ((Txt.zfill (Txt.slice (bits2 n) (some 2) none) 7).length ≤ 7) &&
  (decide ((numSeenOf (brX n)).length ≤ 640) && (((numSeenOf (brX n)).length == (numTextOf (brX n)).length) && (decide (0 ≤ brv n ∧ brv n < 128) &&
  isVal ((int_private% "readNumeral") 0 2 (numSeenOf (brX n))) (brv n))))))
theorem brOk_all : (List.range 128).all brOk = true := by decide +kernel
theorem brOk_at {k : Int} (h0 : 0 ≤ k) (h1 : k < 128) : brOk k.toNat = true :=
  List.all_eq_true.mp brOk_all _ (List.mem_range.mpr (by omega))
theorem br_facts {k : Int} (h0 : 0 ≤ k) (h1 : k < 128) : (bits2 k).length ≤ 9 ∧ (Txt.slice (bits2 k) (some 2) none).length ≤ 7 ∧ (Txt.zfill (Txt.slice (bits2 k) (some 2) none) 7).length ≤ 7 ∧
   (numSeenOf (brX k)).length ≤ 640 ∧ ((numSeenOf (brX k)).length == (numTextOf (brX k)).length) = true ∧ (0 ≤ brv k ∧ brv k < 128) ∧ (int_private% "readNumeral") 0 2 (numSeenOf (brX k)) = (int_private% "Numeral.value") (brv k) := by
  have h := brOk_at h0 h1
  obtain ⟨n, rfl⟩ := Int.eq_ofNat_of_zero_le h0
  rw [Int.toNat_natCast] at h
  unfold brOk at h
  simp only [Bool.and_eq_true, decide_eq_true_eq] at h
  exact ⟨h.1, h.2.1, h.2.2.1, h.2.2.2.1, h.2.2.2.2.1, h.2.2.2.2.2.1, isVal_eq h.2.2.2.2.2.2⟩

theorem sizeLine_ge {n k : Nat} (h : n ≤ k) (hk : k ≤ 16777216) : n ≤ sizeLine := by
  rw [sizeLine_eq]; omega

section
variable {prog : Program} {w : World} {A : Around} {E : Value → Shared → Prop} {s : Shared} {Q : Value → Shared → Prop}
theorem bin_rule {k : Int} {t : Tok} (h0 : 0 ≤ k) (h1 : k < 128)
    (h : (bits2 k).length ≤ sizeLine → (Txt.slice (bits2 k) (some 2) none).length ≤ sizeLine → (Txt.zfill (Txt.slice (bits2 k) (some 2) none) 7).length ≤ sizeLine → Q (.str (bits2 k) s.toks) { s with toks := s.toks + 1 }) :
    wpAny (model prog w) A (call (.builtin "bin") [.int (Builtin.bitAnd k (2 ^ Int.toNat 7 - 1)) t]) Q E s :=
  have f := br_facts h0 h1
  P.bin_of_int (h (sizeLine_ge f.1 (by decide)) (sizeLine_ge f.2.1 (by decide)) (sizeLine_ge f.2.2.1 (by decide))) (sizeLine_ge f.1 (by decide))
theorem wp_text2 {M : Model} {A : Around} {E : Value → Shared → Prop} {s : Shared} {Q : Value → Shared → Prop} {v : Value} {text : List Nat} {n : Int}
    (hs : (text.takeWhile (· != 0)).length ≤ 640) (hr : (int_private% "readNumeral") 0 2 (text.takeWhile (· != 0)) = (int_private% "Numeral.value") n)
    (ha : ((text.takeWhile (· != 0)).length == text.length) = true) (h : Q (.int n s.toks) { s with toks := s.toks + 1 }) :
    wpAny M A ((int_private% "intFromText") v text 2) Q E s := by
  obtain ⟨hp, g, d, tk, os⟩ := s
  repeat (any_goals (first
    | assumption
    | (with_reducible refine wpAny_ite_true (decide_eq_true hs) ?_)
    | (with_reducible refine wpAny_ite_true (decide_eq_true ha) ?_)
      | with_reducible (first
          | refine wpAny_pure ?_ | refine wpAny_bind ?_ | refine wpAny_holding ?_ | refine wpAny_standAt ?_ | refine wpAny_point ?_ | refine wpAny_rule ?_
          | refine wpAny_mkInt' ?_ | refine wpAny_mkStr' ?_ | refine wpAny_fresh' ?_ | refine wpAny_of_eq (by assumption) ?_ | refine wpAny_typeOf (by assumption) ?_
          | refine wpAny_specialOf_val (by assumption) (by assumption) ?_ | refine wpAny_isInstance_val (by assumption) (by assumption) ?_)
      | wp_delta
      | wp_step))
  all_goals (try rw [hr])
  all_goals (try dsimp only)
  repeat (any_goals (first
    | assumption
    | (with_reducible refine wpAny_ite_true (decide_eq_true hs) ?_)
    | (with_reducible refine wpAny_ite_true (decide_eq_true ha) ?_)
      | with_reducible (first
          | refine wpAny_pure ?_ | refine wpAny_bind ?_ | refine wpAny_holding ?_ | refine wpAny_standAt ?_ | refine wpAny_point ?_ | refine wpAny_rule ?_
          | refine wpAny_mkInt' ?_ | refine wpAny_mkStr' ?_ | refine wpAny_fresh' ?_ | refine wpAny_of_eq (by assumption) ?_ | refine wpAny_typeOf (by assumption) ?_
          | refine wpAny_specialOf_val (by assumption) (by assumption) ?_ | refine wpAny_isInstance_val (by assumption) (by assumption) ?_)
      | wp_delta
      | wp_step))
end
set_option maxHeartbeats 4000000 in
theorem gives_text2 {x : PySem.Str} {u t : Tok} {n : Int} (hs : (numSeenOf x).length ≤ 640) (ha : ((numSeenOf x).length == (numTextOf x).length) = true) (hr : (int_private% "readNumeral") 0 2 (numSeenOf x) = (int_private% "Numeral.value") n) :
    Gives (Builtin.«int.__new__» ⟨[.type "int", .str x u, .int 2 t], []⟩) (.int n) :=
  .of_wp fun M A E s Q h => by
    obtain ⟨hp, g, d, tk, os⟩ := s
    have f1 := F.conv_sub_int
    have f2 := F.madeHere_int
    have f6 : typeOf (.str x u) = pure (.type "str") := rfl
    have hk := KIN.Hid.mk (And.intro hs (And.intro hr ha))
    clear hs hr ha
    repeat (any_goals (first
      | assumption
      | ((with_reducible show wpAny _ _ ((int_private% "intFromText") _ _ _) _ _ _); refine wp_text2 hk.out.1 hk.out.2.1 hk.out.2.2 ?_)
        | with_reducible (first
          | refine wpAny_pure ?_ | refine wpAny_bind ?_ | refine wpAny_holding ?_ | refine wpAny_standAt ?_ | refine wpAny_point ?_ | refine wpAny_rule ?_
          | refine wpAny_mkInt' ?_ | refine wpAny_mkStr' ?_ | refine wpAny_fresh' ?_ | refine wpAny_of_eq (by assumption) ?_ | refine wpAny_typeOf (by assumption) ?_
          | refine wpAny_specialOf_val (by assumption) (by assumption) ?_ | refine wpAny_isInstance_val (by assumption) (by assumption) ?_)
      | wp_delta
      | wp_step))
    all_goals first | exact ⟨_, rfl, h⟩ | skip
end Mine

open PySem PySem.W PyProof.Rows PySem.Calls PySem.NumText
set_option maxRecDepth 100000
namespace Mine

section
variable {prog : Program} {w : World} {A : Around} {E : Value → Shared → Prop} {s : Shared} {Q : Value → Shared → Prop}
theorem typeCall_int_2 (a b : Value) : checkTypeCall "int" ⟨[a, b], []⟩ = pure () := by kernel_rfl
theorem newCall_int_2 (a b : Value) : checkBuiltinCall "int.__new__" ⟨[.type "int", a, b], []⟩ = pure () := by kernel_rfl
theorem args_object_init_3 (o a b : Value) : argsOk "object.__init__" ⟨[o, a, b], []⟩ := by unfold argsOk; kernel_rfl

theorem int_rule {k : Int} {t u v : Tok} (h0 : 0 ≤ k) (h1 : k < 128)
    (h : 0 ≤ brv k → brv k < 128 → Q (.int (brv k) s.toks) { s with toks := s.toks + 1 }) :
    wpAny (model prog w) A (call (.type "int") [.str (Txt.sliceBy (Txt.zfill (Txt.slice (bits2 k) (some 2) none) 7) none none (-1, v)) t, .int 2 u]) Q E s :=
  have f := br_facts h0 h1
  callType_new F.called_int F.newNe_int (typeCall_int_2 _ _) (newCall_int_2 _ _) (fun obj => args_object_init_3 obj _ _) F.entry_int_new
    (gives_text2 (x := brX k) f.2.2.2.1 f.2.2.2.2.1 f.2.2.2.2.2.2).meets (show (Made.int (brv k)).post _ s from ⟨rfl, h f.2.2.2.2.2.1.1 f.2.2.2.2.2.1.2⟩)

def powv (e : Int) : Int := (Builtin.powMod 17 e.natAbs 3329 : Nat)
theorem entry_pow : entryFor table "pow" = some Builtin.«pow» := entryFor_of_tree (by kernel_rfl)
theorem kind_pow : builtinKind "pow" = none := by decide +kernel
theorem plain_pow : plainId "pow" = true := by decide +kernel
theorem args_pow3 (a b c : Value) : argsOk "pow" ⟨[a, b, c], []⟩ := by unfold argsOk; kernel_rfl

theorem gives_pow17 {e : Int} {t u v : Tok} (h0 : ¬ e < 0) : Gives (Builtin.«int.__pow__» ⟨[.int 17 t, .int e u, .int 3329 v], []⟩) (.int (powv e)) :=
  .of_wp fun M A E s Q h => by
    obtain ⟨hp, g, d, tk, os⟩ := s
    repeat (any_goals (first
      | assumption
      | with_reducible (first
          | refine wpAny_pure ?_ | refine wpAny_bind ?_ | refine wpAny_holding ?_ | refine wpAny_standAt ?_ | refine wpAny_point ?_ | refine wpAny_rule ?_
          | refine wpAny_mkInt' ?_ | refine wpAny_mkStr' ?_ | refine wpAny_fresh' ?_ | refine wpAny_of_eq (by assumption) ?_ | refine wpAny_typeOf (by assumption) ?_
          | refine wpAny_specialOf_val (by assumption) (by assumption) ?_ | refine wpAny_isInstance_val (by assumption) (by assumption) ?_)
      | wp_delta
      | wp_step))
    all_goals first | exact ⟨_, rfl, h⟩ | skip
theorem gives_inv {t u v : Tok} : Gives (Builtin.«int.__pow__» ⟨[.int 128 t, .int (-1) u, .int 3329 v], []⟩) (.int 3303) :=
  .of_wp fun M A E s Q h => by
    obtain ⟨hp, g, d, tk, os⟩ := s
    have f1 : Builtin.euclid (2 * Builtin.Int.intBits 3329 + 2) 3329 128 0 1 = some (1, -26) := by decide +kernel
    repeat (any_goals (first
      | assumption
      | with_reducible (first
          | refine wpAny_pure ?_ | refine wpAny_bind ?_ | refine wpAny_holding ?_ | refine wpAny_standAt ?_ | refine wpAny_point ?_ | refine wpAny_rule ?_
          | refine wpAny_mkInt' ?_ | refine wpAny_mkStr' ?_ | refine wpAny_fresh' ?_ | refine wpAny_of_eq (by assumption) ?_ | refine wpAny_typeOf (by assumption) ?_
          | refine wpAny_specialOf_val (by assumption) (by assumption) ?_ | refine wpAny_isInstance_val (by assumption) (by assumption) ?_)
      | wp_delta
      | wp_step))
    all_goals first | exact ⟨_, rfl, h⟩ | skip
end
end Mine

open PySem PySem.W PyProof.Rows PySem.Calls PySem.NumText
set_option maxRecDepth 100000
namespace Mine
theorem foldl_lt {α : Type} (f : Nat → α → Nat) (m : Nat) (hf : ∀ a x, f a x < m) : ∀ (l : List α) (a : Nat), a < m → l.foldl f a < m
  | [], _, h => h
  | x :: l, a, _ => foldl_lt f m hf l (f a x) (hf a x)
theorem powv_nonneg (e : Int) : 0 ≤ powv e := Int.natCast_nonneg _
theorem powv_lt (e : Int) : powv e < 3329 := by
  unfold powv Builtin.powMod
  have := foldl_lt (fun p i => if e.natAbs.testBit i then p * p % 3329 * 17 % 3329 else p * p % 3329) 3329 (by
    intro a x
    (try dsimp only)
    split <;> exact Nat.mod_lt _ (by decide)) (List.range (Builtin.Int.intBits e.natAbs)).reverse (1 % 3329) (by decide)
  exact Int.ofNat_lt.mpr this
section
variable {prog : Program} {w : World} {A : Around} {E : Value → Shared → Prop} {s : Shared} {Q : Value → Shared → Prop}
theorem look_pow : typeLookup (.type "int") "__pow__" = pure (some (.builtin "int.__pow__")) := F.slot_int_pow.lookup
set_option maxHeartbeats 4000000 in
theorem pow_meets {b e m r : Int} {t u v : Tok} (hg : Gives (Builtin.«int.__pow__» ⟨[.int b t, .int e u, .int m v], []⟩) (.int r))
    (h : Q (.int r s.toks) { s with toks := s.toks + 1 }) :
    wpAny (model prog w) A (call (.builtin "pow") [.int b t, .int e u, .int m v]) Q E s := by
  refine call_function_entry kind_pow plain_pow entry_pow (args_pow3 _ _ _) ?_
  obtain ⟨hp, g, d, tk, os⟩ := s
  unfold Builtin.«pow»
  have f1 := look_pow
  have f2 : typeOf (.int b t) = pure (.type "int") := rfl
  repeat (any_goals (first
      | assumption
      | ((with_reducible show wpAny _ _ (callSpecial? _ _ _) _ _ _); (with_reducible refine wpAny_callSpecial?_slot (T := "int") (id := "int.__pow__") ?aa ?bb ?cc); (case aa => exact typeIs_int _ _ _); (case bb => exact F.slot_int_pow))
      | ((with_reducible show wpAny _ _ (call (Value.builtin "int.__pow__") _ _) _ _ _); refine call_meets (rest := [.int e u, .int m v]) F.slot_int_pow (typeIs_int _ _ _) F.entry_int_pow (F.args_int_pow_3 _ _ _) hg.meets ?_)
      | with_reducible (first
          | refine wpAny_pure ?_ | refine wpAny_bind ?_ | refine wpAny_holding ?_ | refine wpAny_standAt ?_ | refine wpAny_point ?_ | refine wpAny_rule ?_
          | refine wpAny_mkInt' ?_ | refine wpAny_mkStr' ?_ | refine wpAny_fresh' ?_ | refine wpAny_of_eq (by assumption) ?_ | refine wpAny_typeOf (by assumption) ?_
          | refine wpAny_specialOf_val (by assumption) (by assumption) ?_ | refine wpAny_isInstance_val (by assumption) (by assumption) ?_)
      | wp_delta
      | wp_step))
  refine (show wpAny _ _ (ite _ _ _) _ _ _ from ?_)
  refine wpAny_ite_true rfl ?_
  exact wpAny_pure ⟨_, rfl, h⟩
theorem pow_rule {e : Int} {t u v : Tok} (h0 : 0 ≤ e) (h : 0 ≤ powv e → powv e < 3329 → Q (.int (powv e) s.toks) { s with toks := s.toks + 1 }) :
    wpAny (model prog w) A (call (.builtin "pow") [.int 17 t, .int e u, .int 3329 v]) Q E s :=
  pow_meets (gives_pow17 (by omega)) (h (powv_nonneg e) (powv_lt e))
theorem inv_rule {t u v : Tok} (h : Q (.int 3303 s.toks) { s with toks := s.toks + 1 }) :
    wpAny (model prog w) A (call (.builtin "pow") [.int 128 t, .int (-1) u, .int 3329 v]) Q E s :=
  pow_meets gives_inv h
end
end Mine

open PySem PySem.W PyProof.Rows PySem.Calls PySem.NumText
set_option maxRecDepth 100000
namespace Mine
def draw (ns : List Int) (k : Int) : Int := if k < (ns.length : Int) then ns.getD k.toNat 0 else 62 + 11 * k + 23 * k * k
def Zs : List Int := (List.range 128).map fun n : Nat => powv (brv (n : Int))
theorem Zs_length : Zs.length = 128 := by simp [Zs]
theorem zs_eq : List.map (fun k' => if (bits2 k').length ≤ sizeLine ∧ (Txt.slice (bits2 k') (some 2) none).length ≤ sizeLine ∧
    (Txt.zfill (Txt.slice (bits2 k') (some 2) none) 7).length ≤ sizeLine ∧ 0 ≤ brv k' ∧ brv k' < 128 ∧ 0 ≤ powv (brv k') ∧ powv (brv k') < 3329 then powv (brv k') else k')
  (rangeKs 0 ((128 : Int) - 0).toNat) = Zs := by
  have e : rangeKs 0 ((128 : Int) - 0).toNat = (List.range 128).map fun n : Nat => (n : Int) := by decide +kernel
  rw [e, List.map_map]
  refine List.map_congr_left fun n hn => ?_
  have hn' := List.mem_range.mp hn
  have f := br_facts (k := (n : Int)) (by omega) (by omega)
  show ite _ _ _ = _
  exact if_pos ⟨sizeLine_ge f.1 (by decide), sizeLine_ge f.2.1 (by decide), sizeLine_ge f.2.2.1 (by decide), f.2.2.2.2.2.1.1, f.2.2.2.2.2.1.2, powv_nonneg _, powv_lt _⟩
end Mine
namespace Mine
section
variable {h₀ h : Heap} {L : Addr} {a b c d e f : Addr × Obj} {r : List (Addr × Obj)}
theorem news_sub {l l' : List (Addr × Obj)} (N : News h₀ L h l) (hs : ∀ p ∈ l', p ∈ l) : News h₀ L h l' := fun p hp => N p (hs p hp)
/-- of seven, the first, the second, the fifth and the sixth -/
theorem news_prune {g : Addr × Obj} (N : News h₀ L h [a, b, c, d, e, f, g]) : News h₀ L h [a, b, e, f] :=
  news_sub N (by intro p hp; simp only [List.mem_cons, List.not_mem_nil, or_false] at hp ⊢; rcases hp with h | h | h | h <;> simp [h])
end
end Mine
namespace Mine
open PySem.Spec
section
variable {M : Model} {A : Around} {E : Value → Shared → Prop} {s : Shared} {K : Frag} {env : Env} {pos : Pos} {x C : Addr} {ox : Obj} {od : Option Obj} {first : List Value} {Q : Value → Shared → Prop}
theorem own_callKW {f : Addr} {e : PySem.Expr} {rest : List PySem.Expr} {kws : List Keyword} (_X : K.In s.heap) (_I : InstAt s.heap x ox C od) (hd : ox.data = .plain) (_hs : findIn K (.ref C) "__call__" = some (some (.ref f)))
    (hall : (backToKw pos (keywordEach kws env)).all (·.1.isSome) = true)
    (h : wpAny M A (spliced (backTo pos (starEach (e :: rest) env))) (fun vs s₁ => wpAny M A (evalAll ((backToKw pos (keywordEach kws env)).map (·.2)))
      (fun ks s₂ => kco_P K x C ox od s₂.heap ∧ wpAny M A (call (.ref x) (first ++ vs) (((backToKw pos (keywordEach kws env)).filterMap (·.1)).zip ks)) Q E s₂) E s₁) E s)
    (hplain : ((backTo pos (starEach (e :: rest) env)).any (·.1) || (backToKw pos (keywordEach kws env)).any (·.1.isNone)) = false := by rfl) (he : starEach (e :: rest) env = (false, eval e env) :: starEach rest env := by rfl) :
    wpAny M A (callWith pos (.ref x) first (backTo pos (starEach (e :: rest) env)) (backToKw pos (keywordEach kws env))) Q E s :=
  kco_callWith_of hplain hd (evalArgs_kw2 hall h he)
end
end Mine
namespace Mine
def pad (gs : List Int) : List Int := gs ++ List.replicate (256 - gs.length) 0
theorem given_of {ys : List Value} {ns : List Int} {m : Int} (h : IntsAre ys (List.map (fun k' => draw ns (6 + k')) (rangeKs 0 (m - 0).toNat))) (h0 : 0 ≤ m) :
    ∃ gs : List Int, (gs.length : Int) = m ∧ IntsAre ys gs :=
  ⟨_, by rw [List.length_map]; simp only [rangeKs, List.length_map, List.length_range]; omega, h⟩
theorem pad_length {gs : List Int} (h : (gs.length : Int) ≤ 256) : (pad gs).length = 256 := by
  simp only [pad, List.length_append, List.length_replicate]; omega
theorem rep_flat (n : Nat) : (List.replicate n [(0 : Int)]).flatten = List.replicate n 0 := by
  induction n with
  | zero => rfl
  | succ n ih => simp [List.replicate_succ, ih]
theorem pad_start {ws : List Value} {gs : List Int} {n : Int} (h : IntsAre ws (gs ++ (List.replicate n.toNat [(0 : Int)]).flatten)) (hn : (gs.length : Int) = 256 - n) (h0 : 0 ≤ n) : IntsAre ws (pad gs) := by
  rw [rep_flat] at h
  have : n.toNat = 256 - gs.length := by omega
  rw [this] at h
  exact h
end Mine
namespace Mine
theorem pad_made {ws : List Value} {gs : List Int} (h : IntsAre ws (gs ++ List.map (fun _ => (0 : Int)) (rangeKs 0 (256 - (gs.length : Int) - 0).toNat))) : IntsAre ws (pad gs) := by
  have e : List.map (fun _ => (0 : Int)) (rangeKs 0 (256 - (gs.length : Int) - 0).toNat) = List.replicate (256 - gs.length) 0 := by
    rw [List.map_const']
    simp only [rangeKs, List.length_map, List.length_range]
    congr 1
    omega
  rw [e] at h
  exact h
theorem news_prune2 {h₀ h : Heap} {L : Addr} {a0 a1 a2 a3 a4 a5 a6 a7 a8 a9 a10 a11 : Addr × Obj} (N : News h₀ L h [a0, a1, a2, a3, a4, a5, a6, a7, a8, a9, a10, a11]) : News h₀ L h [a0, a2, a3, a4, a7, a8, a9, a10, a11] :=
  news_sub N (by intro p hp; simp only [List.mem_cons, List.not_mem_nil, or_false] at hp ⊢; rcases hp with h | h | h | h | h | h | h | h | h <;> simp [h])
/-- the second, of thirteen and more -/
theorem news_drop1 {h₀ h : Heap} {L : Addr} {a0 a1 : Addr × Obj} {r : List (Addr × Obj)} (N : News h₀ L h (a0 :: a1 :: r)) : News h₀ L h (a0 :: r) :=
  news_sub N (by intro p hp; rcases List.mem_cons.mp hp with h | h; exact h ▸ List.mem_cons_self; exact List.mem_cons_of_mem _ (List.mem_cons_of_mem _ h))
end Mine
namespace Mine
theorem in_of {K : Frag} {h₀ h : Heap} {L : Addr} {m : Str → Option Value} (F : Fr h₀ L h m) (X : K.In h₀) : K.In h := X.keeps F.keep
end Mine
namespace Mine
theorem ng1 {n : Int} (h : n < 256) : ¬ (decide (256 < n) = true) := by simp; omega
theorem lt1 {n : Int} (h : n < 256) : decide (n < 256) = true := by simp; omega
theorem ng2 {n : Int} (h : n = 256) : ¬ (decide (256 < n) = true) := by simp; omega
theorem ng3 {n : Int} (h : n = 256) : ¬ (decide (n < 256) = true) := by simp; omega
theorem ifn {c : Prop} [Decidable c] {p q : Prop} (h : ¬ c) (hq : q) : if c then p else q := by rw [if_neg h]; exact hq
theorem ifp {c : Prop} [Decidable c] {p q : Prop} (h : c) (hp : p) : if c then p else q := by rw [if_pos h]; exact hp
end Mine
namespace Mine
theorem eqb1 {x y : Int} (h : x = y) : (x == y) = true := by simp [h]
theorem neb1 {x y : Int} (h : x ≠ y) : ¬ ((x == y) = true) := by simp [h]
theorem nneb1 {x y : Int} (h : x = y) : ¬ (¬ ((x == y) = true)) := by simp [h]
end Mine
namespace Mine
theorem mod_fact {prog : Program} {w : World} {A : Around} {E : Value → Shared → Prop} {s : Shared} {a b : Int} {t u : Tok} {Q : Value → Shared → Prop} (hb : 0 < b)
    (h : 0 ≤ a.fmod b → a.fmod b < b → Q (.int (a.fmod b) s.toks) { s with toks := s.toks + 1 }) : wpAny (model prog w) A (binaryOp .Mod (.int a t) (.int b u)) Q E s :=
  mod_int' (by omega) (h (Int.fmod_nonneg_of_pos a hb) (Int.fmod_lt_of_pos a hb))
end Mine

open PySem PySem.W PyProof.Rows PySem.Calls PyProof.V PySem.Spec
set_option maxRecDepth 100000
namespace Mine
theorem upd_same {d : Addr} {o : Obj} {l l' : List (Addr × Obj)} (h : Upd d o o l l') : l' = l := by
  induction h with
  | head _ => rfl
  | tail _ _ ih => rw [ih]
theorem upd_keys {d : Addr} {o o' : Obj} {l l' : List (Addr × Obj)} (h : Upd d o o' l l') : l'.map (·.1) = l.map (·.1) := by
  induction h with
  | head _ => rfl
  | tail _ _ ih => simp [ih]

section
variable {prog : Program} {w : World} {A : Around} {E : Value → Shared → Prop} {s : Shared} {env : Env} {h₀ : Heap} {Q : Flow → Shared → Prop}

def ForJ (x : Str) (a₀ : Int) (stored : List Str) (m₀ : Str → Option Value) (Led : Obj → List (Addr × Obj)) (G : Nat → List Int → Prop) (i : Nat) (m : Str → Option Value) (nx : List (Addr × Obj)) : Prop :=
  ∃ (vs : List Value) (cs : List Int) (c : Nat), nx = Led (listOf vs.toArray c) ∧ IntsAre vs cs ∧ G i cs ∧ (0 < i → ∃ t, m x = some (.int (a₀ + (i : Int) - 1) t)) ∧ ∀ z, z ≠ x → stored.contains z = false → m z = m₀ z

theorem frm_eq {x : Str} {v : Option Value} {stored : List Str} {m₀ m₁ : Str → Option Value} (h : ∀ z, z ≠ x → stored.contains z = false → m₁ z = m₀ z) :
    (fun y => if y = x then v else m₁ y) = fun y => if y = x then v else if stored.contains y = true then m₁ y else m₀ y := by
  funext y
  by_cases e : y = x
  · rw [if_pos e, if_pos e]
  · rw [if_neg e, if_neg e]
    cases hc : stored.contains y with
    | true => simp
    | false => simp only [Bool.false_eq_true, if_false]; exact h y e hc
theorem frm_eq' {x : Str} {stored : List Str} {m₀ m₁ : Str → Option Value} (h : ∀ z, z ≠ x → stored.contains z = false → m₁ z = m₀ z) {v : Value} (hx : m₁ x = some v) :
    m₁ = fun y => if y = x then some v else if stored.contains y = true then m₁ y else m₀ y := by
  rw [← frm_eq h]
  funext y
  by_cases e : y = x
  · rw [if_pos e, e, hx]
  · rw [if_neg e]

def ForEnd (h₀ : Heap) (L : Addr) (x : Str) (a₀ : Int) (stored : List Str) (m₀ : Str → Option Value) (Led : Obj → List (Addr × Obj)) (G : Nat → List Int → Prop) (i : Nat) (own : List (Addr × Obj)) (s₁ : Shared) (Q : Flow → Shared → Prop) (f : Flow) (s₂ : Shared) : Prop :=
  match f with
  | .ret v => Q (.ret v) s₂
  | .brk => Q .next s₂
  | _ => ∃ (vs : List Value) (cs : List Int) (c : Nat) (h' : Heap) (tk : Nat) (m' : Str → Option Value) (news' : List (Addr × Obj)), s₂ = { s₁ with heap := h', toks := tk } ∧ Fr h₀ L h' m' ∧ News h₀ L h' news' ∧
      (∀ p ∈ Led (listOf vs.toArray c), p ∈ news') ∧ (∀ p ∈ own, p ∈ news') ∧ IntsAre vs cs ∧ G (i + 1) cs ∧ (∃ t, m' x = some (.int (a₀ + (i : Int)) t)) ∧ ∀ z, z ≠ x → stored.contains z = false → m' z = m₀ z
theorem forEnd_intro {L : Addr} {x : Str} {a₀ : Int} {stored : List Str} {m₀ m' : Str → Option Value} {Led : Obj → List (Addr × Obj)} {G : Nat → List Int → Prop} {i : Nat} {own news' : List (Addr × Obj)} {s₁ : Shared} {h' : Heap} {tk : Nat} {vs : List Value} {cs : List Int} {c : Nat} {t : Tok}
    (F : Fr h₀ L h' m') (N : News h₀ L h' news') (hn : ∀ p ∈ Led (listOf vs.toArray c), p ∈ news') (ho : ∀ p ∈ own, p ∈ news') (hI : IntsAre vs cs) (hx : m' x = some (.int (a₀ + (i : Int)) t))
    (hz : ∀ z, z ≠ x → stored.contains z = false → m' z = m₀ z) (hG : G (i + 1) cs) : ForEnd h₀ L x a₀ stored m₀ Led G i own s₁ Q .next { s₁ with heap := h', toks := tk } :=
  ⟨vs, cs, c, h', tk, m', news', rfl, F, N, hn, ho, hI, hG, ⟨t, hx⟩, hz⟩

theorem for_list {r cl : Addr} {x : Str} {body : List Stmt} {a₀ b₀ : Int} {t₀ u₀ v₀ : Tok} {n : Nat} {m₀ : Str → Option Value} {news : List (Addr × Obj)} {vs : List Value} {cs : List Int} {c₀ : Nat} {Led : Obj → List (Addr × Obj)}
    (G : Nat → List Int → Prop) (stored : List Str)
    (hh : A.handled = none) (hr : IsRange s.heap r a₀ b₀ 1 t₀ u₀ v₀) (hsmall : Builtin.Range.small a₀ b₀ 1 = true) (hn : Builtin.Range.rangeSize a₀ b₀ 1 = (n : Int)) (hpos : 0 < n)
    (F : Fr h₀ env.locals s.heap m₀) (N : News h₀ env.locals s.heap news) (hU : ∀ o, Upd cl (listOf vs.toArray c₀) o news (Led o)) (hI : IntsAre vs cs) (hG : G 0 cs)
    (turn : ∀ (i : Nat) (vs : List Value) (cs : List Int) (c : Nat) (t : Tok) (u : Str → Option Value) h tk own, i < n → OwnOff own (news.map (·.1)) → IntsAre vs cs → G i cs →
      Fr h₀ env.locals h (fun y => if y = x then some (.int (a₀ + (i : Int)) t) else if stored.contains y then u y else m₀ y) → News h₀ env.locals h (Led (listOf vs.toArray c) ++ own) →
      wpAny (model prog w) A (execs body env) (ForEnd h₀ env.locals x a₀ stored m₀ Led G i own { s with heap := h, toks := tk } Q) E { s with heap := h, toks := tk })
    (done : ∀ (vs : List Value) (cs : List Int) (c : Nat) (t : Tok) (u : Str → Option Value) h tk, IntsAre vs cs → G n cs →
      Fr h₀ env.locals h (fun y => if y = x then some (.int (a₀ + (n : Int) - 1) t) else if stored.contains y then u y else m₀ y) → News h₀ env.locals h (Led (listOf vs.toArray c)) → Q .next { s with heap := h, toks := tk }) :
    wpAny (model prog w) A (pyIter (.ref r)) (fun it s₂ => LoopAtV prog w A h₀ env x body Q E it s₂) E s := by
  have hsame := upd_same (hU (listOf vs.toArray c₀))
  have hkeys : ∀ o, (Led o).map (·.1) = news.map (·.1) := fun o => upd_keys (hU o)
  refine wpAny_pyIter_range hr hsmall ?_
  have W : Walks prog w A s.heap.objs.size [s.heap.objs.size] [s.heap.objs.size] n (fun i v => i < n ∧ ∃ t, v = .int (a₀ + i * 1) t)
      (fun i h => IsRangeIter h s.heap.objs.size (a₀ + (i : Nat) * 1) ((n : Int) - (i : Nat)) 1) := (Walks.range hh _ a₀ 1 n).bound
  refine loop_invN (ForJ x a₀ stored m₀ Led G) W ?_ ?_ ?_ ?_ (by show IsRangeIter _ _ _ _ _; rw [hn]; simpa using Heap.get?_push_size _ rfl) (F.push _) (fun p hp => ⟨Heap.get?_push_of_some _ (N p hp).1, (N p hp).2⟩)
    ⟨vs, cs, c₀, hsame.symm, hI, hG, (fun h => absurd h (Nat.lt_irrefl 0)), fun _ _ _ => rfl⟩ ?_ ?_
  · intro hm
    exact absurd F.ns.lt ((List.mem_singleton.mp hm) ▸ Nat.lt_irrefl _)
  · intro b hb
    rw [List.mem_singleton.mp hb]
    exact next_is_new F
  · intro p hp hI'
    exact absurd (Heap.lt_size (N p hp).1) ((List.mem_singleton.mp hI') ▸ Nat.lt_irrefl _)
  · intro p hp hI'
    exact absurd (Heap.lt_size (N p hp).1) ((List.mem_singleton.mp hI') ▸ Nat.lt_irrefl _)
  · rintro i v m₁ nx h tk own hi ⟨_, t, rfl⟩ _ hoff ⟨vs', cs', c', rfl, hI', hG', _, hz⟩ F₁ N₁
    have e1 : a₀ + (i : Int) * 1 = a₀ + (i : Int) := by omega
    rw [e1, frm_eq hz] at F₁
    refine wpAny_mono (turn i vs' cs' c' t m₁ h tk own hi hoff hI' hG' F₁ N₁) (fun f s₂ p => ?_) fun _ _ y => y
    have fin : (∃ (vs : List Value) (cs : List Int) (c : Nat) (h' : Heap) (tk' : Nat) (m' : Str → Option Value) (news' : List (Addr × Obj)), s₂ = { { s with heap := h, toks := tk } with heap := h', toks := tk' } ∧ Fr h₀ env.locals h' m' ∧ News h₀ env.locals h' news' ∧
      (∀ p ∈ Led (listOf vs.toArray c), p ∈ news') ∧ (∀ p ∈ own, p ∈ news') ∧ IntsAre vs cs ∧ G (i + 1) cs ∧ (∃ t, m' x = some (.int (a₀ + (i : Int)) t)) ∧ ∀ z, z ≠ x → stored.contains z = false → m' z = m₀ z) →
        InvEndN h₀ env.locals (ForJ x a₀ stored m₀ Led G (i + 1)) own (news.map (·.1)) { s with heap := h, toks := tk } s₂ := by
      rintro ⟨vs2, cs2, c2, h2, tk2, m2, news2, rfl, F2, N2, hn2, ho2, hI2, hG2, ⟨t2, hx2⟩, hz2⟩
      refine InvEndN.intro F2 N2 ⟨vs2, cs2, c2, rfl, hI2, hG2, (fun _ => ⟨t2, ?_⟩), hz2⟩ (hkeys _) hn2 ho2
      rw [hx2]
      congr 2
      omega
    cases f with
    | ret v => exact p
    | brk => exact p
    | next => exact fin p
    | cont => exact fin p
  · rintro m₁ nx h tk ⟨vs', cs', c', rfl, hI', hG', hx, hz⟩ F₁ N₁
    obtain ⟨t, hx⟩ := hx hpos
    rw [frm_eq' hz hx] at F₁
    exact done vs' cs' c' t m₁ h tk hI' hG' F₁ N₁

def frm2 (n1 n2 : Str) (v1 v2 : Value) (stored : List Str) (u m₀ : Str → Option Value) : Str → Option Value :=
  fun y => if y = n1 then some v1 else if y = n2 then some v2 else if stored.contains y = true then u y else m₀ y
theorem frm2_eq {n1 n2 : Str} {v1 v2 : Value} {stored : List Str} {m₀ m₁ : Str → Option Value} (h1 : m₁ n1 = some v1) (h2 : m₁ n2 = some v2) (h : ∀ z, z ≠ n1 → z ≠ n2 → stored.contains z = false → m₁ z = m₀ z) :
    m₁ = frm2 n1 n2 v1 v2 stored m₁ m₀ := by
  funext y
  show m₁ y = if y = n1 then some v1 else if y = n2 then some v2 else if stored.contains y = true then m₁ y else m₀ y
  by_cases e : y = n1
  · rw [if_pos e, e, h1]
  · rw [if_neg e]
    by_cases e2 : y = n2
    · rw [if_pos e2, e2, h2]
    · rw [if_neg e2]
      cases hc : stored.contains y with
      | true => simp
      | false => simp only [Bool.false_eq_true, if_false]; exact h y e e2 hc

def WEnd (h₀ : Heap) (L : Addr) (s : Shared) (n1 n2 : Str) (stored : List Str) (m₀ : Str → Option Value) (Led : Obj → List (Addr × Obj)) (G : Int → Int → List Int → Prop) (μ : Int → Int → Nat) (a b : Int) (Q : Flow → Shared → Prop) (f : Flow) (s₂ : Shared) : Prop :=
  match f with
  | .ret v => Q (.ret v) s₂
  | .brk => Q .next s₂
  | _ => ∃ (a' b' : Int) (ta tb : Tok) (vs : List Value) (cs : List Int) (c : Nat) (h' : Heap) (tk : Nat) (m' : Str → Option Value) (news' : List (Addr × Obj)), s₂ = { s with heap := h', toks := tk } ∧ Fr h₀ L h' m' ∧ News h₀ L h' news' ∧
      (∀ p ∈ Led (listOf vs.toArray c), p ∈ news') ∧ IntsAre vs cs ∧ G a' b' cs ∧ μ a' b' < μ a b ∧ m' n1 = some (.int a' ta) ∧ m' n2 = some (.int b' tb) ∧ ∀ z, z ≠ n1 → z ≠ n2 → stored.contains z = false → m' z = m₀ z
theorem wEnd_intro {L : Addr} {n1 n2 : Str} {stored : List Str} {m₀ m' : Str → Option Value} {Led : Obj → List (Addr × Obj)} {G : Int → Int → List Int → Prop} {μ : Int → Int → Nat} {a b a' b' : Int} {ta tb : Tok} {news' : List (Addr × Obj)} {h' : Heap} {tk : Nat} {vs : List Value} {cs : List Int} {c : Nat}
    (F : Fr h₀ L h' m') (N : News h₀ L h' news') (hn : ∀ p ∈ Led (listOf vs.toArray c), p ∈ news') (hI : IntsAre vs cs) (h1 : m' n1 = some (.int a' ta)) (h2 : m' n2 = some (.int b' tb))
    (hz : ∀ z, z ≠ n1 → z ≠ n2 → stored.contains z = false → m' z = m₀ z) (hG : G a' b' cs ∧ μ a' b' < μ a b) : WEnd h₀ L s n1 n2 stored m₀ Led G μ a b Q .next { s with heap := h', toks := tk } :=
  ⟨a', b', ta, tb, vs, cs, c, h', tk, m', news', rfl, F, N, hn, hI, hG.1, hG.2, h1, h2, hz⟩

theorem while_list {test : PySem.Expr} {body : List Stmt} {pos : Pos} {L cl : Addr} {m₀ : Str → Option Value} {news : List (Addr × Obj)} {vs : List Value} {cs : List Int} {c₀ : Nat} {Led : Obj → List (Addr × Obj)} {a b : Int} {ta tb : Tok}
    (n1 n2 : Str) (G : Int → Int → List Int → Prop) (μ : Int → Int → Nat) (stored : List Str)
    (F : Fr h₀ L s.heap m₀) (N : News h₀ L s.heap news) (hU : ∀ o, Upd cl (listOf vs.toArray c₀) o news (Led o)) (hI : IntsAre vs cs) (h1 : m₀ n1 = some (.int a ta)) (h2 : m₀ n2 = some (.int b tb)) (hG : G a b cs)
    (turn : ∀ (a b : Int) (ta tb : Tok) (vs : List Value) (cs : List Int) (c : Nat) (u : Str → Option Value) h tk, IntsAre vs cs → G a b cs →
      Fr h₀ L h (fun y => if y = n1 then some (.int a ta) else if y = n2 then some (.int b tb) else if stored.contains y = true then u y else m₀ y) → News h₀ L h (Led (listOf vs.toArray c)) →
      wpAny (model prog w) A (isTrue test env (eval test env)) (fun bb s₂ =>
        if bb = true then wpAny (model prog w) A (execs body env) (WEnd h₀ L s n1 n2 stored m₀ Led G μ a b Q) E s₂ else Q .next s₂) E { s with heap := h, toks := tk })
    (hE : PassesOwn (model prog w) A env E := by passes_own) :
    wpAny (model prog w) A (exec (.While test body [] pos) env) Q E s := by
  have hsame := upd_same (hU (listOf vs.toArray c₀))
  refine While_inv2 (fun n m nx => ∃ (a b : Int) (ta tb : Tok) (vs : List Value) (cs : List Int) (c : Nat), nx = Led (listOf vs.toArray c) ∧ μ a b = n ∧ IntsAre vs cs ∧ G a b cs ∧ m n1 = some (.int a ta) ∧ m n2 = some (.int b tb) ∧ ∀ z, z ≠ n1 → z ≠ n2 → stored.contains z = false → m z = m₀ z)
    F N ⟨a, b, ta, tb, vs, cs, c₀, hsame.symm, rfl, hI, hG, h1, h2, fun _ _ _ _ => rfl⟩ ?_ hE
  rintro n m₁ nx h tk F₁ N₁ ⟨a1, b1, ta1, tb1, vs1, cs1, c1, rfl, rfl, hI1, hG1, h11, h21, hz1⟩
  have F₂ := F₁
  rw [frm2_eq h11 h21 hz1] at F₂
  refine wpAny_mono (turn a1 b1 ta1 tb1 vs1 cs1 c1 m₁ h tk hI1 hG1 F₂ N₁) (fun bb s₂ p => ?_) fun _ _ y => y
  cases bb with
  | false => simpa using p
  | true =>
    simp only [if_true] at p ⊢
    refine wpAny_mono p (fun f s₃ q => ?_) fun _ _ y => y
    cases f with
    | ret v => exact q
    | brk => exact q
    | next =>
      obtain ⟨a2, b2, ta2, tb2, vs2, cs2, c2, h2, tk2, m2, news2, rfl, F2, N2, hn2, hI2, hG2, hm2, h12, h22, hz2⟩ := q
      exact ⟨h2, tk2, m2, _, _, rfl, F2, fun p hp => N2 p (hn2 p hp), hm2, a2, b2, ta2, tb2, vs2, cs2, c2, rfl, rfl, hI2, hG2, h12, h22, hz2⟩
    | cont =>
      obtain ⟨a2, b2, ta2, tb2, vs2, cs2, c2, h2, tk2, m2, news2, rfl, F2, N2, hn2, hI2, hG2, hm2, h12, h22, hz2⟩ := q
      exact ⟨h2, tk2, m2, _, _, rfl, F2, fun p hp => N2 p (hn2 p hp), hm2, a2, b2, ta2, tb2, vs2, cs2, c2, rfl, rfl, hI2, hG2, h12, h22, hz2⟩
end
end Mine

open PySem PySem.W PyProof.Rows PySem.Calls PyProof.V PySem.Spec
set_option maxRecDepth 100000
namespace Mine
/-- one butterfly of to_ntt, as the walk writes it -/
def stF (z l k : Int) (cs : List Int) : List Int :=
  (cs.set (k + l).toNat (cs.getD k.toNat 0 - z * cs.getD (k + l).toNat 0)).set k.toNat
    ((cs.set (k + l).toNat (cs.getD k.toNat 0 - z * cs.getD (k + l).toNat 0)).getD k.toNat 0 + z * cs.getD (k + l).toNat 0)
def runF (z l st : Int) (cs : List Int) : Nat → List Int
  | 0 => cs
  | i + 1 => stF z l (st + (i : Int)) (runF z l st cs i)
def runB (l k : Int) (cs : List Int) : Nat → List Int
  | 0 => cs
  | b + 1 => runF (Zs.getD (k + (b : Int)).toNat 0) l ((b : Int) * (2 * l)) (runB l k cs b) l.toNat
def runL (cs : List Int) : Nat → List Int
  | 0 => cs
  | d + 1 => runB (2 ^ (7 - d)) (2 ^ d) (runL cs d) (2 ^ d)
theorem stF_length (z l k : Int) (cs : List Int) : (stF z l k cs).length = cs.length := by simp [stF]
theorem runF_length (z l st : Int) (cs : List Int) : ∀ i, (runF z l st cs i).length = cs.length
  | 0 => rfl
  | i + 1 => by rw [runF, stF_length, runF_length]
theorem runB_length (l k : Int) (cs : List Int) : ∀ i, (runB l k cs i).length = cs.length
  | 0 => rfl
  | i + 1 => by rw [runB, runF_length, runB_length]
theorem runL_length (cs : List Int) : ∀ i, (runL cs i).length = cs.length
  | 0 => rfl
  | i + 1 => by rw [runL, runB_length, runL_length]

theorem Zs_bound (i : Nat) : 0 ≤ Zs.getD i 0 ∧ Zs.getD i 0 < 3329 := by
  by_cases h : i < 128
  · have : Zs.getD i 0 = powv (brv (i : Int)) := by
      simp [Zs, List.getD, h]
    rw [this]
    exact ⟨powv_nonneg _, powv_lt _⟩
  · have : Zs.getD i 0 = 0 := by
      rw [List.getD_eq_getElem?_getD, List.getElem?_eq_none (by rw [Zs_length]; omega)]; rfl
    rw [this]; decide

def OutG (cs₀ : List Int) (l k : Int) (cs : List Int) : Prop := ∃ d : Nat, d ≤ 7 ∧ l = 2 ^ (7 - d) ∧ k = 2 ^ d ∧ cs = runL cs₀ d ∧ cs.length = 256
def MidG (l k : Int) (cs : List Int) (st k' : Int) (cs' : List Int) : Prop := ∃ b : Nat, (b : Int) ≤ k ∧ st = (b : Int) * (2 * l) ∧ k' = k + (b : Int) ∧ cs' = runB l k cs b ∧ cs'.length = 256

theorem seven {d : Nat} (h : d ≤ 7) : d = 0 ∨ d = 1 ∨ d = 2 ∨ d = 3 ∨ d = 4 ∨ d = 5 ∨ d = 6 ∨ d = 7 := by omega
theorem outG_start {cs : List Int} (h : cs.length = 256) : OutG cs 128 1 cs := ⟨0, by decide, by decide, by decide, rfl, h⟩
theorem outG_facts {cs₀ cs : List Int} {l k : Int} (h : OutG cs₀ l k cs) : 1 ≤ l ∧ l ≤ 128 ∧ 1 ≤ k ∧ k ≤ 128 ∧ cs.length = 256 := by
  obtain ⟨d, hd, rfl, rfl, _, hl⟩ := h
  refine ⟨?_, ?_, ?_, ?_, hl⟩ <;> rcases seven hd with rfl | rfl | rfl | rfl | rfl | rfl | rfl | rfl <;> decide
theorem outG_two {cs₀ cs : List Int} {l k : Int} (h : OutG cs₀ l k cs) (h2 : 2 ≤ l) : 2 * l * k = 256 := by
  obtain ⟨d, hd, rfl, rfl, _, hl⟩ := h
  rcases seven hd with rfl | rfl | rfl | rfl | rfl | rfl | rfl | rfl <;> first | rfl | (exfalso; revert h2; decide)
theorem midG_start {l k : Int} {cs : List Int} (hk : 0 ≤ k) (h : cs.length = 256) : MidG l k cs 0 k cs := ⟨0, by omega, by omega, by omega, rfl, h⟩
theorem blk_facts {a k b : Int} (ha : 4 ≤ a) (hk : 1 ≤ k) (e : a * k = 256) (hb0 : 0 ≤ b) (hb : b ≤ k) : 0 ≤ b * a ∧ 4 * k ≤ 256 ∧ (b * a < 256 → b * a + a ≤ 256 ∧ b + 1 ≤ k) := by
  have e' : k * a = 256 := by rw [Int.mul_comm]; exact e
  have hk0 : 0 ≤ k := Int.le_trans (by decide) hk
  have ha0 : 0 ≤ a := Int.le_trans (by decide) ha
  refine ⟨Int.mul_nonneg hb0 ha0, by rw [← e]; exact Int.mul_le_mul_of_nonneg_right ha hk0, fun h => ?_⟩
  have hb2 : b < k := by
    rcases Int.lt_or_eq_of_le hb with h1 | h1
    · exact h1
    · subst h1; exact absurd e' (Int.ne_of_lt h)
  have h3 := Int.mul_le_mul_of_nonneg_right (show b + 1 ≤ k from hb2) ha0
  rw [Int.add_mul, Int.one_mul, e'] at h3
  exact ⟨h3, hb2⟩
theorem blk_done {a k b : Int} (ha : 4 ≤ a) (e : a * k = 256) (hb : b ≤ k) (h : ¬ b * a < 256) : b = k := by
  rcases Int.lt_or_eq_of_le hb with h1 | h1
  · have := Int.mul_lt_mul_of_pos_right h1 (Int.lt_of_lt_of_le (by decide) ha : 0 < a)
    rw [Int.mul_comm k a, e] at this
    exact absurd this h
  · exact h1
theorem midG_facts {cs₀ cs cs' : List Int} {l k st k' : Int} (hO : OutG cs₀ l k cs) (h2 : 2 ≤ l) (h : MidG l k cs st k' cs') :
    0 ≤ st ∧ 1 ≤ k' ∧ cs'.length = 256 ∧ (st < 256 → st + 2 * l ≤ 256 ∧ k' < 128) := by
  have e := outG_two hO h2
  have hk := (outG_facts hO).2.2.1
  obtain ⟨b, hb, rfl, rfl, _, hl'⟩ := h
  clear hO
  have f := blk_facts (a := 2 * l) (by omega) hk e (Int.natCast_nonneg b) hb
  refine ⟨f.1, by omega, hl', fun h => ?_⟩
  have g := f.2.2 h
  exact ⟨g.1, by omega⟩
theorem midG_step {cs₀ cs cs' : List Int} {l k st k' : Int} (hO : OutG cs₀ l k cs) (h2 : 2 ≤ l) (h : MidG l k cs st k' cs') (hs : st < 256) :
    MidG l k cs (st + 2 * l) (k' + 1) (runF (Zs.getD k'.toNat 0) l st cs' l.toNat) := by
  have hf := midG_facts hO h2 h
  have h256 := outG_two hO h2
  obtain ⟨b, hb, rfl, rfl, rfl, hl'⟩ := h
  refine ⟨b + 1, ?_, ?_, by omega, rfl, by rw [runF_length]; exact hl'⟩
  · have h3 := (hf.2.2.2 hs).1
    have e : (b : Int) * (2 * l) + 2 * l = (2 * l) * ((b : Int) + 1) := by rw [Int.mul_add, Int.mul_one, Int.mul_comm]
    rw [e] at h3
    have h4 : (2 * l) * ((b : Int) + 1) ≤ (2 * l) * k := by omega
    have := Int.le_of_mul_le_mul_left h4 (by omega)
    omega
  · rw [Int.natCast_add, Int.add_mul]; omega
theorem midG_done {cs₀ cs cs' : List Int} {l k st k' l' : Int} (hO : OutG cs₀ l k cs) (h2 : 2 ≤ l) (h : MidG l k cs st k' cs') (hs : ¬ st < 256) (hl' : l' = l / 2) : OutG cs₀ l' k' cs' := by
  have e := outG_two hO h2
  obtain ⟨d, hd, rfl, rfl, rfl, hl⟩ := hO
  obtain ⟨b, hb, rfl, rfl, rfl, hlb⟩ := h
  have hb' := blk_done (by omega) e hb hs
  have hd6 : d ≤ 6 := by
    rcases Nat.lt_or_eq_of_le hd with h | h
    · exact Nat.le_of_lt_succ h
    · subst h; exact absurd h2 (by decide)
  obtain rfl : b = 2 ^ d := by exact_mod_cast hb'
  refine ⟨d + 1, Nat.succ_le_succ hd6, ?_, ?_, ?_, hlb⟩
  · rw [hl']
    rcases seven hd with rfl | rfl | rfl | rfl | rfl | rfl | rfl | rfl <;> first | rfl | exact absurd hd6 (by decide)
  · rw [hb', Int.pow_succ, Int.mul_comm, Int.two_mul]
  · rfl
end Mine

open PySem PySem.W PyProof.Rows PySem.Calls PyProof.V PySem.Spec
set_option maxRecDepth 100000
namespace Mine
section
variable {prog : Program} {w : World} {A : Around} {E : Value → Shared → Prop} {s : Shared} {env : Env} {h₀ : Heap} {Q : Flow → Shared → Prop}

theorem fwd_out {test : PySem.Expr} {body : List Stmt} {pos : Pos} {L cl : Addr} {m₀ : Str → Option Value} {news : List (Addr × Obj)} {vs : List Value} {cs : List Int} {c₀ : Nat} {Led : Obj → List (Addr × Obj)} {ta tb : Tok}
    (F : Fr h₀ L s.heap m₀) (N : News h₀ L s.heap news) (hc : m₀ "coeffs" = some (.ref cl)) (hm : (cl, listOf vs.toArray c₀) ∈ news) (hU : ∀ o, Upd cl (listOf vs.toArray c₀) o news (Led o)) (hI : IntsAre vs cs)
    (h1 : m₀ "l" = some (.int 128 ta)) (h2 : m₀ "k" = some (.int 1 tb)) (hlen : cs.length = 256)
    (turn : ∀ (l k : Int) (ta tb : Tok) (vs : List Value) (cs' : List Int) (c : Nat) (u : Str → Option Value) h tk, IntsAre vs cs' → OutG cs l k cs' → 1 ≤ l ∧ l ≤ 128 ∧ 1 ≤ k ∧ k ≤ 128 ∧ cs'.length = 256 →
      Fr h₀ L h (fun y => if y = "l" then some (.int l ta) else if y = "k" then some (.int k tb) else if (["start", "zeta", "j", "t"] : List Str).contains y = true then u y else m₀ y) → News h₀ L h (Led (listOf vs.toArray c)) →
      wpAny (model prog w) A (isTrue test env (eval test env)) (fun bb s₂ =>
        if bb = true then wpAny (model prog w) A (execs body env) (WEnd h₀ L s "l" "k" ["start", "zeta", "j", "t"] m₀ Led (OutG cs) (fun l _ => l.toNat) l k Q) E s₂ else Q .next s₂) E { s with heap := h, toks := tk })
    (hE : PassesOwn (model prog w) A env E := by passes_own) :
    wpAny (model prog w) A (exec (.While test body [] pos) env) Q E s :=
  while_list "l" "k" (OutG cs) (fun l _ => l.toNat) ["start", "zeta", "j", "t"] F N hU hI h1 h2 (outG_start hlen)
    (fun l k ta tb vs cs' c u h tk hI' hG' F' N' => turn l k ta tb vs cs' c u h tk hI' hG' (outG_facts hG') F' N') hE

theorem fwd_mid {test : PySem.Expr} {body : List Stmt} {pos : Pos} {L cl : Addr} {m₀ : Str → Option Value} {news : List (Addr × Obj)} {vs : List Value} {cs₀ cs : List Int} {c₀ : Nat} {Led : Obj → List (Addr × Obj)} {l k : Int} {ta tb tl : Tok}
    (F : Fr h₀ L s.heap m₀) (N : News h₀ L s.heap news) (hc : m₀ "coeffs" = some (.ref cl)) (hm : (cl, listOf vs.toArray c₀) ∈ news) (hU : ∀ o, Upd cl (listOf vs.toArray c₀) o news (Led o)) (hI : IntsAre vs cs)
    (h1 : m₀ "start" = some (.int 0 ta)) (h2 : m₀ "k" = some (.int k tb)) (hl : m₀ "l" = some (.int l tl)) (hO : OutG cs₀ l k cs) (h2l : 2 ≤ l)
    (turn : ∀ (st k' : Int) (ta tb : Tok) (vs : List Value) (cs' : List Int) (c : Nat) (u : Str → Option Value) h tk, IntsAre vs cs' → MidG l k cs st k' cs' →
      0 ≤ st ∧ 1 ≤ k' ∧ cs'.length = 256 ∧ (st < 256 → st + 2 * l ≤ 256 ∧ k' < 128) → 0 ≤ Zs.getD k'.toNat 0 ∧ Zs.getD k'.toNat 0 < 3329 →
      Fr h₀ L h (fun y => if y = "start" then some (.int st ta) else if y = "k" then some (.int k' tb) else if (["zeta", "j", "t"] : List Str).contains y = true then u y else m₀ y) → News h₀ L h (Led (listOf vs.toArray c)) →
      wpAny (model prog w) A (isTrue test env (eval test env)) (fun bb s₂ =>
        if bb = true then wpAny (model prog w) A (execs body env) (WEnd h₀ L s "start" "k" ["zeta", "j", "t"] m₀ Led (MidG l k cs) (fun st _ => (256 - st).toNat) st k' Q) E s₂ else Q .next s₂) E { s with heap := h, toks := tk })
    (hE : PassesOwn (model prog w) A env E := by passes_own) :
    wpAny (model prog w) A (exec (.While test body [] pos) env) Q E s :=
  while_list "start" "k" (MidG l k cs) (fun st _ => (256 - st).toNat) ["zeta", "j", "t"] F N hU hI h1 h2 (midG_start (by have := (outG_facts hO).2.2.1; omega) (outG_facts hO).2.2.2.2)
    (fun st k' ta tb vs cs' c u h tk hI' hG' F' N' => turn st k' ta tb vs cs' c u h tk hI' hG' (midG_facts hO h2l hG') (Zs_bound _) F' N') hE

def InG (z l st : Int) (cs : List Int) (i : Nat) (c : List Int) : Prop := c = runF z l st cs i ∧ c.length = 256
theorem inG_step {z l st : Int} {cs cs' : List Int} {i : Nat} (h : InG z l st cs i cs') : InG z l st cs (i + 1) (stF z l (st + (i : Int)) cs') :=
  ⟨by rw [runF, ← h.1], by rw [stF_length]; exact h.2⟩

theorem fwd_in {r cl : Addr} {x : Str} {body : List Stmt} {st e z l : Int} {t₀ u₀ v₀ tz tl : Tok} {m₀ : Str → Option Value} {news : List (Addr × Obj)} {vs : List Value} {cs : List Int} {c₀ : Nat} {Led : Obj → List (Addr × Obj)}
    (hh : A.handled = none) (hr : IsRange s.heap r st e 1 t₀ u₀ v₀) (F : Fr h₀ env.locals s.heap m₀) (N : News h₀ env.locals s.heap news) (hc : m₀ "coeffs" = some (.ref cl)) (hm : (cl, listOf vs.toArray c₀) ∈ news) (hU : ∀ o, Upd cl (listOf vs.toArray c₀) o news (Led o)) (hI : IntsAre vs cs)
    (hz : m₀ "zeta" = some (.int z tz)) (hl : m₀ "l" = some (.int l tl)) (he : e = st + l) (h0 : 0 ≤ st) (h1 : 1 ≤ l) (h256 : st + 2 * l ≤ 256) (hlen : cs.length = 256)
    (turn : ∀ (i : Nat) (vs : List Value) (cs' : List Int) (c : Nat) (t : Tok) (u : Str → Option Value) h tk own, (i : Int) < l → OwnOff own (news.map (·.1)) → IntsAre vs cs' → InG z l st cs i cs' → cs'.length = 256 →
      Fr h₀ env.locals h (fun y => if y = x then some (.int (st + (i : Int)) t) else if (["t"] : List Str).contains y then u y else m₀ y) → News h₀ env.locals h (Led (listOf vs.toArray c) ++ own) →
      wpAny (model prog w) A (execs body env) (ForEnd h₀ env.locals x st ["t"] m₀ Led (InG z l st cs) i own { s with heap := h, toks := tk } Q) E { s with heap := h, toks := tk })
    (done : ∀ (vs : List Value) (cs' : List Int) (c : Nat) (t : Tok) (u : Str → Option Value) h tk, IntsAre vs cs' → cs' = runF z l st cs l.toNat → cs'.length = 256 →
      Fr h₀ env.locals h (fun y => if y = x then some (.int (st + l - 1) t) else if (["t"] : List Str).contains y then u y else m₀ y) → News h₀ env.locals h (Led (listOf vs.toArray c)) → Q .next { s with heap := h, toks := tk }) :
    wpAny (model prog w) A (pyIter (.ref r)) (fun it s₂ => LoopAtV prog w A h₀ env x body Q E it s₂) E s := by
  subst he
  have hn : ((l.toNat : Nat) : Int) = l := by omega
  refine for_list (n := l.toNat) (InG z l st cs) ["t"] hh hr (small_one (by omega) (by omega) (by omega) (by omega)) (by rw [rangeSize_nat]; congr 1; omega) (by omega) F N hU hI ⟨rfl, hlen⟩ ?_ ?_
  · intro i vs cs' c t u h tk own hi ho hI' hG' F' N'
    exact turn i vs cs' c t u h tk own (by omega) ho hI' hG' hG'.2 F' N'
  · intro vs cs' c t u h tk hI' hG' F' N'
    rw [hn] at F'
    exact done vs cs' c t u h tk hI' hG'.1 hG'.2 F' N'
end
end Mine
namespace Mine
theorem pad_len' {gs : List Int} (h : (gs.length : Int) < 256) : (pad gs).length = 256 := pad_length (by omega)
theorem len_of {gs : List Int} (h : (gs.length : Int) = 256) : gs.length = 256 := by omega
theorem mid_end {cs₀ cs cs' cs'' : List Int} {l k st k' st' : Int} (hO : OutG cs₀ l k cs) (h2 : 2 ≤ l) (h : MidG l k cs st k' cs') (hs : st < 256) (hq : cs'' = runF (Zs.getD k'.toNat 0) l st cs' l.toNat) (e : st' = st + 2 * l) :
    MidG l k cs st' (k' + 1) cs'' ∧ (256 - st').toNat < (256 - st).toNat := by
  subst hq; subst e
  have := (midG_facts hO h2 h)
  exact ⟨midG_step hO h2 h hs, by omega⟩
theorem half (l : Int) : l.fdiv (2 ^ Int.toNat 1) = l / 2 := by
  rw [show ((2 : Int) ^ Int.toNat 1) = 2 from rfl, Int.fdiv_eq_ediv_of_nonneg _ (by decide)]
theorem out_end {cs₀ cs cs' : List Int} {l k st k' l' : Int} (hO : OutG cs₀ l k cs) (h2 : 2 ≤ l) (h : MidG l k cs st k' cs') (hs : ¬ st < 256) (hl' : l' = l / 2) :
    OutG cs₀ l' k' cs' ∧ l'.toNat < l.toNat := ⟨midG_done hO h2 h hs hl', by omega⟩
end Mine
namespace Mine
def modF (cs : List Int) : Nat → List Int
  | 0 => cs
  | i + 1 => (modF cs i).set (0 + (i : Int)).toNat (((modF cs i).getD (0 + (i : Int)).toNat 0).fmod 3329)
theorem modF_length (cs : List Int) : ∀ i, (modF cs i).length = cs.length
  | 0 => rfl
  | i + 1 => by rw [modF, List.length_set, modF_length]
def ModG (cs : List Int) (i : Nat) (c : List Int) : Prop := c = modF cs i ∧ c.length = 256
theorem modG_step {cs cs' : List Int} {i : Nat} (h : ModG cs i cs') : ModG cs (i + 1) (cs'.set (0 + (i : Int)).toNat ((cs'.getD (0 + (i : Int)).toNat 0).fmod 3329)) :=
  ⟨by rw [modF, ← h.1], by rw [List.length_set]; exact h.2⟩
def mfF (f : Int) (cs : List Int) : Nat → List Int
  | 0 => cs
  | i + 1 => (mfF f cs i).set (0 + (i : Int)).toNat (((mfF f cs i).getD (0 + (i : Int)).toNat 0 * f).fmod 3329)
theorem mfF_length (f : Int) (cs : List Int) : ∀ i, (mfF f cs i).length = cs.length
  | 0 => rfl
  | i + 1 => by rw [mfF, List.length_set, mfF_length]
def MfG (f : Int) (cs : List Int) (i : Nat) (c : List Int) : Prop := c = mfF f cs i ∧ c.length = 256
theorem mfG_step {f : Int} {cs cs' : List Int} {i : Nat} (h : MfG f cs i cs') : MfG f cs (i + 1) (cs'.set (0 + (i : Int)).toNat ((cs'.getD (0 + (i : Int)).toNat 0 * f).fmod 3329)) :=
  ⟨by rw [mfF, ← h.1], by rw [List.length_set]; exact h.2⟩
section
variable {prog : Program} {w : World} {A : Around} {E : Value → Shared → Prop} {s : Shared} {env : Env} {h₀ : Heap} {Q : Flow → Shared → Prop}
theorem for_mod {r cl : Addr} {x : Str} {body : List Stmt} {t₀ u₀ v₀ : Tok} {m₀ : Str → Option Value} {news : List (Addr × Obj)} {vs : List Value} {cs : List Int} {c₀ : Nat} {Led : Obj → List (Addr × Obj)}
    (hh : A.handled = none) (hr : IsRange s.heap r 0 256 1 t₀ u₀ v₀) (F : Fr h₀ env.locals s.heap m₀) (N : News h₀ env.locals s.heap news) (hc : m₀ "coeffs" = some (.ref cl)) (hm : (cl, listOf vs.toArray c₀) ∈ news) (hU : ∀ o, Upd cl (listOf vs.toArray c₀) o news (Led o)) (hI : IntsAre vs cs) (hlen : cs.length = 256)
    (turn : ∀ (i : Nat) (vs : List Value) (cs' : List Int) (c : Nat) (t : Tok) (u : Str → Option Value) h tk own, (i : Int) < 256 → OwnOff own (news.map (·.1)) → IntsAre vs cs' → ModG cs i cs' → cs'.length = 256 →
      Fr h₀ env.locals h (fun y => if y = x then some (.int (0 + (i : Int)) t) else if ([] : List Str).contains y then u y else m₀ y) → News h₀ env.locals h (Led (listOf vs.toArray c) ++ own) →
      wpAny (model prog w) A (execs body env) (ForEnd h₀ env.locals x 0 [] m₀ Led (ModG cs) i own { s with heap := h, toks := tk } Q) E { s with heap := h, toks := tk })
    (done : ∀ (vs : List Value) (cs' : List Int) (c : Nat) (t : Tok) (u : Str → Option Value) h tk, IntsAre vs cs' → cs' = modF cs 256 → cs'.length = 256 →
      Fr h₀ env.locals h (fun y => if y = x then some (.int (0 + 256 - 1) t) else if ([] : List Str).contains y then u y else m₀ y) → News h₀ env.locals h (Led (listOf vs.toArray c)) → Q .next { s with heap := h, toks := tk }) :
    wpAny (model prog w) A (pyIter (.ref r)) (fun it s₂ => LoopAtV prog w A h₀ env x body Q E it s₂) E s := by
  refine for_list (n := 256) (ModG cs) [] hh hr (small_one (by omega) (by omega) (by omega) (by omega)) (by rw [rangeSize_nat]; rfl) (by omega) F N hU hI ⟨rfl, hlen⟩ ?_ ?_
  · intro i vs cs' c t u h tk own hi ho hI' hG' F' N'
    exact turn i vs cs' c t u h tk own (by omega) ho hI' hG' hG'.2 F' N'
  · intro vs cs' c t u h tk hI' hG' F' N'
    exact done vs cs' c t u h tk hI' hG'.1 hG'.2 F' N'
theorem for_mf {r cl : Addr} {x : Str} {body : List Stmt} {f : Int} {tf t₀ u₀ v₀ : Tok} {m₀ : Str → Option Value} {news : List (Addr × Obj)} {vs : List Value} {cs : List Int} {c₀ : Nat} {Led : Obj → List (Addr × Obj)}
    (hh : A.handled = none) (hr : IsRange s.heap r 0 256 1 t₀ u₀ v₀) (F : Fr h₀ env.locals s.heap m₀) (N : News h₀ env.locals s.heap news) (hf : m₀ "f" = some (.int f tf)) (hc : m₀ "coeffs" = some (.ref cl)) (hm : (cl, listOf vs.toArray c₀) ∈ news) (hU : ∀ o, Upd cl (listOf vs.toArray c₀) o news (Led o)) (hI : IntsAre vs cs) (hlen : cs.length = 256)
    (turn : ∀ (i : Nat) (vs : List Value) (cs' : List Int) (c : Nat) (t : Tok) (u : Str → Option Value) h tk own, (i : Int) < 256 → OwnOff own (news.map (·.1)) → IntsAre vs cs' → MfG f cs i cs' → cs'.length = 256 →
      Fr h₀ env.locals h (fun y => if y = x then some (.int (0 + (i : Int)) t) else if ([] : List Str).contains y then u y else m₀ y) → News h₀ env.locals h (Led (listOf vs.toArray c) ++ own) →
      wpAny (model prog w) A (execs body env) (ForEnd h₀ env.locals x 0 [] m₀ Led (MfG f cs) i own { s with heap := h, toks := tk } Q) E { s with heap := h, toks := tk })
    (done : ∀ (vs : List Value) (cs' : List Int) (c : Nat) (t : Tok) (u : Str → Option Value) h tk, IntsAre vs cs' → cs' = mfF f cs 256 → cs'.length = 256 →
      Fr h₀ env.locals h (fun y => if y = x then some (.int (0 + 256 - 1) t) else if ([] : List Str).contains y then u y else m₀ y) → News h₀ env.locals h (Led (listOf vs.toArray c)) → Q .next { s with heap := h, toks := tk }) :
    wpAny (model prog w) A (pyIter (.ref r)) (fun it s₂ => LoopAtV prog w A h₀ env x body Q E it s₂) E s := by
  refine for_list (n := 256) (MfG f cs) [] hh hr (small_one (by omega) (by omega) (by omega) (by omega)) (by rw [rangeSize_nat]; rfl) (by omega) F N hU hI ⟨rfl, hlen⟩ ?_ ?_
  · intro i vs cs' c t u h tk own hi ho hI' hG' F' N'
    exact turn i vs cs' c t u h tk own (by omega) ho hI' hG' hG'.2 F' N'
  · intro vs cs' c t u h tk hI' hG' F' N'
    exact done vs cs' c t u h tk hI' hG'.1 hG'.2 F' N'
end
end Mine

open PySem PySem.W PyProof.Rows PySem.Calls PyProof.V PySem.Spec
set_option maxRecDepth 100000
namespace Mine
section
variable {prog : Program} {w : World} {A : Around} {E : Value → Shared → Prop} {s : Shared} {env : Env} {h₀ : Heap} {Q : Flow → Shared → Prop}

/-- a range loop that turns two int names; the ledger stands -/
def TwoEnd (h₀ : Heap) (L : Addr) (x n1 n2 : Str) (m₀ : Str → Option Value) (news : List (Addr × Obj)) (g1 g2 : Nat → Int) (i : Nat) (own : List (Addr × Obj)) (s₁ : Shared) (Q : Flow → Shared → Prop) (f : Flow) (s₂ : Shared) : Prop :=
  match f with
  | .ret v => Q (.ret v) s₂
  | .brk => Q .next s₂
  | _ => ∃ (h' : Heap) (tk : Nat) (m' : Str → Option Value) (news' : List (Addr × Obj)), s₂ = { s₁ with heap := h', toks := tk } ∧ Fr h₀ L h' m' ∧ News h₀ L h' news' ∧
      (∀ p ∈ news, p ∈ news') ∧ (∀ p ∈ own, p ∈ news') ∧ (∃ t, m' n1 = some (.int (g1 (i + 1)) t)) ∧ (∃ t, m' n2 = some (.int (g2 (i + 1)) t)) ∧ ∀ z, z ≠ x → z ≠ n1 → z ≠ n2 → m' z = m₀ z
theorem twoEnd_intro {L : Addr} {x n1 n2 : Str} {m₀ m' : Str → Option Value} {news news' own : List (Addr × Obj)} {g1 g2 : Nat → Int} {i : Nat} {s₁ : Shared} {h' : Heap} {tk : Nat} {a b : Int} {ta tb : Tok}
    (F : Fr h₀ L h' m') (N : News h₀ L h' news') (hn : ∀ p ∈ news, p ∈ news') (ho : ∀ p ∈ own, p ∈ news') (h1 : m' n1 = some (.int a ta)) (h2 : m' n2 = some (.int b tb))
    (hz : ∀ z, z ≠ x → z ≠ n1 → z ≠ n2 → m' z = m₀ z) (e : a = g1 (i + 1) ∧ b = g2 (i + 1)) : TwoEnd h₀ L x n1 n2 m₀ news g1 g2 i own s₁ Q .next { s₁ with heap := h', toks := tk } := by
  obtain ⟨rfl, rfl⟩ := e
  exact ⟨h', tk, m', news', rfl, F, N, hn, ho, ⟨ta, h1⟩, ⟨tb, h2⟩, hz⟩
theorem frm3_eq {x n1 n2 : Str} {v : Option Value} {v1 v2 : Value} {m₀ m₁ : Str → Option Value} (h1 : m₁ n1 = some v1) (h2 : m₁ n2 = some v2) (h : ∀ z, z ≠ x → z ≠ n1 → z ≠ n2 → m₁ z = m₀ z) :
    (fun y => if y = x then v else m₁ y) = fun y => if y = x then v else if y = n1 then some v1 else if y = n2 then some v2 else m₀ y := by
  funext y
  by_cases e : y = x
  · rw [if_pos e, if_pos e]
  · rw [if_neg e, if_neg e]
    by_cases e1 : y = n1
    · rw [if_pos e1, e1, h1]
    · rw [if_neg e1]
      by_cases e2 : y = n2
      · rw [if_pos e2, e2, h2]
      · rw [if_neg e2]; exact h y e e1 e2
theorem for_two {r : Addr} {x : Str} {body : List Stmt} {a₀ b₀ : Int} {t₀ u₀ v₀ ta tb : Tok} {n : Nat} {m₀ : Str → Option Value} {news : List (Addr × Obj)}
    (n1 n2 : Str) (g1 g2 : Nat → Int)
    (hh : A.handled = none) (hr : IsRange s.heap r a₀ b₀ 1 t₀ u₀ v₀) (hsmall : Builtin.Range.small a₀ b₀ 1 = true) (hn : Builtin.Range.rangeSize a₀ b₀ 1 = (n : Int))
    (F : Fr h₀ env.locals s.heap m₀) (N : News h₀ env.locals s.heap news) (h1 : m₀ n1 = some (.int (g1 0) ta)) (h2 : m₀ n2 = some (.int (g2 0) tb))
    (turn : ∀ (i : Nat) (t t1 t2 : Tok) h tk own, i < n → OwnOff own (news.map (·.1)) →
      Fr h₀ env.locals h (fun y => if y = x then some (.int (a₀ + (i : Int)) t) else if y = n1 then some (.int (g1 i) t1) else if y = n2 then some (.int (g2 i) t2) else m₀ y) → News h₀ env.locals h (news ++ own) →
      wpAny (model prog w) A (execs body env) (TwoEnd h₀ env.locals x n1 n2 m₀ news g1 g2 i own { s with heap := h, toks := tk } Q) E { s with heap := h, toks := tk })
    (done : ∀ (t1 t2 : Tok) (u : Option Value) h tk,
      Fr h₀ env.locals h (fun y => if y = x then u else if y = n1 then some (.int (g1 n) t1) else if y = n2 then some (.int (g2 n) t2) else m₀ y) → News h₀ env.locals h news → Q .next { s with heap := h, toks := tk }) :
    wpAny (model prog w) A (pyIter (.ref r)) (fun it s₂ => LoopAtV prog w A h₀ env x body Q E it s₂) E s := by
  refine wpAny_pyIter_range hr hsmall ?_
  have W : Walks prog w A s.heap.objs.size [s.heap.objs.size] [s.heap.objs.size] n (fun i v => i < n ∧ ∃ t, v = .int (a₀ + i * 1) t)
      (fun i h => IsRangeIter h s.heap.objs.size (a₀ + (i : Nat) * 1) ((n : Int) - (i : Nat)) 1) := (Walks.range hh _ a₀ 1 n).bound
  refine loop_invN (fun i m nx => nx = news ∧ (∃ t, m n1 = some (.int (g1 i) t)) ∧ (∃ t, m n2 = some (.int (g2 i) t)) ∧ ∀ z, z ≠ x → z ≠ n1 → z ≠ n2 → m z = m₀ z) W ?_ ?_ ?_ ?_ (by show IsRangeIter _ _ _ _ _; rw [hn]; simpa using Heap.get?_push_size _ rfl) (F.push _) (fun p hp => ⟨Heap.get?_push_of_some _ (N p hp).1, (N p hp).2⟩)
    ⟨rfl, ⟨ta, h1⟩, ⟨tb, h2⟩, fun _ _ _ _ => rfl⟩ ?_ ?_
  · intro hm
    exact absurd F.ns.lt ((List.mem_singleton.mp hm) ▸ Nat.lt_irrefl _)
  · intro b hb
    rw [List.mem_singleton.mp hb]
    exact next_is_new F
  · intro p hp hI'
    exact absurd (Heap.lt_size (N p hp).1) ((List.mem_singleton.mp hI') ▸ Nat.lt_irrefl _)
  · intro p hp hI'
    exact absurd (Heap.lt_size (N p hp).1) ((List.mem_singleton.mp hI') ▸ Nat.lt_irrefl _)
  · rintro i v m₁ nx h tk own hi ⟨_, t, rfl⟩ _ hoff ⟨rfl, ⟨t1, e1⟩, ⟨t2, e2⟩, hz⟩ F₁ N₁
    have e : a₀ + (i : Int) * 1 = a₀ + (i : Int) := by omega
    rw [e, frm3_eq e1 e2 hz] at F₁
    refine wpAny_mono (turn i t t1 t2 h tk own hi hoff F₁ N₁) (fun f s₂ p => ?_) fun _ _ y => y
    have fin : (∃ (h' : Heap) (tk' : Nat) (m' : Str → Option Value) (news' : List (Addr × Obj)), s₂ = { { s with heap := h, toks := tk } with heap := h', toks := tk' } ∧ Fr h₀ env.locals h' m' ∧ News h₀ env.locals h' news' ∧
      (∀ p ∈ nx, p ∈ news') ∧ (∀ p ∈ own, p ∈ news') ∧ (∃ t, m' n1 = some (.int (g1 (i + 1)) t)) ∧ (∃ t, m' n2 = some (.int (g2 (i + 1)) t)) ∧ ∀ z, z ≠ x → z ≠ n1 → z ≠ n2 → m' z = m₀ z) →
        InvEndN h₀ env.locals (fun m nx' => nx' = nx ∧ (∃ t, m n1 = some (.int (g1 (i + 1)) t)) ∧ (∃ t, m n2 = some (.int (g2 (i + 1)) t)) ∧ ∀ z, z ≠ x → z ≠ n1 → z ≠ n2 → m z = m₀ z) own (nx.map (·.1)) { s with heap := h, toks := tk } s₂ := by
      rintro ⟨h2, tk2, m2, news2, rfl, F2, N2, hn2, ho2, hx1, hx2, hz2⟩
      exact InvEndN.intro F2 N2 ⟨rfl, hx1, hx2, hz2⟩ rfl hn2 ho2
    cases f with
    | ret v => exact p
    | brk => exact p
    | next => exact fin p
    | cont => exact fin p
  · rintro m₁ nx h tk ⟨rfl, ⟨t1, e1⟩, ⟨t2, e2⟩, hz⟩ F₁ N₁
    have q := frm3_eq (v := m₁ x) e1 e2 hz
    have q' : (fun y => if y = x then m₁ x else m₁ y) = m₁ := by
      funext y
      by_cases e : y = x
      · rw [if_pos e, e]
      · rw [if_neg e]
    rw [q'] at q
    rw [q] at F₁
    exact done t1 t2 (m₁ x) h tk F₁ N₁
end
end Mine
namespace Mine
section
variable {prog : Program} {w : World} {A : Around} {E : Value → Shared → Prop} {s : Shared} {env : Env} {h₀ : Heap} {Q : Flow → Shared → Prop}
def DnEnd (h₀ : Heap) (L : Addr) (x : Str) (m₀ : Str → Option Value) (Led : Obj → List (Addr × Obj)) (G : Nat → List Int → Prop) (i : Nat) (own : List (Addr × Obj)) (s₁ : Shared) (Q : Flow → Shared → Prop) (f : Flow) (s₂ : Shared) : Prop :=
  match f with
  | .ret v => Q (.ret v) s₂
  | .brk => Q .next s₂
  | _ => ∃ (vs : List Value) (cs : List Int) (c : Nat) (h' : Heap) (tk : Nat) (m' : Str → Option Value) (news' : List (Addr × Obj)), s₂ = { s₁ with heap := h', toks := tk } ∧ Fr h₀ L h' m' ∧ News h₀ L h' news' ∧
      (∀ p ∈ Led (listOf vs.toArray c), p ∈ news') ∧ (∀ p ∈ own, p ∈ news') ∧ IntsAre vs cs ∧ G (i + 1) cs ∧ ∀ z, z ≠ x → m' z = m₀ z
theorem dnEnd_intro {L : Addr} {x : Str} {m₀ m' : Str → Option Value} {Led : Obj → List (Addr × Obj)} {G : Nat → List Int → Prop} {i : Nat} {own news' : List (Addr × Obj)} {s₁ : Shared} {h' : Heap} {tk : Nat} {vs : List Value} {cs : List Int} {c : Nat}
    (F : Fr h₀ L h' m') (N : News h₀ L h' news') (hn : ∀ p ∈ Led (listOf vs.toArray c), p ∈ news') (ho : ∀ p ∈ own, p ∈ news') (hI : IntsAre vs cs)
    (hz : ∀ z, z ≠ x → m' z = m₀ z) (hG : G (i + 1) cs) : DnEnd h₀ L x m₀ Led G i own s₁ Q .next { s₁ with heap := h', toks := tk } :=
  ⟨vs, cs, c, h', tk, m', news', rfl, F, N, hn, ho, hI, hG, hz⟩
theorem for_listD {r cl : Addr} {x : Str} {body : List Stmt} {a₀ b₀ : Int} {t₀ u₀ v₀ : Tok} {n : Nat} {m₀ : Str → Option Value} {news : List (Addr × Obj)} {vs : List Value} {cs : List Int} {c₀ : Nat} {Led : Obj → List (Addr × Obj)}
    (G : Nat → List Int → Prop)
    (hh : A.handled = none) (hr : IsRange s.heap r a₀ b₀ (-1) t₀ u₀ v₀) (hsmall : Builtin.Range.small a₀ b₀ (-1) = true) (hn : Builtin.Range.rangeSize a₀ b₀ (-1) = (n : Int))
    (F : Fr h₀ env.locals s.heap m₀) (N : News h₀ env.locals s.heap news) (hU : ∀ o, Upd cl (listOf vs.toArray c₀) o news (Led o)) (hI : IntsAre vs cs) (hG : G 0 cs)
    (turn : ∀ (i : Nat) (vs : List Value) (cs : List Int) (c : Nat) (t : Tok) h tk own, i < n → OwnOff own (news.map (·.1)) → IntsAre vs cs → G i cs →
      Fr h₀ env.locals h (fun y => if y = x then some (.int (a₀ - (i : Int)) t) else m₀ y) → News h₀ env.locals h (Led (listOf vs.toArray c) ++ own) →
      wpAny (model prog w) A (execs body env) (DnEnd h₀ env.locals x m₀ Led G i own { s with heap := h, toks := tk } Q) E { s with heap := h, toks := tk })
    (done : ∀ (vs : List Value) (cs : List Int) (c : Nat) (u : Option Value) h tk, IntsAre vs cs → G n cs →
      Fr h₀ env.locals h (fun y => if y = x then u else m₀ y) → News h₀ env.locals h (Led (listOf vs.toArray c)) → Q .next { s with heap := h, toks := tk }) :
    wpAny (model prog w) A (pyIter (.ref r)) (fun it s₂ => LoopAtV prog w A h₀ env x body Q E it s₂) E s := by
  have hsame := upd_same (hU (listOf vs.toArray c₀))
  have hkeys : ∀ o, (Led o).map (·.1) = news.map (·.1) := fun o => upd_keys (hU o)
  have eqm : ∀ (v : Option Value) {m₁ : Str → Option Value}, (∀ z, z ≠ x → m₁ z = m₀ z) → (fun y => if y = x then v else m₁ y) = fun y => if y = x then v else m₀ y := by
    intro v m₁ h
    funext y
    by_cases e : y = x
    · rw [if_pos e, if_pos e]
    · rw [if_neg e, if_neg e]; exact h y e
  refine wpAny_pyIter_range hr hsmall ?_
  have W : Walks prog w A s.heap.objs.size [s.heap.objs.size] [s.heap.objs.size] n (fun i v => i < n ∧ ∃ t, v = .int (a₀ + i * (-1)) t)
      (fun i h => IsRangeIter h s.heap.objs.size (a₀ + (i : Nat) * (-1)) ((n : Int) - (i : Nat)) (-1)) := (Walks.range hh _ a₀ (-1) n).bound
  refine loop_invN (fun i m nx => ∃ (vs : List Value) (cs : List Int) (c : Nat), nx = Led (listOf vs.toArray c) ∧ IntsAre vs cs ∧ G i cs ∧ ∀ z, z ≠ x → m z = m₀ z) W ?_ ?_ ?_ ?_ (by show IsRangeIter _ _ _ _ _; rw [hn]; simpa using Heap.get?_push_size _ rfl) (F.push _) (fun p hp => ⟨Heap.get?_push_of_some _ (N p hp).1, (N p hp).2⟩)
    ⟨vs, cs, c₀, hsame.symm, hI, hG, fun _ _ => rfl⟩ ?_ ?_
  · intro hm
    exact absurd F.ns.lt ((List.mem_singleton.mp hm) ▸ Nat.lt_irrefl _)
  · intro b hb
    rw [List.mem_singleton.mp hb]
    exact next_is_new F
  · intro p hp hI'
    exact absurd (Heap.lt_size (N p hp).1) ((List.mem_singleton.mp hI') ▸ Nat.lt_irrefl _)
  · intro p hp hI'
    exact absurd (Heap.lt_size (N p hp).1) ((List.mem_singleton.mp hI') ▸ Nat.lt_irrefl _)
  · rintro i v m₁ nx h tk own hi ⟨_, t, rfl⟩ _ hoff ⟨vs', cs', c', rfl, hI', hG', hz⟩ F₁ N₁
    have e1 : a₀ + (i : Int) * (-1) = a₀ - (i : Int) := by omega
    rw [e1, eqm _ hz] at F₁
    refine wpAny_mono (turn i vs' cs' c' t h tk own hi hoff hI' hG' F₁ N₁) (fun f s₂ p => ?_) fun _ _ y => y
    have fin : (∃ (vs : List Value) (cs : List Int) (c : Nat) (h' : Heap) (tk' : Nat) (m' : Str → Option Value) (news' : List (Addr × Obj)), s₂ = { { s with heap := h, toks := tk } with heap := h', toks := tk' } ∧ Fr h₀ env.locals h' m' ∧ News h₀ env.locals h' news' ∧
      (∀ p ∈ Led (listOf vs.toArray c), p ∈ news') ∧ (∀ p ∈ own, p ∈ news') ∧ IntsAre vs cs ∧ G (i + 1) cs ∧ ∀ z, z ≠ x → m' z = m₀ z) →
        InvEndN h₀ env.locals (fun m nx => ∃ (vs : List Value) (cs : List Int) (c : Nat), nx = Led (listOf vs.toArray c) ∧ IntsAre vs cs ∧ G (i + 1) cs ∧ ∀ z, z ≠ x → m z = m₀ z) own (news.map (·.1)) { s with heap := h, toks := tk } s₂ := by
      rintro ⟨vs2, cs2, c2, h2, tk2, m2, news2, rfl, F2, N2, hn2, ho2, hI2, hG2, hz2⟩
      exact InvEndN.intro F2 N2 ⟨vs2, cs2, c2, rfl, hI2, hG2, hz2⟩ (hkeys _) hn2 ho2
    cases f with
    | ret v => exact p
    | brk => exact p
    | next => exact fin p
    | cont => exact fin p
  · rintro m₁ nx h tk ⟨vs', cs', c', rfl, hI', hG', hz⟩ F₁ N₁
    have q := eqm (m₁ x) hz
    have q' : (fun y => if y = x then m₁ x else m₁ y) = m₁ := by
      funext y
      by_cases e : y = x
      · rw [if_pos e, e]
      · rw [if_neg e]
    rw [q'] at q
    rw [q] at F₁
    exact done vs' cs' c' (m₁ x) h tk hI' hG' F₁ N₁

/-- the exponent and the step of _law_rest -/
def stG (i : Nat) : Int := match i with
  | 0 => 64
  | i + 1 => (stG i).fdiv 2
def eG (p : Int) (i : Nat) : Int := match i with
  | 0 => 128
  | i + 1 => if ((p.fdiv (stG i)).fmod 2 == 1) = true then (eG p i).fdiv 2 + 128 else (eG p i).fdiv 2
theorem stG_bound : ∀ i, i < 7 → 1 ≤ stG i ∧ stG i ≤ 64 := by decide
theorem eG_bound (p : Int) : ∀ i, 0 ≤ eG p i ∧ eG p i ≤ 256
  | 0 => by show (0 : Int) ≤ 128 ∧ (128 : Int) ≤ 256; decide
  | i + 1 => by
    have h := eG_bound p i
    have e : (eG p i).fdiv 2 = eG p i / 2 := Int.fdiv_eq_ediv_of_nonneg _ (by decide)
    rw [eG, e]
    split <;> omega
def rsF (r : Int) (cs : List Int) : Nat → List Int
  | 0 => cs
  | i + 1 => (rsF r cs i).set (255 - (i : Int) - 2).toNat (((rsF r cs i).getD (255 - (i : Int) - 2).toNat 0 + r * (rsF r cs i).getD (255 - (i : Int)).toNat 0).fmod 3329)
theorem rsF_length (r : Int) (cs : List Int) : ∀ i, (rsF r cs i).length = cs.length
  | 0 => rfl
  | i + 1 => by rw [rsF, List.length_set, rsF_length]
def RsG (r : Int) (cs : List Int) (i : Nat) (c : List Int) : Prop := c = rsF r cs i ∧ c.length = 256
theorem rsG_step {r : Int} {cs cs' : List Int} {i : Nat} (h : RsG r cs i cs') : RsG r cs (i + 1) (cs'.set (255 - (i : Int) - 2).toNat ((cs'.getD (255 - (i : Int) - 2).toNat 0 + r * cs'.getD (255 - (i : Int)).toNat 0).fmod 3329)) :=
  ⟨by rw [rsF, ← h.1], by rw [List.length_set]; exact h.2⟩

theorem for_exp {r : Addr} {x : Str} {body : List Stmt} {p : Int} {tp t₀ u₀ v₀ ta tb : Tok} {m₀ : Str → Option Value} {news : List (Addr × Obj)}
    (hh : A.handled = none) (hr : IsRange s.heap r 0 7 1 t₀ u₀ v₀) (F : Fr h₀ env.locals s.heap m₀) (N : News h₀ env.locals s.heap news) (h1 : m₀ "e" = some (.int 128 ta)) (h2 : m₀ "step" = some (.int 64 tb)) (hp : m₀ "place" = some (.int p tp))
    (turn : ∀ (i : Nat) (t t1 t2 : Tok) h tk own, i < 7 → OwnOff own (news.map (·.1)) → 1 ≤ stG i ∧ stG i ≤ 64 → 0 ≤ eG p i ∧ eG p i ≤ 256 →
      Fr h₀ env.locals h (fun y => if y = x then some (.int (0 + (i : Int)) t) else if y = "e" then some (.int (eG p i) t1) else if y = "step" then some (.int (stG i) t2) else m₀ y) → News h₀ env.locals h (news ++ own) →
      wpAny (model prog w) A (execs body env) (TwoEnd h₀ env.locals x "e" "step" m₀ news (eG p) stG i own { s with heap := h, toks := tk } Q) E { s with heap := h, toks := tk })
    (done : ∀ (t1 t2 : Tok) (u : Option Value) h tk, 0 ≤ eG p 7 →
      Fr h₀ env.locals h (fun y => if y = x then u else if y = "e" then some (.int (eG p 7) t1) else if y = "step" then some (.int (stG 7) t2) else m₀ y) → News h₀ env.locals h news → Q .next { s with heap := h, toks := tk }) :
    wpAny (model prog w) A (pyIter (.ref r)) (fun it s₂ => LoopAtV prog w A h₀ env x body Q E it s₂) E s :=
  for_two (n := 7) "e" "step" (eG p) stG hh hr (small_one (by omega) (by omega) (by omega) (by omega)) (by rw [rangeSize_nat]; rfl) F N h1 h2
    (fun i t t1 t2 h tk own hi ho F' N' => turn i t t1 t2 h tk own hi ho (stG_bound i hi) (eG_bound p i) F' N')
    (fun t1 t2 u h tk F' N' => done t1 t2 u h tk (eG_bound p 7).1 F' N')

theorem for_rest {r0 cl : Addr} {x : Str} {body : List Stmt} {r : Int} {tr t₀ u₀ v₀ : Tok} {m₀ : Str → Option Value} {news : List (Addr × Obj)} {vs : List Value} {cs : List Int} {c₀ : Nat} {Led : Obj → List (Addr × Obj)}
    (hh : A.handled = none) (hr : IsRange s.heap r0 255 1 (-1) t₀ u₀ v₀) (F : Fr h₀ env.locals s.heap m₀) (N : News h₀ env.locals s.heap news) (h1 : m₀ "r" = some (.int r tr)) (hc : m₀ "rest" = some (.ref cl)) (hm : (cl, listOf vs.toArray c₀) ∈ news) (hU : ∀ o, Upd cl (listOf vs.toArray c₀) o news (Led o)) (hI : IntsAre vs cs) (hlen : cs.length = 256)
    (turn : ∀ (i : Nat) (vs : List Value) (cs' : List Int) (c : Nat) (t : Tok) h tk own, (i : Int) < 254 → OwnOff own (news.map (·.1)) → IntsAre vs cs' → RsG r cs i cs' → cs'.length = 256 →
      Fr h₀ env.locals h (fun y => if y = x then some (.int (255 - (i : Int)) t) else m₀ y) → News h₀ env.locals h (Led (listOf vs.toArray c) ++ own) →
      wpAny (model prog w) A (execs body env) (DnEnd h₀ env.locals x m₀ Led (RsG r cs) i own { s with heap := h, toks := tk } Q) E { s with heap := h, toks := tk })
    (done : ∀ (vs : List Value) (cs' : List Int) (c : Nat) (u : Option Value) h tk, IntsAre vs cs' → cs' = rsF r cs 254 → cs'.length = 256 →
      Fr h₀ env.locals h (fun y => if y = x then u else m₀ y) → News h₀ env.locals h (Led (listOf vs.toArray c)) → Q .next { s with heap := h, toks := tk }) :
    wpAny (model prog w) A (pyIter (.ref r0)) (fun it s₂ => LoopAtV prog w A h₀ env x body Q E it s₂) E s :=
  for_listD (n := 254) (RsG r cs) hh hr (small_down (by omega) (by omega) (by omega) (by omega)) (by rw [rangeSize_downNat]; rfl) F N hU hI ⟨rfl, hlen⟩
    (fun i vs cs' c t h tk own hi ho hI' hG' F' N' => turn i vs cs' c t h tk own (by omega) ho hI' hG' hG'.2 F' N')
    (fun vs cs' c u h tk hI' hG' F' N' => done vs cs' c u h tk hI' hG'.1 hG'.2 F' N')
end
end Mine
namespace Mine
theorem eG_yes {p : Int} {i : Nat} (h : (p.fdiv (stG i)).fmod 2 = 1) : (eG p i).fdiv 2 + 128 = eG p (i + 1) ∧ (stG i).fdiv 2 = stG (i + 1) := by
  refine ⟨?_, rfl⟩
  rw [eG, if_pos (by simp [h])]
theorem eG_no {p : Int} {i : Nat} (h : (p.fdiv (stG i)).fmod 2 ≠ 1) : (eG p i).fdiv 2 = eG p (i + 1) ∧ (stG i).fdiv 2 = stG (i + 1) := by
  refine ⟨?_, rfl⟩
  rw [eG, if_neg (by simp [h])]
end Mine
namespace Mine
section
variable {prog : Program} {w : World} {A : Around} {E : Value → Shared → Prop} {s : Shared} {h₀ : Heap} {L l : Addr} {m : Str → Option Value} {news : List (Addr × Obj)} {Q : Value → Shared → Prop}
theorem list_mine {vs : List Value} {cs : List Int} {n : Nat} (F : Fr h₀ L s.heap m) (N : News h₀ L s.heap news) (hm : (l, listOf vs.toArray n) ∈ news) (hI : IntsAre vs cs) (hl : (cs.length : Int) ≤ 256)
    (h : ∀ D c h', Fr h₀ L h' m → News h₀ L h' ((D, listOf vs.toArray c) :: news) → (∀ q ∈ news, q.1 < D) → Q (.ref D) { s with heap := h' }) :
    wpAny (model prog w) A (call (.type "list") [.ref l]) Q E s :=
  list_copyK F N (PySem.IsL.isList (n := n) (N _ hm).1) h (by
    have := hI.length
    rw [sizeLine_eq, List.size_toArray]; omega)
theorem le_pad {gs : List Int} (h : (gs.length : Int) < 256) : ((pad gs).length : Int) ≤ 256 := by rw [pad_len' h]; decide
theorem le_lt {gs : List Int} (h : (gs.length : Int) < 256) : (gs.length : Int) ≤ 256 := by omega
theorem le_eqI {gs : List Int} (h : (gs.length : Int) = 256) : (gs.length : Int) ≤ 256 := by omega
theorem le_eq {gs : List Int} (h : gs.length = 256) : (gs.length : Int) ≤ 256 := by omega
end
end Mine
namespace Mine
theorem ng4 {n : Nat} (h : n = 256) : ¬ (decide (256 < (n : Int)) = true) := by simp; omega
theorem ng5 {n : Nat} (h : n = 256) : ¬ (decide ((n : Int) < 256) = true) := by simp; omega
theorem ng6 {n : Nat} (h : n = 256) : ¬ ((!decide ((n : Int) = 256)) = true) := by simp; omega
end Mine
namespace Mine
inductive GenMk : Prop
  | mk : GenMk
theorem gen_have {M : Model} {A : Around} {E : Value → Shared → Prop} {s : Shared} {h₀ : Heap} {L l : Addr} {news : List (Addr × Obj)} {vs : List Value} {n : Nat} {Q : Value → Shared → Prop} (N : News h₀ L s.heap news) (hm : (l, listOf vs.toArray n) ∈ news)
    (h : GenMk → s.heap.IsList l vs.toArray → wpAny M A (pyIter (.ref l)) Q E s) : wpAny M A (pyIter (.ref l)) Q E s :=
  h .mk (PySem.IsL.isList (n := n) (N _ hm).1)
theorem nd {a b : List Int} (h : a = b) : ¬ ((!decide (a = b)) = true) := by simp [h]
theorem two_eq {a b c d : Int} (h1 : a = c) (h2 : b = d) : [a, b] = [c, d] := by rw [h1, h2]
end Mine

set_option maxRecDepth 100000
namespace Mine
/-- congruence modulo 3329 -/
def Cg (a b : Int) : Prop := a % 3329 = b % 3329
theorem Cg.refl (a : Int) : Cg a a := rfl
theorem Cg.of {a b : Int} (h : a = b) : Cg a b := by rw [h]; rfl
theorem Cg.symm {a b : Int} (h : Cg a b) : Cg b a := Eq.symm h
theorem Cg.trans {a b c : Int} (h : Cg a b) (k : Cg b c) : Cg a c := Eq.trans h k
theorem Cg.add {a b c d : Int} (h : Cg a b) (k : Cg c d) : Cg (a + c) (b + d) := by
  unfold Cg at *; rw [Int.add_emod, h, k, ← Int.add_emod]
theorem Cg.sub {a b c d : Int} (h : Cg a b) (k : Cg c d) : Cg (a - c) (b - d) := by
  unfold Cg at *; rw [Int.sub_emod, h, k, ← Int.sub_emod]
theorem Cg.mul {a b c d : Int} (h : Cg a b) (k : Cg c d) : Cg (a * c) (b * d) := by
  unfold Cg at *; rw [Int.mul_emod, h, k, ← Int.mul_emod]
theorem Cg.emod (a : Int) : Cg (a % 3329) a := Int.emod_emod_of_dvd a (Int.dvd_refl 3329)
theorem Cg.fmod (a : Int) : Cg (a.fmod 3329) a := by
  rw [Int.fmod_eq_emod_of_nonneg a (by decide)]; exact Cg.emod a

def S (A : Nat → Int) (r : Int) (base : Nat) : Nat → Int
  | 0 => 0
  | n + 1 => S A r base n + A (base + 2 * n) * r ^ n
theorem S_left (A : Nat → Int) (r : Int) (base : Nat) : ∀ n, S A r base (n + 1) = A base + r * S A r (base + 2) n
  | 0 => by simp [S]
  | n + 1 => by
    rw [S, S_left A r base n, S, Int.mul_add, Int.pow_succ]
    rw [show base + 2 + 2 * n = base + 2 * (n + 1) by omega]
    rw [Int.add_assoc, Int.mul_comm (r ^ n) r, ← Int.mul_assoc, ← Int.mul_assoc, Int.mul_comm r (A _)]
theorem S_split (A : Nat → Int) (r : Int) (base n : Nat) : ∀ m, S A r base (n + m) = S A r base n + r ^ n * S A r (base + 2 * n) m
  | 0 => by simp [S]
  | m + 1 => by
    rw [← Nat.add_assoc, S, S_split A r base n m, S, Int.mul_add, Int.add_assoc]
    congr 2
    rw [show base + 2 * (n + m) = base + 2 * n + 2 * m by omega, Int.pow_add, ← Int.mul_assoc, ← Int.mul_assoc, Int.mul_comm (A _)]
theorem S_congr {A B : Nat → Int} {r : Int} {base base' : Nat} : ∀ n, (∀ i, i < n → Cg (A (base + 2 * i)) (B (base' + 2 * i))) → Cg (S A r base n) (S B r base' n)
  | 0, _ => Cg.refl _
  | n + 1, h => (S_congr n fun i hi => h i (by omega)).add ((h n (by omega)).mul (Cg.refl _))
theorem S_comb {A B C : Nat → Int} {r z : Int} {b1 b2 b3 : Nat} : ∀ n, (∀ i, i < n → C (b3 + 2 * i) = A (b1 + 2 * i) + z * B (b2 + 2 * i)) → S C r b3 n = S A r b1 n + z * S B r b2 n
  | 0, _ => by simp [S]
  | n + 1, h => by
    rw [S, S, S, S_comb n fun i hi => h i (by omega), h n (by omega), Int.add_mul, Int.mul_add, Int.mul_assoc]
    omega
theorem pow_cg {a b : Int} (h : Cg a b) : ∀ n : Nat, Cg (a ^ n) (b ^ n)
  | 0 => by rw [Int.pow_zero, Int.pow_zero]; exact Cg.refl _
  | n + 1 => by rw [Int.pow_succ, Int.pow_succ]; exact (pow_cg h n).mul h
end Mine

set_option maxRecDepth 100000
namespace Mine
theorem getD_set (cs : List Int) (i : Nat) (v : Int) (x : Nat) : (cs.set i v).getD x 0 = if x = i ∧ i < cs.length then v else cs.getD x 0 := by
  rw [List.getD_eq_getElem?_getD, List.getD_eq_getElem?_getD, List.getElem?_set]
  by_cases h : i = x
  · subst h
    by_cases hl : i < cs.length
    · simp [hl]
    · simp [hl]
  · rw [if_neg h, if_neg (fun e => h e.1.symm)]

theorem run_step {f g : Nat → Int} {a m i : Nat} {p q : Int} (U V W : Nat → Int) (h : i < m) (ih : ∀ x, f x = if a ≤ x ∧ x < a + i then U x else if a + m ≤ x ∧ x < a + m + i then V x else W x)
    (st : ∀ x, g x = if x = a + i + m then q else if x = a + i then p else f x) (hp : f (a + i) = W (a + i) → f (a + i + m) = W (a + i + m) → p = U (a + i)) (hq : f (a + i) = W (a + i) → f (a + i + m) = W (a + i + m) → q = V (a + i + m)) (x : Nat) :
    g x = if a ≤ x ∧ x < a + (i + 1) then U x else if a + m ≤ x ∧ x < a + m + (i + 1) then V x else W x := by
  have h1 : f (a + i) = W (a + i) := by rw [ih, if_neg (fun e => Nat.lt_irrefl _ e.2), if_neg (by omega)]
  have h2 : f (a + i + m) = W (a + i + m) := by rw [ih, if_neg (by omega), if_neg (by omega)]
  rw [st]
  by_cases c1 : x = a + i + m
  · subst c1
    rw [if_pos rfl, if_neg (by omega), if_pos (by omega), hq h1 h2]
  · rw [if_neg c1]
    by_cases c2 : x = a + i
    · subst c2
      rw [if_pos rfl, if_pos (by omega), hp h1 h2]
    · rw [if_neg c2, ih]
      have k1 : (a ≤ x ∧ x < a + i) ↔ (a ≤ x ∧ x < a + (i + 1)) := by omega
      have k2 : (a + m ≤ x ∧ x < a + m + i) ↔ (a + m ≤ x ∧ x < a + m + (i + 1)) := by omega
      simp only [k1, k2]
theorem stF_get {z l k : Int} {cs : List Int} (h0 : 0 ≤ k) (hl : 1 ≤ l) (h : k + l < 256) (hlen : cs.length = 256) (x : Nat) :
    (stF z l k cs).getD x 0 = if x = (k + l).toNat then cs.getD k.toNat 0 - z * cs.getD (k + l).toNat 0 else if x = k.toNat then cs.getD k.toNat 0 + z * cs.getD (k + l).toNat 0 else cs.getD x 0 := by
  have a : ¬ (k.toNat = (k + l).toNat) := by omega
  have b : (k + l).toNat < 256 := by omega
  have c : k.toNat < 256 := by omega
  simp only [stF, getD_set, List.length_set, hlen, b, c, and_true, if_neg a]
  by_cases h1 : x = (k + l).toNat
  · subst h1; rw [if_pos rfl, if_neg (fun e => a e.symm), if_pos rfl]
  · rw [if_neg h1, if_neg h1]
theorem blk {l q b off : Nat} {A B C : Int} (ho : off < 2 * l) :
    (if b * (2 * l) ≤ q * (2 * l) + off ∧ q * (2 * l) + off < b * (2 * l) + l then A else if b * (2 * l) + l ≤ q * (2 * l) + off ∧ q * (2 * l) + off < b * (2 * l) + l + l then B else C) = if q = b then (if off < l then A else B) else C := by
  rcases Nat.lt_trichotomy q b with h | h | h
  · have h3 : (q + 1) * (2 * l) ≤ b * (2 * l) := Nat.mul_le_mul_right _ h
    rw [Nat.add_mul, Nat.one_mul] at h3
    generalize q * (2 * l) = y at *
    rw [if_neg (by omega), if_neg (by omega), if_neg (Nat.ne_of_lt h)]
  · subst h
    rw [if_pos rfl]
    generalize q * (2 * l) = y
    by_cases c : off < l
    · rw [if_pos (by omega), if_pos c]
    · rw [if_neg (by omega), if_pos (by omega), if_neg c]
  · have h3 : (b + 1) * (2 * l) ≤ q * (2 * l) := Nat.mul_le_mul_right _ h
    rw [Nat.add_mul, Nat.one_mul] at h3
    generalize q * (2 * l) = y at *
    rw [if_neg (by omega), if_neg (by omega), if_neg (Nat.ne_of_gt h)]

/-- one run of to_ntt's inner loop, place by place -/
theorem runF_get {z l st : Int} {cs : List Int} (h0 : 0 ≤ st) (hl : 1 ≤ l) (h256 : st + 2 * l ≤ 256) (hlen : cs.length = 256) : ∀ (i : Nat), (i : Int) ≤ l → ∀ x : Nat,
    (runF z l st cs i).getD x 0 = if st.toNat ≤ x ∧ x < st.toNat + i then cs.getD x 0 + z * cs.getD (x + l.toNat) 0
      else if st.toNat + l.toNat ≤ x ∧ x < st.toNat + l.toNat + i then cs.getD (x - l.toNat) 0 - z * cs.getD x 0 else cs.getD x 0
  | 0, _, x => by
    rw [if_neg (fun e => Nat.not_le_of_lt e.2 e.1), if_neg (fun e => Nat.not_le_of_lt e.2 e.1)]; rfl
  | i + 1, hi, x => by
    have ih := runF_get (z := z) h0 hl h256 hlen i (by omega)
    have e0 : 0 ≤ st + (i : Int) := Int.add_nonneg h0 (Int.natCast_nonneg i)
    have l0 : 0 ≤ l := Int.le_trans (by decide) hl
    have e1 : (st + (i : Int)).toNat = st.toNat + i := by rw [Int.toNat_add h0 (Int.natCast_nonneg i), Int.toNat_natCast]
    have e2 : (st + (i : Int) + l).toNat = st.toNat + i + l.toNat := by rw [Int.toNat_add e0 l0, e1]
    have hL : (runF z l st cs i).length = 256 := by rw [runF_length, hlen]
    refine run_step (f := fun y => (runF z l st cs i).getD y 0) (g := fun y => (runF z l st cs (i + 1)).getD y 0) (fun y => cs.getD y 0 + z * cs.getD (y + l.toNat) 0) (fun y => cs.getD (y - l.toNat) 0 - z * cs.getD y 0) (fun y => cs.getD y 0) (Int.lt_toNat.mpr hi) ih (fun x => by show (runF z l st cs (i + 1)).getD x 0 = _; rw [runF, stF_get e0 hl (by omega) hL, e1, e2]) ?_ ?_ x
    · intro h1 h2; rw [h1, h2]
    · intro h1 h2; rw [h1, h2, Nat.add_sub_cancel]

/-- one layer: block by block -/
theorem runB_get {l k : Nat} {cs : List Int} (hl : 1 ≤ l) (hk : k * (2 * l) ≤ 256) (hlen : cs.length = 256) : ∀ (b : Nat), b ≤ k → ∀ q off : Nat, off < 2 * l → q * (2 * l) + off < 256 →
    (runB (l : Int) (k : Int) cs b).getD (q * (2 * l) + off) 0 = if q < b then (if off < l then cs.getD (q * (2 * l) + off) 0 + Zs.getD (k + q) 0 * cs.getD (q * (2 * l) + off + l) 0 else cs.getD (q * (2 * l) + off - l) 0 - Zs.getD (k + q) 0 * cs.getD (q * (2 * l) + off) 0) else cs.getD (q * (2 * l) + off) 0
  | 0, _, q, off, _, _ => by rw [if_neg (Nat.not_lt_zero _)]; rfl
  | b + 1, hb, q, off, ho, hx => by
    have ih := runB_get hl hk hlen b (Nat.le_of_succ_le hb)
    have hb2 : (b + 1) * (2 * l) ≤ 256 := Nat.le_trans (Nat.mul_le_mul_right _ hb) hk
    rw [Nat.add_mul, Nat.one_mul] at hb2
    have e1 : ((k : Int) + (b : Int)).toNat = k + b := by omega
    have e4 : (b : Int) * (2 * (l : Int)) = ((b * (2 * l) : Nat) : Int) := by simp
    have hL : (runB (l : Int) (k : Int) cs b).length = 256 := by rw [runB_length, hlen]
    have hgen := runF_get (z := Zs.getD (k + b) 0) (st := ((b * (2 * l) : Nat) : Int)) (l := (l : Int)) (cs := runB (l : Int) (k : Int) cs b) (Int.natCast_nonneg _) (by omega) (by omega) hL l (Int.le_refl _)
    have t1 : (((b * (2 * l) : Nat) : Int)).toNat = b * (2 * l) := rfl
    have t2 : ((l : Int)).toNat = l := rfl
    rw [runB, e1, e4, t2, hgen, t1, t2, blk ho]
    clear hgen t1 t2 e1 e4 hL hb2
    by_cases h : q = b
    · subst h
      rw [if_pos rfl, if_pos (Nat.lt_succ_self q)]
      have i1 := ih q off ho hx
      rw [if_neg (Nat.lt_irrefl q)] at i1
      by_cases c : off < l
      · rw [if_pos c, if_pos c, i1]
        have h9 : (q + 1) * (2 * l) ≤ k * (2 * l) := Nat.mul_le_mul_right _ hb
        rw [Nat.add_mul, Nat.one_mul] at h9
        have := ih q (off + l) (by omega) (by omega)
        rw [← Nat.add_assoc, if_neg (Nat.lt_irrefl q)] at this
        rw [this]
      · rw [if_neg c, if_neg c, i1]
        have := ih q (off - l) (by omega) (by omega)
        rw [← Nat.add_sub_assoc (Nat.le_of_not_lt c), if_neg (Nat.lt_irrefl q)] at this
        rw [this]
    · rw [if_neg h, ih q off ho hx]
      have k1 : (q < b + 1) ↔ q < b := by omega
      simp only [k1]
end Mine

set_option maxRecDepth 100000
namespace Mine
def at0 (cs : List Int) (x : Nat) : Int := cs.getD x 0
theorem ix1 {X c i : Nat} : X + c + 2 * i = X + (c + 2 * i) := Nat.add_assoc _ _ _
theorem ix2 {X c m i : Nat} : X + (c + 2 * i) + 2 * m = X + c + 2 * m + 2 * i := by omega
theorem ix3 {X c m i : Nat} : X + 2 * m + c + 2 * i = X + (2 * m + c + 2 * i) := by omega
theorem ix4 {X c m i : Nat} : X + (2 * m + c + 2 * i) - 2 * m = X + c + 2 * i := by omega
theorem ix5 {X c m i : Nat} : X + (2 * m + c + 2 * i) = X + c + 2 * m + 2 * i := by omega
theorem ix6 {X c m i : Nat} : X + c + 2 * m + 2 * i - 2 * m = X + c + 2 * i := by omega
theorem bd1 {c m i : Nat} (hc : c < 2) (hi : i < m) : c + 2 * i < 2 * m := by omega
theorem bd2 {c m i : Nat} (h : c + 2 * i < 2 * m) : c + 2 * i < 2 * (2 * m) := by omega
theorem bd3 {c m i : Nat} (h : c + 2 * i < 2 * m) : 2 * m + c + 2 * i < 2 * (2 * m) := by omega
theorem bd4 {X Y o : Nat} (h : X + Y ≤ 256) (h2 : o < Y) : X + o < 256 := by omega
theorem bd5 {c m i : Nat} : ¬ 2 * m + c + 2 * i < 2 * m := by omega
theorem dbl_m {m : Nat} : m + m = 2 * m := (Nat.two_mul m).symm
theorem one_le {m : Nat} (h : 1 ≤ m) : 1 ≤ 2 * m := by omega
theorem bit01 {b : Nat} (h : b < 2) : b = 0 ∨ b = 1 := by omega
/-- one layer keeps the rest at every place -/
theorem fwd_step {m k q bit c : Nat} {r : Int} {cs : List Int} (hm : 1 ≤ m) (hk : k * (2 * (2 * m)) = 256) (hlen : cs.length = 256) (hq : q < k) (hbit : bit < 2) (hc : c < 2)
    (ht : if bit = 0 then Cg (Zs.getD (k + q) 0) (r ^ m) else Cg (-(Zs.getD (k + q) 0)) (r ^ m)) :
    Cg (S (at0 (runB ((2 * m : Nat) : Int) (k : Int) cs k)) r ((2 * q + bit) * (2 * m) + c) m) (S (at0 cs) r (q * (2 * (2 * m)) + c) (2 * m)) := by
  have hget := runB_get (l := 2 * m) (k := k) (cs := cs) (one_le hm) (Nat.le_of_eq hk) hlen k (Nat.le_refl k)
  have hq2 : (q + 1) * (2 * (2 * m)) ≤ k * (2 * (2 * m)) := Nat.mul_le_mul_right _ hq
  rw [Nat.add_mul, Nat.one_mul, hk] at hq2
  have hs := S_split (at0 cs) r (q * (2 * (2 * m)) + c) m m
  rw [dbl_m] at hs
  rw [hs]
  have e0 : (2 * q) * (2 * m) = q * (2 * (2 * m)) := by rw [Nat.mul_comm 2 q, Nat.mul_assoc]
  rcases bit01 hbit with rfl | rfl
  · rw [if_pos rfl] at ht
    rw [Nat.add_zero, e0]
    rw [S_comb (A := at0 cs) (B := at0 cs) (C := at0 (runB ((2 * m : Nat) : Int) (k : Int) cs k)) (z := Zs.getD (k + q) 0) (b1 := q * (2 * (2 * m)) + c) (b2 := q * (2 * (2 * m)) + c + 2 * m) m (by
      intro i hi
      have h9 := bd1 hc hi
      have := hget q (c + 2 * i) (bd2 h9) (bd4 hq2 (bd2 h9))
      rw [if_pos hq, if_pos h9] at this
      unfold at0
      rw [ix1, this, ix2])]
    exact (Cg.refl _).add (ht.mul (Cg.refl _))
  · rw [if_neg (by decide)] at ht
    rw [Nat.add_mul, Nat.one_mul, e0]
    rw [S_comb (A := at0 cs) (B := at0 cs) (C := at0 (runB ((2 * m : Nat) : Int) (k : Int) cs k)) (z := -(Zs.getD (k + q) 0)) (b1 := q * (2 * (2 * m)) + c) (b2 := q * (2 * (2 * m)) + c + 2 * m) m (by
      intro i hi
      have h9 := bd1 hc hi
      have := hget q (2 * m + c + 2 * i) (bd3 h9) (bd4 hq2 (bd3 h9))
      rw [if_pos hq, if_neg bd5] at this
      unfold at0
      rw [ix3, this, ix4, ix5, Int.neg_mul, Int.sub_eq_add_neg])]
    exact (Cg.refl _).add (ht.mul (Cg.refl _))

def tabOk (d p : Nat) : Bool :=
  let m := 2 ^ (6 - d)
  let z := Zs.getD (2 ^ d + p / (2 ^ (7 - d))) 0
  let r := powv (eG (p : Int) 7)
  if (p / m) % 2 = 0 then z % 3329 == (r ^ m) % 3329 else (-z) % 3329 == (r ^ m) % 3329
theorem tabOk_all : ((List.range 7).all fun d => (List.range 128).all fun p => tabOk d p) = true := by decide +kernel
theorem tab_at {d p : Nat} (hd : d < 7) (hp : p < 128) : tabOk d p = true :=
  List.all_eq_true.mp (List.all_eq_true.mp tabOk_all d (List.mem_range.mpr hd)) p (List.mem_range.mpr hp)
end Mine

set_option maxRecDepth 100000
namespace Mine
theorem p7 {d : Nat} (h : d ≤ 6) : 2 ^ (7 - d) = 2 * 2 ^ (6 - d) := by
  rw [show 7 - d = (6 - d) + 1 by omega, Nat.pow_succ, Nat.mul_comm]
theorem fwd_all {st : List Int} {p c : Nat} (hlen : st.length = 256) (hp : p < 128) (hc : c < 2) : ∀ d : Nat, d ≤ 7 →
    Cg (S (at0 (runL st d)) (powv (eG (p : Int) 7)) (p / 2 ^ (7 - d) * (2 * 2 ^ (7 - d)) + c) (2 ^ (7 - d))) (S (at0 st) (powv (eG (p : Int) 7)) c 128)
  | 0, _ => by
    have : p / 2 ^ (7 - 0) = 0 := Nat.div_eq_of_lt (by omega)
    rw [this, Nat.zero_mul, Nat.zero_add]
    exact Cg.refl _
  | d + 1, hd => by
    have ih := fwd_all hlen hp hc d (by omega)
    refine Cg.trans ?_ ih
    have hd6 : d ≤ 6 := by omega
    have e7 := p7 hd6
    have hL : (runL st d).length = 256 := by rw [runL_length, hlen]
    have hk : 2 ^ d * (2 * (2 * 2 ^ (6 - d))) = 256 := by
      rcases seven (show d ≤ 7 by omega) with rfl | rfl | rfl | rfl | rfl | rfl | rfl | rfl <;> first | rfl | exact absurd hd (by decide) | omega
    have hq : p / (2 * 2 ^ (6 - d)) < 2 ^ d := by
      rw [Nat.div_lt_iff_lt_mul (Nat.mul_pos (by decide) (Nat.two_pow_pos _))]
      have : 2 ^ d * (2 * 2 ^ (6 - d)) = 128 := by
        rcases seven (show d ≤ 7 by omega) with rfl | rfl | rfl | rfl | rfl | rfl | rfl | rfl <;> first | rfl | exact absurd hd (by decide) | omega
      omega
    have hqb : 2 * (p / (2 * 2 ^ (6 - d))) + (p / 2 ^ (6 - d)) % 2 = p / 2 ^ (6 - d) := by
      rw [Nat.mul_comm 2 (2 ^ (6 - d)), ← Nat.div_div_eq_div_mul]; omega
    have tb := tab_at (d := d) (p := p) (by omega) hp
    unfold tabOk at tb
    simp only [e7] at tb
    have key := fwd_step (m := 2 ^ (6 - d)) (k := 2 ^ d) (q := p / (2 * 2 ^ (6 - d))) (bit := (p / 2 ^ (6 - d)) % 2) (c := c) (r := powv (eG (p : Int) 7)) (cs := runL st d)
      (Nat.two_pow_pos _) hk hL hq (Nat.mod_lt _ (by decide)) hc (by
        by_cases hb : p / 2 ^ (6 - d) % 2 = 0
        · rw [if_pos hb] at tb ⊢
          exact beq_iff_eq.mp tb
        · rw [if_neg hb] at tb ⊢
          exact beq_iff_eq.mp tb)
    rw [hqb] at key
    have er : runL st (d + 1) = runB ((2 * 2 ^ (6 - d) : Nat) : Int) ((2 ^ d : Nat) : Int) (runL st d) (2 ^ d) := by
      rw [runL, ← e7]; simp
    rw [show 7 - (d + 1) = 6 - d by omega, er, e7]
    exact key

theorem modF_get {cs : List Int} (hlen : cs.length = 256) : ∀ i : Nat, i ≤ 256 → ∀ x : Nat, (modF cs i).getD x 0 = if x < i then (cs.getD x 0).fmod 3329 else cs.getD x 0
  | 0, _, x => by rw [if_neg (Nat.not_lt_zero _)]; rfl
  | i + 1, hi, x => by
    have ih := modF_get hlen i (Nat.le_of_succ_le hi)
    have e : (0 + (i : Int)).toNat = i := by rw [Int.zero_add, Int.toNat_natCast]
    have hL : (modF cs i).length = 256 := by rw [modF_length, hlen]
    rw [modF, e, getD_set, hL, ih i, ih x, if_neg (Nat.lt_irrefl i)]
    by_cases h : x = i
    · subst h; rw [if_pos ⟨rfl, Nat.lt_of_succ_le hi⟩, if_pos (Nat.lt_succ_self _)]
    · rw [if_neg (fun q => h q.1)]
      by_cases h2 : x < i
      · rw [if_pos h2, if_pos (Nat.lt_succ_of_lt h2)]
      · rw [if_neg h2, if_neg (fun q => h2 (Nat.lt_of_le_of_ne (Nat.le_of_lt_succ q) h))]

theorem rsF_get {r : Int} {cs : List Int} (hlen : cs.length = 256) : ∀ i : Nat, i ≤ 254 → ∀ x : Nat, x < 256 →
    (254 - i ≤ x → Cg ((rsF r cs i).getD x 0) (S (at0 cs) r x ((257 - x) / 2))) ∧ (x < 254 - i → (rsF r cs i).getD x 0 = cs.getD x 0)
  | 0, _, x, hx => by
    refine ⟨fun h => ?_, fun _ => rfl⟩
    have : (257 - x) / 2 = 1 := by omega
    rw [this]
    show Cg _ (0 + at0 cs (x + 2 * 0) * r ^ 0)
    rw [Int.pow_zero, Int.mul_one, Int.zero_add]
    exact Cg.refl _
  | i + 1, hi, x, hx => by
    have ih := rsF_get (r := r) hlen i (by omega)
    have hL : (rsF r cs i).length = 256 := by rw [rsF_length, hlen]
    have e1 : (255 - (i : Int) - 2).toNat = 253 - i := by omega
    have e2 : (255 - (i : Int)).toNat = 253 - i + 2 := by omega
    have f1 : ∀ y, 253 - i + 1 ≤ y → 254 - i ≤ y := by intro y; omega
    have f2 : ∀ y, y < 253 - i + 1 → y < 254 - i := by intro y; omega
    have f3 : 254 - (i + 1) = 253 - i := by omega
    have f4 : 253 - i + 2 < 256 := by omega
    rw [rsF, e1, e2, getD_set, hL, f3]
    replace ih := fun y hy => And.intro (fun h => (ih y hy).1 (f1 y h)) (fun h => (ih y hy).2 (f2 y h))
    clear e1 e2 f1 f2 f3 hi hL
    generalize 253 - i = m at *
    by_cases h : x = m
    · subst h
      rw [if_pos ⟨rfl, hx⟩]
      refine ⟨fun _ => ?_, fun h => absurd h (Nat.lt_irrefl _)⟩
      refine (Cg.fmod _).trans ?_
      have hn : (257 - x) / 2 = (257 - (x + 2)) / 2 + 1 := by
        clear ih
        rw [show 257 - x = 257 - (x + 2) + 2 by omega, Nat.add_div_right _ (by decide)]
      rw [hn, S_left, (ih x hx).2 (Nat.lt_succ_self _)]
      have := (ih (x + 2) f4).1 (Nat.le_succ _)
      exact (Cg.refl _).add ((Cg.refl _).mul this)
    · rw [if_neg (fun q => h q.1)]
      exact ⟨fun h2 => (ih x hx).1 (Nat.lt_of_le_of_ne h2 (fun e => h e.symm)), fun h2 => (ih x hx).2 (Nat.lt_succ_of_lt h2)⟩

theorem S_one (A : Nat → Int) (r : Int) (b : Nat) : S A r b 1 = A b := by
  show 0 + A (b + 2 * 0) * r ^ 0 = A b
  rw [Int.pow_zero, Int.mul_one, Int.zero_add, Nat.mul_zero, Nat.add_zero]
theorem outG_last {cs₀ cs : List Int} {l k : Int} (h : OutG cs₀ l k cs) (h2 : ¬ 2 ≤ l) : cs = runL cs₀ 7 := by
  obtain ⟨d, hd, rfl, rfl, rfl, _⟩ := h
  rcases seven hd with rfl | rfl | rfl | rfl | rfl | rfl | rfl | rfl <;> first | (exfalso; revert h2; decide) | rfl
theorem fwd_place {st : List Int} {n c : Nat} (hlen : st.length = 256) (hn : n < 128) (hc : c < 2) : Cg ((runL st 7).getD (2 * n + c) 0) (S (at0 st) (powv (eG (n : Int) 7)) c 128) := by
  have a := fwd_all (st := st) (p := n) (c := c) hlen hn hc 7 (Nat.le_refl 7)
  rw [Nat.sub_self, Nat.pow_zero, Nat.div_one, Nat.mul_one, S_one, Nat.mul_comm n 2] at a
  exact a
theorem rest_place {st : List Int} {r : Int} {c : Nat} (hlen : st.length = 256) (hc : c < 2) : Cg ((rsF r st 254).getD c 0) (S (at0 st) r c 128) := by
  have b := (rsF_get (r := r) hlen 254 (Nat.le_refl _) c (by omega)).1 (by omega)
  rw [show (257 - c) / 2 = 128 by omega] at b
  exact b
theorem mod_all {cs c1 : List Int} (h1 : c1 = modF cs 256) (hlen : cs.length = 256) : c1.length = 256 ∧ ∀ x, x < 256 → c1.getD x 0 = (cs.getD x 0).fmod 3329 := by
  refine ⟨by rw [h1, modF_length, hlen], fun x hx => ?_⟩
  have := modF_get hlen 256 (Nat.le_refl _) x
  rw [if_pos hx, ← h1] at this
  exact this
theorem mod_range {cs c1 : List Int} (hl : c1.length = 256) (h : ∀ x, x < 256 → c1.getD x 0 = (cs.getD x 0).fmod 3329) : ∀ c ∈ c1, 0 ≤ c ∧ c < 3329 := by
  intro c hc
  obtain ⟨i, hi, rfl⟩ := List.mem_iff_getElem.mp hc
  have := h i (by omega)
  rw [List.getD_eq_getElem?_getD, List.getElem?_eq_getElem hi] at this
  simp only [Option.getD_some] at this
  rw [this]
  exact ⟨Int.fmod_nonneg_of_pos _ (by decide), Int.fmod_lt_of_pos _ (by decide)⟩
theorem fmod_of_cg {a b : Int} (h : Cg a b) : a.fmod 3329 = b.fmod 3329 := by
  rw [Int.fmod_eq_emod_of_nonneg _ (by decide), Int.fmod_eq_emod_of_nonneg _ (by decide)]
  exact h
theorem fwd_law {st cs c1 c2 : List Int} {l k p : Int} (hO : OutG st l k cs) (h2 : ¬ 2 ≤ l) (h1 : c1 = modF cs 256) (hr : c2 = rsF (powv (eG p 7)) st 254) (hlen : st.length = 256) (hp0 : 0 ≤ p) (hp : p < 128) :
    (c1.getD (2 * p).toNat 0 = (c2.getD (Int.toNat 0) 0).fmod 3329 ∧ c1.getD (2 * p + 1).toNat 0 = (c2.getD (Int.toNat 1) 0).fmod 3329) ∧ ∀ c ∈ c1, 0 ≤ c ∧ c < 3329 := by
  obtain ⟨n, rfl⟩ := Int.eq_ofNat_of_zero_le hp0
  have hn : n < 128 := by omega
  have hcs := outG_last hO h2
  have hL : cs.length = 256 := (outG_facts hO).2.2.2.2
  have hm := mod_all h1 hL
  have one : ∀ c : Nat, c < 2 → c1.getD (2 * n + c) 0 = (c2.getD c 0).fmod 3329 := by
    intro c hc
    rw [hm.2 (2 * n + c) (by omega)]
    have a := fwd_place hlen hn hc
    have b := rest_place (r := powv (eG (n : Int) 7)) hlen hc
    rw [← hr] at b
    rw [← hcs] at a
    exact fmod_of_cg (a.trans b.symm)
  have o0 := one 0 (by decide)
  have o1 := one 1 (by decide)
  refine ⟨⟨?_, ?_⟩, mod_range hm.1 hm.2⟩
  · rw [show (2 * (n : Int)).toNat = 2 * n + 0 by omega]
    exact o0
  · rw [show (2 * (n : Int) + 1).toNat = 2 * n + 1 by omega]
    exact o1
end Mine

open PySem PySem.W PyProof.Rows PySem.Calls PyProof.V PySem.Spec
set_option maxRecDepth 100000
namespace Mine
/-- one butterfly of from_ntt, as the walk writes it -/
def stI (z l k : Int) (cs : List Int) : List Int :=
  ((cs.set k.toNat (cs.getD k.toNat 0 + cs.getD (k + l).toNat 0)).set (k + l).toNat
    ((cs.set k.toNat (cs.getD k.toNat 0 + cs.getD (k + l).toNat 0)).getD (k + l).toNat 0 - cs.getD k.toNat 0)).set (k + l).toNat
    (z * ((cs.set k.toNat (cs.getD k.toNat 0 + cs.getD (k + l).toNat 0)).set (k + l).toNat
    ((cs.set k.toNat (cs.getD k.toNat 0 + cs.getD (k + l).toNat 0)).getD (k + l).toNat 0 - cs.getD k.toNat 0)).getD (k + l).toNat 0)
def runI (z l st : Int) (cs : List Int) : Nat → List Int
  | 0 => cs
  | i + 1 => stI z l (st + (i : Int)) (runI z l st cs i)
def runJ (l k : Int) (cs : List Int) : Nat → List Int
  | 0 => cs
  | b + 1 => runI (Zs.getD (k - (b : Int)).toNat 0) l ((b : Int) * (2 * l)) (runJ l k cs b) l.toNat
def runM (cs : List Int) : Nat → List Int
  | 0 => cs
  | d + 1 => runJ (2 ^ (d + 1)) (2 ^ (7 - d) - 1) (runM cs d) (2 ^ (6 - d))
theorem stI_length (z l k : Int) (cs : List Int) : (stI z l k cs).length = cs.length := by simp [stI]
theorem runI_length (z l st : Int) (cs : List Int) : ∀ i, (runI z l st cs i).length = cs.length
  | 0 => rfl
  | i + 1 => by rw [runI, stI_length, runI_length]
theorem runJ_length (l k : Int) (cs : List Int) : ∀ i, (runJ l k cs i).length = cs.length
  | 0 => rfl
  | i + 1 => by rw [runJ, runI_length, runJ_length]
theorem runM_length (cs : List Int) : ∀ i, (runM cs i).length = cs.length
  | 0 => rfl
  | i + 1 => by rw [runM, runJ_length, runM_length]
def OutI (cs₀ : List Int) (l k : Int) (cs : List Int) : Prop := ∃ d : Nat, d ≤ 7 ∧ l = 2 ^ (d + 1) ∧ k = 2 ^ (7 - d) - 1 ∧ cs = runM cs₀ d ∧ cs.length = 256
def MidI (l k : Int) (cs : List Int) (st k' : Int) (cs' : List Int) : Prop := ∃ b : Nat, (b : Int) * (2 * l) ≤ 256 ∧ st = (b : Int) * (2 * l) ∧ k' = k - (b : Int) ∧ cs' = runJ l k cs b ∧ cs'.length = 256
theorem outI_start {cs : List Int} (h : cs.length = 256) : OutI cs 2 127 cs := ⟨0, by decide, by decide, by decide, rfl, h⟩
theorem outI_facts {cs₀ cs : List Int} {l k : Int} (h : OutI cs₀ l k cs) : 2 ≤ l ∧ l ≤ 256 ∧ 0 ≤ k ∧ k ≤ 127 ∧ cs.length = 256 := by
  obtain ⟨d, hd, rfl, rfl, _, hl⟩ := h
  refine ⟨?_, ?_, ?_, ?_, hl⟩ <;> rcases seven hd with rfl | rfl | rfl | rfl | rfl | rfl | rfl | rfl <;> decide
theorem midI_start {l k : Int} {cs : List Int} (h : cs.length = 256) : MidI l k cs 0 k cs := ⟨0, by omega, by omega, by omega, rfl, h⟩
theorem outI_two {cs₀ cs : List Int} {l k : Int} (h : OutI cs₀ l k cs) (h2 : l ≤ 128) : ∃ n : Int, 1 ≤ n ∧ 2 * l * n = 256 ∧ k + 1 = 2 * n := by
  obtain ⟨d, hd, rfl, rfl, _, hl⟩ := h
  refine ⟨2 ^ (6 - d), ?_⟩
  rcases seven hd with rfl | rfl | rfl | rfl | rfl | rfl | rfl | rfl <;> first | exact ⟨by decide, by decide, by decide⟩ | exact absurd h2 (by decide)
theorem midI_facts {cs₀ cs cs' : List Int} {l k st k' : Int} (hO : OutI cs₀ l k cs) (h2 : l ≤ 128) (h : MidI l k cs st k' cs') :
    0 ≤ st ∧ k' ≤ 127 ∧ cs'.length = 256 ∧ (st < 256 → st + 2 * l ≤ 256 ∧ 1 ≤ k') := by
  obtain ⟨n, hn, e, hk⟩ := outI_two hO h2
  have hl2 := (outI_facts hO).1
  have hk7 := (outI_facts hO).2.2.2.1
  obtain ⟨b, hb, rfl, rfl, _, hl'⟩ := h
  clear hO
  have hbn : (b : Int) ≤ n := by
    rw [← e, Int.mul_comm (2 * l) n] at hb
    exact Int.le_of_mul_le_mul_right hb (by omega)
  have f := blk_facts (a := 2 * l) (by omega) hn e (Int.natCast_nonneg b) hbn
  refine ⟨f.1, by omega, hl', fun h => ?_⟩
  have g := f.2.2 h
  exact ⟨g.1, by omega⟩
theorem midI_step {cs₀ cs cs' : List Int} {l k st k' : Int} (hO : OutI cs₀ l k cs) (h2 : l ≤ 128) (h : MidI l k cs st k' cs') (hs : st < 256) :
    MidI l k cs (st + 2 * l) (k' - 1) (runI (Zs.getD k'.toNat 0) l st cs' l.toNat) := by
  have hf := midI_facts hO h2 h
  obtain ⟨b, hb, rfl, rfl, rfl, hl'⟩ := h
  have h3 := (hf.2.2.2 hs).1
  have e : ((b + 1 : Nat) : Int) * (2 * l) = (b : Int) * (2 * l) + 2 * l := by rw [Int.natCast_add, Int.add_mul]; omega
  exact ⟨b + 1, by rw [e]; exact h3, by rw [e], by omega, rfl, by rw [runI_length]; exact hl'⟩
theorem midI_done {cs₀ cs cs' : List Int} {l k st k' l' : Int} (hO : OutI cs₀ l k cs) (h2 : l ≤ 128) (h : MidI l k cs st k' cs') (hs : ¬ st < 256) (hl' : l' = 2 * l) : OutI cs₀ l' k' cs' := by
  obtain ⟨d, hd, rfl, rfl, rfl, hl⟩ := hO
  obtain ⟨b, hb, rfl, rfl, rfl, hlb⟩ := h
  have hd6 : d ≤ 6 := by
    rcases Nat.lt_or_eq_of_le hd with h | h
    · exact Nat.le_of_lt_succ h
    · subst h; exact absurd h2 (by decide)
  have hb' : (b : Int) = 2 ^ (6 - d) := by
    have h4 : (4 : Int) ≤ 2 * 2 ^ (d + 1) := by rcases seven hd with rfl | rfl | rfl | rfl | rfl | rfl | rfl | rfl <;> decide
    have e : (2 * 2 ^ (d + 1) : Int) * 2 ^ (6 - d) = 256 := by rcases seven hd with rfl | rfl | rfl | rfl | rfl | rfl | rfl | rfl <;> first | decide | exact absurd hd6 (by decide)
    refine blk_done h4 e ?_ hs
    rw [← e, Int.mul_comm (2 * 2 ^ (d + 1)) (2 ^ (6 - d))] at hb
    exact Int.le_of_mul_le_mul_right hb (Int.lt_of_lt_of_le (by decide) h4)
  obtain rfl : b = 2 ^ (6 - d) := by exact_mod_cast hb'
  refine ⟨d + 1, Nat.succ_le_succ hd6, ?_, ?_, rfl, hlb⟩
  · rw [hl']
    rcases seven hd with rfl | rfl | rfl | rfl | rfl | rfl | rfl | rfl <;> first | rfl | exact absurd hd6 (by decide)
  · rcases seven hd with rfl | rfl | rfl | rfl | rfl | rfl | rfl | rfl <;> first | rfl | exact absurd hd6 (by decide)
theorem midI_end {cs₀ cs cs' cs'' : List Int} {l k st k' st' : Int} (hO : OutI cs₀ l k cs) (h2 : l ≤ 128) (h : MidI l k cs st k' cs') (hs : st < 256) (hq : cs'' = runI (Zs.getD k'.toNat 0) l st cs' l.toNat) (e : st' = st + 2 * l) :
    MidI l k cs st' (k' - 1) cs'' ∧ (256 - st').toNat < (256 - st).toNat := by
  subst hq; subst e
  have := midI_facts hO h2 h
  have := outI_facts hO
  exact ⟨midI_step hO h2 h hs, by omega⟩
theorem outI_end {cs₀ cs cs' : List Int} {l k st k' l' : Int} (hO : OutI cs₀ l k cs) (h2 : l ≤ 128) (h : MidI l k cs st k' cs') (hs : ¬ st < 256) (hl' : l' = 2 * l) :
    OutI cs₀ l' k' cs' ∧ (512 - l').toNat < (512 - l).toNat := ⟨midI_done hO h2 h hs hl', by have := outI_facts hO; omega⟩
theorem outI_last {cs₀ cs : List Int} {l k : Int} (h : OutI cs₀ l k cs) (h2 : ¬ l ≤ 128) : cs = runM cs₀ 7 := by
  obtain ⟨d, hd, rfl, rfl, rfl, _⟩ := h
  rcases seven hd with rfl | rfl | rfl | rfl | rfl | rfl | rfl | rfl <;> first | (exfalso; revert h2; decide) | rfl
def InI (z l st : Int) (cs : List Int) (i : Nat) (c : List Int) : Prop := c = runI z l st cs i ∧ c.length = 256
theorem inI_step {z l st : Int} {cs cs' : List Int} {i : Nat} (h : InI z l st cs i cs') : InI z l st cs (i + 1) (stI z l (st + (i : Int)) cs') :=
  ⟨by rw [runI, ← h.1], by rw [stI_length]; exact h.2⟩
section
variable {prog : Program} {w : World} {A : Around} {E : Value → Shared → Prop} {s : Shared} {env : Env} {h₀ : Heap} {Q : Flow → Shared → Prop}
theorem inv_out {test : PySem.Expr} {body : List Stmt} {pos : Pos} {L cl : Addr} {m₀ : Str → Option Value} {news : List (Addr × Obj)} {vs : List Value} {cs : List Int} {c₀ : Nat} {Led : Obj → List (Addr × Obj)} {ta tb tu : Tok}
    (F : Fr h₀ L s.heap m₀) (N : News h₀ L s.heap news) (hu : m₀ "l_upper" = some (.int 128 tu)) (hc : m₀ "coeffs" = some (.ref cl)) (hm : (cl, listOf vs.toArray c₀) ∈ news) (hU : ∀ o, Upd cl (listOf vs.toArray c₀) o news (Led o)) (hI : IntsAre vs cs)
    (h1 : m₀ "l" = some (.int 2 ta)) (h2 : m₀ "k" = some (.int 127 tb)) (hlen : cs.length = 256)
    (turn : ∀ (l k : Int) (ta tb : Tok) (vs : List Value) (cs' : List Int) (c : Nat) (u : Str → Option Value) h tk, IntsAre vs cs' → OutI cs l k cs' → 2 ≤ l ∧ l ≤ 256 ∧ 0 ≤ k ∧ k ≤ 127 ∧ cs'.length = 256 →
      Fr h₀ L h (fun y => if y = "l" then some (.int l ta) else if y = "k" then some (.int k tb) else if (["start", "zeta", "j", "t"] : List Str).contains y = true then u y else m₀ y) → News h₀ L h (Led (listOf vs.toArray c)) →
      wpAny (model prog w) A (isTrue test env (eval test env)) (fun bb s₂ =>
        if bb = true then wpAny (model prog w) A (execs body env) (WEnd h₀ L s "l" "k" ["start", "zeta", "j", "t"] m₀ Led (OutI cs) (fun l _ => (512 - l).toNat) l k Q) E s₂ else Q .next s₂) E { s with heap := h, toks := tk })
    (hE : PassesOwn (model prog w) A env E := by passes_own) :
    wpAny (model prog w) A (exec (.While test body [] pos) env) Q E s :=
  while_list "l" "k" (OutI cs) (fun l _ => (512 - l).toNat) ["start", "zeta", "j", "t"] F N hU hI h1 h2 (outI_start hlen)
    (fun l k ta tb vs cs' c u h tk hI' hG' F' N' => turn l k ta tb vs cs' c u h tk hI' hG' (outI_facts hG') F' N') hE
theorem inv_mid {test : PySem.Expr} {body : List Stmt} {pos : Pos} {L cl : Addr} {m₀ : Str → Option Value} {news : List (Addr × Obj)} {vs : List Value} {cs₀ cs : List Int} {c₀ : Nat} {Led : Obj → List (Addr × Obj)} {l k : Int} {ta tb tl tu : Tok}
    (F : Fr h₀ L s.heap m₀) (N : News h₀ L s.heap news) (hu : m₀ "l_upper" = some (.int 128 tu)) (hc : m₀ "coeffs" = some (.ref cl)) (hm : (cl, listOf vs.toArray c₀) ∈ news) (hU : ∀ o, Upd cl (listOf vs.toArray c₀) o news (Led o)) (hI : IntsAre vs cs)
    (h1 : m₀ "start" = some (.int 0 ta)) (h2 : m₀ "k" = some (.int k tb)) (hl : m₀ "l" = some (.int l tl)) (hO : OutI cs₀ l k cs) (h2l : l ≤ 128)
    (turn : ∀ (st k' : Int) (ta tb : Tok) (vs : List Value) (cs' : List Int) (c : Nat) (u : Str → Option Value) h tk, IntsAre vs cs' → MidI l k cs st k' cs' →
      0 ≤ st ∧ k' ≤ 127 ∧ cs'.length = 256 ∧ (st < 256 → st + 2 * l ≤ 256 ∧ 1 ≤ k') → 0 ≤ Zs.getD k'.toNat 0 ∧ Zs.getD k'.toNat 0 < 3329 →
      Fr h₀ L h (fun y => if y = "start" then some (.int st ta) else if y = "k" then some (.int k' tb) else if (["zeta", "j", "t"] : List Str).contains y = true then u y else m₀ y) → News h₀ L h (Led (listOf vs.toArray c)) →
      wpAny (model prog w) A (isTrue test env (eval test env)) (fun bb s₂ =>
        if bb = true then wpAny (model prog w) A (execs body env) (WEnd h₀ L s "start" "k" ["zeta", "j", "t"] m₀ Led (MidI l k cs) (fun st _ => (256 - st).toNat) st k' Q) E s₂ else Q .next s₂) E { s with heap := h, toks := tk })
    (hE : PassesOwn (model prog w) A env E := by passes_own) :
    wpAny (model prog w) A (exec (.While test body [] pos) env) Q E s :=
  while_list "start" "k" (MidI l k cs) (fun st _ => (256 - st).toNat) ["zeta", "j", "t"] F N hU hI h1 h2 (midI_start (outI_facts hO).2.2.2.2)
    (fun st k' ta tb vs cs' c u h tk hI' hG' F' N' => turn st k' ta tb vs cs' c u h tk hI' hG' (midI_facts hO h2l hG') (Zs_bound _) F' N') hE
theorem inv_in {r cl : Addr} {x : Str} {body : List Stmt} {st e z l : Int} {t₀ u₀ v₀ tz tl tu : Tok} {m₀ : Str → Option Value} {news : List (Addr × Obj)} {vs : List Value} {cs : List Int} {c₀ : Nat} {Led : Obj → List (Addr × Obj)}
    (hh : A.handled = none) (hr : IsRange s.heap r st e 1 t₀ u₀ v₀) (F : Fr h₀ env.locals s.heap m₀) (N : News h₀ env.locals s.heap news) (hu : m₀ "l_upper" = some (.int 128 tu)) (hc : m₀ "coeffs" = some (.ref cl)) (hm : (cl, listOf vs.toArray c₀) ∈ news) (hU : ∀ o, Upd cl (listOf vs.toArray c₀) o news (Led o)) (hI : IntsAre vs cs)
    (hz : m₀ "zeta" = some (.int z tz)) (hl : m₀ "l" = some (.int l tl)) (he : e = st + l) (h0 : 0 ≤ st) (h1 : 1 ≤ l) (h256 : st + 2 * l ≤ 256) (hlen : cs.length = 256)
    (turn : ∀ (i : Nat) (vs : List Value) (cs' : List Int) (c : Nat) (t : Tok) (u : Str → Option Value) h tk own, (i : Int) < l → OwnOff own (news.map (·.1)) → IntsAre vs cs' → InI z l st cs i cs' → cs'.length = 256 →
      Fr h₀ env.locals h (fun y => if y = x then some (.int (st + (i : Int)) t) else if (["t"] : List Str).contains y then u y else m₀ y) → News h₀ env.locals h (Led (listOf vs.toArray c) ++ own) →
      wpAny (model prog w) A (execs body env) (ForEnd h₀ env.locals x st ["t"] m₀ Led (InI z l st cs) i own { s with heap := h, toks := tk } Q) E { s with heap := h, toks := tk })
    (done : ∀ (vs : List Value) (cs' : List Int) (c : Nat) (t : Tok) (u : Str → Option Value) h tk, IntsAre vs cs' → cs' = runI z l st cs l.toNat → cs'.length = 256 →
      Fr h₀ env.locals h (fun y => if y = x then some (.int (st + l - 1) t) else if (["t"] : List Str).contains y then u y else m₀ y) → News h₀ env.locals h (Led (listOf vs.toArray c)) → Q .next { s with heap := h, toks := tk }) :
    wpAny (model prog w) A (pyIter (.ref r)) (fun it s₂ => LoopAtV prog w A h₀ env x body Q E it s₂) E s := by
  subst he
  have hn : ((l.toNat : Nat) : Int) = l := by omega
  refine for_list (n := l.toNat) (InI z l st cs) ["t"] hh hr (small_one (by omega) (by omega) (by omega) (by omega)) (by rw [rangeSize_nat]; congr 1; omega) (by omega) F N hU hI ⟨rfl, hlen⟩ ?_ ?_
  · intro i vs cs' c t u h tk own hi ho hI' hG' F' N'
    exact turn i vs cs' c t u h tk own (by omega) ho hI' hG' hG'.2 F' N'
  · intro vs cs' c t u h tk hI' hG' F' N'
    rw [hn] at F'
    exact done vs cs' c t u h tk hI' hG'.1 hG'.2 F' N'
end
end Mine

set_option maxRecDepth 100000
namespace Mine
theorem stI_get {z l k : Int} {cs : List Int} (h0 : 0 ≤ k) (hl : 1 ≤ l) (h : k + l < 256) (hlen : cs.length = 256) (x : Nat) :
    (stI z l k cs).getD x 0 = if x = (k + l).toNat then z * (cs.getD (k + l).toNat 0 - cs.getD k.toNat 0) else if x = k.toNat then cs.getD k.toNat 0 + cs.getD (k + l).toNat 0 else cs.getD x 0 := by
  have a : ¬ ((k + l).toNat = k.toNat) := by omega
  have b : (k + l).toNat < 256 := by omega
  have c : k.toNat < 256 := by omega
  simp only [stI, getD_set, List.length_set, hlen, b, c, and_true, if_true, if_neg a]
  by_cases h1 : x = (k + l).toNat
  · subst h1; simp only [if_true, if_neg a]
  · simp only [h1, if_false]
/-- one run of from_ntt's inner loop, place by place -/
theorem runI_get {z l st : Int} {cs : List Int} (h0 : 0 ≤ st) (hl : 1 ≤ l) (h256 : st + 2 * l ≤ 256) (hlen : cs.length = 256) : ∀ (i : Nat), (i : Int) ≤ l → ∀ x : Nat,
    (runI z l st cs i).getD x 0 = if st.toNat ≤ x ∧ x < st.toNat + i then cs.getD x 0 + cs.getD (x + l.toNat) 0
      else if st.toNat + l.toNat ≤ x ∧ x < st.toNat + l.toNat + i then z * (cs.getD x 0 - cs.getD (x - l.toNat) 0) else cs.getD x 0
  | 0, _, x => by
    rw [if_neg (fun e => Nat.not_le_of_lt e.2 e.1), if_neg (fun e => Nat.not_le_of_lt e.2 e.1)]; rfl
  | i + 1, hi, x => by
    have ih := runI_get (z := z) h0 hl h256 hlen i (by omega)
    have e0 : 0 ≤ st + (i : Int) := Int.add_nonneg h0 (Int.natCast_nonneg i)
    have l0 : 0 ≤ l := Int.le_trans (by decide) hl
    have e1 : (st + (i : Int)).toNat = st.toNat + i := by rw [Int.toNat_add h0 (Int.natCast_nonneg i), Int.toNat_natCast]
    have e2 : (st + (i : Int) + l).toNat = st.toNat + i + l.toNat := by rw [Int.toNat_add e0 l0, e1]
    have hL : (runI z l st cs i).length = 256 := by rw [runI_length, hlen]
    refine run_step (f := fun y => (runI z l st cs i).getD y 0) (g := fun y => (runI z l st cs (i + 1)).getD y 0) (fun y => cs.getD y 0 + cs.getD (y + l.toNat) 0) (fun y => z * (cs.getD y 0 - cs.getD (y - l.toNat) 0)) (fun y => cs.getD y 0) (Int.lt_toNat.mpr hi) ih (fun x => by show (runI z l st cs (i + 1)).getD x 0 = _; rw [runI, stI_get e0 hl (by omega) hL, e1, e2]) ?_ ?_ x
    · intro h1 h2; rw [h1, h2]
    · intro h1 h2; rw [h1, h2, Nat.add_sub_cancel]
/-- one layer of from_ntt, block by block; k + 1 = twice the count of blocks -/
theorem runJ_get {l k n : Nat} {cs : List Int} (hl : 1 ≤ l) (hk : n * (2 * l) ≤ 256) (hlen : cs.length = 256) : ∀ (b : Nat), b ≤ n → ∀ q off : Nat, off < 2 * l → q * (2 * l) + off < 256 →
    (runJ (l : Int) (k : Int) cs b).getD (q * (2 * l) + off) 0 = if q < b then (if off < l then cs.getD (q * (2 * l) + off) 0 + cs.getD (q * (2 * l) + off + l) 0 else Zs.getD (k - q) 0 * (cs.getD (q * (2 * l) + off) 0 - cs.getD (q * (2 * l) + off - l) 0)) else cs.getD (q * (2 * l) + off) 0
  | 0, _, q, off, _, _ => by rw [if_neg (Nat.not_lt_zero _)]; rfl
  | b + 1, hb, q, off, ho, hx => by
    have ih := runJ_get (k := k) hl hk hlen b (Nat.le_of_succ_le hb)
    have hb2 : (b + 1) * (2 * l) ≤ 256 := Nat.le_trans (Nat.mul_le_mul_right _ hb) hk
    rw [Nat.add_mul, Nat.one_mul] at hb2
    have e1 : ((k : Int) - (b : Int)).toNat = k - b := by omega
    have e4 : (b : Int) * (2 * (l : Int)) = ((b * (2 * l) : Nat) : Int) := by simp
    have hL : (runJ (l : Int) (k : Int) cs b).length = 256 := by rw [runJ_length, hlen]
    have hgen := runI_get (z := Zs.getD (k - b) 0) (st := ((b * (2 * l) : Nat) : Int)) (l := (l : Int)) (cs := runJ (l : Int) (k : Int) cs b) (Int.natCast_nonneg _) (by omega) (by omega) hL l (Int.le_refl _)
    have t1 : (((b * (2 * l) : Nat) : Int)).toNat = b * (2 * l) := rfl
    have t2 : ((l : Int)).toNat = l := rfl
    rw [runJ, e1, e4, t2, hgen, t1, t2, blk ho]
    clear hgen t1 t2 e1 e4 hL hb2
    by_cases h : q = b
    · subst h
      rw [if_pos rfl, if_pos (Nat.lt_succ_self q)]
      have i1 := ih q off ho hx
      rw [if_neg (Nat.lt_irrefl q)] at i1
      by_cases c : off < l
      · rw [if_pos c, if_pos c, i1]
        have h9 : (q + 1) * (2 * l) ≤ n * (2 * l) := Nat.mul_le_mul_right _ hb
        rw [Nat.add_mul, Nat.one_mul] at h9
        have := ih q (off + l) (by omega) (by omega)
        rw [← Nat.add_assoc, if_neg (Nat.lt_irrefl q)] at this
        rw [this]
      · rw [if_neg c, if_neg c, i1]
        have := ih q (off - l) (by omega) (by omega)
        rw [← Nat.add_sub_assoc (Nat.le_of_not_lt c), if_neg (Nat.lt_irrefl q)] at this
        rw [this]
    · rw [if_neg h, ih q off ho hx]
      have k1 : (q < b + 1) ↔ q < b := by omega
      simp only [k1]
def tabI (d p : Nat) : Bool :=
  let m := 2 ^ d
  let z := Zs.getD (2 ^ (7 - d) - 1 - p / (2 * 2 ^ d)) 0
  let r := powv (eG (p : Int) 7)
  if (p / m) % 2 = 0 then (r ^ m * z) % 3329 == (-1) % 3329 else (r ^ m * z) % 3329 == 1 % 3329
theorem tabI_all : ((List.range 7).all fun d => (List.range 128).all fun p => tabI d p) = true := by decide +kernel
theorem tabI_at {d p : Nat} (hd : d < 7) (hp : p < 128) : tabI d p = true :=
  List.all_eq_true.mp (List.all_eq_true.mp tabI_all d (List.mem_range.mpr hd)) p (List.mem_range.mpr hp)
/-- one layer of from_ntt doubles the rest at every place -/
theorem inv_step {m n k q bit c : Nat} {r : Int} {cs : List Int} (hm : 1 ≤ m) (hk : n * (2 * (2 * m)) = 256) (hlen : cs.length = 256) (hq : q < n) (hbit : bit < 2) (hc : c < 2)
    (ht : if bit = 0 then Cg (r ^ m * Zs.getD (k - q) 0) (-1) else Cg (r ^ m * Zs.getD (k - q) 0) 1) :
    Cg (S (at0 (runJ ((2 * m : Nat) : Int) (k : Int) cs n)) r (q * (2 * (2 * m)) + c) (2 * m)) (2 * S (at0 cs) r ((2 * q + bit) * (2 * m) + c) m) := by
  have hget := runJ_get (l := 2 * m) (k := k) (n := n) (cs := cs) (one_le hm) (Nat.le_of_eq hk) hlen n (Nat.le_refl n)
  have hq2 : (q + 1) * (2 * (2 * m)) ≤ n * (2 * (2 * m)) := Nat.mul_le_mul_right _ hq
  rw [Nat.add_mul, Nat.one_mul, hk] at hq2
  have hs := S_split (at0 (runJ ((2 * m : Nat) : Int) (k : Int) cs n)) r (q * (2 * (2 * m)) + c) m m
  rw [dbl_m] at hs
  rw [hs]
  have lo := S_comb (r := r) (A := at0 cs) (B := at0 cs) (C := at0 (runJ ((2 * m : Nat) : Int) (k : Int) cs n)) (z := 1) (b1 := q * (2 * (2 * m)) + c) (b2 := q * (2 * (2 * m)) + c + 2 * m) (b3 := q * (2 * (2 * m)) + c) m (by
      intro i hi
      have h9 := bd1 hc hi
      have := hget q (c + 2 * i) (bd2 h9) (bd4 hq2 (bd2 h9))
      rw [if_pos hq, if_pos h9] at this
      unfold at0
      rw [Int.one_mul, ix1, this, ix2])
  have up0 := S_comb (r := r) (A := fun _ => 0) (B := fun x => at0 cs x - at0 cs (x - 2 * m)) (C := at0 (runJ ((2 * m : Nat) : Int) (k : Int) cs n)) (z := Zs.getD (k - q) 0) (b1 := 0) (b2 := q * (2 * (2 * m)) + c + 2 * m) (b3 := q * (2 * (2 * m)) + c + 2 * m) m (by
      intro i hi
      have h9 := bd1 hc hi
      have := hget q (2 * m + c + 2 * i) (bd3 h9) (bd4 hq2 (bd3 h9))
      rw [if_pos hq, if_neg bd5] at this
      simp only [Int.zero_add]
      unfold at0
      rw [← ix5, this])
  have up1 := S_comb (r := r) (A := at0 cs) (B := at0 cs) (C := fun x => at0 cs x - at0 cs (x - 2 * m)) (z := -1) (b1 := q * (2 * (2 * m)) + c + 2 * m) (b2 := q * (2 * (2 * m)) + c) (b3 := q * (2 * (2 * m)) + c + 2 * m) m (by
      intro i hi
      show at0 cs _ - at0 cs _ = _
      rw [ix6, Int.neg_mul, Int.one_mul, Int.sub_eq_add_neg])
  have z0 : ∀ n, S (fun _ => 0) r 0 n = 0 := by
    intro n
    induction n with
    | zero => rfl
    | succ n ih => rw [S, ih]; simp
  rw [z0, Int.zero_add] at up0
  rw [lo, up0, up1, ← Int.mul_assoc]
  have e0 : (2 * q) * (2 * m) = q * (2 * (2 * m)) := by rw [Nat.mul_comm 2 q, Nat.mul_assoc]
  rcases (show bit = 0 ∨ bit = 1 from bit01 hbit) with rfl | rfl
  · rw [if_pos rfl] at ht
    rw [Nat.add_zero, e0]
    refine Cg.trans ((Cg.refl _).add (ht.mul (Cg.refl _))) (Cg.of ?_)
    omega
  · rw [if_neg (by decide)] at ht
    rw [show (2 * q + 1) * (2 * m) + c = q * (2 * (2 * m)) + c + 2 * m by rw [Nat.add_mul, Nat.one_mul, e0, Nat.add_right_comm]]
    refine Cg.trans ((Cg.refl _).add (ht.mul (Cg.refl _))) (Cg.of ?_)
    omega
/-- seven layers of from_ntt: 128 times the pair -/
theorem inv_all {st : List Int} {p c : Nat} (hlen : st.length = 256) (hp : p < 128) (hc : c < 2) : ∀ d : Nat, d ≤ 7 →
    Cg (S (at0 (runM st d)) (powv (eG (p : Int) 7)) (p / 2 ^ d * (2 * 2 ^ d) + c) (2 ^ d)) ((2 : Int) ^ d * at0 st (2 * p + c))
  | 0, _ => by
    rw [Nat.pow_zero, Nat.div_one, Nat.mul_one, S_one, Int.pow_zero, Int.one_mul, Nat.mul_comm p 2]
    exact Cg.refl _
  | d + 1, hd => by
    have ih := inv_all hlen hp hc d (by omega)
    have hL : (runM st d).length = 256 := by rw [runM_length, hlen]
    have hk : 2 ^ (6 - d) * (2 * (2 * 2 ^ d)) = 256 := by
      rcases seven (show d ≤ 7 by omega) with rfl | rfl | rfl | rfl | rfl | rfl | rfl | rfl <;> first | rfl | exact absurd hd (by decide) | omega
    have hq : p / (2 * 2 ^ d) < 2 ^ (6 - d) := by
      rw [Nat.div_lt_iff_lt_mul (Nat.mul_pos (by decide) (Nat.two_pow_pos _))]
      have : 2 ^ (6 - d) * (2 * 2 ^ d) = 128 := by
        rcases seven (show d ≤ 7 by omega) with rfl | rfl | rfl | rfl | rfl | rfl | rfl | rfl <;> first | rfl | exact absurd hd (by decide) | omega
      omega
    have hqb : 2 * (p / (2 * 2 ^ d)) + (p / 2 ^ d) % 2 = p / 2 ^ d := by
      rw [Nat.mul_comm 2 (2 ^ d), ← Nat.div_div_eq_div_mul]; omega
    have tb := tabI_at (d := d) (p := p) (by omega) hp
    unfold tabI at tb
    simp only at tb
    have key := inv_step (m := 2 ^ d) (n := 2 ^ (6 - d)) (k := 2 ^ (7 - d) - 1) (q := p / (2 * 2 ^ d)) (bit := (p / 2 ^ d) % 2) (c := c) (r := powv (eG (p : Int) 7)) (cs := runM st d)
      (Nat.two_pow_pos _) hk hL hq (Nat.mod_lt _ (by decide)) hc (by
        by_cases hb : p / 2 ^ d % 2 = 0
        · rw [if_pos hb] at tb ⊢
          exact beq_iff_eq.mp tb
        · rw [if_neg hb] at tb ⊢
          exact beq_iff_eq.mp tb)
    rw [hqb] at key
    have e2 : 2 ^ (d + 1) = 2 * 2 ^ d := by rw [Nat.pow_succ, Nat.mul_comm]
    have e1 : ((2 ^ (7 - d) - 1 : Nat) : Int) = 2 ^ (7 - d) - 1 := by
      rcases seven (show d ≤ 7 by omega) with rfl | rfl | rfl | rfl | rfl | rfl | rfl | rfl <;> rfl
    have er : runM st (d + 1) = runJ ((2 * 2 ^ d : Nat) : Int) ((2 ^ (7 - d) - 1 : Nat) : Int) (runM st d) (2 ^ (6 - d)) := by
      rw [runM, e1, ← e2]; simp
    rw [er, e2]
    refine key.trans ?_
    rw [Int.pow_succ, Int.mul_comm (2 ^ d) 2, Int.mul_assoc]
    exact (Cg.refl 2).mul ih
theorem mfF_get {f : Int} {cs : List Int} (hlen : cs.length = 256) : ∀ i : Nat, i ≤ 256 → ∀ x : Nat, (mfF f cs i).getD x 0 = if x < i then (cs.getD x 0 * f).fmod 3329 else cs.getD x 0
  | 0, _, x => by rw [if_neg (Nat.not_lt_zero _)]; rfl
  | i + 1, hi, x => by
    have ih := mfF_get (f := f) hlen i (Nat.le_of_succ_le hi)
    have e : (0 + (i : Int)).toNat = i := by rw [Int.zero_add, Int.toNat_natCast]
    have hL : (mfF f cs i).length = 256 := by rw [mfF_length, hlen]
    rw [mfF, e, getD_set, hL, ih i, ih x, if_neg (Nat.lt_irrefl i)]
    by_cases h : x = i
    · subst h; rw [if_pos ⟨rfl, Nat.lt_of_succ_le hi⟩, if_pos (Nat.lt_succ_self _)]
    · rw [if_neg (fun q => h q.1)]
      by_cases h2 : x < i
      · rw [if_pos h2, if_pos (Nat.lt_succ_of_lt h2)]
      · rw [if_neg h2, if_neg (fun q => h2 (Nat.lt_of_le_of_ne (Nat.le_of_lt_succ q) h))]
theorem mf_all {f : Int} {cs c1 : List Int} (h1 : c1 = mfF f cs 256) (hlen : cs.length = 256) : c1.length = 256 ∧ ∀ x, x < 256 → c1.getD x 0 = (cs.getD x 0 * f).fmod 3329 := by
  refine ⟨by rw [h1, mfF_length, hlen], fun x hx => ?_⟩
  have := mfF_get (f := f) hlen 256 (Nat.le_refl _) x
  rw [if_pos hx, ← h1] at this
  exact this
theorem mf_range {f : Int} {cs c1 : List Int} (hl : c1.length = 256) (h : ∀ x, x < 256 → c1.getD x 0 = (cs.getD x 0 * f).fmod 3329) : ∀ c ∈ c1, 0 ≤ c ∧ c < 3329 := by
  intro c hc
  obtain ⟨i, hi, rfl⟩ := List.mem_iff_getElem.mp hc
  have := h i (by omega)
  rw [List.getD_eq_getElem?_getD, List.getElem?_eq_getElem hi] at this
  simp only [Option.getD_some] at this
  rw [this]
  exact ⟨Int.fmod_nonneg_of_pos _ (by decide), Int.fmod_lt_of_pos _ (by decide)⟩
theorem S_scale (A B : Nat → Int) (r f : Int) (base : Nat) : ∀ n, (∀ i, i < n → Cg (B (base + 2 * i)) (A (base + 2 * i) * f)) → Cg (S B r base n) (f * S A r base n)
  | 0, _ => Cg.of (by simp [S])
  | n + 1, h => by
    rw [S, S, Int.mul_add]
    refine (S_scale A B r f base n fun i hi => h i (by omega)).add ?_
    rw [← Int.mul_assoc, Int.mul_comm f]
    exact (h n (by omega)).mul (Cg.refl _)
theorem inv_law {st cs c1 c2 : List Int} {l k p : Int} (hO : OutI st l k cs) (h2 : ¬ l ≤ 128) (h1 : c1 = mfF 3303 cs 256) (hr : c2 = rsF (powv (eG p 7)) c1 254) (hlen : st.length = 256) (hp0 : 0 ≤ p) (hp : p < 128) :
    ((c2.getD (Int.toNat 0) 0).fmod 3329 = (st.getD (2 * p).toNat 0).fmod 3329 ∧ (c2.getD (Int.toNat 1) 0).fmod 3329 = (st.getD (2 * p + 1).toNat 0).fmod 3329) ∧ ∀ c ∈ c1, 0 ≤ c ∧ c < 3329 := by
  obtain ⟨n, rfl⟩ := Int.eq_ofNat_of_zero_le hp0
  have hn : n < 128 := by omega
  have hcs := outI_last hO h2
  have hL : cs.length = 256 := (outI_facts hO).2.2.2.2
  have hm := mf_all h1 hL
  have one : ∀ c : Nat, c < 2 → (c2.getD c 0).fmod 3329 = (st.getD (2 * n + c) 0).fmod 3329 := by
    intro c hc
    have b := rest_place (r := powv (eG (n : Int) 7)) hm.1 hc
    rw [← hr] at b
    have s := S_scale (at0 cs) (at0 c1) (powv (eG (n : Int) 7)) 3303 c 128 (by
      intro i hi
      unfold at0
      rw [hm.2 _ (by omega)]
      exact Cg.fmod _)
    have a := inv_all (st := st) (p := n) (c := c) hlen hn hc 7 (Nat.le_refl 7)
    rw [← hcs, show n / 2 ^ 7 = 0 from Nat.div_eq_of_lt (by omega), Nat.zero_mul, Nat.zero_add] at a
    refine fmod_of_cg (b.trans (s.trans (((Cg.refl 3303).mul a).trans ?_)))
    rw [← Int.mul_assoc]
    refine Cg.trans (b := 1 * at0 st (2 * n + c)) (Cg.mul (by unfold Cg; decide) (Cg.refl _)) ?_
    rw [Int.one_mul]
    exact Cg.refl _
  have o0 := one 0 (by decide)
  have o1 := one 1 (by decide)
  refine ⟨⟨?_, ?_⟩, mf_range hm.1 hm.2⟩
  · rw [show (2 * (n : Int)).toNat = 2 * n + 0 by omega]
    exact o0
  · rw [show (2 * (n : Int) + 1).toNat = 2 * n + 1 by omega]
    exact o1
end Mine

open PySem PySem.W PyProof.Rows PySem.Calls PyProof.V PySem.Spec
set_option maxRecDepth 100000
namespace Mine
theorem dbl (l : Int) : l * 2 ^ Int.toNat 1 = 2 * l := by
  rw [show ((2 : Int) ^ Int.toNat 1) = 2 from rfl]; omega
end Mine

open PySem PySem.W PyProof.Rows PySem.Calls PyProof.V PySem.Spec
set_option maxRecDepth 100000
namespace Mine
section
variable {D : Addr} {news own : List (Addr × Obj)}
theorem allne_lt (h : ∀ q ∈ news, q.1 < D) : ∀ p ∈ news, p.1 ≠ D := fun p hp => Nat.ne_of_lt (h p hp)
theorem allne_app (h : ∀ q ∈ news, q.1 < D) (o : OwnOff own (D :: news.map (·.1))) : ∀ p ∈ news ++ own, p.1 ≠ D := by
  intro p hp
  rcases List.mem_append.mp hp with hp | hp
  · exact Nat.ne_of_lt (h p hp)
  · intro e
    exact absurd (o p hp) (by rw [e]; simp)
end
end Mine
namespace Mine
section
variable {D : Addr} {news : List (Addr × Obj)} {p : Addr × Obj}
theorem lt_tail (h : ∀ q ∈ p :: news, q.1 < D) : ∀ q ∈ news, q.1 < D := fun q hq => h q (List.mem_cons_of_mem _ hq)
theorem lt_of_all (h : AllLt D news) : ∀ q ∈ news, q.1 < D := by
  induction news with
  | nil => intro q hq; cases hq
  | cons a r ih =>
    intro q hq
    rcases List.mem_cons.mp hq with rfl | hq
    · exact h.1
    · exact ih h.2 q hq
end
end Mine
namespace Mine
section
variable {D : Addr} {news own : List (Addr × Obj)} {ob : Obj}
theorem allne_app' (h : ∀ q ∈ news, q.1 < D) (o : OwnOff own (((D, ob) :: news).map (·.1))) : ∀ p ∈ news ++ own, p.1 ≠ D := allne_app h o
end
end Mine
namespace Mine
abbrev de (w : World) (k : String) (t : Tok) (v : Value) : DictEntry := ⟨PyData.keyHash w.params (Str.ofString k), .str (Str.ofString k) t, v⟩
end Mine
namespace Mine
section
variable {D : Addr} {news own : List (Addr × Obj)} {ks : List Addr}
theorem allne_own (h : ∀ p ∈ news, p.1 ≠ D) (o : OwnOff own ks) (hm : D ∈ ks) : ∀ p ∈ news ++ own, p.1 ≠ D := by
  intro p hp
  rcases List.mem_append.mp hp with hp | hp
  · exact h p hp
  · exact o p hp D hm
end
end Mine
namespace Mine
theorem news_drop2 {h₀ h : Heap} {L : Addr} {a0 a1 a2 : Addr × Obj} {r : List (Addr × Obj)} (N : News h₀ L h (a0 :: a1 :: a2 :: r)) : News h₀ L h (a0 :: a1 :: r) :=
  news_sub N (by intro p hp; simp only [List.mem_cons] at hp ⊢; rcases hp with h | h | h <;> simp [h])
end Mine
namespace Mine
section
variable {prog : Program} {w : World} {A : Around} {E : Value → Shared → Prop} {s : Shared} {h₀ : Heap} {L l : Addr} {news : List (Addr × Obj)} {Q : Value → Shared → Prop}
theorem len_mine {vs : List Value} {cs : List Int} {n : Nat} (N : News h₀ L s.heap news) (hm : (l, listOf vs.toArray n) ∈ news) (hI : IntsAre vs cs) (hf : (cs.length : Int) ≤ 256)
    (h : Q (.int (cs.length : Nat) (s.toks + 1)) { s with toks := s.toks + 1 + 1 }) : wpAny (model prog w) A (call (.builtin "len") [.ref l]) Q E s :=
  KM.len_K N hm (by have := hI.length; rw [List.size_toArray]; omega) (by omega) h
end
end Mine
namespace Mine
section
variable {prog : Program} {w : World} {A : Around} {E : Value → Shared → Prop} {s : Shared} {h₀ : Heap} {L a b : Addr} {news : List (Addr × Obj)} {Q : Value → Shared → Prop}
theorem ne_mine {vs us : List Value} {ns ms : List Int} {n k : Nat} (N : News h₀ L s.heap news) (m1 : (a, listOf vs.toArray n) ∈ news) (i1 : IntsAre vs ns) (m2 : (b, listOf us.toArray k) ∈ news) (i2 : IntsAre us ms) (hu : A.units + 64 < cLine)
    (h : Q (.bool (!decide (ns = ms))) s) : wpAny (model prog w) A (compareOp .NotEq (.ref a) (.ref b)) Q E s :=
  ne_intsK (PySem.IsL.isList (n := n) (N _ m1).1) i1 (PySem.IsL.isList (n := k) (N _ m2).1) i2 hu h
theorem eq_mine {vs us : List Value} {ns ms : List Int} {n k : Nat} (N : News h₀ L s.heap news) (m1 : (a, listOf vs.toArray n) ∈ news) (i1 : IntsAre vs ns) (m2 : (b, listOf us.toArray k) ∈ news) (i2 : IntsAre us ms) (hu : A.units + 64 < cLine)
    (h : Q (.bool (decide (ns = ms))) s) : wpAny (model prog w) A (compareOp .Eq (.ref a) (.ref b)) Q E s :=
  eq_intsK (PySem.IsL.isList (n := n) (N _ m1).1) i1 (PySem.IsL.isList (n := k) (N _ m2).1) i2 hu h
end
end Mine
namespace Mine
theorem mem_tl {α : Type} {x a : α} {l : List α} (h : x ∈ l) : x ∈ a :: l := List.mem_cons_of_mem _ h
theorem mem_hd {α : Type} {x : α} {l : List α} : x ∈ x :: l := List.mem_cons_self
end Mine
namespace Mine
section
variable {prog : Program} {w : World} {A A₀ : Around} {s : Shared} {K : Frag} {base h₀ : Heap} {L : Addr} {m : Str → Option Value} {news : List (Addr × Obj)} {p : Program} {loose : List Str} {mg mb : Str → Option Value}
/-- a def entered where no more is known of the top than TopRead (behind a generator expression) -/
theorem code_defR {env : Env} {outer : List Env} {R : Result → Shared → Prop} {name qual : Str} {params : Arguments} {body : List Stmt} {scope : Scope} {dV kV doc pm cdv ct oc : Value} {an od : Option Addr} {osl : Array (Option Value)} {f : Addr} {args : Args} {binds : List (Str × Value)}
    (B : Below A₀ base outer h₀) (F : Fr h₀ L s.heap m) (X₀ : K.In h₀) (N : News h₀ L s.heap news) (T : TopRead p loose mg mb h₀) (hA : A.frames = some (env :: outer)) (hf : env.frame = some L) (hke : env.scope.kind = .function)
    (ho : K.lookup f = some ⟨oc, od, .func (fnOf name qual params body scope dV kV doc pm an cdv ct), osl⟩) (hcd : codeIn K cdv qual = true) (hroom : A.depth < recursionLimit)
    (hbind : BindsTo s (fnOf name qual params body scope dV kV doc pm an cdv ct) args binds) (hloc : ∀ y ∈ binds, scope.names.lookup y.1 = some .local)
    (h : ∀ g L' h₁, Fr h₀ L g m → Fr g L' h₁ (fun y => binds.reverse.lookup y) → News g L' h₁ news → Below A base (env :: outer) g → K.In g → TopRead p loose mg mb g →
      wpAny (model prog w) (A.deeper (envOf qual scope L' f cdv)) (execs body (envOf qual scope L' f cdv))
        (fun fl s' => LeaveK h₀ L m g R (match fl with | .ret v => v | _ => .none) s')
        (fun e s' => wpAny (model prog w) (A.deeper (envOf qual scope L' f cdv)) (leaving (envOf qual scope L' f cdv) e) (fun _ s'' => R (.error e) s'') (fun e' s'' => R (.error e') s'') s')
        { s with heap := h₁, toks := s.toks + binds.length })
    (hco : scope.isCoroutine = false) (hgen : scope.isGenerator = false) (hk : scope.kind = .function)
    (hcell : ∀ x ∈ scope.names, x.2 ≠ .cell) : codeAny (model prog w) A (.call (.ref f) args) R s :=
  callX_plain (cl := []) B F N T.nolimit hA hf hke ((X₀.keeps F.keep) _ _ ho) rfl (codeRec_of (X₀.keeps F.keep) hcd) hroom hbind hloc (fun g L' h₁ FG F' N' B' st _ => h g L' h₁ FG F' N' B' (X₀.keeps st) (T.keeps st)) hcell hco hgen hk
end
end Mine
namespace Mine
def p0 (p : Program) : Program := { p with main := { p.main with body := [] } }
def loose0 (p : Program) (loose : List Str) : List Str := loose ++ ((recsOf p).map (·.name) ++ ((litsOf p).map (·.1) ++ (clssOf p loose).map (·.name)))
/-- the top behind a generator expression: the same names, no word of the defs -/
theorem top_regrown0 {p : Program} {loose : List Str} {mean : ExcName → Option Value} {mg mb : Str → Option Value} {h₁ h₀ h : Heap} {c P L : Addr} {ps ps' : Array Value} {m : Str → Option Value} (_F : Fr (PyProof.Rows.regrown h₀ P ps') L h m)
    (T : Top p loose mean mg mb h₀) (B : Based h₁ h₀ c P ps) (S : (PyProof.Rows.regrown h₀ P ps').NoSeer) : Top (p0 p) (loose0 p loose) mean mg mb (PyProof.Rows.regrown h₀ P ps') := by
  have up := regrown_other h₀ P ps'
  have ns : ∀ {a : Addr} {mm : Str → Option Value}, h₀.Ns a mm → (PyProof.Rows.regrown h₀ P ps').Ns a mm := fun G => LGe.ns_regrown B G
  refine ⟨ns T.g, ns T.b, (let ⟨mc, a, b⟩ := T.nolimit; ⟨mc, ns a, b⟩), (let ⟨mc, a, b⟩ := T.nodigits; ⟨mc, ns a, b⟩), ?_, ?_, ?_, ?_, T.builtins, ?_, ?_, fun _ => S⟩
  · intro d hd; cases hd
  · intro o ho; cases ho
  · intro x d e; cases e
  · intro x h1 h2 _ _ _
    simp only [loose0, List.mem_append, not_or] at h2
    exact T.free x h1 h2.1 h2.2.1 h2.2.2.1 h2.2.2.2
  · intro d hd; cases hd
  · obtain ⟨bm, ob, a, b, c', d, r⟩ := T.bmain
    exact ⟨bm, ob, a, b, up _ ob (B.ne_of_cls c' (by rw [d]; simp)) c', d, r⟩
end Mine
namespace Mine
section
variable {prog : Program} {w : World} {A₀ A : Around} {s : Shared} {base h₀ : Heap} {L : Addr} {m : Str → Option Value} {env : Env} {news : List (Addr × Obj)} {K : Frag} {p : Program} {loose : List Str} {mean : ExcName → Option Value} {mg mb : Str → Option Value}
    {R : Result → Shared → Prop} {name qual : Str} {params : Arguments} {body : List Stmt} {scope : Scope} {dV kV doc pm cdv ct oc : Value} {an od : Option Addr} {osl : Array (Option Value)} {f : Addr} {args : Args} {binds : List (Str × Value)}
theorem frame_mem {b : Addr} (hf : env.frame = some L) (hm : b ∈ [env].filterMap (·.frame)) : b = L := by
  obtain ⟨e, he, q⟩ := List.mem_filterMap.mp hm
  rw [List.mem_singleton.mp he, hf] at q
  exact (Option.some.inj q).symm
/-- a def with a try, entered from any frame that stands on the top (its cells do not matter) -/
theorem enter_try (B : Below A₀ base [] h₀) (F : Fr h₀ L s.heap m) (X₀ : K.In h₀) (N : News h₀ L s.heap news) (T : Top p loose mean mg mb h₀) (hA : A.frames = some [env]) (hf : env.frame = some L) (hke : env.scope.kind = .function)
    (ho : K.lookup f = some ⟨oc, od, .func (fnOf name qual params body scope dV kV doc pm an cdv ct), osl⟩) (hcd : codeIn K cdv qual = true) (hroom : A.depth < recursionLimit)
    (hbind : BindsTo s (fnOf name qual params body scope dV kV doc pm an cdv ct) args binds) (hloc : ∀ y ∈ binds, scope.names.lookup y.1 = some .local)
    (h : ∀ g L' h₁, Fr h₀ L g m → Fr g L' h₁ (fun y => binds.reverse.lookup y) → News g L' h₁ news → Below A base [env] g → K.In g → Top p loose mean mg mb g → KtsDicts ([env].filterMap (·.frame)) g →
      wpAny (model prog w) (A.deeper (envOf qual scope L' f cdv)) (execs body (envOf qual scope L' f cdv))
        (fun fl s' => LeaveS0 ([env].filterMap (·.frame)) h₀ L m g R (match fl with | .ret v => v | _ => .none) s')
        (fun e s' => wpAny (model prog w) (A.deeper (envOf qual scope L' f cdv)) (leaving (envOf qual scope L' f cdv) e) (fun _ s'' => R (.error e) s'') (fun e' s'' => R (.error e') s'') s')
        { s with heap := h₁, toks := s.toks + binds.length })
    (hco : scope.isCoroutine = false) (hgen : scope.isGenerator = false) (hk : scope.kind = .function)
    (hcell : ∀ x ∈ scope.names, x.2 ≠ .cell) : codeAny (model prog w) A (.call (.ref f) args) R s := by
  have X := X₀.keeps F.keep
  obtain ⟨FG, BG, st, _⟩ := groundX (R := R) B F N hA hf hke
  obtain ⟨oL, es, ep, hLg, hLd, hLk, hLf⟩ := FG.ns
  refine codeAny_call_def (fd := fnOf name qual params body scope dV kV doc pm an cdv ct) (body := body) (binds := binds) hroom (X _ _ ho) rfl (T.nolimit.keeps F.keep) (codeRec_of X hcd) rfl hbind hcell hloc (fun h₁ hns hk₁ => ?_) hco hgen hk
  have dicts : KtsDicts ([env].filterMap (·.frame)) (hideAll s.heap (news.map (·.1))) := fun b hb => by
    rw [frame_mem hf hb]
    exact ⟨oL, es, ep, hLg, hLd⟩
  have N₁ : News (hideAll s.heap (news.map (·.1))) s.heap.objs.size h₁ news := fun q hq =>
    ⟨hk₁ _ _ (N q hq).1, Nat.ne_of_lt (Heap.lt_size (N q hq).1), hideAll_none _ (List.mem_map_of_mem hq)⟩
  refine wpAny_mono (h _ s.heap.objs.size h₁ FG ⟨hns, fun b o e => hk₁ b o (of_hideAll _ e), Nat.le_of_eq (hideAll_size _ _)⟩ N₁ BG (X₀.keeps st) (T.keeps st) dicts) (fun fl s' hl => ?_) fun _ _ y => y
  obtain ⟨g', L', m', news', T', F', N', k⟩ := hl
  obtain ⟨sl, hs⟩ := T'.up hLg
  have keep : ∀ b o, h₀.get? b = some o → s'.heap.get? b = some o := fun b o e => by
    refine F'.keep b o (T'.other b o (st b o e) fun q => ?_)
    rw [frame_mem hf q, kts_self F] at e
    cases e
  refine k ⟨⟨_, es, ep, F'.keep _ _ hs, hLd, hLk, hLf⟩, keep, F.above⟩ fun q hq => ⟨(N' q hq).1, fun e => ?_, ?_⟩
  · have := (N' q hq).2.2
    rw [e, hs] at this
    cases this
  · cases e : h₀.get? q.1 with
    | none => rfl
    | some o =>
      obtain ⟨sl', hs'⟩ := T'.up (st _ _ e)
      have := (N' q hq).2.2
      rw [hs'] at this
      cases this
end
end Mine
namespace Mine
theorem nn6 {n : Nat} (h : n = 256) : ¬ (((n : Int) != 256) = true) := by simp; omega
theorem nn6s {l : List Int} {i : Nat} {v : Int} (h : l.length = 256) : ¬ ((((l.set i v).length : Nat) : Int) != 256) = true := by simp; omega
theorem ne6 {n : Int} (h : n < 256) : ¬ ((n == 256) = true) := by simp; omega
theorem nds {a : List Int} : ¬ ((!decide (a = a)) = true) := by simp
end Mine
namespace Mine
theorem have_list {h₀ h : Heap} {L l : Addr} {m : Str → Option Value} {news : List (Addr × Obj)} {vs : List Value} {n : Nat} {P : Prop} (x : Str) (_F : Fr h₀ L h m) (_v : m x = some (.ref l)) (N : News h₀ L h news) (hm : (l, listOf vs.toArray n) ∈ news) (k : h.IsList l vs.toArray → P) : P :=
  k (PySem.IsL.isList (n := n) (N _ hm).1)
end Mine
namespace Mine
theorem size_ints {vs : List Value} {cs : List Int} (hI : IntsAre vs cs) (hl : cs.length = 256) : vs.toArray.size ≤ sizeLine := by
  have := hI.length
  rw [PySem.sizeLine_eq, List.size_toArray]; omega
end Mine
namespace Mine
theorem allne_off {D : Addr} : ∀ {l : List (Addr × Obj)}, PyProof.Rows.LCg.Off1 D l → ∀ p ∈ l, p.1 ≠ D
  | [], _, _, h => nomatch h
  | _ :: _, h, p, hp => by
    rcases List.mem_cons.mp hp with rfl | hp
    · exact h.1
    · exact allne_off h.2 p hp
end Mine

open PySem PySem.W PyProof.Rows PySem.Calls PyProof.V PySem.Spec
set_option maxRecDepth 100000
namespace Mine
/-- what holds ahead of the law's `if told != want ..`; nl: all but the answer's list and f's dict -/
structure TailC (w : World) (nl : List (Addr × Obj)) (b : Bool) (Cf Ch hx hd fx fd gx gd cf cg rg rd wl tl kl sl : Addr) (cs gs : List Int) (vs wv tv kv sv : List Value) (q1 q2 q3 q4 q5 q6 tq : Tok) (c3 c4 : DictEntry) (vn : DictEntry) (tn : Tok) (ck : Nat) (ts ws : List Int) (spot : Int) : Prop where
  ncf : ∀ p ∈ nl, p.1 ≠ cf
  nfd : ∀ p ∈ nl, p.1 ≠ fd
  cfd : cf ≠ fd
  hh : (hx, instObj Ch hd) ∈ nl
  hhd : (hd, dictOf [de w "parent" q1 (.ref rg), de w "coeffs" q2 (.ref cf)] 2) ∈ nl
  hf : (fx, instObj Cf fd) ∈ nl
  hg : (gx, instObj Cf gd) ∈ nl
  hgd : (gd, dictOf [de w "parent" q5 (.ref rg), de w "coeffs" q6 (.ref cg)] 2) ∈ nl
  hr : (rg, instObj 280 rd) ∈ nl
  hrd : (rd, dictOf [de w "q" tq (.int 3329 tn), vn, c3, c4] 4) ∈ nl
  hw : (wl, listOf wv.toArray 0) ∈ nl
  ht : (tl, listOf tv.toArray 0) ∈ nl
  hk : (kl, listOf kv.toArray ck) ∈ nl
  hs : (sl, listOf sv.toArray 0) ∈ nl
  Iw : IntsAre wv ws
  It : IntsAre tv ts
  Ik : IntsAre kv gs
  Is : IntsAre sv (pad gs)
  Iv : IntsAre vs cs
  e : ts = ws
  len : cs.length = 256
  rng : ∀ c ∈ cs, 0 ≤ c ∧ c < 3329
  cls : (b = true ∧ Cf = 424 ∧ Ch = 348) ∨ (b = false ∧ Cf = 348 ∧ Ch = 424)
  sp0 : 0 ≤ spot
  sp1 : spot < 256
def TailM (mB : Str → Option Value) (b : Bool) (place spot number many : Int) (t1 t2 t3 t4 : Tok) (wl tl hx gx fx sl kl gl rg : Addr) : Str → Option Value := fun y =>
  if y = "want" then some (.ref wl) else if y = "told" then some (.ref tl) else if y = "h" then some (.ref hx) else if y = "g" then some (.ref gx) else if y = "f" then some (.ref fx) else if y = "start" then some (.ref sl)
  else if y = "kept" then some (.ref kl) else if y = "given" then some (.ref gl) else if y = "number" then some (.int number t1) else if y = "spot" then some (.int spot t2) else if y = "place" then some (.int place t3)
  else if y = "many" then some (.int many t4) else if y = "back" then some (.bool b) else if y = "ring" then some (.ref rg) else mB y
/-- fewer than 256 given -/
inductive TailA (w : World) (h₀ : Heap) (L : Addr) (s₁ : Shared) (v : Bool) (s : Shared) : Prop where
  | mk (nl : List (Addr × Obj)) (b : Bool) (Cf Ch hx hd fx fd gx gd cf cg rg rd wl tl kl sl : Addr) (cs gs : List Int) (vs wv tv kv sv : List Value) (q1 q2 q3 q4 q5 q6 tq : Tok) (c3 c4 : DictEntry) (vn : DictEntry) (tn : Tok) (ck : Nat) (ts ws : List Int) (spot : Int)
    (mB : Str → Option Value) (place number many : Int) (t1 t2 t3 t4 : Tok) (gl : Addr) (gv gw : List Value) (c cgl : Nat) (h : Heap) (tk : Nat)
    (u0 : s = { s₁ with heap := h, toks := tk }) (u1 : TailC w nl b Cf Ch hx hd fx fd gx gd cf cg rg rd wl tl kl sl cs gs vs wv tv kv sv q1 q2 q3 q4 q5 q6 tq c3 c4 vn tn ck ts ws spot) (u2 : Fr h₀ L h (TailM mB b place spot number many t1 t2 t3 t4 wl tl hx gx fx sl kl gl rg)) (u3 : News h₀ L h ((cf, listOf vs.toArray c) :: (fd, dictOf [de w "parent" q3 (.ref rg), de w "coeffs" q4 (.ref cf)] 2) :: nl)) (u4 : many < 256) (u5 : (gs.length : Int) < 256) (u6 : (gl, listOf gv.toArray cgl) ∈ nl) (u7 : IntsAre gv gs) (u8 : (cg, listOf gw.toArray 0) ∈ nl) (u9 : IntsAre gw (pad gs)) (uv : b = v) : TailA w h₀ L s₁ v s
/-- 256 given: the given list is the answer's own -/
inductive TailB (w : World) (h₀ : Heap) (L : Addr) (s₁ : Shared) (v : Bool) (s : Shared) : Prop where
  | mk (nl : List (Addr × Obj)) (b : Bool) (Cf Ch hx hd fx fd gx gd cf rg rd wl tl kl sl : Addr) (cs gs : List Int) (vs wv tv kv sv : List Value) (q1 q2 q3 q4 q5 q6 tq : Tok) (c3 c4 : DictEntry) (vn : DictEntry) (tn : Tok) (ck : Nat) (ts ws : List Int) (spot : Int)
    (mB : Str → Option Value) (place number : Int) (t1 t2 t3 t4 : Tok) (c : Nat) (h : Heap) (tk : Nat)
    (u0 : s = { s₁ with heap := h, toks := tk }) (u1 : TailC w nl b Cf Ch hx hd fx fd gx gd cf cf rg rd wl tl kl sl cs gs vs wv tv kv sv q1 q2 q3 q4 q5 q6 tq c3 c4 vn tn ck ts ws spot) (u2 : Fr h₀ L h (TailM mB b place spot number 256 t1 t2 t3 t4 wl tl hx gx fx sl kl cf rg)) (u3 : News h₀ L h ((cf, listOf vs.toArray c) :: (fd, dictOf [de w "parent" q3 (.ref rg), de w "coeffs" q4 (.ref cf)] 2) :: nl)) (u4 : gs.length = 256) (uv : b = v) : TailB w h₀ L s₁ v s
theorem with_tail {M : Model} {A : Around} {env : Env} {body : List Stmt} {Q : Flow → Shared → Prop} {E : Value → Shared → Prop} {s : Shared} (n : Nat) (P1 P2 P3 P4 : Shared → Prop)
    (h1 : ∀ s', P1 s' → wpAny M A (execs (body.drop n) env) Q E s') (h2 : ∀ s', P2 s' → wpAny M A (execs (body.drop n) env) Q E s') (h3 : ∀ s', P3 s' → wpAny M A (execs (body.drop n) env) Q E s') (h4 : ∀ s', P4 s' → wpAny M A (execs (body.drop n) env) Q E s')
    (k : (∀ s', (P1 s' ∨ P2 s') ∨ (P3 s' ∨ P4 s') → wpAny M A (execs (body.drop n) env) Q E s') → wpAny M A (execs body env) Q E s) : wpAny M A (execs body env) Q E s :=
  k fun s' h => h.elim (fun h => h.elim (h1 s') (h2 s')) (fun h => h.elim (h3 s') (h4 s'))
section
variable {prog : Program} {w : World} {A : Around} {E : Value → Shared → Prop} {s : Shared} {h₀ : Heap} {L a b : Addr} {news : List (Addr × Obj)} {Q : Value → Shared → Prop}
theorem ne_same {vs us : List Value} {ns : List Int} {n k : Nat} (N : News h₀ L s.heap news) (m1 : (a, listOf vs.toArray n) ∈ news) (i1 : IntsAre vs ns) (m2 : (b, listOf us.toArray k) ∈ news) (i2 : IntsAre us ns) (hu : A.units + 64 < cLine)
    (h : Q (.bool false) s) : wpAny (model prog w) A (compareOp .NotEq (.ref a) (.ref b)) Q E s :=
  ne_mine N m1 i1 m2 i2 hu (by rw [show (!decide (ns = ns)) = false by simp]; exact h)
theorem eq_same {vs us : List Value} {ns : List Int} {n k : Nat} (N : News h₀ L s.heap news) (m1 : (a, listOf vs.toArray n) ∈ news) (i1 : IntsAre vs ns) (m2 : (b, listOf us.toArray k) ∈ news) (i2 : IntsAre us ns) (hu : A.units + 64 < cLine)
    (h : Q (.bool true) s) : wpAny (model prog w) A (compareOp .Eq (.ref a) (.ref b)) Q E s :=
  eq_mine N m1 i1 m2 i2 hu (by rw [show decide (ns = ns) = true by simp]; exact h)
end
end Mine

open PySem PySem.W PyProof.Rows PySem.Calls PyProof.V PySem.Spec
set_option maxRecDepth 100000
namespace Mine
section
variable {h₀ h : Heap} {L : Addr}
theorem dup5 {n1 n2 n3 n4 n5 : Str} {v1 v2 v3 v4 v5 v6 : Option Value} {r : Str → Option Value}
    (F : Fr h₀ L h (fun y => if y = n1 then v1 else if y = n2 then v2 else if y = n3 then v3 else if y = n4 then v4 else if y = n5 then v5 else if y = n5 then v6 else r y)) :
    Fr h₀ L h (fun y => if y = n1 then v1 else if y = n2 then v2 else if y = n3 then v3 else if y = n4 then v4 else if y = n5 then v5 else r y) := by
  have e : (fun y => if y = n1 then v1 else if y = n2 then v2 else if y = n3 then v3 else if y = n4 then v4 else if y = n5 then v5 else if y = n5 then v6 else r y) =
      (fun y => if y = n1 then v1 else if y = n2 then v2 else if y = n3 then v3 else if y = n4 then v4 else if y = n5 then v5 else r y) := by
    funext y
    by_cases e : y = n5
    · simp only [if_pos e]
    · simp only [if_neg e]
  rw [e] at F
  exact F
theorem split_back {m : Str → Option Value} {b : Bool} {P : Prop} (_F : Fr h₀ L h m) (_v : m "back" = some (.bool b)) (k1 : b = true → P) (k2 : b = false → P) : P := by
  cases b
  · exact k2 rfl
  · exact k1 rfl
theorem nbt {b : Bool} (h : b = false) : ¬ (b = true) := by simp [h]
theorem pick35 {a0 a1 a2 a3 a4 a5 : Addr × Obj} {r : List (Addr × Obj)} (N : News h₀ L h (a0 :: a1 :: a2 :: a3 :: a4 :: a5 :: r)) : News h₀ L h (a3 :: a5 :: a0 :: a1 :: a2 :: a4 :: r) :=
  news_sub N (by intro p hp; simp only [List.mem_cons] at hp ⊢; rcases hp with h | h | h | h | h | h | h <;> simp [h])
theorem pick5 {a0 a1 a2 a3 a4 a5 : Addr × Obj} {r : List (Addr × Obj)} (N : News h₀ L h (a0 :: a1 :: a2 :: a3 :: a4 :: a5 :: r)) : News h₀ L h (a5 :: a0 :: a1 :: a2 :: a3 :: a4 :: r) :=
  news_sub N (by intro p hp; simp only [List.mem_cons] at hp ⊢; rcases hp with h | h | h | h | h | h | h <;> simp [h])
theorem pad_self {gs : List Int} (h : gs.length = 256) : pad gs = gs := by simp [pad, h]
theorem pad_start6 {ws : List Value} {gs : List Int} {n : Int} (h : IntsAre ws (gs ++ (List.replicate n.toNat [(0 : Int)]).flatten)) (hn : n = 0) : IntsAre ws gs := by
  rw [hn] at h
  simpa using h
theorem tailA_intro {w : World} {s₁ : Shared} {nl : List (Addr × Obj)} {b : Bool} {Cf Ch hx hd fx fd gx gd cf cg rg rd wl tl kl sl : Addr} {cs gs : List Int} {vs wv tv kv sv : List Value} {q1 q2 q3 q4 q5 q6 tq : Tok} {c3 c4 : DictEntry} {vn : DictEntry} {tn : Tok} {ck : Nat} {ts ws : List Int} {spot : Int}
    {mB : Str → Option Value} {place number many : Int} {t1 t2 t3 t4 : Tok} {gl : Addr} {gv gw : List Value} {c cgl : Nat} {h : Heap} {tk : Nat}
    (F : Fr h₀ L h (TailM mB b place spot number many t1 t2 t3 t4 wl tl hx gx fx sl kl gl rg)) (N : News h₀ L h ((cf, listOf vs.toArray c) :: (fd, dictOf [de w "parent" q3 (.ref rg), de w "coeffs" q4 (.ref cf)] 2) :: nl))
    (C : TailC w nl b Cf Ch hx hd fx fd gx gd cf cg rg rd wl tl kl sl cs gs vs wv tv kv sv q1 q2 q3 q4 q5 q6 tq c3 c4 vn tn ck ts ws spot)
    (h1 : many < 256) (h2 : (gs.length : Int) < 256) (h3 : (gl, listOf gv.toArray cgl) ∈ nl) (h4 : IntsAre gv gs) (h5 : (cg, listOf gw.toArray 0) ∈ nl) (h6 : IntsAre gw (pad gs)) {v : Bool} (hv : b = v) : TailA w h₀ L s₁ v { s₁ with heap := h, toks := tk } :=
  ⟨nl, b, Cf, Ch, hx, hd, fx, fd, gx, gd, cf, cg, rg, rd, wl, tl, kl, sl, cs, gs, vs, wv, tv, kv, sv, q1, q2, q3, q4, q5, q6, tq, c3, c4, vn, tn, ck, ts, ws, spot, mB, place, number, many, t1, t2, t3, t4, gl, gv, gw, c, cgl, h, tk, rfl, C, F, N, h1, h2, h3, h4, h5, h6, hv⟩
theorem tailB_intro {w : World} {s₁ : Shared} {nl : List (Addr × Obj)} {b : Bool} {Cf Ch hx hd fx fd gx gd cf rg rd wl tl kl sl : Addr} {cs gs : List Int} {vs wv tv kv sv : List Value} {q1 q2 q3 q4 q5 q6 tq : Tok} {c3 c4 : DictEntry} {vn : DictEntry} {tn : Tok} {ck : Nat} {ts ws : List Int} {spot : Int}
    {mB : Str → Option Value} {place number : Int} {t1 t2 t3 t4 : Tok} {c : Nat} {h : Heap} {tk : Nat}
    (F : Fr h₀ L h (TailM mB b place spot number 256 t1 t2 t3 t4 wl tl hx gx fx sl kl cf rg)) (N : News h₀ L h ((cf, listOf vs.toArray c) :: (fd, dictOf [de w "parent" q3 (.ref rg), de w "coeffs" q4 (.ref cf)] 2) :: nl))
    (C : TailC w nl b Cf Ch hx hd fx fd gx gd cf cf rg rd wl tl kl sl cs gs vs wv tv kv sv q1 q2 q3 q4 q5 q6 tq c3 c4 vn tn ck ts ws spot)
    (h2 : gs.length = 256) {v : Bool} (hv : b = v) : TailB w h₀ L s₁ v { s₁ with heap := h, toks := tk } :=
  ⟨nl, b, Cf, Ch, hx, hd, fx, fd, gx, gd, cf, rg, rd, wl, tl, kl, sl, cs, gs, vs, wv, tv, kv, sv, q1, q2, q3, q4, q5, q6, tq, c3, c4, vn, tn, ck, ts, ws, spot, mB, place, number, t1, t2, t3, t4, c, h, tk, rfl, C, F, N, h2, hv⟩
end
end Mine
namespace Mine
section
variable {h₀ h : Heap} {L : Addr}
theorem pick45 {a0 a1 a2 a3 a4 a5 : Addr × Obj} {r : List (Addr × Obj)} (N : News h₀ L h (a0 :: a1 :: a2 :: a3 :: a4 :: a5 :: r)) : News h₀ L h (a4 :: a5 :: a0 :: a1 :: a2 :: a3 :: r) :=
  news_sub N (by intro p hp; simp only [List.mem_cons] at hp ⊢; rcases hp with h | h | h | h | h | h | h <;> simp [h])
theorem pick83 {a0 a1 a2 a3 a4 a5 a6 a7 a8 : Addr × Obj} {r : List (Addr × Obj)} (N : News h₀ L h (a0 :: a1 :: a2 :: a3 :: a4 :: a5 :: a6 :: a7 :: a8 :: r)) : News h₀ L h (a8 :: a3 :: a0 :: a1 :: a2 :: a4 :: a7 :: r) :=
  news_sub N (by intro p hp; simp only [List.mem_cons] at hp ⊢; rcases hp with h | h | h | h | h | h | h | h <;> simp [h])
end
end Mine

open PySem PySem.W PyProof.Rows PySem.Calls PyProof.V PySem.Spec
set_option maxRecDepth 100000
namespace Mine
section
variable {a b c : Nat}
theorem xne1 (h : a < b) : a ≠ b := Nat.ne_of_lt h
theorem xne2 (h : b < a) : a ≠ b := Nat.ne_of_gt h
theorem xne3 (h : b ≠ a) : a ≠ b := Ne.symm h
theorem lt3 (h : a < b) (k : b < c) : a < c := Nat.lt_trans h k
theorem xne4 (h : a < b) : a ≠ b + 1 := by omega
theorem xne5 (h : a < b) : b + 1 ≠ a := by omega
theorem xne6 (h : a < b) : a ≠ b + 1 + 1 := by omega
theorem xne7 (h : a < b) : b + 1 + 1 ≠ a := by omega
end
theorem via1 {a b x : Nat} {P : Prop} (h : x < b ∧ P) (k : x < b ∧ P → a < b) : a < b := k h
theorem via2 {a b x : Nat} {P : Prop} (h : x ≠ b ∧ P) (k : x ≠ b ∧ P → a ≠ b) : a ≠ b := k h
end Mine

open PySem PySem.W PyProof.Rows
set_option maxRecDepth 100000
set_option maxHeartbeats 100000000
namespace Mine
def RDraw (K : Params → Frag) (v : Program) : Prop := ∀ {w : World} {mean : ExcName → Option Value} {mg mb : Str → Option Value} {dp un : Nat} {gd : Option (List Code)} {cn : Str} {cs : Scope} {a : Addr} {ccd : Value} {cl : List (Str × Addr)} {outer : List Env} {A₀ : Around} {base h₀ : Heap} {L : Addr} {m : Str → Option Value} {s : Shared} {Q E : Value → Shared → Prop}
    {news : List (Addr × Obj)} {x : Addr} {vs : List Value} {xs : List Int} {k : Int} {t : Tok}
    (B : Below A₀ base outer h₀) (F : Fr h₀ L s.heap m) (X : (K w.params).In h₀) (N : News h₀ L s.heap news) (T : Top v (looseW v [Str.ofString "PolynomialRing", Str.ofString "PolynomialNTT"]) mean mg mb h₀) (hk : cs.kind = .function)
    (hdp : dp + 1 < recursionLimit) (hun : un + 8 < cLine)
    (hm : base.IsList x vs.toArray) (hI : IntsAre vs xs) (hl : xs.length < 2 ^ 62) (h0 : 0 ≤ k) (h1 : k < 1000)
    (ret : ∀ (t : Tok) (h' : Heap) (tk : Nat), Fr h₀ L h' m → News h₀ L h' news → Q (.int (draw xs k) t) { s with heap := h', toks := tk }),
    wpAny (model PySem.Challenge.rw_yi0063_01.row.prog w) (ktrTop dp un gd cn cs L a ccd cl outer) (call (.ref 433) [.ref x, .int k t]) Q E s
theorem draw_use {K : Params → Frag} {v : Program} {w : World} {mean : ExcName → Option Value} {mg mb : Str → Option Value} {dp un : Nat} {gd : Option (List Code)} {cn : Str} {cs : Scope} {a : Addr} {ccd : Value} {cl : List (Str × Addr)} {outer : List Env} {A₀ : Around} {base h₀ : Heap} {L : Addr} {m : Str → Option Value} {s : Shared} {Q E : Value → Shared → Prop} {news : List (Addr × Obj)} {x : Addr} {vs : List Value} {xs : List Int} {k : Int} {t : Tok} (R : RDraw K v) (B : Below A₀ base outer h₀) (F : Fr h₀ L s.heap m) (X : (K w.params).In h₀) (N : News h₀ L s.heap news) (T : Top v (looseW v [Str.ofString "PolynomialRing", Str.ofString "PolynomialNTT"]) mean mg mb h₀) (hk : cs.kind = .function) (hdp : dp + 1 < recursionLimit) (hun : un + 8 < cLine) (hm : base.IsList x vs.toArray) (hI : IntsAre vs xs) (hl : xs.length < 2 ^ 62) (h0 : 0 ≤ k) (h1 : k < 1000) (ret : ∀ (t : Tok) (h' : Heap) (tk : Nat), Fr h₀ L h' m → News h₀ L h' news → Q (.int (draw xs k) t) { s with heap := h', toks := tk }) :
    wpAny (model PySem.Challenge.rw_yi0063_01.row.prog w) (ktrTop dp un gd cn cs L a ccd cl outer) (call (.ref 433) [.ref x, .int k t]) Q E s := R B F X N T hk hdp hun hm hI hl h0 h1 ret
def RRest (K : Params → Frag) (v : Program) : Prop := ∀ {w : World} {mean : ExcName → Option Value} {mg mb : Str → Option Value} {dp un : Nat} {gd : Option (List Code)} {cn : Str} {cs : Scope} {a : Addr} {ccd : Value} {cl : List (Str × Addr)} {outer : List Env} {A₀ : Around} {base h₀ : Heap} {L : Addr} {m : Str → Option Value} {s : Shared} {Q E : Value → Shared → Prop}
    {news : List (Addr × Obj)} {x : Addr} {vs : List Value} {c : Nat} {xs : List Int} {place : Int} {t : Tok}
    (B : Below A₀ base outer h₀) (F : Fr h₀ L s.heap m) (X : (K w.params).In h₀) (N : News h₀ L s.heap news) (T : Top v (looseW v [Str.ofString "PolynomialRing", Str.ofString "PolynomialNTT"]) mean mg mb h₀) (hk : cs.kind = .function)
    (hd : dp + 1 < recursionLimit) (hu : un + 8 < cLine)
    (hm : (x, listOf vs.toArray c) ∈ news) (hI : IntsAre vs xs) (hl : xs.length = 256) (h0 : 0 ≤ place) (h1 : place < 128)
    (ret : ∀ (l : Addr) (ys : List Value) (c2 : List Int) (h' : Heap) (tk : Nat), c2 = rsF (powv (eG place 7)) xs 254 → IntsAre ys [(c2.getD (Int.toNat 0) 0).fmod 3329, (c2.getD (Int.toNat 1) 0).fmod 3329] → (∀ q ∈ news, q.1 < l) → Fr h₀ L h' m → News h₀ L h' ((l, listOf ys.toArray 0) :: news) → Q (.ref l) { s with heap := h', toks := tk }),
    wpAny (model PySem.Challenge.rw_yi0063_01.row.prog w) (ktrTop dp un gd cn cs L a ccd cl outer) (call (.ref 440) [.ref x, .int place t]) Q E s
theorem rest_use {K : Params → Frag} {v : Program} {w : World} {mean : ExcName → Option Value} {mg mb : Str → Option Value} {dp un : Nat} {gd : Option (List Code)} {cn : Str} {cs : Scope} {a : Addr} {ccd : Value} {cl : List (Str × Addr)} {outer : List Env} {A₀ : Around} {base h₀ : Heap} {L : Addr} {m : Str → Option Value} {s : Shared} {Q E : Value → Shared → Prop} {news : List (Addr × Obj)} {x : Addr} {vs : List Value} {c : Nat} {xs : List Int} {place : Int} {t : Tok} (R : RRest K v) (B : Below A₀ base outer h₀) (F : Fr h₀ L s.heap m) (X : (K w.params).In h₀) (N : News h₀ L s.heap news) (T : Top v (looseW v [Str.ofString "PolynomialRing", Str.ofString "PolynomialNTT"]) mean mg mb h₀) (hk : cs.kind = .function) (hd : dp + 1 < recursionLimit) (hu : un + 8 < cLine) (hm : (x, listOf vs.toArray c) ∈ news) (hI : IntsAre vs xs) (hl : xs.length = 256) (h0 : 0 ≤ place) (h1 : place < 128) (ret : ∀ (l : Addr) (ys : List Value) (c2 : List Int) (h' : Heap) (tk : Nat), c2 = rsF (powv (eG place 7)) xs 254 → IntsAre ys [(c2.getD (Int.toNat 0) 0).fmod 3329, (c2.getD (Int.toNat 1) 0).fmod 3329] → (∀ q ∈ news, q.1 < l) → Fr h₀ L h' m → News h₀ L h' ((l, listOf ys.toArray 0) :: news) → Q (.ref l) { s with heap := h', toks := tk }) :
    wpAny (model PySem.Challenge.rw_yi0063_01.row.prog w) (ktrTop dp un gd cn cs L a ccd cl outer) (call (.ref 440) [.ref x, .int place t]) Q E s := R B F X N T hk hd hu hm hI hl h0 h1 ret
def RRingT (K : Params → Frag) (v : Program) : Prop := ∀ {w : World} {mean : ExcName → Option Value} {mg mb : Str → Option Value} {dp un : Nat} {gd : Option (List Code)} {cn : Str} {cs : Scope} {a : Addr} {ccd : Value} {cl : List (Str × Addr)} {outer : List Env} {A₀ : Around} {base h₀ : Heap} {L : Addr} {m : Str → Option Value} {s : Shared} {Q E : Value → Shared → Prop}
    {news : List (Addr × Obj)} {D rg rd : Addr} {ys : List Value} {gs : List Int} {b : Bool} {c : Nat} {t3 t4 t5 t6 tn : Tok} {vq vz vf : Value}
    (B : Below A₀ base outer h₀) (F : Fr h₀ L s.heap m) (X : (K w.params).In h₀) (N : News h₀ L s.heap news) (T : Top v (looseW v [Str.ofString "PolynomialRing", Str.ofString "PolynomialNTT"]) mean mg mb h₀) (hk : cs.kind = .function)
    (hdp : dp + 3 < recursionLimit) (hun : un + 24 < cLine) (hb : b = true)
    (hr : (rg, instObj 280 rd) ∈ news) (hrd : (rd, dictOf [de w "q" t3 vq, de w "n" t4 (.int 256 tn), de w "ntt_zetas" t5 vz, de w "ntt_f" t6 vf] 4) ∈ news)
    (hD : (D, listOf ys.toArray c) ∈ news) (hI : IntsAre ys gs) (hgs : (gs.length : Int) < 256)
    (ret : ∀ (y e : Addr) (D2 : Addr) (ws : List Value) (q1 q2 : Tok) (h' : Heap) (tk : Nat), (∀ q ∈ news, q.1 < e) → e < y → y < D2 → IntsAre ws (pad gs) → Fr h₀ L h' m →
      News h₀ L h' ((D2, listOf ws.toArray 0) :: (y, instObj 424 e) :: (e, dictOf [de w "parent" q1 (.ref rg), de w "coeffs" q2 (.ref D2)] 2) :: news) → Q (.ref y) { s with heap := h', toks := tk }),
    wpAny (model PySem.Challenge.rw_yi0063_01.row.prog w) (ktrTop dp un gd cn cs L a ccd cl outer) (call (.ref rg) [.ref D] [(Str.ofString "is_ntt", .bool b)]) Q E s
theorem ring_T_use {K : Params → Frag} {v : Program} {w : World} {mean : ExcName → Option Value} {mg mb : Str → Option Value} {dp un : Nat} {gd : Option (List Code)} {cn : Str} {cs : Scope} {a : Addr} {ccd : Value} {cl : List (Str × Addr)} {outer : List Env} {A₀ : Around} {base h₀ : Heap} {L : Addr} {m : Str → Option Value} {s : Shared} {Q E : Value → Shared → Prop} {news : List (Addr × Obj)} {D rg rd : Addr} {ys : List Value} {gs : List Int} {b : Bool} {c : Nat} {t3 t4 t5 t6 tn : Tok} {vq vz vf : Value} (R : RRingT K v) (B : Below A₀ base outer h₀) (F : Fr h₀ L s.heap m) (X : (K w.params).In h₀) (N : News h₀ L s.heap news) (T : Top v (looseW v [Str.ofString "PolynomialRing", Str.ofString "PolynomialNTT"]) mean mg mb h₀) (hk : cs.kind = .function) (hdp : dp + 3 < recursionLimit) (hun : un + 24 < cLine) (hb : b = true) (hr : (rg, instObj 280 rd) ∈ news) (hrd : (rd, dictOf [de w "q" t3 vq, de w "n" t4 (.int 256 tn), de w "ntt_zetas" t5 vz, de w "ntt_f" t6 vf] 4) ∈ news) (hD : (D, listOf ys.toArray c) ∈ news) (hI : IntsAre ys gs) (hgs : (gs.length : Int) < 256) (ret : ∀ (y e : Addr) (D2 : Addr) (ws : List Value) (q1 q2 : Tok) (h' : Heap) (tk : Nat), (∀ q ∈ news, q.1 < e) → e < y → y < D2 → IntsAre ws (pad gs) → Fr h₀ L h' m →
      News h₀ L h' ((D2, listOf ws.toArray 0) :: (y, instObj 424 e) :: (e, dictOf [de w "parent" q1 (.ref rg), de w "coeffs" q2 (.ref D2)] 2) :: news) → Q (.ref y) { s with heap := h', toks := tk }) :
    wpAny (model PySem.Challenge.rw_yi0063_01.row.prog w) (ktrTop dp un gd cn cs L a ccd cl outer) (call (.ref rg) [.ref D] [(Str.ofString "is_ntt", .bool b)]) Q E s := R B F X N T hk hdp hun hb hr hrd hD hI hgs ret
def RRingF (K : Params → Frag) (v : Program) : Prop := ∀ {w : World} {mean : ExcName → Option Value} {mg mb : Str → Option Value} {dp un : Nat} {gd : Option (List Code)} {cn : Str} {cs : Scope} {a : Addr} {ccd : Value} {cl : List (Str × Addr)} {outer : List Env} {A₀ : Around} {base h₀ : Heap} {L : Addr} {m : Str → Option Value} {s : Shared} {Q E : Value → Shared → Prop}
    {news : List (Addr × Obj)} {D rg rd : Addr} {ys : List Value} {gs : List Int} {b : Bool} {c : Nat} {t3 t4 t5 t6 tn : Tok} {vq vz vf : Value}
    (B : Below A₀ base outer h₀) (F : Fr h₀ L s.heap m) (X : (K w.params).In h₀) (N : News h₀ L s.heap news) (T : Top v (looseW v [Str.ofString "PolynomialRing", Str.ofString "PolynomialNTT"]) mean mg mb h₀) (hk : cs.kind = .function)
    (hdp : dp + 3 < recursionLimit) (hun : un + 24 < cLine) (hb : b = false)
    (hr : (rg, instObj 280 rd) ∈ news) (hrd : (rd, dictOf [de w "q" t3 vq, de w "n" t4 (.int 256 tn), de w "ntt_zetas" t5 vz, de w "ntt_f" t6 vf] 4) ∈ news)
    (hD : (D, listOf ys.toArray c) ∈ news) (hI : IntsAre ys gs) (hgs : (gs.length : Int) < 256)
    (ret : ∀ (y e : Addr) (D2 : Addr) (ws : List Value) (q1 q2 : Tok) (h' : Heap) (tk : Nat), (∀ q ∈ news, q.1 < e) → e < y → y < D2 → IntsAre ws (pad gs) → Fr h₀ L h' m →
      News h₀ L h' ((D2, listOf ws.toArray 0) :: (y, instObj 348 e) :: (e, dictOf [de w "parent" q1 (.ref rg), de w "coeffs" q2 (.ref D2)] 2) :: news) → Q (.ref y) { s with heap := h', toks := tk }),
    wpAny (model PySem.Challenge.rw_yi0063_01.row.prog w) (ktrTop dp un gd cn cs L a ccd cl outer) (call (.ref rg) [.ref D] [(Str.ofString "is_ntt", .bool b)]) Q E s
theorem ring_F_use {K : Params → Frag} {v : Program} {w : World} {mean : ExcName → Option Value} {mg mb : Str → Option Value} {dp un : Nat} {gd : Option (List Code)} {cn : Str} {cs : Scope} {a : Addr} {ccd : Value} {cl : List (Str × Addr)} {outer : List Env} {A₀ : Around} {base h₀ : Heap} {L : Addr} {m : Str → Option Value} {s : Shared} {Q E : Value → Shared → Prop} {news : List (Addr × Obj)} {D rg rd : Addr} {ys : List Value} {gs : List Int} {b : Bool} {c : Nat} {t3 t4 t5 t6 tn : Tok} {vq vz vf : Value} (R : RRingF K v) (B : Below A₀ base outer h₀) (F : Fr h₀ L s.heap m) (X : (K w.params).In h₀) (N : News h₀ L s.heap news) (T : Top v (looseW v [Str.ofString "PolynomialRing", Str.ofString "PolynomialNTT"]) mean mg mb h₀) (hk : cs.kind = .function) (hdp : dp + 3 < recursionLimit) (hun : un + 24 < cLine) (hb : b = false) (hr : (rg, instObj 280 rd) ∈ news) (hrd : (rd, dictOf [de w "q" t3 vq, de w "n" t4 (.int 256 tn), de w "ntt_zetas" t5 vz, de w "ntt_f" t6 vf] 4) ∈ news) (hD : (D, listOf ys.toArray c) ∈ news) (hI : IntsAre ys gs) (hgs : (gs.length : Int) < 256) (ret : ∀ (y e : Addr) (D2 : Addr) (ws : List Value) (q1 q2 : Tok) (h' : Heap) (tk : Nat), (∀ q ∈ news, q.1 < e) → e < y → y < D2 → IntsAre ws (pad gs) → Fr h₀ L h' m →
      News h₀ L h' ((D2, listOf ws.toArray 0) :: (y, instObj 348 e) :: (e, dictOf [de w "parent" q1 (.ref rg), de w "coeffs" q2 (.ref D2)] 2) :: news) → Q (.ref y) { s with heap := h', toks := tk }) :
    wpAny (model PySem.Challenge.rw_yi0063_01.row.prog w) (ktrTop dp un gd cn cs L a ccd cl outer) (call (.ref rg) [.ref D] [(Str.ofString "is_ntt", .bool b)]) Q E s := R B F X N T hk hdp hun hb hr hrd hD hI hgs ret
def RRingT6 (K : Params → Frag) (v : Program) : Prop := ∀ {w : World} {mean : ExcName → Option Value} {mg mb : Str → Option Value} {dp un : Nat} {gd : Option (List Code)} {cn : Str} {cs : Scope} {a : Addr} {ccd : Value} {cl : List (Str × Addr)} {outer : List Env} {A₀ : Around} {base h₀ : Heap} {L : Addr} {m : Str → Option Value} {s : Shared} {Q E : Value → Shared → Prop}
    {news : List (Addr × Obj)} {D rg rd : Addr} {ys : List Value} {gs : List Int} {b : Bool} {c : Nat} {t3 t4 t5 t6 tn : Tok} {vq vz vf : Value}
    (B : Below A₀ base outer h₀) (F : Fr h₀ L s.heap m) (X : (K w.params).In h₀) (N : News h₀ L s.heap news) (T : Top v (looseW v [Str.ofString "PolynomialRing", Str.ofString "PolynomialNTT"]) mean mg mb h₀) (hk : cs.kind = .function)
    (hdp : dp + 3 < recursionLimit) (hun : un + 24 < cLine) (hb : b = true)
    (hr : (rg, instObj 280 rd) ∈ news) (hrd : (rd, dictOf [de w "q" t3 vq, de w "n" t4 (.int 256 tn), de w "ntt_zetas" t5 vz, de w "ntt_f" t6 vf] 4) ∈ news)
    (hD : (D, listOf ys.toArray c) ∈ news) (hI : IntsAre ys gs) (hgs : gs.length = 256)
    (ret : ∀ (y e : Addr)  (q1 q2 : Tok) (h' : Heap) (tk : Nat), (∀ q ∈ news, q.1 < e) → e < y →  Fr h₀ L h' m →
      News h₀ L h' ((y, instObj 424 e) :: (e, dictOf [de w "parent" q1 (.ref rg), de w "coeffs" q2 (.ref D)] 2) :: news) → Q (.ref y) { s with heap := h', toks := tk }),
    wpAny (model PySem.Challenge.rw_yi0063_01.row.prog w) (ktrTop dp un gd cn cs L a ccd cl outer) (call (.ref rg) [.ref D] [(Str.ofString "is_ntt", .bool b)]) Q E s
theorem ring_T6_use {K : Params → Frag} {v : Program} {w : World} {mean : ExcName → Option Value} {mg mb : Str → Option Value} {dp un : Nat} {gd : Option (List Code)} {cn : Str} {cs : Scope} {a : Addr} {ccd : Value} {cl : List (Str × Addr)} {outer : List Env} {A₀ : Around} {base h₀ : Heap} {L : Addr} {m : Str → Option Value} {s : Shared} {Q E : Value → Shared → Prop} {news : List (Addr × Obj)} {D rg rd : Addr} {ys : List Value} {gs : List Int} {b : Bool} {c : Nat} {t3 t4 t5 t6 tn : Tok} {vq vz vf : Value} (R : RRingT6 K v) (B : Below A₀ base outer h₀) (F : Fr h₀ L s.heap m) (X : (K w.params).In h₀) (N : News h₀ L s.heap news) (T : Top v (looseW v [Str.ofString "PolynomialRing", Str.ofString "PolynomialNTT"]) mean mg mb h₀) (hk : cs.kind = .function) (hdp : dp + 3 < recursionLimit) (hun : un + 24 < cLine) (hb : b = true) (hr : (rg, instObj 280 rd) ∈ news) (hrd : (rd, dictOf [de w "q" t3 vq, de w "n" t4 (.int 256 tn), de w "ntt_zetas" t5 vz, de w "ntt_f" t6 vf] 4) ∈ news) (hD : (D, listOf ys.toArray c) ∈ news) (hI : IntsAre ys gs) (hgs : gs.length = 256) (ret : ∀ (y e : Addr)  (q1 q2 : Tok) (h' : Heap) (tk : Nat), (∀ q ∈ news, q.1 < e) → e < y →  Fr h₀ L h' m →
      News h₀ L h' ((y, instObj 424 e) :: (e, dictOf [de w "parent" q1 (.ref rg), de w "coeffs" q2 (.ref D)] 2) :: news) → Q (.ref y) { s with heap := h', toks := tk }) :
    wpAny (model PySem.Challenge.rw_yi0063_01.row.prog w) (ktrTop dp un gd cn cs L a ccd cl outer) (call (.ref rg) [.ref D] [(Str.ofString "is_ntt", .bool b)]) Q E s := R B F X N T hk hdp hun hb hr hrd hD hI hgs ret
def RRingF6 (K : Params → Frag) (v : Program) : Prop := ∀ {w : World} {mean : ExcName → Option Value} {mg mb : Str → Option Value} {dp un : Nat} {gd : Option (List Code)} {cn : Str} {cs : Scope} {a : Addr} {ccd : Value} {cl : List (Str × Addr)} {outer : List Env} {A₀ : Around} {base h₀ : Heap} {L : Addr} {m : Str → Option Value} {s : Shared} {Q E : Value → Shared → Prop}
    {news : List (Addr × Obj)} {D rg rd : Addr} {ys : List Value} {gs : List Int} {b : Bool} {c : Nat} {t3 t4 t5 t6 tn : Tok} {vq vz vf : Value}
    (B : Below A₀ base outer h₀) (F : Fr h₀ L s.heap m) (X : (K w.params).In h₀) (N : News h₀ L s.heap news) (T : Top v (looseW v [Str.ofString "PolynomialRing", Str.ofString "PolynomialNTT"]) mean mg mb h₀) (hk : cs.kind = .function)
    (hdp : dp + 3 < recursionLimit) (hun : un + 24 < cLine) (hb : b = false)
    (hr : (rg, instObj 280 rd) ∈ news) (hrd : (rd, dictOf [de w "q" t3 vq, de w "n" t4 (.int 256 tn), de w "ntt_zetas" t5 vz, de w "ntt_f" t6 vf] 4) ∈ news)
    (hD : (D, listOf ys.toArray c) ∈ news) (hI : IntsAre ys gs) (hgs : gs.length = 256)
    (ret : ∀ (y e : Addr)  (q1 q2 : Tok) (h' : Heap) (tk : Nat), (∀ q ∈ news, q.1 < e) → e < y →  Fr h₀ L h' m →
      News h₀ L h' ((y, instObj 348 e) :: (e, dictOf [de w "parent" q1 (.ref rg), de w "coeffs" q2 (.ref D)] 2) :: news) → Q (.ref y) { s with heap := h', toks := tk }),
    wpAny (model PySem.Challenge.rw_yi0063_01.row.prog w) (ktrTop dp un gd cn cs L a ccd cl outer) (call (.ref rg) [.ref D] [(Str.ofString "is_ntt", .bool b)]) Q E s
theorem ring_F6_use {K : Params → Frag} {v : Program} {w : World} {mean : ExcName → Option Value} {mg mb : Str → Option Value} {dp un : Nat} {gd : Option (List Code)} {cn : Str} {cs : Scope} {a : Addr} {ccd : Value} {cl : List (Str × Addr)} {outer : List Env} {A₀ : Around} {base h₀ : Heap} {L : Addr} {m : Str → Option Value} {s : Shared} {Q E : Value → Shared → Prop} {news : List (Addr × Obj)} {D rg rd : Addr} {ys : List Value} {gs : List Int} {b : Bool} {c : Nat} {t3 t4 t5 t6 tn : Tok} {vq vz vf : Value} (R : RRingF6 K v) (B : Below A₀ base outer h₀) (F : Fr h₀ L s.heap m) (X : (K w.params).In h₀) (N : News h₀ L s.heap news) (T : Top v (looseW v [Str.ofString "PolynomialRing", Str.ofString "PolynomialNTT"]) mean mg mb h₀) (hk : cs.kind = .function) (hdp : dp + 3 < recursionLimit) (hun : un + 24 < cLine) (hb : b = false) (hr : (rg, instObj 280 rd) ∈ news) (hrd : (rd, dictOf [de w "q" t3 vq, de w "n" t4 (.int 256 tn), de w "ntt_zetas" t5 vz, de w "ntt_f" t6 vf] 4) ∈ news) (hD : (D, listOf ys.toArray c) ∈ news) (hI : IntsAre ys gs) (hgs : gs.length = 256) (ret : ∀ (y e : Addr)  (q1 q2 : Tok) (h' : Heap) (tk : Nat), (∀ q ∈ news, q.1 < e) → e < y →  Fr h₀ L h' m →
      News h₀ L h' ((y, instObj 348 e) :: (e, dictOf [de w "parent" q1 (.ref rg), de w "coeffs" q2 (.ref D)] 2) :: news) → Q (.ref y) { s with heap := h', toks := tk }) :
    wpAny (model PySem.Challenge.rw_yi0063_01.row.prog w) (ktrTop dp un gd cn cs L a ccd cl outer) (call (.ref rg) [.ref D] [(Str.ofString "is_ntt", .bool b)]) Q E s := R B F X N T hk hdp hun hb hr hrd hD hI hgs ret
def RRefT (K : Params → Frag) : Prop := ∀ {w : World} {p : Program} {loose : List Str} {mean : ExcName → Option Value} {mg mb : Str → Option Value} {dp un : Nat} {gd : Option (List Code)} {cn : Str} {cs : Scope} {a : Addr} {ccd : Value} {cl : List (Str × Addr)} {A₀ : Around} {base h₀ : Heap} {L : Addr} {m : Str → Option Value} {s : Shared} {Q E : Value → Shared → Prop}
    {news : List (Addr × Obj)} {x d : Addr} {t1 t2 : Tok} {v1 v2 : Value} {b : Bool}
    (B : Below A₀ base [] h₀) (F : Fr h₀ L s.heap m) (X : (K w.params).In h₀) (N : News h₀ L s.heap news) (T : Top p loose mean mg mb h₀) (hk : cs.kind = .function)
    (XB : (K w.params).In base) (TB : Top p loose mean mg mb base) (hdp : dp + 3 < recursionLimit) (hun : un + 24 < cLine) (hb : b = true)
    (hx : (x, instObj 424 d) ∈ news) (hd' : (d, dictOf [de w "parent" t1 v1, de w "coeffs" t2 v2] 2) ∈ news)
    (ret : ∀ (h' : Heap) (tk : Nat), Fr h₀ L h' m → News h₀ L h' news → Q (.bool true) { s with heap := h', toks := tk }),
    wpAny (model PySem.Challenge.rw_yi0063_01.row.prog w) (ktrTop dp un gd cn cs L a ccd cl []) (call (.ref 447) [.bool b, .ref x]) Q E s
theorem refused_T_use {K : Params → Frag} {w : World} {p : Program} {loose : List Str} {mean : ExcName → Option Value} {mg mb : Str → Option Value} {dp un : Nat} {gd : Option (List Code)} {cn : Str} {cs : Scope} {a : Addr} {ccd : Value} {cl : List (Str × Addr)} {A₀ : Around} {base h₀ : Heap} {L : Addr} {m : Str → Option Value} {s : Shared} {Q E : Value → Shared → Prop} {news : List (Addr × Obj)} {x d : Addr} {t1 t2 : Tok} {v1 v2 : Value} {b : Bool} (R : RRefT K) (B : Below A₀ base [] h₀) (F : Fr h₀ L s.heap m) (X : (K w.params).In h₀) (N : News h₀ L s.heap news) (T : Top p loose mean mg mb h₀) (hk : cs.kind = .function) (XB : (K w.params).In base) (TB : Top p loose mean mg mb base) (hdp : dp + 3 < recursionLimit) (hun : un + 24 < cLine) (hb : b = true) (hx : (x, instObj 424 d) ∈ news) (hd' : (d, dictOf [de w "parent" t1 v1, de w "coeffs" t2 v2] 2) ∈ news) (ret : ∀ (h' : Heap) (tk : Nat), Fr h₀ L h' m → News h₀ L h' news → Q (.bool true) { s with heap := h', toks := tk }) :
    wpAny (model PySem.Challenge.rw_yi0063_01.row.prog w) (ktrTop dp un gd cn cs L a ccd cl []) (call (.ref 447) [.bool b, .ref x]) Q E s := R B F X N T hk XB TB hdp hun hb hx hd' ret
def RRefF (K : Params → Frag) : Prop := ∀ {w : World} {p : Program} {loose : List Str} {mean : ExcName → Option Value} {mg mb : Str → Option Value} {dp un : Nat} {gd : Option (List Code)} {cn : Str} {cs : Scope} {a : Addr} {ccd : Value} {cl : List (Str × Addr)} {A₀ : Around} {base h₀ : Heap} {L : Addr} {m : Str → Option Value} {s : Shared} {Q E : Value → Shared → Prop}
    {news : List (Addr × Obj)} {x d : Addr} {t1 t2 : Tok} {v1 v2 : Value} {b : Bool}
    (B : Below A₀ base [] h₀) (F : Fr h₀ L s.heap m) (X : (K w.params).In h₀) (N : News h₀ L s.heap news) (T : Top p loose mean mg mb h₀) (hk : cs.kind = .function)
    (XB : (K w.params).In base) (TB : Top p loose mean mg mb base) (hdp : dp + 3 < recursionLimit) (hun : un + 24 < cLine) (hb : b = false)
    (hx : (x, instObj 348 d) ∈ news) (hd' : (d, dictOf [de w "parent" t1 v1, de w "coeffs" t2 v2] 2) ∈ news)
    (ret : ∀ (h' : Heap) (tk : Nat), Fr h₀ L h' m → News h₀ L h' news → Q (.bool true) { s with heap := h', toks := tk }),
    wpAny (model PySem.Challenge.rw_yi0063_01.row.prog w) (ktrTop dp un gd cn cs L a ccd cl []) (call (.ref 447) [.bool b, .ref x]) Q E s
theorem refused_F_use {K : Params → Frag} {w : World} {p : Program} {loose : List Str} {mean : ExcName → Option Value} {mg mb : Str → Option Value} {dp un : Nat} {gd : Option (List Code)} {cn : Str} {cs : Scope} {a : Addr} {ccd : Value} {cl : List (Str × Addr)} {A₀ : Around} {base h₀ : Heap} {L : Addr} {m : Str → Option Value} {s : Shared} {Q E : Value → Shared → Prop} {news : List (Addr × Obj)} {x d : Addr} {t1 t2 : Tok} {v1 v2 : Value} {b : Bool} (R : RRefF K) (B : Below A₀ base [] h₀) (F : Fr h₀ L s.heap m) (X : (K w.params).In h₀) (N : News h₀ L s.heap news) (T : Top p loose mean mg mb h₀) (hk : cs.kind = .function) (XB : (K w.params).In base) (TB : Top p loose mean mg mb base) (hdp : dp + 3 < recursionLimit) (hun : un + 24 < cLine) (hb : b = false) (hx : (x, instObj 348 d) ∈ news) (hd' : (d, dictOf [de w "parent" t1 v1, de w "coeffs" t2 v2] 2) ∈ news) (ret : ∀ (h' : Heap) (tk : Nat), Fr h₀ L h' m → News h₀ L h' news → Q (.bool true) { s with heap := h', toks := tk }) :
    wpAny (model PySem.Challenge.rw_yi0063_01.row.prog w) (ktrTop dp un gd cn cs L a ccd cl []) (call (.ref 447) [.bool b, .ref x]) Q E s := R B F X N T hk XB TB hdp hun hb hx hd' ret
def RNtt (K : Params → Frag) (v : Program) : Prop := ∀ {w : World} {mean : ExcName → Option Value} {mg mb : Str → Option Value} {dp un : Nat} {gd : Option (List Code)} {cn : Str} {cs : Scope} {a : Addr} {ccd : Value} {cl : List (Str × Addr)} {outer : List Env} {A₀ : Around} {base h₀ : Heap} {L : Addr} {m : Str → Option Value} {s : Shared} {Q E : Value → Shared → Prop}
    {news : List (Addr × Obj)} {x d rg rd zl ll : Addr} {vs zs : List Value} {c : Nat} {xs : List Int} {t1 t2 t3 t4 t5 t6 tn : Tok} {vq vf : Value}
    (B : Below A₀ base outer h₀) (F : Fr h₀ L s.heap m) (X : (K w.params).In h₀) (N : News h₀ L s.heap ((ll, listOf vs.toArray c) :: news)) (T : Top v (looseW v [Str.ofString "PolynomialRing", Str.ofString "PolynomialNTT"]) mean mg mb h₀) (hk : cs.kind = .function)
    (hdp : dp + 4 < recursionLimit) (hun : un + 32 < cLine)
    (hx : (x, instObj 348 d) ∈ news) (hd' : (d, dictOf [de w "parent" t1 (.ref rg), de w "coeffs" t2 (.ref ll)] 2) ∈ news)
    (hr : (rg, instObj 280 rd) ∈ news) (hrd : (rd, dictOf [de w "q" t3 vq, de w "n" t4 (.int 256 tn), de w "ntt_zetas" t5 (.ref zl), de w "ntt_f" t6 vf] 4) ∈ news)
    (hz : (zl, LCg.lst zs) ∈ news) (hzI : IntsAre zs Zs) (hne : ∀ p ∈ news, p.1 ≠ ll) (hI : IntsAre vs xs) (hl : xs.length = 256)
    (ret : ∀ (y e : Addr) (us : List Value) (l k : Int) (c1 c2 : List Int) (c' : Nat) (q1 q2 : Tok) (h' : Heap) (tk : Nat), OutG xs l k c1 → ¬ 2 ≤ l → c2 = modF c1 256 → c2.length = 256 → IntsAre us c2 →
      (∀ q ∈ news, q.1 < e) → ll < e → e < y → Fr h₀ L h' m →
      News h₀ L h' ((y, instObj 424 e) :: (e, dictOf [de w "parent" q1 (.ref rg), de w "coeffs" q2 (.ref ll)] 2) :: (ll, listOf us.toArray c') :: news) → Q (.ref y) { s with heap := h', toks := tk }),
    wpAny (model PySem.Challenge.rw_yi0063_01.row.prog w) (ktrTop dp un gd cn cs L a ccd cl outer) (call (.ref 338) [.ref x]) Q E s
theorem ntt_use {K : Params → Frag} {v : Program} {w : World} {mean : ExcName → Option Value} {mg mb : Str → Option Value} {dp un : Nat} {gd : Option (List Code)} {cn : Str} {cs : Scope} {a : Addr} {ccd : Value} {cl : List (Str × Addr)} {outer : List Env} {A₀ : Around} {base h₀ : Heap} {L : Addr} {m : Str → Option Value} {s : Shared} {Q E : Value → Shared → Prop} {news : List (Addr × Obj)} {x d rg rd zl ll : Addr} {vs zs : List Value} {c : Nat} {xs : List Int} {t1 t2 t3 t4 t5 t6 tn : Tok} {vq vf : Value} (R : RNtt K v) (B : Below A₀ base outer h₀) (F : Fr h₀ L s.heap m) (X : (K w.params).In h₀) (N : News h₀ L s.heap ((ll, listOf vs.toArray c) :: news)) (T : Top v (looseW v [Str.ofString "PolynomialRing", Str.ofString "PolynomialNTT"]) mean mg mb h₀) (hk : cs.kind = .function) (hdp : dp + 4 < recursionLimit) (hun : un + 32 < cLine) (hx : (x, instObj 348 d) ∈ news) (hd' : (d, dictOf [de w "parent" t1 (.ref rg), de w "coeffs" t2 (.ref ll)] 2) ∈ news) (hr : (rg, instObj 280 rd) ∈ news) (hrd : (rd, dictOf [de w "q" t3 vq, de w "n" t4 (.int 256 tn), de w "ntt_zetas" t5 (.ref zl), de w "ntt_f" t6 vf] 4) ∈ news) (hz : (zl, LCg.lst zs) ∈ news) (hzI : IntsAre zs Zs) (hne : ∀ p ∈ news, p.1 ≠ ll) (hI : IntsAre vs xs) (hl : xs.length = 256) (ret : ∀ (y e : Addr) (us : List Value) (l k : Int) (c1 c2 : List Int) (c' : Nat) (q1 q2 : Tok) (h' : Heap) (tk : Nat), OutG xs l k c1 → ¬ 2 ≤ l → c2 = modF c1 256 → c2.length = 256 → IntsAre us c2 →
      (∀ q ∈ news, q.1 < e) → ll < e → e < y → Fr h₀ L h' m →
      News h₀ L h' ((y, instObj 424 e) :: (e, dictOf [de w "parent" q1 (.ref rg), de w "coeffs" q2 (.ref ll)] 2) :: (ll, listOf us.toArray c') :: news) → Q (.ref y) { s with heap := h', toks := tk }) :
    wpAny (model PySem.Challenge.rw_yi0063_01.row.prog w) (ktrTop dp un gd cn cs L a ccd cl outer) (call (.ref 338) [.ref x]) Q E s := R B F X N T hk hdp hun hx hd' hr hrd hz hzI hne hI hl ret
def RInt (K : Params → Frag) (v : Program) : Prop := ∀ {w : World} {mean : ExcName → Option Value} {mg mb : Str → Option Value} {dp un : Nat} {gd : Option (List Code)} {cn : Str} {cs : Scope} {a : Addr} {ccd : Value} {cl : List (Str × Addr)} {outer : List Env} {A₀ : Around} {base h₀ : Heap} {L : Addr} {m : Str → Option Value} {s : Shared} {Q E : Value → Shared → Prop}
    {news : List (Addr × Obj)} {x d rg rd zl ll : Addr} {vs zs : List Value} {c : Nat} {xs : List Int} {t1 t2 t3 t4 t5 t6 tn : Tok} {vq : Value} {tf : Tok}
    (B : Below A₀ base outer h₀) (F : Fr h₀ L s.heap m) (X : (K w.params).In h₀) (N : News h₀ L s.heap ((ll, listOf vs.toArray c) :: news)) (T : Top v (looseW v [Str.ofString "PolynomialRing", Str.ofString "PolynomialNTT"]) mean mg mb h₀) (hk : cs.kind = .function)
    (hdp : dp + 4 < recursionLimit) (hun : un + 32 < cLine)
    (hx : (x, instObj 424 d) ∈ news) (hd' : (d, dictOf [de w "parent" t1 (.ref rg), de w "coeffs" t2 (.ref ll)] 2) ∈ news)
    (hr : (rg, instObj 280 rd) ∈ news) (hrd : (rd, dictOf [de w "q" t3 vq, de w "n" t4 (.int 256 tn), de w "ntt_zetas" t5 (.ref zl), de w "ntt_f" t6 (.int 3303 tf)] 4) ∈ news)
    (hz : (zl, LCg.lst zs) ∈ news) (hzI : IntsAre zs Zs) (hne : ∀ p ∈ news, p.1 ≠ ll) (hI : IntsAre vs xs) (hl : xs.length = 256)
    (ret : ∀ (y e : Addr) (us : List Value) (l k : Int) (c1 c2 : List Int) (c' : Nat) (q1 q2 : Tok) (h' : Heap) (tk : Nat), OutI xs l k c1 → ¬ l ≤ 128 → c2 = mfF 3303 c1 256 → c2.length = 256 → IntsAre us c2 →
      (∀ q ∈ news, q.1 < e) → ll < e → e < y → Fr h₀ L h' m →
      News h₀ L h' ((y, instObj 348 e) :: (e, dictOf [de w "parent" q1 (.ref rg), de w "coeffs" q2 (.ref ll)] 2) :: (ll, listOf us.toArray c') :: news) → Q (.ref y) { s with heap := h', toks := tk }),
    wpAny (model PySem.Challenge.rw_yi0063_01.row.prog w) (ktrTop dp un gd cn cs L a ccd cl outer) (call (.ref 378) [.ref x]) Q E s
theorem intt_use {K : Params → Frag} {v : Program} {w : World} {mean : ExcName → Option Value} {mg mb : Str → Option Value} {dp un : Nat} {gd : Option (List Code)} {cn : Str} {cs : Scope} {a : Addr} {ccd : Value} {cl : List (Str × Addr)} {outer : List Env} {A₀ : Around} {base h₀ : Heap} {L : Addr} {m : Str → Option Value} {s : Shared} {Q E : Value → Shared → Prop} {news : List (Addr × Obj)} {x d rg rd zl ll : Addr} {vs zs : List Value} {c : Nat} {xs : List Int} {t1 t2 t3 t4 t5 t6 tn : Tok} {vq : Value} {tf : Tok} (R : RInt K v) (B : Below A₀ base outer h₀) (F : Fr h₀ L s.heap m) (X : (K w.params).In h₀) (N : News h₀ L s.heap ((ll, listOf vs.toArray c) :: news)) (T : Top v (looseW v [Str.ofString "PolynomialRing", Str.ofString "PolynomialNTT"]) mean mg mb h₀) (hk : cs.kind = .function) (hdp : dp + 4 < recursionLimit) (hun : un + 32 < cLine) (hx : (x, instObj 424 d) ∈ news) (hd' : (d, dictOf [de w "parent" t1 (.ref rg), de w "coeffs" t2 (.ref ll)] 2) ∈ news) (hr : (rg, instObj 280 rd) ∈ news) (hrd : (rd, dictOf [de w "q" t3 vq, de w "n" t4 (.int 256 tn), de w "ntt_zetas" t5 (.ref zl), de w "ntt_f" t6 (.int 3303 tf)] 4) ∈ news) (hz : (zl, LCg.lst zs) ∈ news) (hzI : IntsAre zs Zs) (hne : ∀ p ∈ news, p.1 ≠ ll) (hI : IntsAre vs xs) (hl : xs.length = 256) (ret : ∀ (y e : Addr) (us : List Value) (l k : Int) (c1 c2 : List Int) (c' : Nat) (q1 q2 : Tok) (h' : Heap) (tk : Nat), OutI xs l k c1 → ¬ l ≤ 128 → c2 = mfF 3303 c1 256 → c2.length = 256 → IntsAre us c2 →
      (∀ q ∈ news, q.1 < e) → ll < e → e < y → Fr h₀ L h' m →
      News h₀ L h' ((y, instObj 348 e) :: (e, dictOf [de w "parent" q1 (.ref rg), de w "coeffs" q2 (.ref ll)] 2) :: (ll, listOf us.toArray c') :: news) → Q (.ref y) { s with heap := h', toks := tk }) :
    wpAny (model PySem.Challenge.rw_yi0063_01.row.prog w) (ktrTop dp un gd cn cs L a ccd cl outer) (call (.ref 378) [.ref x]) Q E s := R B F X N T hk hdp hun hx hd' hr hrd hz hzI hne hI hl ret
structure Wrap (P : Prop) (n : Nat) : Prop where
  out : P
theorem wrap {P : Prop} {n : Nat} (h : P) : Wrap P n = True := eq_true ⟨h⟩
theorem draw_lt {k n : Int} (h : k < 0 + ((n - 0).toNat : Int)) (hn : n < 256) : 6 + k < 1000 := by omega
theorem draw_lt6 {k : Int} (h : k < 0 + (((256 : Int) - 0).toNat : Int)) : 6 + k < 1000 := by omega
theorem draw_ge {k : Int} (h : 0 ≤ k) : 0 ≤ 6 + k := by omega
theorem rng128 {k : Int} (h : k < 0 + (((128 : Int) - 0).toNat : Int)) : k < 128 := by omega
end Mine
theorem Mine.pre {T1 T2 T3 G : Prop} (_ : T1) (_ : T2) (_ : T3) (g : G) : G := g
noncomputable def Mine.hp : (T1 : Prop) ×' (T2 : Prop) ×' (T3 : Prop) ×' (PySem.Challenge.rw_yi0063_01.row.wellSaid = true → T1 → T2 → T3 → PySem.Challenge.rw_yi0063_01.row.Holds) := by
  w_on
  exact ⟨_, _, _, fun said h1 h2 h3 => by
    refine Mine.pre (T1 := type_of% h1) (T2 := type_of% h2) (T3 := type_of% h3) ?hl ?hw ?hc ?g2
    · exact h1
    · exact h2
    · exact h3
    have said2 := said
    k_head⟩
theorem Mine.main.tw4458048076830672230 : True := trivial
theorem Mine.main.tw4126091431370883743 : True := trivial
theorem Mine.main.tw15107931421201665931 : True := trivial
theorem Mine.main.tw5203219222101121401 : True := trivial
theorem Mine.main.tw15554039934745177238 : True := trivial
theorem Mine.main.tw2238316416991798583 : True := trivial
theorem Mine.main.tw14097447854668400296 : True := trivial
theorem Mine.main.tw15485851114877660061 : True := trivial
theorem Mine.main.tw17509848305552354843 : True := trivial
theorem Mine.main.tw8228058824784995430 : True := trivial
theorem Mine.main.tw14662554035588321541 : True := trivial
theorem Mine.main.tw10663580350406149668 : True := trivial
theorem Mine.main.tw4605139254293405059 : True := trivial
theorem Mine.main.tw4990475226369331113 : True := trivial
theorem Mine.main.tw14161005256144132680 : True := trivial
theorem Mine.main.tw9682133043923132273 : True := trivial
theorem Mine.main.tw6596593509180878263 : True := trivial
theorem Mine.main.tw9808303207383738048 : True := trivial
theorem Mine.main.tw12900284412222446716 : True := trivial
theorem Mine.main.tw4681395471914393968 : True := trivial
theorem Mine.main.tw13642826006792871662 : True := trivial
theorem Mine.main.tw15131278010643852716 : True := trivial
theorem Mine.main.tw17118054049896295152 : True := trivial
theorem Mine.main.tw3994622017586750766 : True := trivial
theorem Mine.main.tw5665735395497279834 : True := trivial
theorem Mine.main.tw12915833801598196605 : True := trivial
theorem Mine.main.tw832900586485598795 : True := trivial
theorem Mine.main.tw2906824675625879941 : True := trivial
theorem Mine.main.tw9253799994812790149 : True := trivial
theorem Mine.main.tw15467891735981029475 : True := trivial
theorem Mine.main.tw17725498274588495791 : True := trivial
theorem Mine.main.tw6511744376749373798 : True := trivial
theorem Mine.main.tw8663697691656813868 : True := trivial
theorem Mine.main.tw7332330508316399935 : True := trivial
theorem Mine.main.tw7974275031393228247 : True := trivial
theorem Mine.main.tw11374851513655246148 : True := trivial
theorem Mine.main.tw16411370214107742406 : True := trivial
theorem Mine.main.tw3299218664060906527 : True := trivial
theorem Mine.main.tw2225956059507018244 : True := trivial
theorem Mine.main.tw2921621734765799159 : True := trivial
theorem Mine.main.tw6545385358150927430 : True := trivial
theorem Mine.main.tw6053611964639427726 : True := trivial
theorem Mine.main.tw2821470743931037460 : True := trivial
theorem Mine.main.tw14061640607465278742 : True := trivial
theorem Mine.main.tw6162249291895867263 : True := trivial
theorem Mine.main.tw14009396871252706886 : True := trivial
theorem Mine.main.tw14639212616227390028 : True := trivial
theorem Mine.main.tw8707812797481193996 : True := trivial
theorem Mine.main.tw326469082190230912 : True := trivial
theorem Mine.main.tw17402982504261768225 : True := trivial
theorem Mine.main.tw3627144658338631552 : True := trivial
theorem Mine.main.tw14788915703135433725 : True := trivial
theorem Mine.main.tw12205347405646519318 : True := trivial
theorem Mine.main.tw7691172733374981047 : True := trivial
theorem Mine.main.tw18442785490491869365 : True := trivial
theorem Mine.main.tw1714950047550659301 : True := trivial
theorem Mine.main.tw18134284020713443437 : True := trivial
theorem Mine.main.tw2190695567426971638 : True := trivial
theorem Mine.main.tw2287757881348798766 : True := trivial
theorem Mine.main.tw3234112476842188716 : True := trivial
theorem Mine.main.tw7153082081811710619 : True := trivial
theorem Mine.main.tw2921958311620399285 : True := trivial
theorem Mine.main.tw10825838108423173272 : True := trivial
theorem Mine.main.tw7761410557224570781 : True := trivial
theorem Mine.main.tw3394367416137920725 : True := trivial
theorem Mine.main.tw15057890895706298487 : True := trivial
theorem Mine.main.tw1615045767204293396 : True := trivial
theorem Mine.main.tw16046730324260685337 : True := trivial
theorem Mine.main.tw16153842264607907944 : True := trivial
theorem Mine.main.tw17974016328880235120 : True := trivial
theorem Mine.main.tw5797031442667253490 : True := trivial
theorem Mine.main.tw14218914174604095658 : True := trivial
theorem Mine.main.tw8079908401900000222 : True := trivial
theorem Mine.main.tw15806524323241146399 : True := trivial
theorem Mine.main.tw4333880214566435006 : True := trivial
theorem Mine.main.tw10665469846841522134 : True := trivial
theorem Mine.main.tw16320729459185622934 : True := trivial
theorem Mine.main.tw10821422270917381399 : True := trivial
theorem Mine.main.tw4038153913678941442 : True := trivial
theorem Mine.main.tw4365514962571936147 : True := trivial
theorem Mine.main.tw6542085627976250192 : True := trivial
theorem Mine.main.tw8557395850702784662 : True := trivial
theorem Mine.main.tw6664630266143485421 : True := trivial
theorem Mine.main.tw7846812961960373227 : True := trivial
theorem Mine.main.tw1504049600530537962 : True := trivial
theorem Mine.main.tw15017983477296125989 : True := trivial
theorem Mine.main.tw11403851563620829512 : True := trivial
theorem Mine.main.tw6788695710022549768 : True := trivial
theorem Mine.main.tw11181722664286889309 : True := trivial
theorem Mine.main.tw387501639795913443 : True := trivial
theorem Mine.main.tw9840939614602229412 : True := trivial
theorem Mine.main.tw9381277316556691805 : True := trivial
theorem Mine.main.tw10864377008497418100 : True := trivial
theorem Mine.main.tw17737603089517620647 : True := trivial
theorem Mine.main.tw11086099901593105684 : True := trivial
theorem Mine.main.tw7235775444256392728 : True := trivial
theorem Mine.main.tw15109750227778091905 : True := trivial
theorem Mine.main.tw5378808338967829844 : True := trivial
theorem Mine.main.tw17272174723667511238 : True := trivial
theorem Mine.main.tw15060185592220127646 : True := trivial
theorem Mine.main.tw10463206416058312583 : True := trivial
theorem Mine.main.tw12057704586751987240 : True := trivial
theorem Mine.main.tw15465920861327815835 : True := trivial
theorem Mine.main.tw5571399437266216444 : True := trivial
theorem Mine.main.tw2279707942289718827 : True := trivial
theorem Mine.main.tw9190990891756207365 : True := trivial
theorem Mine.main.tw13270728482189477470 : True := trivial
theorem Mine.main.tw13293747886898857621 : True := trivial
theorem Mine.main.tw10625486282989778954 : True := trivial
theorem Mine.main.tw2524017781993486291 : True := trivial
theorem Mine.main.tw16193401482309157537 : True := trivial
theorem Mine.main.tw12732289081945773324 : True := trivial
theorem Mine.main.tw17201416709059790184 : True := trivial
theorem Mine.main.tw9684693138063800396 : True := trivial
theorem Mine.main.tw2195194259037543316 : True := trivial
theorem Mine.main.tw3343439749351644125 : True := trivial
theorem Mine.main.tw6696893160125735727 : True := trivial
theorem Mine.main.tw17298425922696826006 : True := trivial
theorem Mine.main.tw2647654807098235363 : True := trivial
theorem Mine.main.tw1453356044741674121 : True := trivial
theorem Mine.main.tw8484041278411425421 : True := trivial
theorem Mine.main.tw18418235949754561950 : True := trivial
theorem Mine.main.tw6674386428176565332 : True := trivial
theorem Mine.main.tw10177057350305019805 : True := trivial
theorem Mine.main.tw9903775340124721222 : True := trivial
theorem Mine.main.tw16049902774474827687 : True := trivial
theorem Mine.main.tw16952715711813285254 : True := trivial
theorem Mine.main.tw13777938177461255882 : True := trivial
theorem Mine.main.tw15079240505294077160 : True := trivial
theorem Mine.main.tw8467378866343419333 : True := trivial
theorem Mine.main.tw6657087868060814 : True := trivial
theorem Mine.main.tw13591255225166038476 : True := trivial
theorem Mine.main.tw6006917696076858104 : True := trivial
theorem Mine.main.tw3427950696624970785 : True := trivial
theorem Mine.main.tw4900431672193113347 : True := trivial
theorem Mine.main.tw12675357926760492328 : True := trivial
theorem Mine.main.tw9272984997812220495 : True := trivial
theorem Mine.main.tw10665089971535097683 : True := trivial
theorem Mine.main.tw13724616953566380437 : True := trivial
theorem Mine.main.tw15136431859952498927 : True := trivial
theorem Mine.main.tw16008252555379753968 : True := trivial
theorem Mine.main.tw12702744160499308131 : True := trivial
theorem Mine.main.tw18063282731904131703 : True := trivial
theorem Mine.main.tw6788530277367551627 : True := trivial
theorem Mine.main.tw12927740378394474205 : True := trivial
theorem Mine.main.tw4156125974679941130 : True := trivial
theorem Mine.main.tw12027323910402764344 : True := trivial
theorem Mine.main.tw3626430660855392483 : True := trivial
theorem Mine.main.tw11003572833241299968 : True := trivial
theorem Mine.main.tw65644731488775911 : True := trivial
theorem Mine.main.tw7439787175107056256 : True := trivial
theorem Mine.main.tw17052023290607921161 : True := trivial
theorem Mine.main.tw9730157408454304684 : True := trivial
theorem Mine.main.tw14909365282108701170 : True := trivial
theorem Mine.main.tw4261964983698606537 : True := trivial
theorem Mine.main.tw33456957511925785 : True := trivial
theorem Mine.main.tw15514936471743626214 : True := trivial
theorem Mine.main.tw6418098437765475518 : True := trivial
theorem Mine.main.tw4039676971129161736 : True := trivial
theorem Mine.main.tw16676564476587882173 : True := trivial
theorem Mine.main.tw2759098988195820126 : True := trivial
theorem Mine.main.tw12670839924663504800 : True := trivial
theorem Mine.main.tw16602241572910223693 : True := trivial
theorem Mine.main.tw7093617532817203218 : True := trivial
theorem Mine.main.tw2895952525429962455 : True := trivial
theorem Mine.main.tw7411558596216406370 : True := trivial
theorem Mine.main.tw15595112118272840620 : True := trivial
theorem Mine.main.tw11987853993630220354 : True := trivial
theorem Mine.main.tw14504180641510445567 : True := trivial
theorem Mine.main.tw3779293765908593550 : True := trivial
theorem Mine.main.tw17353955331779342651 : True := trivial
theorem Mine.main.tw13219505800766818778 : True := trivial
theorem Mine.main.tw223528310411579522 : True := trivial
theorem Mine.main.tw6862492499505807319 : True := trivial
theorem Mine.main.tw961187720498965250 : True := trivial
theorem Mine.main.tw4044139247061151142 : True := trivial
theorem Mine.main.tw1439166485080882 : True := trivial
theorem Mine.main.tw3314904115985164895 : True := trivial
theorem Mine.main.tw9976160756891316704 : True := trivial
theorem Mine.main.tw716429049611869786 : True := trivial
theorem Mine.main.tw17871620999419790863 : True := trivial
theorem Mine.main.tw73751810991705359 : True := trivial
theorem Mine.main.tw52199770228462824 : True := trivial
theorem Mine.main.tw2019394398466159022 : True := trivial
theorem Mine.main.tw2544328076492683441 : True := trivial
theorem Mine.main.tw7751025194823839400 : True := trivial
theorem Mine.main.tw12939479104171293914 : True := trivial
theorem Mine.main.tw18325589031809861271 : True := trivial
theorem Mine.main.tw13676971244355772609 : True := trivial
theorem Mine.main.tw16519101796099990279 : True := trivial
theorem Mine.main.tw9656510801202774680 : True := trivial
theorem Mine.main.tw12839114828313443825 : True := trivial
theorem Mine.main.tw15303317825217679618 : True := trivial
theorem Mine.main.tw6655696309031964122 : True := trivial
theorem Mine.main.tw12455012482086183272 : True := trivial
theorem Mine.main.tw17223442867436993403 : True := trivial
theorem Mine.main.tw8652556701797213591 : True := trivial
theorem Mine.main.tw16923884221124529275 : True := trivial
theorem Mine.main.tw7875838824674609581 : True := trivial
theorem Mine.main.tw6565609875121592624 : True := trivial
theorem Mine.main.tw11982392923317675503 : True := trivial
theorem Mine.main.tw4749052000479324790 : True := trivial
theorem Mine.main.tw16689149305811164139 : True := trivial
theorem Mine.main.tw3960113756560652017 : True := trivial
theorem Mine.main.tw14635473669698735251 : True := trivial
theorem Mine.main.tw5102693214775723256 : True := trivial
theorem Mine.main.tw7293298908176781663 : True := trivial
theorem Mine.main.tw17403364634526059139 : True := trivial
theorem Mine.main.tw104360540948158410 : True := trivial
theorem Mine.main.tw1886080085820668685 : True := trivial
theorem Mine.main.tw330327031418712150 : True := trivial
theorem Mine.main.tw14907226015203709474 : True := trivial
theorem Mine.main.tw3905226178654972811 : True := trivial
theorem Mine.main.tw17510229520200029679 : True := trivial
theorem Mine.main.tw2702614204127132176 : True := trivial
theorem Mine.main.tw6508729118710982530 : True := trivial
theorem Mine.main.tw8475525182357872103 : True := trivial
theorem Mine.main.tw6519269512792494810 : True := trivial
theorem Mine.main.tw15270170921892066516 : True := trivial
theorem Mine.main.tw17679725944135375923 : True := trivial
theorem Mine.main.tw17128291446047057950 : True := trivial
theorem Mine.main.tw17477492558424962760 : True := trivial
theorem Mine.main.tw2724176850512262202 : True := trivial
theorem Mine.main.tw10234815189450012239 : True := trivial
theorem Mine.main.tw13402765919934010277 : True := trivial
theorem Mine.main.tw5396188567872606041 : True := trivial
theorem Mine.main.tw6635558491612396129 : True := trivial
theorem Mine.main.tw2496676261509829067 : True := trivial
theorem Mine.main.tw15928290008803537013 : True := trivial
theorem Mine.main.tw3562595001068472590 : True := trivial
theorem Mine.main.tw1156462466702112376 : True := trivial
theorem Mine.main.tw13110577991587790113 : True := trivial
theorem Mine.main.tw4500915450034043215 : True := trivial
theorem Mine.main.tw9417822746687237092 : True := trivial
theorem Mine.main.tw12885385263037960081 : True := trivial
theorem Mine.main.tw13350764725976880583 : True := trivial
theorem Mine.main.tw3706830351922483016 : True := trivial
theorem Mine.main.tw12543713266681445118 : True := trivial
theorem Mine.main.tw11120327062377616369 : True := trivial
theorem Mine.main.tw18302796317244248524 : True := trivial
theorem Mine.main.tw18238007617527299592 : True := trivial
theorem Mine.main.tw13972245371655741198 : True := trivial
theorem Mine.main.tw11501822485730972192 : True := trivial
theorem Mine.main.tw10363585996791799541 : True := trivial
theorem Mine.main.tw5677329702179833609 : True := trivial
theorem Mine.main.tw13348322127785295214 : True := trivial
theorem Mine.main.tw7590696779544312186 : True := trivial
theorem Mine.main.tw11544348965984651327 : True := trivial
theorem Mine.main.tw16135426469972691074 : True := trivial
theorem Mine.main.tw8478376212529829071 : True := trivial
theorem Mine.main.tw12431731261707249289 : True := trivial
theorem Mine.main.tw12518504611687188807 : True := trivial
theorem Mine.main.tw14064073609400967072 : True := trivial
theorem Mine.main.tw9557352009045844224 : True := trivial
theorem Mine.main.tw10455743928339290457 : True := trivial
theorem Mine.main.tw8627561154394265716 : True := trivial
theorem Mine.main.tw6877560268529008848 : True := trivial
theorem Mine.main.tw18120430973489738927 : True := trivial
theorem Mine.main.tw5309058905264134205 : True := trivial
theorem Mine.main.tw3829396358689915599 : True := trivial
theorem Mine.main.tw5240536507193477226 : True := trivial
theorem Mine.main.tw1587290215689348708 : True := trivial
theorem Mine.main.tw12483276189755474720 : True := trivial
theorem Mine.main.tw10334261112615635914 : True := trivial
theorem Mine.main.tw16136984950599521427 : True := trivial
theorem Mine.main.tw12012645313765806007 : True := trivial
theorem Mine.main.tw13503263706703578961 : True := trivial
theorem Mine.main.tw5243159528196176124 : True := trivial
theorem Mine.main.tw13116522157475607773 : True := trivial
theorem Mine.main.tw1409966394225722968 : True := trivial
theorem Mine.main.tw11001617756164336837 : True := trivial
theorem Mine.main.tw18332899500509843999 : True := trivial
theorem Mine.main.tw8181977626019955066 : True := trivial
theorem Mine.main.tw451873465583785326 : True := trivial
theorem Mine.main.tw6912675738884088206 : True := trivial
theorem Mine.main.tw16778611742570070204 : True := trivial
theorem Mine.main.tw1130211791997205004 : True := trivial
theorem Mine.main.tw13590572293223372214 : True := trivial
theorem Mine.main.tw3137596982192898869 : True := trivial
theorem Mine.main.tw9670510015898674028 : True := trivial
theorem Mine.main.tw12922898485456448571 : True := trivial
theorem Mine.main.tw11221353774195762014 : True := trivial
theorem Mine.main.tw3796207824708393856 : True := trivial
theorem Mine.main.tw1628013610222277130 : True := trivial
theorem Mine.main.tw6222487380544312443 : True := trivial
theorem Mine.main.tw14439473939278146460 : True := trivial
theorem Mine.main.tw834873547066669988 : True := trivial
theorem Mine.main.tw5400957986263281647 : True := trivial
theorem Mine.main.tw17715262827843222689 : True := trivial
theorem Mine.main.tw979501456738626862 : True := trivial
theorem Mine.main.tw10750994468655217958 : True := trivial
theorem Mine.main.tw3557749057250611081 : True := trivial
theorem Mine.main.tw11092141859048813250 : True := trivial
theorem Mine.main.tw16629339528299215175 : True := trivial
theorem Mine.main.tw14562738103837258888 : True := trivial
theorem Mine.main.tw17561526911342447988 : True := trivial
theorem Mine.main.tw2007339730380871907 : True := trivial
theorem Mine.main.tw2110754180369666209 : True := trivial
theorem Mine.main.tw7268301785047649679 : True := trivial
theorem Mine.main.tw6075091234017535682 : True := trivial
theorem Mine.main.tw7186131708394509389 : True := trivial
theorem Mine.main.tw11476092923266045095 : True := trivial
theorem Mine.main.tw12941917028564957548 : True := trivial
theorem Mine.main.tw9265829497004654079 : True := trivial
theorem Mine.main.tw15955573374722617477 : True := trivial
theorem Mine.main.tw7214478077546791972 : True := trivial
theorem Mine.main.tw5871769198996169552 : True := trivial
theorem Mine.main.tw2583023086579268501 : True := trivial
theorem Mine.main.tw16922381011570985944 : True := trivial
theorem Mine.main.tw18031918436515192882 : True := trivial
theorem Mine.main.tw5473700226181020891 : True := trivial
theorem Mine.main.tw9268297945177815525 : True := trivial
theorem Mine.main.tw12885673836220544336 : True := trivial
theorem Mine.main.tw3454311308915712629 : True := trivial
theorem Mine.main.tw11261727412033496967 : True := trivial
theorem Mine.main.tw16826212616301561204 : True := trivial
theorem Mine.main.tw7699798408344515789 : True := trivial
theorem Mine.main.tw13667920496262714385 : True := trivial
theorem Mine.main.tw7623511443260959870 : True := trivial
theorem Mine.main.tw11962923498438245051 : True := trivial
theorem Mine.main.tw9515011664573035354 : True := trivial
theorem Mine.main.tw13224007501803129859 : True := trivial
theorem Mine.main.tw16480584520131690045 : True := trivial
theorem Mine.main.tw9897820754763898449 : True := trivial
theorem Mine.main.tw10669944970481658594 : True := trivial
theorem Mine.main.tw14060465935940456498 : True := trivial
theorem Mine.main.tw3613476055612923068 : True := trivial
theorem Mine.main.tw16641786646906312760 : True := trivial
theorem Mine.main.tw11251407683458634364 : True := trivial
theorem Mine.main.tw6981815665589151136 : True := trivial
theorem Mine.main.tw18190005008629794160 : True := trivial
theorem Mine.main.tw4766233809647381661 : True := trivial
theorem Mine.main.tw17057053908230417247 : True := trivial
theorem Mine.main.tw14672674291997333471 : True := trivial
theorem Mine.main.tw341453280667917650 : True := trivial
theorem Mine.main.tw9957550378297406723 : True := trivial
theorem Mine.main.tw14027531716089632829 : True := trivial
theorem Mine.main.tw12343854547171428336 : True := trivial
theorem Mine.main.tw18421580907717582127 : True := trivial
theorem Mine.main.tw8947760058931562597 : True := trivial
theorem Mine.main.tw1270039299266317192 : True := trivial
theorem Mine.main.tw12800608258095302798 : True := trivial
theorem Mine.main.tw17453503289922162039 : True := trivial
theorem Mine.main.tw7074144079889050967 : True := trivial
theorem Mine.main.tw11646826074482590764 : True := trivial
theorem Mine.main.tw1777545030009416734 : True := trivial
theorem Mine.main.tw5401703158475992631 : True := trivial
theorem Mine.main.tw5372645768047454471 : True := trivial
theorem Mine.main.tw6112859857366181021 : True := trivial
theorem Mine.main.tw8466321980469482115 : True := trivial
theorem Mine.main.tw10199874654664476236 : True := trivial
theorem Mine.main.tw6855474311058116810 : True := trivial
theorem Mine.main.tw453184122279072053 : True := trivial
theorem Mine.main.tw1980160206288974728 : True := trivial
theorem Mine.main.tw8207831470162742035 : True := trivial
theorem Mine.main.tw5445500540807937540 : True := trivial
theorem Mine.main.tw6389877041954997217 : True := trivial
theorem Mine.main.tw656089360051881306 : True := trivial
theorem Mine.main.tw18218335207050127959 : True := trivial
theorem Mine.main.tw9121559901702372667 : True := trivial
theorem Mine.main.tw9369988214560726041 : True := trivial
theorem Mine.main.tw16451033083921036709 : True := trivial
theorem Mine.main.tw12252054271945606052 : True := trivial
theorem Mine.main.tw14313897822631088780 : True := trivial
theorem Mine.main.tw2729793432009153956 : True := trivial
theorem Mine.main.tw9189880136782149556 : True := trivial
theorem Mine.main.tw1632041292262086317 : True := trivial
theorem Mine.main.tw4072190877284726289 : True := trivial
theorem Mine.main.tw10609540516017602915 : True := trivial
theorem Mine.main.tw6886502059237256666 : True := trivial
theorem Mine.main.tw14798791472264738832 : True := trivial
theorem Mine.main.tw16965079339398995527 : True := trivial
theorem Mine.main.tw6385024630547198690 : True := trivial
theorem Mine.main.tw3298483428156984901 : True := trivial
theorem Mine.main.tw4585930131862741453 : True := trivial
theorem Mine.main.tw452746233719593009 : True := trivial
theorem Mine.main.tw2879834049476664738 : True := trivial
theorem Mine.main.tw12564604832814323664 : True := trivial
theorem Mine.main.tw5450094653865882931 : True := trivial
theorem Mine.main.tw7237411587787531456 : True := trivial
theorem Mine.main.tw18046051524673705752 : True := trivial
theorem Mine.main.tw12608185968620612914 : True := trivial
theorem Mine.main.tw9361300454564663673 : True := trivial
theorem Mine.main.tw8436210846270712021 : True := trivial
theorem Mine.main.tw221909299271738847 : True := trivial
theorem Mine.main.tw1319676515408343850 : True := trivial
theorem Mine.main.tw12431561837914552411 : True := trivial
theorem Mine.main.tw7904437144335635152 : True := trivial
theorem Mine.main.tw16819838333489098493 : True := trivial
theorem Mine.main.tw10642606787283503386 : True := trivial
theorem Mine.main.tw4882109666999030741 : True := trivial
theorem Mine.main.tw15608450976537380609 : True := trivial
theorem Mine.main.tw2714283472998740243 : True := trivial
theorem Mine.main.tw18403998269306519403 : True := trivial
theorem Mine.main.tw12646911602827044314 : True := trivial
theorem Mine.main.tw7332552209862256014 : True := trivial
theorem Mine.main.tw9848185148710128376 : True := trivial
theorem Mine.main.tw13547569757486424058 : True := trivial
theorem Mine.main.tw10047389527955405517 : True := trivial
theorem Mine.main.tw4812270449578504274 : True := trivial
theorem Mine.main.tw8748973510418095054 : True := trivial
theorem Mine.main.tw5518243967957118194 : True := trivial
theorem Mine.main.tw14771111431291430275 : True := trivial
theorem Mine.main.tw9925469786538053656 : True := trivial
theorem Mine.main.tw5517759331935216279 : True := trivial
theorem Mine.main.tw17297283025540448806 : True := trivial
theorem Mine.main.tw7308723440029596264 : True := trivial
theorem Mine.main.tw12361340156312767134 : True := trivial
theorem Mine.main.tw4775608329324902142 : True := trivial
theorem Mine.main.tw962032349192862916 : True := trivial
theorem Mine.main.tw9561784451562097942 : True := trivial
theorem Mine.main.tw17236958762192778904 : True := trivial
theorem Mine.main.tw1615956725737779560 : True := trivial
theorem Mine.main.tw6910295442248876197 : True := trivial
theorem Mine.main.tw13157206579259725088 : True := trivial
theorem Mine.main.tw2406621943657119228 : True := trivial
theorem Mine.main.tw10924716458440934090 : True := trivial
theorem Mine.main.tw13838900630717943254 : True := trivial
theorem Mine.main.tw13313126695403321540 : True := trivial
theorem Mine.main.tw10298723112805639129 : True := trivial
theorem Mine.main.tw9942282790977331292 : True := trivial
theorem Mine.main.tw11101190512080308003 : True := trivial
theorem Mine.main.tw13995172100960836882 : True := trivial
theorem Mine.main.tw2538046985915079169 : True := trivial
theorem Mine.main.tw1178595665728414349 : True := trivial
theorem Mine.main.tw6334894449686545209 : True := trivial
theorem Mine.main.tw13406003279186336099 : True := trivial
theorem Mine.main.tw16356685582667847594 : True := trivial
theorem Mine.main.tw6044114016751833949 : True := trivial
theorem Mine.main.tw8118072479153026202 : True := trivial
theorem Mine.main.tw9155575984036265788 : True := trivial
theorem Mine.main.tw3848698983108048278 : True := trivial
theorem Mine.main.tw11752208632293872130 : True := trivial
theorem Mine.main.tw14492832472218066102 : True := trivial
theorem Mine.main.tw10094358506670053839 : True := trivial
theorem Mine.main.tw7298748307773712898 : True := trivial
theorem Mine.main.tw7647378279178456250 : True := trivial
theorem Mine.main.tw5995161000843957690 : True := trivial
theorem Mine.main.tw10877679251791092727 : True := trivial
theorem Mine.main.tw4651154628705390771 : True := trivial
theorem Mine.main.tw12273490649430754879 : True := trivial
theorem Mine.main.tw11461230924637031220 : True := trivial
theorem Mine.main.tw765107192605250810 : True := trivial
theorem Mine.main.tw13803360072150633466 : True := trivial
theorem Mine.main.tw6557543464795787104 : True := trivial
theorem Mine.main.tw5127751686995613262 : True := trivial
theorem Mine.main.tw2629084897520917108 : True := trivial
theorem Mine.main.tw6741292078354696603 : True := trivial
theorem Mine.main.tw11135027115929721415 : True := trivial
theorem Mine.main.tw1677766988990989824 : True := trivial
theorem Mine.main.tw17958375852430007124 : True := trivial
theorem Mine.main.tw14106445559736802775 : True := trivial
theorem Mine.main.tw12623159325031504133 : True := trivial
theorem Mine.main.tw15737690656516749961 : True := trivial
theorem Mine.main.tw1545906260438175962 : True := trivial
theorem Mine.main.tw1678875084529416142 : True := trivial
theorem Mine.main.tw1826329307503635854 : True := trivial
theorem Mine.main.tw9483120023164983764 : True := trivial
theorem Mine.main.tw9994787619460420439 : True := trivial
theorem Mine.main.tw10450603732522932521 : True := trivial
theorem Mine.main.tw6697339332421208802 : True := trivial
theorem Mine.main.tw3045742163950154196 : True := trivial
theorem Mine.main.tw5532463470591059822 : True := trivial
theorem Mine.main.tw13180746182150919023 : True := trivial
theorem Mine.main.tw14722489848711283861 : True := trivial
theorem Mine.main.tw12093647306153771053 : True := trivial
theorem Mine.main.tw917386388269078853 : True := trivial
theorem Mine.main.tw15624239662980076321 : True := trivial
theorem Mine.main.tw17146568849442343683 : True := trivial
theorem Mine.main.tw3864431920445960829 : True := trivial
theorem Mine.main.tw9563168847844234846 : True := trivial
theorem Mine.main.tw6361450105264607166 : True := trivial
theorem Mine.main.tw17708487481403421675 : True := trivial
theorem Mine.main.tw5842977544298395883 : True := trivial
theorem Mine.main.tw7113585516715319716 : True := trivial
theorem Mine.main.tw3549514262204291990 : True := trivial
theorem Mine.main.tw1099256609624015869 : True := trivial
theorem Mine.main.tw15734200111481486640 : True := trivial
theorem Mine.main.tw14457758005677747962 : True := trivial
theorem Mine.main.tw5240779543111244032 : True := trivial
theorem Mine.main.tw365850788961202214 : True := trivial
theorem Mine.main.tw18287795668848337631 : True := trivial
theorem Mine.main.tw31828345220925962 : True := trivial
theorem Mine.main.tw4650958065196391918 : True := trivial
theorem Mine.main.tw9274054859765456524 : True := trivial
theorem Mine.main.tw8440099810896429113 : True := trivial
theorem Mine.main.tw16008457594558532635 : True := trivial
theorem Mine.main.tw5665406974723832613 : True := trivial
theorem Mine.main.tw2744014450722944760 : True := trivial
theorem Mine.main.tw16452447596832230105 : True := trivial
theorem Mine.main.tw8930851030842425676 : True := trivial
theorem Mine.main.tw15616401959046598769 : True := trivial
theorem Mine.main.tw471287901995484742 : True := trivial
theorem Mine.main.tw9498315638749924794 : True := trivial
theorem Mine.main.tw4573282807186111410 : True := trivial
theorem Mine.main.tw15365013842991253249 : True := trivial
theorem Mine.main.tw5585478044538960755 : True := trivial
theorem Mine.main.tw11812620880713246772 : True := trivial
theorem Mine.main.tw8905464785575363620 : True := trivial
theorem Mine.main.tw1390771862084280389 : True := trivial
theorem Mine.main.tw4544244032028310869 : True := trivial
theorem Mine.main.tw17292155258170135553 : True := trivial
theorem Mine.main.tw15510692781650021527 : True := trivial
theorem Mine.main.tw17695171507069755227 : True := trivial
theorem Mine.main.tw5418533224930618480 : True := trivial
theorem Mine.main.tw4026956272090484662 : True := trivial
theorem Mine.main.tw12068675164452278622 : True := trivial
theorem Mine.main.tw10876375607700338302 : True := trivial
theorem Mine.main.tw18431692314602308842 : True := trivial
theorem Mine.main.tw10114013102757674387 : True := trivial
theorem Mine.main.tw6801380410627298636 : True := trivial
theorem Mine.main.tw10896356407431480244 : True := trivial
theorem Mine.main.tw12298629886278197574 : True := trivial
theorem Mine.main.tw15491723280356408159 : True := trivial
theorem Mine.main.tw15803610866087392283 : True := trivial
theorem Mine.main.tw11857135199678951331 : True := trivial
theorem Mine.main.tw1277820614484962519 : True := trivial
theorem Mine.main.tw7083192437325867461 : True := trivial
theorem Mine.main.tw16798622893749714585 : True := trivial
theorem Mine.main.tw14646587721710459877 : True := trivial
theorem Mine.main.tw14080665800827857628 : True := trivial
theorem Mine.main.tw11156056980113079860 : True := trivial
theorem Mine.main.tw5084117380071580128 : True := trivial
theorem Mine.main.tw11273777480241942364 : True := trivial
theorem Mine.main.tw8260724100714396741 : True := trivial
theorem Mine.main.tw2852251193174398662 : True := trivial
theorem Mine.main.tw13962693860625380366 : True := trivial
theorem Mine.lay : True := by
  (k_with "m1" => k_here; (with_reducible show wpAny _ _ (getMethod (Value.ref _) (PySem.Str.ofString "_br") _) _ _ _))
  (k_with "m2" => (case k1 => k_asm); (case k2 => k_asm); (case k4 => k_inst); (case k5 => k_is); (case k6 => k_is); (case k7 => k_is); (case k8 => k_is); (case k9 => k_is); (case k10 => k_is); (case k11 => decide +kernel); (case k12 => k_get); (case k13 => k_is); (case k14 => k_handed); k_whole)
  (k_with "mine mine r128" => first | with_reducible assumption | (refine Mine.rng128 ?_; with_reducible assumption) | omega)
  (k_with "mine call builtin:bin" => (refine Mine.bin_rule (by walk_at "mine r128") (by walk_at "mine r128") ?_; intro hb1 hb2 hb3))
  (k_with "mine call builtin:pow" => (first | (refine Mine.pow_rule (by omega) ?_; intro hp1 hp2) | refine Mine.inv_rule ?_))
  (k_with "mine call type:int" => (refine Mine.int_rule (by walk_at "mine r128") (by walk_at "mine r128") ?_; intro hp1 hp2))
  (k_with "m3" => k_here; (with_reducible show wpAny _ _ (callWith _ (Value.ref _) _ (backTo _ (starEach (_ :: _) _)) (backToKw _ (keywordEach (_ :: _) _))) _ _ _); kco_any "__call__"; kco_here)
  (k_with "m4" => (case k1 => k_in); (case k2 => k_inst); (case k3 => rfl); (case k4 => k_is); (case k5 => exact rfl); k_whole)
  (k_with "k k_in" => exact Mine.in_of (by with_reducible assumption) (by with_reducible assumption))
  (k_with "mine ite" => first | refine Mine.ifn (Mine.ng1 (by with_reducible assumption)) ?_ | refine Mine.ifp (Mine.lt1 (by with_reducible assumption)) ?_ | refine Mine.ifn (Mine.ng2 (by with_reducible assumption)) ?_ | refine Mine.ifn (Mine.ng3 (by with_reducible assumption)) ?_ | refine Mine.ifn (Mine.ng4 (by with_reducible assumption)) ?_ | refine Mine.ifn (Mine.ng5 (by with_reducible assumption)) ?_ | refine Mine.ifn (Mine.nd (by with_reducible assumption)) ?_ | refine Mine.ifp (Mine.eqb1 (by with_reducible assumption)) ?_ | refine Mine.ifn (Mine.neb1 (by with_reducible assumption)) ?_)
  (k_with "mine mine idx" => ((try simp only [List.length_set, List.length_map, Mine.Zs_length]); omega))
  (k_with "m5" => k_here; (with_reducible show wpAny _ _ (subscriptTail _ _ (Value.ref _) (Value.int _ _)) _ _ _))
  (k_with "m6" => (case k1 => k_asm); (case k2 => k_mem); (case k3 => with_reducible assumption); (case k4 => walk_at "mine idx"); (case k5 => walk_at "mine idx"); (case k6 => walk_at "mine idx"); (case k7 => with_unfolding_all rfl); k_whole)
  (k_with "mine subscriptTail Name Name ref int" => walk_at "mine sub")
  (k_with "mine subscriptTail Name BinOp ref int" => walk_at "mine sub")
  (k_with "m7" => k_here; (with_reducible show wpAny _ _ (setItem (Value.ref _) (Value.int _ _) (Value.int _ _)) _ _ _))
  (k_with "m8" => (case k1 => k_asm); (case k2 => k_asm); (case k3 => k_upd); (case k4 => with_reducible assumption); (case k5 => walk_at "mine idx"); (case k6 => walk_at "mine idx"); (case k7 => walk_at "mine idx"); k_whole)
  (k_with "m9" => intro h' F' N' hi' hl' hs'; (try k_sweep))
  (k_with "m10" => k_here; (with_reducible show wpAny _ _ (PySem.exec (PySem.Stmt.While (PySem.Expr.Compare (PySem.Expr.Name (PySem.Str.ofString "l") _) _ _ _) _ _ _) _) _ _ _))
  (k_with "m11" => (case F => k_asm); (case N => k_asm); (case c => exact rfl); (case m => k_mem); (case U => intro o; k_upd); (case I => with_reducible assumption); (case l => exact rfl); (case k => exact rfl); (case n => first | with_reducible assumption | exact Mine.pad_len' (by with_reducible assumption) | exact Mine.len_of (by with_reducible assumption)))
  (k_with "m12" => intro l9 k9 ta9 tb9 vs9 cs9 c9 u9 h9 tk9 hI9 hG9 hf9 F9 N9; (try dsimp only at N9); (try k_sweep))
  (k_with "m13" => k_here; (with_reducible show wpAny _ _ (PySem.exec (PySem.Stmt.While (PySem.Expr.Compare (PySem.Expr.Name (PySem.Str.ofString "l") _) _ _ _) _ _ _) _) _ _ _))
  (k_with "m14" => (case F => k_asm); (case N => k_asm); (case hu => exact rfl); (case c => exact rfl); (case m => k_mem); (case U => intro o; k_upd); (case I => with_reducible assumption); (case l => exact rfl); (case k => exact rfl); (case n => first | with_reducible assumption | exact Mine.pad_len' (by with_reducible assumption) | exact Mine.len_of (by with_reducible assumption)))
  (k_with "m15" => intro l9 k9 ta9 tb9 vs9 cs9 c9 u9 h9 tk9 hI9 hG9 hf9 F9 N9; (try dsimp only at N9); (try k_sweep))
  (k_with "m16" => k_here; (with_reducible show wpAny _ _ (PySem.exec (PySem.Stmt.While (PySem.Expr.Compare (PySem.Expr.Name (PySem.Str.ofString "start") _) _ _ _) _ _ _) _) _ _ _))
  (k_with "m17" => (case F => k_asm); (case N => k_asm); (case c => exact rfl); (case m => k_mem); (case U => intro o; k_upd); (case I => with_reducible assumption); (case s => exact rfl); (case k => exact rfl); (case l => exact rfl); (case O => with_reducible assumption); (case g => omega))
  (k_with "m18" => intro l9 k9 ta9 tb9 vs9 cs9 c9 u9 h9 tk9 hI9 hG9 hf9 hz9 F9 N9; (try dsimp only at N9); (try k_sweep))
  (k_with "m19" => k_here; (with_reducible show wpAny _ _ (PySem.exec (PySem.Stmt.While (PySem.Expr.Compare (PySem.Expr.Name (PySem.Str.ofString "start") _) _ _ _) _ _ _) _) _ _ _))
  (k_with "m20" => (case F => k_asm); (case N => k_asm); (case hu => exact rfl); (case c => exact rfl); (case m => k_mem); (case U => intro o; k_upd); (case I => with_reducible assumption); (case s => exact rfl); (case k => exact rfl); (case l => exact rfl); (case O => with_reducible assumption); (case g => omega))
  (k_with "m21" => intro l9 k9 ta9 tb9 vs9 cs9 c9 u9 h9 tk9 hI9 hG9 hf9 hz9 F9 N9; (try dsimp only at N9); (try k_sweep))
  (k_with "m22" => k_here; (rename IsRange _ _ _ _ _ _ _ _ => rg9))
  (k_with "m23" => (case hh => exact rfl); (case r => exact rg9); (case F => k_asm); (case N => k_asm); (case c => exact rfl); (case m => k_mem); (case U => intro o; k_upd); (case I => with_reducible assumption); (case z => exact rfl); (case l => exact rfl); (case e => exact rfl); (case a => omega); (case b => omega); (case d => omega); (case n => omega))
  (k_with "m24" => (first | (intro i9 vs9 cs9 c9 t9 u9 h9 tk9 own9 hi9 ho9 hI9 hG9 hl9 F9 N9; (try dsimp only at N9); (try dsimp only [List.map_cons, List.map_nil] at ho9); (try k_sweep)) | (intro vs9 cs9 c9 t9 u9 h9 tk9 hI9 hq9 hl9 F9 N9; (try dsimp only at N9); (try k_sweep))))
  (k_with "m25" => k_here; (rename IsRange _ _ _ _ _ _ _ _ => rg9))
  (k_with "m26" => (case hh => exact rfl); (case r => exact rg9); (case F => k_asm); (case N => k_asm); (case hu => exact rfl); (case c => exact rfl); (case m => k_mem); (case U => intro o; k_upd); (case I => with_reducible assumption); (case z => exact rfl); (case l => exact rfl); (case e => exact rfl); (case a => omega); (case b => omega); (case d => omega); (case n => omega))
  (k_with "m27" => (first | (intro i9 vs9 cs9 c9 t9 u9 h9 tk9 own9 hi9 ho9 hI9 hG9 hl9 F9 N9; (try dsimp only at N9); (try dsimp only [List.map_cons, List.map_nil] at ho9); (try k_sweep)) | (intro vs9 cs9 c9 t9 u9 h9 tk9 hI9 hq9 hl9 F9 N9; (try dsimp only at N9); (try k_sweep))))
  (k_with "mine forall" => first | (intro i9 vs9 cs9 c9 t9 u9 h9 tk9 own9 hi9 ho9 hI9 hG9 hl9 F9 N9; (try dsimp only at N9); (try dsimp only [List.map_cons, List.map_nil] at ho9); (try k_sweep)) | (intro vs9 cs9 c9 t9 u9 h9 tk9 hI9 hq9 hl9 F9 N9; (try dsimp only at N9); (try k_sweep)))
  (k_with "mine mine same" => (intro z h1 h2; first | (intro h3; (simp only [List.contains_cons, List.contains_nil, Bool.or_false, Bool.or_eq_false_iff, beq_eq_false_iff_ne, ne_eq] at h3); simp +zetaDelta [h1, h2, h3]; done) | ((simp only [List.contains_cons, List.contains_nil, Bool.or_false, Bool.or_eq_false_iff, beq_eq_false_iff_ne, ne_eq] at h2); simp +zetaDelta [h1, h2]; done) | (simp +zetaDelta [h1]; done)))
  (k_with "mine mine G" => first | exact Mine.inG_step (by with_reducible assumption) | exact Mine.modG_step (by with_reducible assumption) | exact Mine.mfG_step (by with_reducible assumption) | exact Mine.mid_end (by with_reducible assumption) (by with_reducible assumption) (by with_reducible assumption) (by with_reducible assumption) (by with_reducible assumption) (by omega) | exact Mine.out_end (by with_reducible assumption) (by with_reducible assumption) (by with_reducible assumption) (by with_reducible assumption) (Mine.half _))
  (k_with "mine mine G" => first | exact Mine.inI_step (by with_reducible assumption) | exact Mine.mfG_step (by with_reducible assumption) | exact Mine.midI_end (by with_reducible assumption) (by with_reducible assumption) (by with_reducible assumption) (by with_reducible assumption) (by with_reducible assumption) (by omega) | exact Mine.outI_end (by with_reducible assumption) (by with_reducible assumption) (by with_reducible assumption) (by with_reducible assumption) (by first | exact Mine.dbl _ | (simp; omega)))
  (k_with "m28" => (rename Fr _ _ _ _ => eF9); (rename News _ _ _ _ => eN9))
  (k_with "m29" => (case eF => exact eF9); (case eN => exact eN9); (case n => walk_at "mine kin"); (case o => walk_at "mine kin"); (case I => l_ints); (case x => with_unfolding_all rfl); (case z => walk_at "mine same"); (case G => with_unfolding_all walk_at "mine G"))
  (k_with "m30" => (rename Fr _ _ _ _ => eF9); (rename News _ _ _ _ => eN9))
  (k_with "m31" => (case eF => exact eF9); (case eN => exact eN9); (case n => walk_at "mine kin"); (case I => l_ints); (case a => with_unfolding_all rfl); (case b => with_unfolding_all rfl); (case z => walk_at "mine same"); (case G => with_unfolding_all walk_at "mine G"))
  (k_with "m32" => k_here; (rename IsRange _ _ _ _ _ _ _ _ => rg9))
  (k_with "m33" => (case hh => exact rfl); (case r => exact rg9); (case F => k_asm); (case N => k_asm); (case c => exact rfl); (case m => k_mem); (case U => intro o; k_upd); (case I => with_reducible assumption); (case n => first | with_reducible assumption | exact (Mine.outG_facts (by with_reducible assumption)).2.2.2.2))
  (k_with "m34" => (first | (intro i9 vs9 cs9 c9 t9 u9 h9 tk9 own9 hi9 ho9 hI9 hG9 hl9 F9 N9; (try dsimp only at N9); (try dsimp only [List.map_cons, List.map_nil] at ho9); (try k_sweep)) | skip))
  (k_with "m35" => k_here; (rename IsRange _ _ _ _ _ _ _ _ => rg9))
  (k_with "m36" => (case hh => exact rfl); (case r => exact rg9); (case F => k_asm); (case N => k_asm); (case hf => exact rfl); (case c => exact rfl); (case m => k_mem); (case U => intro o; k_upd); (case I => with_reducible assumption); (case n => first | with_reducible assumption | exact (Mine.outI_facts (by with_reducible assumption)).2.2.2.2))
  (k_with "m37" => (first | (intro i9 vs9 cs9 c9 t9 u9 h9 tk9 own9 hi9 ho9 hI9 hG9 hl9 F9 N9; (try dsimp only at N9); (try dsimp only [List.map_cons, List.map_nil] at ho9); (try k_sweep)) | skip))
  (k_with "m38" => k_here; (with_reducible show wpAny _ _ (getMethod (Value.ref _) (PySem.Str.ofString "parent") _) _ _ _))
  (k_with "m39" => (case k1 => k_asm); (case k2 => k_asm); (case k3 => k_inst); (case k4 => k_is); (case k5 => k_is); k_whole)
  (k_with "mine call builtin:pow" => (first | (refine Mine.pow_rule (by with_reducible assumption) ?_; intro hp1 hp2) | refine Mine.inv_rule ?_))
  (k_with "mine forall" => (k_here; intros; (rename News _ _ _ _ => N9); (try dsimp only at N9); (try ((rename OwnOff _ _ => ho9); (dsimp only [List.map_cons, List.map_nil] at ho9))); (try k_sweep)))
  (k_with "m40" => k_here; (rename IsRange _ _ _ _ _ _ _ _ => rg9))
  (k_with "m41" => (case hh => exact rfl); (case r => exact rg9); (case F => k_asm); (case N => k_asm); (case a => exact rfl); (case b => exact rfl); (case p => exact rfl))
  (k_with "m42" => k_here; (rename IsRange _ _ _ _ _ _ _ _ => rg9))
  (k_with "m43" => (case hh => exact rfl); (case r => exact rg9); (case F => k_asm); (case N => k_asm); (case a => exact rfl); (case c => exact rfl); (case m => k_mem); (case U => intro o; k_upd); (case I => with_reducible assumption); (case n => first | with_reducible assumption | exact Mine.pad_len' (by with_reducible assumption) | exact Mine.len_of (by with_reducible assumption)))
  (k_with "mine mine same3" => (intro z h1 h2 h3; simp +zetaDelta [h1, h2, h3]; done))
  (k_with "mine mine same1" => (intro z h1; simp +zetaDelta [h1]; done))
  (k_with "m44" => (rename Fr _ _ _ _ => eF9); (rename News _ _ _ _ => eN9))
  (k_with "m45" => (case eF => exact eF9); (case eN => exact eN9); (case n => kst_in); (case o => kst_in); (case a => with_unfolding_all rfl); (case b => with_unfolding_all rfl); (case z => walk_at "mine same3"); (case G => first | exact Mine.eG_yes (by with_reducible assumption) | exact Mine.eG_no (by with_reducible assumption)))
  (k_with "m46" => (rename Fr _ _ _ _ => eF9); (rename News _ _ _ _ => eN9))
  (k_with "m47" => (case eF => exact eF9); (case eN => exact eN9); (case n => kst_in); (case o => kst_in); (case I => l_ints); (case z => walk_at "mine same1"); (case G => with_unfolding_all exact Mine.rsG_step (by with_reducible assumption)))
  (k_with "mine mine le" => first | exact Mine.le_pad (by with_reducible assumption) | exact Mine.le_eq (by with_reducible assumption) | exact Mine.le_lt (by with_reducible assumption) | exact Mine.le_eqI (by with_reducible assumption))
  (k_with "m48" => k_here; (with_reducible show wpAny _ _ (call (Value.type _) [Value.ref _]) _ _ _))
  (k_with "m49" => (case k1 => k_asm); (case k2 => k_asm); (case k3 => k_mem); (case k4 => with_reducible assumption); (case k5 => walk_at "mine le"); k_whole)
  (k_with "m50" => intro D' c' h' F' N' l1; (try k_lt l1); (try k_sweep))
  (k_with "m51" => k_here; (with_reducible show wpAny _ _ (pyIter _) (GenPost _ _ _ _ _ _ _ _ _ _ _ _ _ _ _ _ _ _) _ _); (fail_if_success (with_reducible rename Mine.GenMk => gm8)))
  (k_with "m52" => (case N => k_asm); (case m => k_mem))
  (k_with "k k_mem" => walk_at "mine memd")
  (k_with "k k_all" => first | with_reducible assumption | exact Mine.allne_lt (by with_reducible assumption) | exact Mine.allne_app (by with_reducible assumption) (by with_reducible assumption) | exact Mine.allne_app' (by with_reducible assumption) (by with_reducible assumption))
  (k_with "k k_all" => exact Mine.allne_own (by with_reducible assumption) (by with_reducible assumption) (by simp))
  (k_with "k k_room" => ktr_room)
  (k_with "m53" => k_here; (with_reducible show wpAny _ _ (call (Value.builtin "len") [Value.ref _]) _ _ _))
  (k_with "m54" => (case k1 => k_asm); (case k2 => k_mem); (case k3 => with_reducible assumption); (case k4 => walk_at "mine le"); k_whole)
  (k_with "mine mine mem" => first | with_reducible assumption | exact Mine.mem_hd | (refine' Mine.mem_tl ?_; walk_at "mine mem"))
  (k_with "mine mine ints" => first | with_reducible assumption | l_ints)
  (k_with "m55" => k_here; (with_reducible show wpAny _ _ (compareOp CmpOp.NotEq (Value.ref _) (Value.ref _)) _ _ _))
  (k_with "m56" => (case k1 => with_reducible assumption); (case k2 => walk_at "mine mem"); (case k4 => walk_at "mine mem"); (case k3 => walk_at "mine ints"); (case k5 => walk_at "mine ints"); (case k6 => units_room); k_whole)
  (k_with "m57" => k_here; (with_reducible show wpAny _ _ (compareOp CmpOp.Eq (Value.ref _) (Value.ref _)) _ _ _))
  (k_with "m58" => (case k1 => with_reducible assumption); (case k2 => walk_at "mine mem"); (case k4 => walk_at "mine mem"); (case k3 => walk_at "mine ints"); (case k5 => walk_at "mine ints"); (case k6 => units_room); k_whole)
  (k_with "mine ite" => first | refine Mine.ifp (by with_reducible assumption) ?_ | refine Mine.ifn (Mine.nbt (by with_reducible assumption)) ?_)
  (k_with "mine mine ctx" => ((case k1 => k_asm); (case k3 => k_asm); (case k5 => assumption); (case k6 => exact rfl); (case k7 => first | decide | ktr_room | omega); (case k8 => first | decide | ktr_units)))
  (k_with "m59" => k_here; (with_reducible show wpAny _ _ (call (Value.ref 440) _) _ _ _))
  (k_with "m60" => (case k0 => exact Mine.rest_rule_ok); (case k4 => k_asm); (case k2 => k_asm); (case k9 => k_mem); (case ka => with_reducible assumption); (case kb => first | with_reducible assumption | exact Mine.pad_len' (by with_reducible assumption) | exact Mine.len_of (by with_reducible assumption)); (case kc => with_reducible assumption); (case kd => with_reducible assumption); walk_at "mine ctx")
  (k_with "m61" => intro l9 ys9 c29 h9 tk9 he9 hI9 hq9 F9 N9; (try k_lt hq9); (try k_sweep))
  (k_with "m62" => k_here; (with_reducible show wpAny _ _ (call (Value.ref 338) _) _ _ _))
  (k_with "m63" => (case k0 => exact Mine.ntt_rule_ok); (case k4 => k_asm); (case k2 => k_asm); (case k9 => k_mem); (case ka => k_mem); (case kb => k_mem); (case kc => k_mem); (case kd => k_mem); (case ke => with_reducible assumption); (case kg => with_reducible assumption); (case kh => first | with_reducible assumption | exact Mine.pad_len' (by with_reducible assumption) | exact Mine.len_of (by with_reducible assumption)); (case kf => walk_at "mine alls"); walk_at "mine ctx")
  (k_with "m64" => intro y9 e9 us9 l9 k9 c19 c29 c9 q19 q29 h9 tk9 hO9 h29 hm9 hl9 hI9 hq9 hc9 he9 F9 N9; (replace hc9 := ltN hc9); (replace he9 := ltN he9); (try k_lt hq9); (try k_sweep))
  (k_with "m65" => k_here; (with_reducible show wpAny _ _ (call (Value.ref 378) _) _ _ _))
  (k_with "m66" => (case k0 => exact Mine.intt_rule_ok); (case k4 => k_asm); (case k2 => k_asm); (case k9 => k_mem); (case ka => k_mem); (case kb => k_mem); (case kc => k_mem); (case kd => k_mem); (case ke => with_reducible assumption); (case kg => with_reducible assumption); (case kh => first | with_reducible assumption | exact Mine.pad_len' (by with_reducible assumption) | exact Mine.len_of (by with_reducible assumption)); (case kf => walk_at "mine alls"); walk_at "mine ctx")
  (k_with "m67" => intro y9 e9 us9 l9 k9 c19 c29 c9 q19 q29 h9 tk9 hO9 h29 hm9 hl9 hI9 hq9 hc9 he9 F9 N9; (replace hc9 := ltN hc9); (replace he9 := ltN he9); (try k_lt hq9); (try k_sweep))
  (k_with "mine mine ring" => ((case kb => first | with_reducible assumption | rfl); (case k4 => k_asm); (case k2 => k_asm); (case kc => k_mem); (case kd => k_mem); (case ke => k_mem); (case kf => with_reducible assumption); (case kg => first | with_reducible assumption | exact Mine.len_of (by with_reducible assumption)); walk_at "mine ctx"))
  (k_with "m68" => k_here; kco_here; (first | ((with_reducible show wpAny _ _ (call (Value.ref _) _ []) _ _ _); fail "x") | skip))
  (k_with "m69" => (case k0 => exact Mine.ring_T_ok); walk_at "mine ring")
  (k_with "m70" => intro y9 e9 D9 ws9 q19 q29 h9 tk9 hq9 he9 hd9 hI9 F9 N9)
  (k_with "m71" => (case k0 => exact Mine.ring_F_ok); walk_at "mine ring")
  (k_with "m72" => intro y9 e9 D9 ws9 q19 q29 h9 tk9 hq9 he9 hd9 hI9 F9 N9)
  (k_with "m73" => (case k0 => exact Mine.ring_T6_ok); walk_at "mine ring")
  (k_with "m74" => intro y9 e9 q19 q29 h9 tk9 hq9 he9 F9 N9)
  (k_with "m75" => (case k0 => exact Mine.ring_F6_ok); walk_at "mine ring")
  (k_with "m76" => intro y9 e9 q19 q29 h9 tk9 hq9 he9 F9 N9)
  (k_with "m77" => (try (replace he9 := ltN he9)); (try (replace hd9 := ltN hd9)); (try k_lt hq9); (try k_sweep))
  (k_with "m78" => k_here; (with_reducible show wpAny _ _ (compareOp CmpOp.NotEq (Value.ref _) (Value.ref _)) _ _ _))
  (k_with "m79" => (case k1 => with_reducible assumption); (case k2 => walk_at "mine mem"); (case k4 => walk_at "mine mem"); (case k3 => with_reducible assumption); (case k5 => with_reducible assumption); (case k6 => units_room); k_whole)
  (k_with "m80" => k_here; (with_reducible show wpAny _ _ (compareOp CmpOp.Eq (Value.ref _) (Value.ref _)) _ _ _))
  (k_with "m81" => (case k1 => with_reducible assumption); (case k2 => walk_at "mine mem"); (case k4 => walk_at "mine mem"); (case k3 => with_reducible assumption); (case k5 => with_reducible assumption); (case k6 => units_room); k_whole)
  (k_with "mine ite" => first | refine Mine.ifn Mine.nds ?_ | refine Mine.ifn (Mine.nn6 (by with_reducible assumption)) ?_)
  (k_with "m82" => k_here; (with_reducible show wpAny _ _ (call (Value.ref 447) _) _ _ _))
  (k_with "m83" => (case k0 => exact Mine.refused_F_ok); (case kb => exact rfl); (case k4 => k_asm); (case kc => k_mem))
  (k_with "m84" => (case k0 => exact Mine.refused_T_ok); (case kb => exact rfl); (case k4 => k_asm); (case kc => k_mem))
  (k_with "m85" => (case k2 => k_asm); (case k1 => k_asm); (case k3 => k_asm); (case k5 => assumption); (case k6 => exact rfl); (case k7 => assumption); (case k8 => assumption); (case k9 => decide); (case ka => first | decide | ktr_units); (case kd => k_mem); intro h9 tk9 F9 N9)
  (k_with "mine ite" => first | refine Mine.ifn Mine.nds ?_ | refine Mine.ifn (Mine.nn6 (by with_reducible assumption)) ?_ | refine Mine.ifn (Mine.nn6s (by with_reducible assumption)) ?_ | refine Mine.ifn (Mine.ne6 (by with_reducible assumption)) ?_ | refine Mine.ifn (Mine.nd (by with_reducible assumption)) ?_ | refine Mine.ifp (Mine.lt1 (by with_reducible assumption)) ?_)
  (k_with "mine exec Assign cons ListComp" => (k_here; (with_reducible show wpAny _ _ (PySem.exec (PySem.Stmt.Assign [PySem.Expr.Name (PySem.Str.ofString "low") _] _ _) _) _ _ _); k_dflt (refine LCg.Assign_ListComp_U (F₀ := by k_asm) (by rfl) (by with_unfolding_all rfl) (by with_unfolding_all rfl) (by decide) (by rfl) (by decide) (by rfl) (by rfl) (by rfl) ?_)))
  (k_with "k k_all" => first | exact Mine.allne_off (by with_reducible assumption) | exact Mine.allne_off (And.right (And.right (And.right (And.right (by with_reducible assumption))))) | exact Mine.allne_off (And.right (And.right (And.right (And.right (And.right (by with_reducible assumption)))))) | exact Mine.allne_off (And.right (And.right (And.right (And.right (And.right (And.right (by with_reducible assumption))))))) | exact Mine.allne_off (And.right (And.right (And.right (by with_reducible assumption)))))
  (k_with "m86" => k_here; (with_reducible show wpAny _ _ (compareOp CmpOp.NotEq (Value.ref _) (Value.ref _)) _ _ _))
  (k_with "m87" => (case k1 => with_reducible assumption); (case k2 => walk_at "mine mem"); (case k4 => walk_at "mine mem"); (case k3 => with_reducible assumption); (case k5 => with_reducible assumption); (case k6 => units_room); k_whole)
  (k_with "m88" => k_here; (with_reducible show wpAny _ _ (compareOp CmpOp.Eq (Value.ref _) (Value.ref _)) _ _ _))
  (k_with "m89" => (case k1 => with_reducible assumption); (case k2 => walk_at "mine mem"); (case k4 => walk_at "mine mem"); (case k3 => with_reducible assumption); (case k5 => with_reducible assumption); (case k6 => units_room); k_whole)
  (k_with "m90" => (case cjX => with_reducible assumption); (case cjY => (intro h9; simp only [h9])))
  (k_with "m91" => (case ltB => with_reducible assumption); (case ltA => walk_at "mine lt0"))
  (k_with "m92" => (case ltB => with_reducible assumption); (case ltA => walk_at "mine lt1"))
  (k_with "m93" => (case cjX => with_reducible assumption); (case cjY => (intro h9; simp only [h9, ne_eq, not_false_eq_true])))
  (k_with "m94" => (case ltX => walk_at "mine lt"))
  (k_with "m95" => (case ltX => walk_at "mine lt"))
  (k_with "m96" => (case ltX => walk_at "mine lt"))
  (k_with "m97" => (case ltX => walk_at "mine lt"))
  (k_with "m98" => (case ltX => walk_at "mine lt"))
  (k_with "m99" => (case ltX => walk_at "mine lt"))
  (k_with "m100" => (case ltX => walk_at "mine ne0"))
  (k_with "k k_ne" => (refine neN ?_; (try dsimp only); walk_at "mine nz"))
  (k_with "m101" => k_here; (with_reducible show wpAny _ _ (call (Value.ref 433) _) _ _ _))
  (k_with "m102" => (case k0 => exact Mine.draw_rule_ok); (case k2 => k_asm); (case k4 => k_asm); walk_at "mine ctx"; (case k9 => k_asm); (case ka => l_ints); (case kb => l_fit); (case kc => first | decide | (refine Mine.draw_ge ?_; with_reducible assumption) | omega); (case kd => first | decide | exact Mine.draw_lt (by with_reducible assumption) (by with_reducible assumption) | (refine Mine.draw_lt6 ?_; with_reducible assumption) | omega))
  (k_with "m103" => intro t9 h9 tk9 F9 N9; (try dsimp only); (try k_fold))
  (k_with "m104" => exact List.forall_mem_nil _)
  (k_with "m105" => (case alA => k_ne); (case alB => walk_at "mine alls"))
  (k_with "mine subscriptTail Attribute Name BinOp ref int" => walk_at "mine sub")
  (k_with "mine exec Assign cons ListComp" => (k_here; (with_reducible show wpAny _ _ (PySem.exec (PySem.Stmt.Assign [PySem.Expr.Attribute _ _ _] _ _) _) _ _ _); walk_at "exec Assign"))
  (k_with "mine mine kin" => ((try dsimp only); with_unfolding_all ((try simp only [List.nil_append, List.cons_append]); walk_at "mine allin")))
  (k_with "m106" => exact List.forall_mem_nil _)
  (k_with "m107" => (case aiA => k_memK); (case aiB => walk_at "mine allin"))
  (k_with "m108" => (intro p9 h9; kst_mem))
  (k_with "mine ite" => (k_closed; first | refine Mine.ifp (by k_dflt decide) ?_ | refine Mine.ifn (by k_dflt decide) ?_))
  trivial
local macro_rules | `(tactic| walk_at "getMethod ref") => `(tactic| (k_extra "m1"; k_dflt (refine' kmu_sm ?k1 ?k2 ?k4 ?k5 ?k6 ?k7 ?k8 ?k9 ?k10 ?k11 ?k12 ?k13 ?k14 ?_; k_extra "m2")))
local macro_rules | `(tactic| walk_at "callWith ref") => `(tactic| (k_extra "m3"; k_dflt (refine' Mine.own_callKW ?k1 ?k2 ?k3 ?k4 ?k5 ?_; k_extra "m4")))
local macro_rules | `(tactic| k_in) => `(tactic| k_extra "k k_in")
local macro_rules | `(tactic| walk_at "mine sub") => `(tactic| (k_extra "m5"; k_dflt (refine' ksa_sub ?k1 ?k2 ?k3 ?k4 ?k5 ?k6 ?_ ?k7; k_extra "m6"); intro _))
local macro_rules | `(tactic| walk_at "setItem ref int") => `(tactic| (k_extra "m7"; k_dflt (refine' ksa_set ?k1 ?k2 ?k3 ?k4 ?k5 ?k6 ?k7 ?_; k_extra "m8"); k_extra "m9"))
local macro_rules | `(tactic| walk_at "exec While Compare cons nil") => `(tactic| (k_extra "m10"; k_dflt ((with_unfolding_all refine' Mine.fwd_out ?F ?N ?c ?m ?U ?I ?l ?k ?n ?_); k_extra "m11"); k_extra "m12"))
local macro_rules | `(tactic| walk_at "exec While Compare cons nil") => `(tactic| (k_extra "m13"; k_dflt ((with_unfolding_all refine' Mine.inv_out ?F ?N ?hu ?c ?m ?U ?I ?l ?k ?n ?_); k_extra "m14"); k_extra "m15"))
local macro_rules | `(tactic| walk_at "exec While Compare cons nil") => `(tactic| (k_extra "m16"; k_dflt ((with_unfolding_all refine' Mine.fwd_mid ?F ?N ?c ?m ?U ?I ?s ?k ?l ?O ?g ?_); k_extra "m17"); k_extra "m18"))
local macro_rules | `(tactic| walk_at "exec While Compare cons nil") => `(tactic| (k_extra "m19"; k_dflt ((with_unfolding_all refine' Mine.inv_mid ?F ?N ?hu ?c ?m ?U ?I ?s ?k ?l ?O ?g ?_); k_extra "m20"); k_extra "m21"))
local macro_rules | `(tactic| walk_at "pyIter ref") => `(tactic| (k_extra "m22"; k_dflt ((with_unfolding_all refine' Mine.fwd_in ?hh ?r ?F ?N ?c ?m ?U ?I ?z ?l ?e ?a ?b ?d ?n ?_ ?_); k_extra "m23"); k_extra "m24"))
local macro_rules | `(tactic| walk_at "pyIter ref") => `(tactic| (k_extra "m25"; k_dflt ((with_unfolding_all refine' Mine.inv_in ?hh ?r ?F ?N ?hu ?c ?m ?U ?I ?z ?l ?e ?a ?b ?d ?n ?_ ?_); k_extra "m26"); k_extra "m27"))
local macro_rules | `(tactic| walk_at "ForEnd") => `(tactic| (k_extra "m28"; k_dflt (with_unfolding_all (refine' Mine.forEnd_intro ?eF ?eN ?n ?o ?I ?x ?z ?G); k_extra "m29")))
local macro_rules | `(tactic| walk_at "WEnd") => `(tactic| (k_extra "m30"; k_dflt (with_unfolding_all (refine' Mine.wEnd_intro ?eF ?eN ?n ?I ?a ?b ?z ?G); k_extra "m31")))
local macro_rules | `(tactic| walk_at "pyIter ref") => `(tactic| (k_extra "m32"; k_dflt ((with_unfolding_all refine' Mine.for_mod ?hh ?r ?F ?N ?c ?m ?U ?I ?n ?_ ?_); k_extra "m33"); k_extra "m34"))
local macro_rules | `(tactic| walk_at "pyIter ref") => `(tactic| (k_extra "m35"; k_dflt ((with_unfolding_all refine' Mine.for_mf ?hh ?r ?F ?N ?hf ?c ?m ?U ?I ?n ?_ ?_); k_extra "m36"); k_extra "m37"))
local macro_rules | `(tactic| walk_at "getMethod ref") => `(tactic| (k_extra "m38"; k_dflt (refine' kmu_own ?k1 ?k2 ?k3 ?k4 ?k5 ?_; k_extra "m39")))
local macro_rules | `(tactic| walk_at "pyIter ref") => `(tactic| (k_extra "m40"; k_dflt ((with_unfolding_all refine' Mine.for_exp ?hh ?r ?F ?N ?a ?b ?p ?_ ?_); k_extra "m41")))
local macro_rules | `(tactic| walk_at "pyIter ref") => `(tactic| (k_extra "m42"; k_dflt ((with_unfolding_all refine' Mine.for_rest ?hh ?r ?F ?N ?a ?c ?m ?U ?I ?n ?_ ?_); k_extra "m43")))
local macro_rules | `(tactic| walk_at "TwoEnd") => `(tactic| (k_extra "m44"; k_dflt (with_unfolding_all (refine' Mine.twoEnd_intro ?eF ?eN ?n ?o ?a ?b ?z ?G); k_extra "m45")))
local macro_rules | `(tactic| walk_at "DnEnd") => `(tactic| (k_extra "m46"; k_dflt (with_unfolding_all (refine' Mine.dnEnd_intro ?eF ?eN ?n ?o ?I ?z ?G); k_extra "m47")))
local macro_rules | `(tactic| walk_at "call type:list") => `(tactic| (k_extra "m48"; k_dflt (refine' Mine.list_mine ?k1 ?k2 ?k3 ?k4 ?k5 ?_; k_extra "m49"); k_extra "m50"))
local macro_rules | `(tactic| walk_at "pyIter ref") => `(tactic| (k_extra "m51"; k_dflt (refine' Mine.gen_have ?N ?m ?_; k_extra "m52"); intro gm9 hl9))
local macro_rules | `(tactic| walk_at "mine memd") => `(tactic| assumption)
local macro_rules | `(tactic| walk_at "mine memd") => `(tactic| (refine' Mine.mem_tl ?_; walk_at "mine memd"))
local macro_rules | `(tactic| walk_at "mine memd") => `(tactic| exact Mine.mem_hd)
local macro_rules | `(tactic| walk_at "mine memd") => `(tactic| with_reducible assumption)
local macro_rules | `(tactic| k_mem) => `(tactic| k_extra "k k_mem")
local macro_rules | `(tactic| k_all) => `(tactic| k_extra "k k_all")
local macro_rules | `(tactic| k_room) => `(tactic| k_extra "k k_room")
local macro_rules | `(tactic| walk_at "call builtin:len") => `(tactic| (k_extra "m53"; k_dflt (refine' Mine.len_mine ?k1 ?k2 ?k3 ?k4 ?_; k_extra "m54")))
local macro_rules | `(tactic| walk_at "compareOp NotEq ref ref") => `(tactic| (k_extra "m55"; k_dflt (refine' Mine.ne_mine ?k1 ?k2 ?k3 ?k4 ?k5 ?k6 ?_; k_extra "m56")))
local macro_rules | `(tactic| walk_at "compareOp Eq ref ref") => `(tactic| (k_extra "m57"; k_dflt (refine' Mine.eq_mine ?k1 ?k2 ?k3 ?k4 ?k5 ?k6 ?_; k_extra "m58")))
local macro_rules | `(tactic| walk_at "call ref") => `(tactic| (k_extra "m59"; k_dflt (refine' Mine.rest_use ?k0 ?k1 ?k2 ?k3 ?k4 ?k5 ?k6 ?k7 ?k8 ?k9 ?ka ?kb ?kc ?kd ?_; k_extra "m60"); k_extra "m61"))
local macro_rules | `(tactic| walk_at "call ref") => `(tactic| (k_extra "m62"; k_dflt (refine' Mine.ntt_use ?k0 ?k1 ?k2 ?k3 ?k4 ?k5 ?k6 ?k7 ?k8 ?k9 ?ka ?kb ?kc ?kd ?ke ?kf ?kg ?kh ?_; k_extra "m63"); k_extra "m64"))
local macro_rules | `(tactic| walk_at "call ref") => `(tactic| (k_extra "m65"; k_dflt (refine' Mine.intt_use ?k0 ?k1 ?k2 ?k3 ?k4 ?k5 ?k6 ?k7 ?k8 ?k9 ?ka ?kb ?kc ?kd ?ke ?kf ?kg ?kh ?_; k_extra "m66"); k_extra "m67"))
local macro_rules | `(tactic| walk_at "call ref") => `(tactic| (k_extra "m68"; k_dflt (first | ((refine' Mine.ring_T_use ?k0 ?k1 ?k2 ?k3 ?k4 ?k5 ?k6 ?k7 ?k8 ?kb ?kc ?kd ?ke ?kf ?kg ?_; k_extra "m69"); k_extra "m70") | ((refine' Mine.ring_F_use ?k0 ?k1 ?k2 ?k3 ?k4 ?k5 ?k6 ?k7 ?k8 ?kb ?kc ?kd ?ke ?kf ?kg ?_; k_extra "m71"); k_extra "m72") | ((refine' Mine.ring_T6_use ?k0 ?k1 ?k2 ?k3 ?k4 ?k5 ?k6 ?k7 ?k8 ?kb ?kc ?kd ?ke ?kf ?kg ?_; k_extra "m73"); k_extra "m74") | ((refine' Mine.ring_F6_use ?k0 ?k1 ?k2 ?k3 ?k4 ?k5 ?k6 ?k7 ?k8 ?kb ?kc ?kd ?ke ?kf ?kg ?_; k_extra "m75"); k_extra "m76")); k_extra "m77"))
local macro_rules | `(tactic| walk_at "compareOp NotEq ref ref") => `(tactic| (k_extra "m78"; k_dflt (refine' Mine.ne_same ?k1 ?k2 ?k3 ?k4 ?k5 ?k6 ?_; k_extra "m79")))
local macro_rules | `(tactic| walk_at "compareOp Eq ref ref") => `(tactic| (k_extra "m80"; k_dflt (refine' Mine.eq_same ?k1 ?k2 ?k3 ?k4 ?k5 ?k6 ?_; k_extra "m81")))
local macro_rules | `(tactic| walk_at "call ref") => `(tactic| (k_extra "m82"; k_dflt (first | (refine' Mine.refused_F_use ?k0 ?k1 ?k2 ?k3 ?k4 ?k5 ?k6 ?k7 ?k8 ?k9 ?ka ?kb ?kc ?kd ?_; k_extra "m83") | (refine' Mine.refused_T_use ?k0 ?k1 ?k2 ?k3 ?k4 ?k5 ?k6 ?k7 ?k8 ?k9 ?ka ?kb ?kc ?kd ?_; k_extra "m84")); k_extra "m85"))
local macro_rules | `(tactic| walk_at "UnrEnd") => `(tactic| ((rename Fr _ _ _ _ => eF9); (rename News _ _ _ _ => eN9); k_dflt (refine' UnrEnd.intro ?eF ?eN _ (fun p hp => hp) ?uo ?_; (case eF => exact eF9); (case eN => exact eN9); (case uo => exact Mine.allne_lt (Mine.lt_of_all (by assumption))))))
local macro_rules | `(tactic| walk_at "CompSrc") => `(tactic| (k_here; k_dflt (refine' LCg.CompSrc.ledger ?q1 ?q2 ?q3 ?q4 ?q5 ?_; (case q1 => exact rfl); (case q2 => k_asm); (case q3 => k_asm); (case q4 => k_mem); (case q5 => exact Mine.size_ints (by with_reducible assumption) (by simp only [List.length_set]; assumption)); intro g'; k_dflt (refine' kcf_list _ ?q6 (fun k' t' I' oI' C' oC' D' m' ys' h' tk' E' hk' hC' hx' F' N' off' ne' hMark' => ?_) ?_; (case q6 => with_reducible assumption)); (all_goals (try (simp only [LCg.Off3, and_true] at off'))); kcf_last)))
local macro_rules | `(tactic| walk_at "compareOp NotEq ref ref") => `(tactic| (k_extra "m86"; k_dflt (refine' Mine.ne_same ?k1 ?k2 ?k3 ?k4 ?k5 ?k6 ?_; k_extra "m87")))
local macro_rules | `(tactic| walk_at "compareOp Eq ref ref") => `(tactic| (k_extra "m88"; k_dflt (refine' Mine.eq_same ?k1 ?k2 ?k3 ?k4 ?k5 ?k6 ?_; k_extra "m89")))
local macro_rules | `(tactic| walk_at "mine lt0") => `(tactic| (refine' Mine.via1 ?cjX ?cjY; k_extra "m90"))
local macro_rules | `(tactic| walk_at "mine lt0") => `(tactic| with_reducible assumption)
local macro_rules | `(tactic| walk_at "mine lt1") => `(tactic| (refine' Mine.lt3 ?ltA ?ltB; k_extra "m91"))
local macro_rules | `(tactic| walk_at "mine lt1") => `(tactic| walk_at "mine lt0")
local macro_rules | `(tactic| walk_at "mine lt") => `(tactic| (refine' Mine.lt3 ?ltA ?ltB; k_extra "m92"))
local macro_rules | `(tactic| walk_at "mine lt") => `(tactic| walk_at "mine lt1")
local macro_rules | `(tactic| walk_at "mine ne0") => `(tactic| (refine' Mine.via2 ?cjX ?cjY; k_extra "m93"))
local macro_rules | `(tactic| walk_at "mine ne0") => `(tactic| with_reducible assumption)
local macro_rules | `(tactic| walk_at "mine nz") => `(tactic| (refine' Mine.xne7 ?ltX; k_extra "m94"))
local macro_rules | `(tactic| walk_at "mine nz") => `(tactic| (refine' Mine.xne6 ?ltX; k_extra "m95"))
local macro_rules | `(tactic| walk_at "mine nz") => `(tactic| (refine' Mine.xne5 ?ltX; k_extra "m96"))
local macro_rules | `(tactic| walk_at "mine nz") => `(tactic| (refine' Mine.xne4 ?ltX; k_extra "m97"))
local macro_rules | `(tactic| walk_at "mine nz") => `(tactic| (refine' Mine.xne2 ?ltX; k_extra "m98"))
local macro_rules | `(tactic| walk_at "mine nz") => `(tactic| (refine' Mine.xne1 ?ltX; k_extra "m99"))
local macro_rules | `(tactic| walk_at "mine nz") => `(tactic| (refine' Mine.xne3 ?ltX; k_extra "m100"))
local macro_rules | `(tactic| walk_at "mine nz") => `(tactic| walk_at "mine ne0")
local macro_rules | `(tactic| k_ne) => `(tactic| k_extra "k k_ne")
local macro_rules | `(tactic| walk_at "call ref") => `(tactic| (k_extra "m101"; k_dflt (refine' Mine.draw_use ?k0 ?k1 ?k2 ?k3 ?k4 ?k5 ?k6 ?k7 ?k8 ?k9 ?ka ?kb ?kc ?kd ?_; k_extra "m102"); k_extra "m103"))
local macro_rules | `(tactic| walk_at "mine alls") => `(tactic| first | k_extra "m104" | (refine' List.forall_mem_cons.mpr ⟨?alA, ?alB⟩; k_extra "m105"))
local macro_rules | `(tactic| walk_at "mine allin") => `(tactic| first | k_extra "m106" | (refine' List.forall_mem_cons.mpr ⟨?aiA, ?aiB⟩; k_extra "m107") | k_extra "m108")
local macro_rules | `(tactic| tm_at "eq") => `(tactic| exact PyProof.Rows.v_eq_bool (PyProof.Rows.v_res rfl) PyProof.Rows.v_lit)
local macro_rules | `(tactic| walk_at $s:str) => `(tactic| k_extra $(Lean.quote ("mine " ++ s.getString)))
theorem Mine.draw_rule_ok : Mine.RDraw Mine.hp.heap_1 Mine.hp.view_1 := by
  intro w mean mg mb dp un gd cn cs a ccd cl outer A₀ base h₀ L m s Q E news x vs xs k t B F X N T hk hdp hun hm hI hl h0 h1 ret
  revert X
  k_fill
  intro X
  w_on
  (k_with "tree" => simp only [Mine.draw])
  refine wpAny_call ?_
  k_dflt cell_enter
  w_strict (repeat' (first | (k_unfold; (try dsimp only)) | (lge_end; wrow_closeG) | (k_end; kc_close) | walk1 | (dsimp only; walk1) | (leave1; (try dsimp only))))
  all_goals cb_end ret
theorem Mine.rest_rule_ok : Mine.RRest Mine.hp.heap_1 Mine.hp.view_1 := by
  intro w mean mg mb dp un gd cn cs a ccd cl outer A₀ base h₀ L m s Q E news x vs c xs place t B F X N T hk hd hu hm hI hl h0 h1 ret
  revert X
  k_fill
  intro X
  w_on
  refine wpAny_call ?_
  k_dflt cell_enter
  w_strict (repeat' (first | (k_unfold; (try dsimp only)) | (lge_end; wrow_closeG) | (k_end; kc_close) | walk1 | (dsimp only; walk1) | (leave1; (try dsimp only))))
  refine' ret _ _ _ _ _ ?re ?rI ?rl ?rF ?rN
  case rF => assumption
  case rN => exact Mine.news_drop1 (by assumption)
  case re => assumption
  case rI => l_ints
  case rl => exact Mine.lt_of_all (And.right (by with_reducible assumption))
theorem Mine.ring_T_ok : Mine.RRingT Mine.hp.heap_1 Mine.hp.view_1 := by
  intro w mean mg mb dp un gd cn cs a ccd cl outer A₀ base h₀ L m s Q E news D rg rd ys gs b c t3 t4 t5 t6 tn vq vz vf B F X N T hk hdp hun hb hr hrd hD hI hgs ret
  revert X
  k_fill
  intro X
  w_on
  subst hb
  refine wpAny_call ?_
  k_dflt (refine' kco_code ?k1 ?k2 ?k3 ?k4 ?k5 ?k6 ?_; (case k1 => k_in); (case k2 => k_inst); (case k3 => rfl); (case k4 => k_is); (case k5 => k_is); (case k6 => k_is); (try dsimp only))
  k_dflt (refine' code_def ?k1 ?k2 ?k3 ?k4 ?k5 ?kA ?kF ?kK ?k6 ?k7 ?k8 ?k9 ?kB ?_ ?c2 ?c3 ?c4 ?c5; (case kA => exact rfl); (case kF => exact rfl); (case kK => assumption); (case k1 => k_asm); (case k2 => k_asm); (case k3 => k_asm); (case k4 => k_asm); (case k5 => k_asm); (case k6 => k_is); (case k7 => k_is); (case k8 => k_room); (case k9 => first | exact BindsTo.of_eq rfl | exact binds_K (by k_in) rfl (by k_is) rfl rfl rfl); (case c5 => decide); (case kB => exact locs rfl); (case c2 => exact rfl); (case c3 => exact rfl); (case c4 => exact rfl); k_whole; intro g' L' h' FG' F' N' B' X' T'; (try dsimp only); (try k_lift B'); (try k_fold))
  w_strict (repeat' (first | (k_unfold; (try dsimp only)) | (lge_end; wrow_closeG) | (k_end; kc_close) | walk1 | (dsimp only; walk1) | (leave1; (try dsimp only))))
  refine' ret _ _ _ _ _ _ _ _ ?rq ?re ?rd ?rI ?rF ?rN
  case rF => assumption
  case rN => exact Mine.news_drop1 (by assumption)
  case rI => exact Mine.pad_made (by with_reducible assumption)
  case rd => exact And.left (And.right (by with_reducible assumption))
  case rq => assumption
  case re => assumption
theorem Mine.ring_F_ok : Mine.RRingF Mine.hp.heap_1 Mine.hp.view_1 := by
  intro w mean mg mb dp un gd cn cs a ccd cl outer A₀ base h₀ L m s Q E news D rg rd ys gs b c t3 t4 t5 t6 tn vq vz vf B F X N T hk hdp hun hb hr hrd hD hI hgs ret
  revert X
  k_fill
  intro X
  w_on
  subst hb
  refine wpAny_call ?_
  k_dflt (refine' kco_code ?k1 ?k2 ?k3 ?k4 ?k5 ?k6 ?_; (case k1 => k_in); (case k2 => k_inst); (case k3 => rfl); (case k4 => k_is); (case k5 => k_is); (case k6 => k_is); (try dsimp only))
  k_dflt (refine' code_def ?k1 ?k2 ?k3 ?k4 ?k5 ?kA ?kF ?kK ?k6 ?k7 ?k8 ?k9 ?kB ?_ ?c2 ?c3 ?c4 ?c5; (case kA => exact rfl); (case kF => exact rfl); (case kK => assumption); (case k1 => k_asm); (case k2 => k_asm); (case k3 => k_asm); (case k4 => k_asm); (case k5 => k_asm); (case k6 => k_is); (case k7 => k_is); (case k8 => k_room); (case k9 => first | exact BindsTo.of_eq rfl | exact binds_K (by k_in) rfl (by k_is) rfl rfl rfl); (case c5 => decide); (case kB => exact locs rfl); (case c2 => exact rfl); (case c3 => exact rfl); (case c4 => exact rfl); k_whole; intro g' L' h' FG' F' N' B' X' T'; (try dsimp only); (try k_lift B'); (try k_fold))
  w_strict (repeat' (first | (k_unfold; (try dsimp only)) | (lge_end; wrow_closeG) | (k_end; kc_close) | walk1 | (dsimp only; walk1) | (leave1; (try dsimp only))))
  refine' ret _ _ _ _ _ _ _ _ ?rq ?re ?rd ?rI ?rF ?rN
  case rF => assumption
  case rN => exact Mine.news_drop1 (by assumption)
  case rI => exact Mine.pad_made (by with_reducible assumption)
  case rd => exact And.left (And.right (by with_reducible assumption))
  case rq => assumption
  case re => assumption
theorem Mine.ring_T6_ok : Mine.RRingT6 Mine.hp.heap_1 Mine.hp.view_1 := by
  intro w mean mg mb dp un gd cn cs a ccd cl outer A₀ base h₀ L m s Q E news D rg rd ys gs b c t3 t4 t5 t6 tn vq vz vf B F X N T hk hdp hun hb hr hrd hD hI hgs ret
  revert X
  k_fill
  intro X
  w_on
  subst hb
  refine wpAny_call ?_
  k_dflt (refine' kco_code ?k1 ?k2 ?k3 ?k4 ?k5 ?k6 ?_; (case k1 => k_in); (case k2 => k_inst); (case k3 => rfl); (case k4 => k_is); (case k5 => k_is); (case k6 => k_is); (try dsimp only))
  k_dflt (refine' code_def ?k1 ?k2 ?k3 ?k4 ?k5 ?kA ?kF ?kK ?k6 ?k7 ?k8 ?k9 ?kB ?_ ?c2 ?c3 ?c4 ?c5; (case kA => exact rfl); (case kF => exact rfl); (case kK => assumption); (case k1 => k_asm); (case k2 => k_asm); (case k3 => k_asm); (case k4 => k_asm); (case k5 => k_asm); (case k6 => k_is); (case k7 => k_is); (case k8 => k_room); (case k9 => first | exact BindsTo.of_eq rfl | exact binds_K (by k_in) rfl (by k_is) rfl rfl rfl); (case c5 => decide); (case kB => exact locs rfl); (case c2 => exact rfl); (case c3 => exact rfl); (case c4 => exact rfl); k_whole; intro g' L' h' FG' F' N' B' X' T'; (try dsimp only); (try k_lift B'); (try k_fold))
  w_strict (repeat' (first | (k_unfold; (try dsimp only)) | (lge_end; wrow_closeG) | (k_end; kc_close) | walk1 | (dsimp only; walk1) | (leave1; (try dsimp only))))
  refine' ret _ _ _ _ _ _ ?rq ?re ?rF ?rN
  case rF => assumption
  case rN => assumption
  case rq => assumption
  case re => assumption
theorem Mine.ring_F6_ok : Mine.RRingF6 Mine.hp.heap_1 Mine.hp.view_1 := by
  intro w mean mg mb dp un gd cn cs a ccd cl outer A₀ base h₀ L m s Q E news D rg rd ys gs b c t3 t4 t5 t6 tn vq vz vf B F X N T hk hdp hun hb hr hrd hD hI hgs ret
  revert X
  k_fill
  intro X
  w_on
  subst hb
  refine wpAny_call ?_
  k_dflt (refine' kco_code ?k1 ?k2 ?k3 ?k4 ?k5 ?k6 ?_; (case k1 => k_in); (case k2 => k_inst); (case k3 => rfl); (case k4 => k_is); (case k5 => k_is); (case k6 => k_is); (try dsimp only))
  k_dflt (refine' code_def ?k1 ?k2 ?k3 ?k4 ?k5 ?kA ?kF ?kK ?k6 ?k7 ?k8 ?k9 ?kB ?_ ?c2 ?c3 ?c4 ?c5; (case kA => exact rfl); (case kF => exact rfl); (case kK => assumption); (case k1 => k_asm); (case k2 => k_asm); (case k3 => k_asm); (case k4 => k_asm); (case k5 => k_asm); (case k6 => k_is); (case k7 => k_is); (case k8 => k_room); (case k9 => first | exact BindsTo.of_eq rfl | exact binds_K (by k_in) rfl (by k_is) rfl rfl rfl); (case c5 => decide); (case kB => exact locs rfl); (case c2 => exact rfl); (case c3 => exact rfl); (case c4 => exact rfl); k_whole; intro g' L' h' FG' F' N' B' X' T'; (try dsimp only); (try k_lift B'); (try k_fold))
  w_strict (repeat' (first | (k_unfold; (try dsimp only)) | (lge_end; wrow_closeG) | (k_end; kc_close) | walk1 | (dsimp only; walk1) | (leave1; (try dsimp only))))
  refine' ret _ _ _ _ _ _ ?rq ?re ?rF ?rN
  case rF => assumption
  case rN => assumption
  case rq => assumption
  case re => assumption
theorem Mine.refused_T_ok : Mine.RRefT Mine.hp.heap_1  := by
  intro w p loose mean mg mb dp un gd cn cs a ccd cl A₀ base h₀ L m s Q E news x d t1 t2 v1 v2 b B F X N T hk XB TB hdp hun hb hx hd' ret
  revert X
  k_fill
  intro X
  w_on
  subst hb
  refine wpAny_call ?_
  k_dflt (refine' Mine.enter_try ?k1 ?k2 ?k3 ?k4 ?k5 ?kA ?kF ?kK ?k6 ?k7 ?k8 ?k9 ?kB ?_ ?c2 ?c3 ?c4 ?c5; (case kA => exact rfl); (case kF => exact rfl); (case kK => assumption); (case k1 => k_asm); (case k2 => k_asm); (case k3 => k_asm); (case k4 => k_asm); (case k5 => k_asm); (case k6 => k_is); (case k7 => k_is); (case k8 => k_room); (case k9 => first | exact BindsTo.of_eq rfl | exact binds_K (by k_in) rfl (by k_is) rfl rfl rfl); (case c5 => decide); (case kB => exact locs rfl); (case c2 => exact rfl); (case c3 => exact rfl); (case c4 => exact rfl); k_whole; intro g' L' h' FG' F' N' B' X' T' D'; (try dsimp only); (try k_lift B'); (try k_fold))
  w_strict (repeat' (first | (k_unfold; (try dsimp only)) | (lge_end; wrow_closeG) | (k_end; kc_close) | walk1 | (dsimp only; walk1) | (leave1; (try dsimp only))))
  exact ret _ _ (by assumption) (by assumption)
theorem Mine.refused_F_ok : Mine.RRefF Mine.hp.heap_1  := by
  intro w p loose mean mg mb dp un gd cn cs a ccd cl A₀ base h₀ L m s Q E news x d t1 t2 v1 v2 b B F X N T hk XB TB hdp hun hb hx hd' ret
  revert X
  k_fill
  intro X
  w_on
  subst hb
  refine wpAny_call ?_
  k_dflt (refine' Mine.enter_try ?k1 ?k2 ?k3 ?k4 ?k5 ?kA ?kF ?kK ?k6 ?k7 ?k8 ?k9 ?kB ?_ ?c2 ?c3 ?c4 ?c5; (case kA => exact rfl); (case kF => exact rfl); (case kK => assumption); (case k1 => k_asm); (case k2 => k_asm); (case k3 => k_asm); (case k4 => k_asm); (case k5 => k_asm); (case k6 => k_is); (case k7 => k_is); (case k8 => k_room); (case k9 => first | exact BindsTo.of_eq rfl | exact binds_K (by k_in) rfl (by k_is) rfl rfl rfl); (case c5 => decide); (case kB => exact locs rfl); (case c2 => exact rfl); (case c3 => exact rfl); (case c4 => exact rfl); k_whole; intro g' L' h' FG' F' N' B' X' T' D'; (try dsimp only); (try k_lift B'); (try k_fold))
  w_strict (repeat' (first | (k_unfold; (try dsimp only)) | (lge_end; wrow_closeG) | (k_end; kc_close) | walk1 | (dsimp only; walk1) | (leave1; (try dsimp only))))
  exact ret _ _ (by assumption) (by assumption)
theorem Mine.ntt_rule_ok : Mine.RNtt Mine.hp.heap_1 Mine.hp.view_1 := by
  intro w mean mg mb dp un gd cn cs a ccd cl outer A₀ base h₀ L m s Q E news x d rg rd zl ll vs zs c xs t1 t2 t3 t4 t5 t6 tn vq vf B F X N T hk hdp hun hx hd' hr hrd hz hzI hne hI hl ret
  revert X
  k_fill
  intro X
  w_on
  refine wpAny_call ?_
  k_dflt cell_enter
  w_strict (repeat' (first | (k_unfold; (try dsimp only)) | (lge_end; wrow_closeG) | (k_end; kc_close) | walk1 | (dsimp only; walk1) | (leave1; (try dsimp only))))
  (rename _ < _ ∧ _ < _ ∧ AllLt _ _ => z1)
  refine' ret _ _ _ _ _ _ _ _ _ _ _ _ ?rO ?r2 ?rm ?rl ?rI ?rq ?rc ?re ?rF ?rN
  case rF => assumption
  case rN => exact Mine.news_drop2 (by assumption)
  case rO => with_reducible assumption
  case r2 => with_reducible assumption
  case rm => with_reducible assumption
  case rl => with_reducible assumption
  case rI => with_reducible assumption
  case rq => exact Mine.lt_of_all z1.2.2
  case rc => exact z1.2.1
  case re => assumption
theorem Mine.intt_rule_ok : Mine.RInt Mine.hp.heap_1 Mine.hp.view_1 := by
  intro w mean mg mb dp un gd cn cs a ccd cl outer A₀ base h₀ L m s Q E news x d rg rd zl ll vs zs c xs t1 t2 t3 t4 t5 t6 tn vq tf B F X N T hk hdp hun hx hd' hr hrd hz hzI hne hI hl ret
  revert X
  k_fill
  intro X
  w_on
  refine wpAny_call ?_
  k_dflt cell_enter
  w_strict (repeat' (first | (k_unfold; (try dsimp only)) | (lge_end; wrow_closeG) | (k_end; kc_close) | walk1 | (dsimp only; walk1) | (leave1; (try dsimp only))))
  (rename _ < _ ∧ _ < _ ∧ AllLt _ _ => z1)
  refine' ret _ _ _ _ _ _ _ _ _ _ _ _ ?rO ?r2 ?rm ?rl ?rI ?rq ?rc ?re ?rF ?rN
  case rF => assumption
  case rN => exact Mine.news_drop2 (by assumption)
  case rO => with_reducible assumption
  case r2 => with_reducible assumption
  case rm => with_reducible assumption
  case rl => with_reducible assumption
  case rI => with_reducible assumption
  case rq => exact Mine.lt_of_all z1.2.2
  case rc => exact z1.2.1
  case re => assumption
noncomputable def Mine.tp : (T1 : Prop) ×' (T2 : Prop) ×' (T3 : Prop) ×' (T4 : Prop) ×' (T5 : Prop) ×' (Mine.Wrap T1 0 → Mine.Wrap T2 0 → Mine.Wrap T3 0 → Mine.Wrap T4 0 → Mine.Wrap T5 0 → Mine.hp.2.2.1) := by
  w_on
  exact ⟨_, _, _, _, _, fun t1 t2 t3 t4 t5 => by
    dsimp only [Mine.hp]
    w_strict (lge_go0; (all_goals try k_fold); (rename PySem.World => w9); (rename PySem.Shared => s9))
    refine' Mine.with_tail 14 (Mine.TailA w9 s9.heap s9.heap.objs.size s9 true) (Mine.TailA w9 s9.heap s9.heap.objs.size s9 false) (Mine.TailB w9 s9.heap s9.heap.objs.size s9 true) (Mine.TailB w9 s9.heap s9.heap.objs.size s9 false) ?a1 ?a2 ?a3 ?a4 ?a5
    (case a1 => (rename_i v1 v2 v3 v4 v5 v6 v7 v8 v9 v10 v11 v12 v13 v14 v15 v16 v17 v18 v19 v20 v21 v22 v23 v24 v25 v26 v27 v28 v29 v30 v31 v32 v33 v34 v35 v36 v37 v38 v39 v40 v41 v42 v43 v44 v45 v46 v47 v48 v49 v50 v51 v52 v53 v54 v55); (revert w9 s9 v1 v2 v3 v4 v5 v6 v7 v8 v9 v10 v11 v12 v13 v14 v15 v16 v17 v18 v19 v20 v21 v22 v23 v24 v25 v26 v27 v28 v29 v30 v31 v32 v33 v34 v35 v36 v37 v38 v39 v40 v41 v42 v43 v44 v45 v46 v47 v48 v49 v50 v51 v52 v53 v54 v55); exact t1.out)
    (case a2 => (rename_i v1 v2 v3 v4 v5 v6 v7 v8 v9 v10 v11 v12 v13 v14 v15 v16 v17 v18 v19 v20 v21 v22 v23 v24 v25 v26 v27 v28 v29 v30 v31 v32 v33 v34 v35 v36 v37 v38 v39 v40 v41 v42 v43 v44 v45 v46 v47 v48 v49 v50 v51 v52 v53 v54 v55); (revert w9 s9 v1 v2 v3 v4 v5 v6 v7 v8 v9 v10 v11 v12 v13 v14 v15 v16 v17 v18 v19 v20 v21 v22 v23 v24 v25 v26 v27 v28 v29 v30 v31 v32 v33 v34 v35 v36 v37 v38 v39 v40 v41 v42 v43 v44 v45 v46 v47 v48 v49 v50 v51 v52 v53 v54 v55); exact t2.out)
    (case a3 => (rename_i v1 v2 v3 v4 v5 v6 v7 v8 v9 v10 v11 v12 v13 v14 v15 v16 v17 v18 v19 v20 v21 v22 v23 v24 v25 v26 v27 v28 v29 v30 v31 v32 v33 v34 v35 v36 v37 v38 v39 v40 v41 v42 v43 v44 v45 v46 v47 v48 v49 v50 v51 v52 v53 v54 v55); (revert w9 s9 v1 v2 v3 v4 v5 v6 v7 v8 v9 v10 v11 v12 v13 v14 v15 v16 v17 v18 v19 v20 v21 v22 v23 v24 v25 v26 v27 v28 v29 v30 v31 v32 v33 v34 v35 v36 v37 v38 v39 v40 v41 v42 v43 v44 v45 v46 v47 v48 v49 v50 v51 v52 v53 v54 v55); exact t3.out)
    (case a4 => (rename_i v1 v2 v3 v4 v5 v6 v7 v8 v9 v10 v11 v12 v13 v14 v15 v16 v17 v18 v19 v20 v21 v22 v23 v24 v25 v26 v27 v28 v29 v30 v31 v32 v33 v34 v35 v36 v37 v38 v39 v40 v41 v42 v43 v44 v45 v46 v47 v48 v49 v50 v51 v52 v53 v54 v55); (revert w9 s9 v1 v2 v3 v4 v5 v6 v7 v8 v9 v10 v11 v12 v13 v14 v15 v16 v17 v18 v19 v20 v21 v22 v23 v24 v25 v26 v27 v28 v29 v30 v31 v32 v33 v34 v35 v36 v37 v38 v39 v40 v41 v42 v43 v44 v45 v46 v47 v48 v49 v50 v51 v52 v53 v54 v55); exact t4.out)
    (case a5 => (rename_i v1 v2 v3 v4 v5 v6 v7 v8 v9 v10 v11 v12 v13 v14 v15 v16 v17 v18 v19 v20 v21 v22 v23 v24 v25 v26 v27 v28 v29 v30 v31 v32 v33 v34 v35 v36 v37 v38 v39 v40 v41 v42 v43 v44 v45 v46 v47 v48 v49 v50 v51 v52 v53 v54 v55); (revert w9 s9 v1 v2 v3 v4 v5 v6 v7 v8 v9 v10 v11 v12 v13 v14 v15 v16 v17 v18 v19 v20 v21 v22 v23 v24 v25 v26 v27 v28 v29 v30 v31 v32 v33 v34 v35 v36 v37 v38 v39 v40 v41 v42 v43 v44 v45 v46 v47 v48 v49 v50 v51 v52 v53 v54 v55); exact t5.out)⟩
theorem Mine.tail1 : Mine.tp.1 := by
  intro w9
  k_fill
  intros
  rename Mine.TailA _ _ _ _ _ _ => hA
  (rename Fr _ _ _ _ => Fz)
  (rename News _ _ _ _ => Nz)
  clear Nz Fz
  w_on
  obtain ⟨nl, b, Cf, Ch, hx, hd, fx, fd, gx, gd, cf, cg, rg, rd, wl, tl, kl, sl, cs, gs, vs, wv, tv, kv, sv, q1, q2, q3, q4, q5, q6, tq, c3, c4, vn, tn, ck, ts, ws, spot, mB, place, number, many, t1, t2, t3, t4, gl, gv, gw, c, cgl, h, tk, rfl, C, F1, N1, hmany, hgs, hgl, hIg, hcg, hIw, uv⟩ := hA
  obtain ⟨ncf, nfd, cfd, hh, hhd, hf, hg', hgd, hr', hrd, hw, ht, hk, hsl, Iw, It, Ik, Is, Iv, e, len, rng, cls, sp0, sp1⟩ := C
  (replace cfd := neN cfd)
  unfold Mine.TailM at F1
  rcases cls with ⟨rfl, rfl, rfl⟩ | ⟨hxx, _, _⟩
  rotate_left
  · exact absurd (uv.symm.trans hxx) (by decide)
  clear uv
  (try dsimp only [List.drop])
  (try k_fold)
  w_strict (iterate 50 focus (first | (k_unfold; (try dsimp only)) | (lge_end; wrow_closeG) | (k_end; kc_close) | walk1 | (dsimp only; walk1) | (leave1; (try dsimp only))))
  all_goals ((with_reducible rename Fr _ _ _ _ => gF9'); (rename Glob _ _ _ _ _ _ _ _ => gl9); (refine' (fun lgeK' => ?_) (LGeL.in_regrown gF9' ?rX1 ?rT1 ?rB1 ?rk1)); (case rX1 => assumption); (case rT1 => lge_topk); (case rB1 => assumption); (case rk1 => rfl); (refine' (fun lgeT0 => ?_) (Mine.top_regrown0 gF9' ?rT2 ?rB2 gl9.seer)); (case rT2 => assumption); (case rB2 => assumption); (have lgeB0 := LGeL.below_at gF9'))
  w_strict (repeat' (first | (k_unfold; (try dsimp only)) | (lge_end; wrow_closeG) | (k_end; kc_close) | walk1 | (dsimp only; walk1) | (leave1; (try dsimp only))))
theorem Mine.tail2 : Mine.tp.2.1 := by
  intro w9
  k_fill
  intros
  rename Mine.TailA _ _ _ _ _ _ => hA
  (rename Fr _ _ _ _ => Fz)
  (rename News _ _ _ _ => Nz)
  clear Nz Fz
  w_on
  obtain ⟨nl, b, Cf, Ch, hx, hd, fx, fd, gx, gd, cf, cg, rg, rd, wl, tl, kl, sl, cs, gs, vs, wv, tv, kv, sv, q1, q2, q3, q4, q5, q6, tq, c3, c4, vn, tn, ck, ts, ws, spot, mB, place, number, many, t1, t2, t3, t4, gl, gv, gw, c, cgl, h, tk, rfl, C, F1, N1, hmany, hgs, hgl, hIg, hcg, hIw, uv⟩ := hA
  obtain ⟨ncf, nfd, cfd, hh, hhd, hf, hg', hgd, hr', hrd, hw, ht, hk, hsl, Iw, It, Ik, Is, Iv, e, len, rng, cls, sp0, sp1⟩ := C
  (replace cfd := neN cfd)
  unfold Mine.TailM at F1
  rcases cls with ⟨hxx, _, _⟩ | ⟨rfl, rfl, rfl⟩
  · exact absurd (uv.symm.trans hxx) (by decide)
  clear uv
  (try dsimp only [List.drop])
  (try k_fold)
  w_strict (iterate 50 focus (first | (k_unfold; (try dsimp only)) | (lge_end; wrow_closeG) | (k_end; kc_close) | walk1 | (dsimp only; walk1) | (leave1; (try dsimp only))))
  all_goals ((with_reducible rename Fr _ _ _ _ => gF9'); (rename Glob _ _ _ _ _ _ _ _ => gl9); (refine' (fun lgeK' => ?_) (LGeL.in_regrown gF9' ?rX1 ?rT1 ?rB1 ?rk1)); (case rX1 => assumption); (case rT1 => lge_topk); (case rB1 => assumption); (case rk1 => rfl); (refine' (fun lgeT0 => ?_) (Mine.top_regrown0 gF9' ?rT2 ?rB2 gl9.seer)); (case rT2 => assumption); (case rB2 => assumption); (have lgeB0 := LGeL.below_at gF9'))
  w_strict (repeat' (first | (k_unfold; (try dsimp only)) | (lge_end; wrow_closeG) | (k_end; kc_close) | walk1 | (dsimp only; walk1) | (leave1; (try dsimp only))))
theorem Mine.tail3 : Mine.tp.2.2.1 := by
  intro w9
  k_fill
  intros
  rename Mine.TailB _ _ _ _ _ _ => hA
  (rename Fr _ _ _ _ => Fz)
  (rename News _ _ _ _ => Nz)
  clear Nz Fz
  w_on
  obtain ⟨nl, b, Cf, Ch, hx, hd, fx, fd, gx, gd, cf, rg, rd, wl, tl, kl, sl, cs, gs, vs, wv, tv, kv, sv, q1, q2, q3, q4, q5, q6, tq, c3, c4, vn, tn, ck, ts, ws, spot, mB, place, number, t1, t2, t3, t4, c, h, tk, rfl, C, F1, N1, hgs, uv⟩ := hA
  obtain ⟨ncf, nfd, cfd, hh, hhd, hf, hg', hgd, hr', hrd, hw, ht, hk, hsl, Iw, It, Ik, Is, Iv, e, len, rng, cls, sp0, sp1⟩ := C
  (replace cfd := neN cfd)
  unfold Mine.TailM at F1
  rcases cls with ⟨rfl, rfl, rfl⟩ | ⟨hxx, _, _⟩
  rotate_left
  · exact absurd (uv.symm.trans hxx) (by decide)
  clear uv
  (try dsimp only [List.drop])
  (try k_fold)
  w_strict (iterate 50 focus (first | (k_unfold; (try dsimp only)) | (lge_end; wrow_closeG) | (k_end; kc_close) | walk1 | (dsimp only; walk1) | (leave1; (try dsimp only))))
  all_goals ((with_reducible rename Fr _ _ _ _ => gF9'); (rename Glob _ _ _ _ _ _ _ _ => gl9); (refine' (fun lgeK' => ?_) (LGeL.in_regrown gF9' ?rX1 ?rT1 ?rB1 ?rk1)); (case rX1 => assumption); (case rT1 => lge_topk); (case rB1 => assumption); (case rk1 => rfl); (refine' (fun lgeT0 => ?_) (Mine.top_regrown0 gF9' ?rT2 ?rB2 gl9.seer)); (case rT2 => assumption); (case rB2 => assumption); (have lgeB0 := LGeL.below_at gF9'))
  w_strict (repeat' (first | (k_unfold; (try dsimp only)) | (lge_end; wrow_closeG) | (k_end; kc_close) | walk1 | (dsimp only; walk1) | (leave1; (try dsimp only))))
theorem Mine.tail4 : Mine.tp.2.2.2.1 := by
  intro w9
  k_fill
  intros
  rename Mine.TailB _ _ _ _ _ _ => hA
  (rename Fr _ _ _ _ => Fz)
  (rename News _ _ _ _ => Nz)
  clear Nz Fz
  w_on
  obtain ⟨nl, b, Cf, Ch, hx, hd, fx, fd, gx, gd, cf, rg, rd, wl, tl, kl, sl, cs, gs, vs, wv, tv, kv, sv, q1, q2, q3, q4, q5, q6, tq, c3, c4, vn, tn, ck, ts, ws, spot, mB, place, number, t1, t2, t3, t4, c, h, tk, rfl, C, F1, N1, hgs, uv⟩ := hA
  obtain ⟨ncf, nfd, cfd, hh, hhd, hf, hg', hgd, hr', hrd, hw, ht, hk, hsl, Iw, It, Ik, Is, Iv, e, len, rng, cls, sp0, sp1⟩ := C
  (replace cfd := neN cfd)
  unfold Mine.TailM at F1
  rcases cls with ⟨hxx, _, _⟩ | ⟨rfl, rfl, rfl⟩
  · exact absurd (uv.symm.trans hxx) (by decide)
  clear uv
  (try dsimp only [List.drop])
  (try k_fold)
  w_strict (iterate 50 focus (first | (k_unfold; (try dsimp only)) | (lge_end; wrow_closeG) | (k_end; kc_close) | walk1 | (dsimp only; walk1) | (leave1; (try dsimp only))))
  all_goals ((with_reducible rename Fr _ _ _ _ => gF9'); (rename Glob _ _ _ _ _ _ _ _ => gl9); (refine' (fun lgeK' => ?_) (LGeL.in_regrown gF9' ?rX1 ?rT1 ?rB1 ?rk1)); (case rX1 => assumption); (case rT1 => lge_topk); (case rB1 => assumption); (case rk1 => rfl); (refine' (fun lgeT0 => ?_) (Mine.top_regrown0 gF9' ?rT2 ?rB2 gl9.seer)); (case rT2 => assumption); (case rB2 => assumption); (have lgeB0 := LGeL.below_at gF9'))
  w_strict (repeat' (first | (k_unfold; (try dsimp only)) | (lge_end; wrow_closeG) | (k_end; kc_close) | walk1 | (dsimp only; walk1) | (leave1; (try dsimp only))))
theorem Mine.front : Mine.tp.2.2.2.2.1 := by
  intro w9
  k_fill
  intros
  rename ∀ _, _ ∨ _ → _ => tail
  w_on
  w_strict (iterate 136 focus (first | (k_unfold; (try dsimp only)) | (lge_end; wrow_closeG) | (k_end; kc_close) | walk1 | (dsimp only; walk1) | (leave1; (try dsimp only))))
  rename IntsAre _ (List.map _ (rangeKs 0 ((128 : Int) - 0).toNat)) => hz
  rename _ = (List.map _ (rangeKs 0 ((128 : Int) - 0).toNat)).length => hzl
  rw [Mine.zs_eq] at hz
  clear hzl
  (k_with "binaryOp Mod int int" => ((fail_if_success (with_reducible show wpAny _ _ (PySem.binaryOp _ _ (Value.int 3329 _)) _ _ _)); refine Mine.mod_fact (by decide) ?_; intro hm1 hm2))
  w_strict (iterate 147 focus (first | (k_unfold; (try dsimp only)) | (lge_end; wrow_closeG) | (k_end; kc_close) | walk1 | (dsimp only; walk1) | (leave1; (try dsimp only))))
  rotate_left
  w_strict (iterate 82 focus (first | (k_unfold; (try dsimp only)) | (lge_end; wrow_closeG) | (k_end; kc_close) | walk1 | (dsimp only; walk1) | (leave1; (try dsimp only))))
  rotate_left
  · as_aux_lemma =>
      (rename News _ _ _ _ => N0)
      (replace N0 := Mine.news_prune N0)
      (rename Fr _ _ _ _ => F0)
      (replace F0 := Mine.dup5 F0)
      (rename IntsAre _ (List.map _ (rangeKs 0 _)) => hI8)
      (rename _ = (List.map _ (rangeKs 0 _)).length => hL8)
      (clear hL8)
      (replace hI8 := Mine.given_of hI8 (by omega))
      (obtain ⟨gs, hgl, hgI⟩ := hI8)
      (have hgs : (gs.length : Int) < 256 := by omega)
      (have hpl := Mine.pad_len' hgs)
      w_strict (iterate 28 focus (first | (k_unfold; (try dsimp only)) | (lge_end; wrow_closeG) | (k_end; kc_close) | walk1 | (dsimp only; walk1) | (leave1; (try dsimp only))))
      (rename IntsAre _ (_ ++ (List.replicate _ [(0 : Int)]).flatten) => hs)
      (replace hs := Mine.pad_start hs (by omega) (by omega))
      (rename Fr _ _ _ _ => F0)
      refine' Mine.split_back F0 rfl (fun hb9 => ?_) (fun hb9 => ?_)
      · as_aux_lemma =>
          w_strict (iterate 30 focus (first | (k_unfold; (try dsimp only)) | (lge_end; wrow_closeG) | (k_end; kc_close) | walk1 | (dsimp only; walk1) | (leave1; (try dsimp only))))
          (rename News _ _ _ _ => N0)
          (replace N0 := Mine.pick35 N0)
          w_strict (iterate 83 focus (first | (k_unfold; (try dsimp only)) | (lge_end; wrow_closeG) | (k_end; kc_close) | walk1 | (dsimp only; walk1) | (leave1; (try dsimp only))))
          w_strict (first | (k_unfold; (try dsimp only)) | (lge_end; wrow_closeG) | (k_end; kc_close) | walk1 | (dsimp only; walk1) | (leave1; (try dsimp only)))
          w_strict (first | (k_unfold; (try dsimp only)) | (lge_end; wrow_closeG) | (k_end; kc_close) | walk1 | (dsimp only; walk1) | (leave1; (try dsimp only)))
          (rename News _ _ _ _ => N0)
          (replace N0 := Mine.pick45 N0)
          w_strict (have hlaw := Mine.inv_law (by with_reducible assumption) (by with_reducible assumption) (by with_reducible assumption) (by with_reducible assumption) (by with_reducible assumption) (by with_reducible assumption) (by with_reducible assumption) )
          w_strict (obtain ⟨⟨ht1, ht2⟩, hall⟩ := hlaw)
          w_strict (have hte := Mine.two_eq ht1 ht2)
          w_strict (rename News _ _ _ _ => N0)
          w_strict (rename Fr _ _ _ _ => F0)
          refine' tail _ (Or.inl (Or.inl ?tq1))
          refine' Mine.tailA_intro ?Fq1 ?Nq1 ?Cq1 ?h1q1 ?h2q1 ?h3q1 ?h4q1 ?h5q1 ?h6q1 ?hvq1
          w_strict (case Fq1 => with_unfolding_all exact F0)
          w_strict (case hvq1 => exact hb9)
          w_strict (case Nq1 => exact N0)
          w_strict (case' Cq1 => refine' Mine.TailC.mk ?ncfq1 ?nfdq1 ?cfdq1 ?hhq1 ?hhdq1 ?hfq1 ?hgq1 ?hgdq1 ?hrq1 ?hrdq1 ?hwq1 ?htq1 ?hkq1 ?hsq1 ?Iwq1 ?Itq1 ?Ikq1 ?Isq1 ?Ivq1 ?eq1 ?lenq1 ?rngq1 ?clsq1 ?sp0q1 ?sp1q1)
          w_strict (case hhq1 => k_mem)
          w_strict (case hhdq1 => k_mem)
          w_strict (case hfq1 => k_mem)
          w_strict (case hgq1 => k_mem)
          w_strict (case hgdq1 => k_mem)
          w_strict (case hrq1 => k_mem)
          w_strict (case hrdq1 => k_mem)
          w_strict (case hwq1 => k_mem)
          w_strict (case htq1 => k_mem)
          w_strict (case hkq1 => k_mem)
          w_strict (case hsq1 => k_mem)
          w_strict (case h3q1 => k_mem)
          w_strict (case h5q1 => k_mem)
          w_strict (case Iwq1 => walk_at "mine ints")
          w_strict (case Itq1 => walk_at "mine ints")
          w_strict (case Ikq1 => walk_at "mine ints")
          w_strict (case Isq1 => with_reducible assumption)
          w_strict (case Ivq1 => with_reducible assumption)
          w_strict (case eq1 => exact hte)
          w_strict (case lenq1 => with_reducible assumption)
          w_strict (case rngq1 => exact hall)
          w_strict (case clsq1 => first | exact Or.inl ⟨hb9, rfl, rfl⟩ | exact Or.inr ⟨hb9, rfl, rfl⟩)
          w_strict (case sp0q1 => with_reducible assumption)
          w_strict (case sp1q1 => with_reducible assumption)
          w_strict (case h1q1 => with_reducible assumption)
          w_strict (case h2q1 => with_reducible assumption)
          w_strict (case h4q1 => with_reducible assumption)
          w_strict (case h6q1 => with_reducible assumption)
          w_strict (case cfdq1 => k_ne)
          w_strict (case ncfq1 => k_all)
          w_strict (case nfdq1 => k_all)
      · as_aux_lemma =>
          w_strict (iterate 30 focus (first | (k_unfold; (try dsimp only)) | (lge_end; wrow_closeG) | (k_end; kc_close) | walk1 | (dsimp only; walk1) | (leave1; (try dsimp only))))
          (rename News _ _ _ _ => N0)
          (replace N0 := Mine.pick35 N0)
          w_strict (iterate 78 focus (first | (k_unfold; (try dsimp only)) | (lge_end; wrow_closeG) | (k_end; kc_close) | walk1 | (dsimp only; walk1) | (leave1; (try dsimp only))))
          w_strict (first | (k_unfold; (try dsimp only)) | (lge_end; wrow_closeG) | (k_end; kc_close) | walk1 | (dsimp only; walk1) | (leave1; (try dsimp only)))
          w_strict (first | (k_unfold; (try dsimp only)) | (lge_end; wrow_closeG) | (k_end; kc_close) | walk1 | (dsimp only; walk1) | (leave1; (try dsimp only)))
          w_strict (first | (k_unfold; (try dsimp only)) | (lge_end; wrow_closeG) | (k_end; kc_close) | walk1 | (dsimp only; walk1) | (leave1; (try dsimp only)))
          (rename News _ _ _ _ => N0)
          (replace N0 := Mine.pick45 N0)
          w_strict (have hlaw := Mine.fwd_law (by with_reducible assumption) (by with_reducible assumption) (by with_reducible assumption) (by with_reducible assumption) (by with_reducible assumption) (by with_reducible assumption) (by with_reducible assumption) )
          w_strict (obtain ⟨⟨ht1, ht2⟩, hall⟩ := hlaw)
          w_strict (have hte := Mine.two_eq ht1 ht2)
          w_strict (rename News _ _ _ _ => N0)
          w_strict (rename Fr _ _ _ _ => F0)
          refine' tail _ (Or.inl (Or.inr ?tq2))
          refine' Mine.tailA_intro ?Fq2 ?Nq2 ?Cq2 ?h1q2 ?h2q2 ?h3q2 ?h4q2 ?h5q2 ?h6q2 ?hvq2
          w_strict (case Fq2 => with_unfolding_all exact F0)
          w_strict (case hvq2 => exact hb9)
          w_strict (case Nq2 => exact N0)
          w_strict (case' Cq2 => refine' Mine.TailC.mk ?ncfq2 ?nfdq2 ?cfdq2 ?hhq2 ?hhdq2 ?hfq2 ?hgq2 ?hgdq2 ?hrq2 ?hrdq2 ?hwq2 ?htq2 ?hkq2 ?hsq2 ?Iwq2 ?Itq2 ?Ikq2 ?Isq2 ?Ivq2 ?eq2 ?lenq2 ?rngq2 ?clsq2 ?sp0q2 ?sp1q2)
          w_strict (case hhq2 => k_mem)
          w_strict (case hhdq2 => k_mem)
          w_strict (case hfq2 => k_mem)
          w_strict (case hgq2 => k_mem)
          w_strict (case hgdq2 => k_mem)
          w_strict (case hrq2 => k_mem)
          w_strict (case hrdq2 => k_mem)
          w_strict (case hwq2 => k_mem)
          w_strict (case htq2 => k_mem)
          w_strict (case hkq2 => k_mem)
          w_strict (case hsq2 => k_mem)
          w_strict (case h3q2 => k_mem)
          w_strict (case h5q2 => k_mem)
          w_strict (case Iwq2 => walk_at "mine ints")
          w_strict (case Itq2 => walk_at "mine ints")
          w_strict (case Ikq2 => walk_at "mine ints")
          w_strict (case Isq2 => with_reducible assumption)
          w_strict (case Ivq2 => with_reducible assumption)
          w_strict (case eq2 => exact hte)
          w_strict (case lenq2 => with_reducible assumption)
          w_strict (case rngq2 => exact hall)
          w_strict (case clsq2 => first | exact Or.inl ⟨hb9, rfl, rfl⟩ | exact Or.inr ⟨hb9, rfl, rfl⟩)
          w_strict (case sp0q2 => with_reducible assumption)
          w_strict (case sp1q2 => with_reducible assumption)
          w_strict (case h1q2 => with_reducible assumption)
          w_strict (case h2q2 => with_reducible assumption)
          w_strict (case h4q2 => with_reducible assumption)
          w_strict (case h6q2 => with_reducible assumption)
          w_strict (case cfdq2 => k_ne)
          w_strict (case ncfq2 => k_all)
          w_strict (case nfdq2 => k_all)
  · as_aux_lemma =>
      (rename News _ _ _ _ => N0)
      (replace N0 := Mine.news_prune N0)
      (rename IntsAre _ (List.map _ (rangeKs 0 _)) => hI8)
      (rename _ = (List.map _ (rangeKs 0 _)).length => hL8)
      (clear hL8)
      (replace hI8 := Mine.given_of hI8 (by omega))
      (obtain ⟨gs, hgl, hgI⟩ := hI8)
      (have hg6 : gs.length = 256 := by omega)
      w_strict (iterate 28 focus (first | (k_unfold; (try dsimp only)) | (lge_end; wrow_closeG) | (k_end; kc_close) | walk1 | (dsimp only; walk1) | (leave1; (try dsimp only))))
      (rename IntsAre _ (_ ++ (List.replicate _ [(0 : Int)]).flatten) => hs)
      (replace hs := Mine.pad_start6 hs (by omega))
      (rename Fr _ _ _ _ => F0)
      refine' Mine.split_back F0 rfl (fun hb9 => ?_) (fun hb9 => ?_)
      · as_aux_lemma =>
          w_strict (iterate 30 focus (first | (k_unfold; (try dsimp only)) | (lge_end; wrow_closeG) | (k_end; kc_close) | walk1 | (dsimp only; walk1) | (leave1; (try dsimp only))))
          (rename News _ _ _ _ => N0)
          (replace N0 := Mine.pick83 N0)
          w_strict (iterate 83 focus (first | (k_unfold; (try dsimp only)) | (lge_end; wrow_closeG) | (k_end; kc_close) | walk1 | (dsimp only; walk1) | (leave1; (try dsimp only))))
          w_strict (first | (k_unfold; (try dsimp only)) | (lge_end; wrow_closeG) | (k_end; kc_close) | walk1 | (dsimp only; walk1) | (leave1; (try dsimp only)))
          w_strict (first | (k_unfold; (try dsimp only)) | (lge_end; wrow_closeG) | (k_end; kc_close) | walk1 | (dsimp only; walk1) | (leave1; (try dsimp only)))
          (rename News _ _ _ _ => N0)
          (replace N0 := Mine.pick45 N0)
          w_strict (have hlaw := Mine.inv_law (by with_reducible assumption) (by with_reducible assumption) (by with_reducible assumption) (by with_reducible assumption) (by with_reducible assumption) (by with_reducible assumption) (by with_reducible assumption) )
          w_strict (obtain ⟨⟨ht1, ht2⟩, hall⟩ := hlaw)
          w_strict (have hte := Mine.two_eq ht1 ht2)
          w_strict (rename News _ _ _ _ => N0)
          w_strict (rename Fr _ _ _ _ => F0)
          refine' tail _ (Or.inr (Or.inl ?tq3))
          refine' Mine.tailB_intro ?Fq3 ?Nq3 ?Cq3 ?h2q3 ?hvq3
          w_strict (case Fq3 => with_unfolding_all exact F0)
          w_strict (case hvq3 => exact hb9)
          w_strict (case Nq3 => exact N0)
          w_strict (case' Cq3 => refine' Mine.TailC.mk ?ncfq3 ?nfdq3 ?cfdq3 ?hhq3 ?hhdq3 ?hfq3 ?hgq3 ?hgdq3 ?hrq3 ?hrdq3 ?hwq3 ?htq3 ?hkq3 ?hsq3 ?Iwq3 ?Itq3 ?Ikq3 ?Isq3 ?Ivq3 ?eq3 ?lenq3 ?rngq3 ?clsq3 ?sp0q3 ?sp1q3)
          w_strict (case hhq3 => k_mem)
          w_strict (case hhdq3 => k_mem)
          w_strict (case hfq3 => k_mem)
          w_strict (case hgq3 => k_mem)
          w_strict (case hgdq3 => k_mem)
          w_strict (case hrq3 => k_mem)
          w_strict (case hrdq3 => k_mem)
          w_strict (case hwq3 => k_mem)
          w_strict (case htq3 => k_mem)
          w_strict (case hkq3 => k_mem)
          w_strict (case hsq3 => k_mem)
          w_strict (case Iwq3 => walk_at "mine ints")
          w_strict (case Itq3 => walk_at "mine ints")
          w_strict (case Ikq3 => walk_at "mine ints")
          w_strict (case Isq3 => rw [Mine.pad_self (by with_reducible assumption)]; with_reducible assumption)
          w_strict (case Ivq3 => with_reducible assumption)
          w_strict (case eq3 => exact hte)
          w_strict (case lenq3 => with_reducible assumption)
          w_strict (case rngq3 => exact hall)
          w_strict (case clsq3 => first | exact Or.inl ⟨hb9, rfl, rfl⟩ | exact Or.inr ⟨hb9, rfl, rfl⟩)
          w_strict (case sp0q3 => with_reducible assumption)
          w_strict (case sp1q3 => with_reducible assumption)
          w_strict (case h2q3 => with_reducible assumption)
          w_strict (case cfdq3 => k_ne)
          w_strict (case ncfq3 => k_all)
          w_strict (case nfdq3 => k_all)
      · as_aux_lemma =>
          w_strict (iterate 30 focus (first | (k_unfold; (try dsimp only)) | (lge_end; wrow_closeG) | (k_end; kc_close) | walk1 | (dsimp only; walk1) | (leave1; (try dsimp only))))
          (rename News _ _ _ _ => N0)
          (replace N0 := Mine.pick83 N0)
          w_strict (iterate 78 focus (first | (k_unfold; (try dsimp only)) | (lge_end; wrow_closeG) | (k_end; kc_close) | walk1 | (dsimp only; walk1) | (leave1; (try dsimp only))))
          w_strict (first | (k_unfold; (try dsimp only)) | (lge_end; wrow_closeG) | (k_end; kc_close) | walk1 | (dsimp only; walk1) | (leave1; (try dsimp only)))
          w_strict (first | (k_unfold; (try dsimp only)) | (lge_end; wrow_closeG) | (k_end; kc_close) | walk1 | (dsimp only; walk1) | (leave1; (try dsimp only)))
          w_strict (first | (k_unfold; (try dsimp only)) | (lge_end; wrow_closeG) | (k_end; kc_close) | walk1 | (dsimp only; walk1) | (leave1; (try dsimp only)))
          (rename News _ _ _ _ => N0)
          (replace N0 := Mine.pick45 N0)
          w_strict (have hlaw := Mine.fwd_law (by with_reducible assumption) (by with_reducible assumption) (by with_reducible assumption) (by with_reducible assumption) (by with_reducible assumption) (by with_reducible assumption) (by with_reducible assumption) )
          w_strict (obtain ⟨⟨ht1, ht2⟩, hall⟩ := hlaw)
          w_strict (have hte := Mine.two_eq ht1 ht2)
          w_strict (rename News _ _ _ _ => N0)
          w_strict (rename Fr _ _ _ _ => F0)
          refine' tail _ (Or.inr (Or.inr ?tq4))
          refine' Mine.tailB_intro ?Fq4 ?Nq4 ?Cq4 ?h2q4 ?hvq4
          w_strict (case Fq4 => with_unfolding_all exact F0)
          w_strict (case hvq4 => exact hb9)
          w_strict (case Nq4 => exact N0)
          w_strict (case' Cq4 => refine' Mine.TailC.mk ?ncfq4 ?nfdq4 ?cfdq4 ?hhq4 ?hhdq4 ?hfq4 ?hgq4 ?hgdq4 ?hrq4 ?hrdq4 ?hwq4 ?htq4 ?hkq4 ?hsq4 ?Iwq4 ?Itq4 ?Ikq4 ?Isq4 ?Ivq4 ?eq4 ?lenq4 ?rngq4 ?clsq4 ?sp0q4 ?sp1q4)
          w_strict (case hhq4 => k_mem)
          w_strict (case hhdq4 => k_mem)
          w_strict (case hfq4 => k_mem)
          w_strict (case hgq4 => k_mem)
          w_strict (case hgdq4 => k_mem)
          w_strict (case hrq4 => k_mem)
          w_strict (case hrdq4 => k_mem)
          w_strict (case hwq4 => k_mem)
          w_strict (case htq4 => k_mem)
          w_strict (case hkq4 => k_mem)
          w_strict (case hsq4 => k_mem)
          w_strict (case Iwq4 => walk_at "mine ints")
          w_strict (case Itq4 => walk_at "mine ints")
          w_strict (case Ikq4 => walk_at "mine ints")
          w_strict (case Isq4 => rw [Mine.pad_self (by with_reducible assumption)]; with_reducible assumption)
          w_strict (case Ivq4 => with_reducible assumption)
          w_strict (case eq4 => exact hte)
          w_strict (case lenq4 => with_reducible assumption)
          w_strict (case rngq4 => exact hall)
          w_strict (case clsq4 => first | exact Or.inl ⟨hb9, rfl, rfl⟩ | exact Or.inr ⟨hb9, rfl, rfl⟩)
          w_strict (case sp0q4 => with_reducible assumption)
          w_strict (case sp1q4 => with_reducible assumption)
          w_strict (case h2q4 => with_reducible assumption)
          w_strict (case cfdq4 => k_ne)
          w_strict (case ncfq4 => k_all)
          w_strict (case nfdq4 => k_all)
theorem Mine.walk : Mine.hp.2.2.1 := Mine.tp.2.2.2.2.2 ⟨Mine.tail1⟩ ⟨Mine.tail2⟩ ⟨Mine.tail3⟩ ⟨Mine.tail4⟩ ⟨Mine.front⟩
set_option Elab.async true
theorem Mine.main : PySem.Challenge.rw_yi0063_01.Holds := by
  w_on
  o_law
  k_head
  (case hw => w_witness2)
  exact Mine.walk
set_option Elab.async false
theorem PySem.Challenge.cw_yi0063_01_holds : PySem.Challenge.rw_yi0063_01.Holds := by
  exact Mine.main
