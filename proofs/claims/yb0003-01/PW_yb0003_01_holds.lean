import PyProof.Rows.All
import Wide.All
import OpenK.AllK
import Wide.FinOn
import PySem.Challenge.RW_yb0003_01
set_option Elab.async false
set_option maxRecDepth 100000

/-! Hd3 -/
section
open PySem PySem.W PySem.Calls PyProof.Rows
set_option Elab.async false
set_option maxRecDepth 100000
set_option maxHeartbeats 0
namespace Mine
/-! ## the head: the top's run over a tree of objects, in one check -/
def topT (tb : String → Option Builtin) (p : Program) (w : World) (n₀ : Nat) (ann : Option Value) : Nat → SharedT → Thread → Option SharedT
  | 0, _, _ => none
  | n + 1, s, t => match through t with
    | true => some s
    | false => match stepOk n₀ ann t with
      | false => none
      | true => match stepT (denote tb) p w s t with
        | some (s', t') => topT tb p w n₀ ann n s' t'
        | none => none
theorem topT_of {tb : String → Option Builtin} {p : Program} {w : World} {n₀ : Nat} {ann : Option Value} : ∀ {n : Nat} {s s' : SharedT} {t : Thread}, topT tb p w n₀ ann n s t = some s' → topRun tb p w n₀ ann n s.abs t = some s'.abs
  | 0, _, _, _, h => by cases h
  | n + 1, s, s', t, h => by
    unfold topT at h
    unfold topRun
    cases he : through t with
    | true => rw [he] at h; cases h; rfl
    | false =>
      rw [he] at h
      cases hk : stepOk n₀ ann t with
      | false => rw [hk] at h; cases h
      | true =>
        rw [hk] at h
        cases hs : stepT (denote tb) p w s t with
        | none => rw [hs] at h; cases h
        | some r => obtain ⟨s₂, t₂⟩ := r; rw [hs] at h; rw [stepT_spec hs]; exact topT_of h
def treeOf : Nat → BT → List Obj → BT
  | _, t, [] => t
  | n, t, o :: r => treeOf (n + 1) (t.ins n o) r
noncomputable def bootT (P : Params) : SharedT := ⟨treeOf 0 .nil (boot_heap P).objs.toList, (boot_heap P).objs.size, (boot_heap P).life, Array.mk [], boot_drawn, boot_toks, default⟩
theorem bootT_abs (P : Params) (os : OsState) : ({ bootT P with os := os } : SharedT).abs = ⟨boot_heap P, Array.mk [], boot_drawn, boot_toks, os⟩ := by kernel_rfl
theorem left_tree {p q : Program} {loose : List Str} {Xt : Shared → Bool} {α : Type} {Yf : Shared → α} {Ya : World → α} {N m₀ : Nat} {ann : Option Value} (e : opening p = plainProg p.main.scope.names) (hN : Nat.ble 600 N = true) (f : ∀ s, fenceModules? p s = some s)
    (size : ∀ P : Params, ((boot_heap P).isNs mainGlobals, (boot_heap P).objs.size, (boot_heap P).nsMap mainGlobals "__annotations__") = (true, m₀, ann))
    (h1 : ∀ w : World, (fun os : OsState => (topT treeTable p w m₀ ann N { bootT w.params with os := os } (topStub p)).map (fun s =>
      ((staticsOk (importedModules p.main.body) (boot_heap w.params) s.abs.heap && namesBound p s.abs.heap && gensDone s.abs && laidKept (boot_heap w.params) s.abs.heap), openSeen q loose (importedModules p.main.body) Xt true s.abs))) = fun _ => some (true, openGood q loose))
    (h2 : ∀ w : World, (fun os : OsState => (topT treeTable p w m₀ ann N { bootT w.params with os := os } (topStub p)).map (fun s => Yf s.abs)) = fun _ => some (Ya w)) :
    LeftO p q loose Xt Yf Ya N := fun w => by
  obtain ⟨⟨h0, gs, d, k, os⟩, e1, e2⟩ := Option.map_eq_some_iff.mp (boot_open e hN f w)
  obtain ⟨rfl, rfl, rfl, rfl⟩ : h0 = boot_heap w.params ∧ gs = Array.mk [] ∧ d = boot_drawn ∧ k = boot_toks := by simpa using e2
  obtain ⟨s', hr, he⟩ := Option.map_eq_some_iff.mp (congrFun (h1 w) os)
  obtain ⟨s'', hr', l3⟩ := Option.map_eq_some_iff.mp (congrFun (h2 w) os)
  obtain rfl : s' = s'' := Option.some.inj (hr.symm.trans hr')
  have r := topT_of hr
  rw [bootT_abs] at r
  obtain ⟨z1, z2, z3⟩ : _ ∧ _ ∧ _ := by simpa only [Prod.mk.injEq] using size w.params
  obtain ⟨l1, l2⟩ : _ ∧ _ := by simpa only [Prod.mk.injEq] using he
  have t : topFrom treeTable p w N ⟨boot_heap w.params, Array.mk [], boot_drawn, boot_toks, os⟩ = some s'.abs := by
    unfold topFrom
    dsimp only
    rw [z1, z2, z3, r]
    show (match staticsOk (importedModules p.main.body) (boot_heap w.params) s'.abs.heap && namesBound p s'.abs.heap && gensDone s'.abs && laidKept (boot_heap w.params) s'.abs.heap with | true => _ | false => _) = _
    rw [l1]
  unfold openEnds
  rw [e1]
  show (topFrom treeTable p w N _).map _ = _
  rw [t]
  exact congrArg some (Prod.ext l2 l3)
theorem hook_of {p : Program} {N m₀ : Nat} {ann : Option Value} {K : Params → Frag} {as : List Addr} {e : ∀ P, as = (K P).map (·.1)}
    (h : ∀ w : World, (fun os : OsState => (topT treeTable p w m₀ ann N { bootT w.params with os := os } (topStub p)).map (fun s => (K w.params).map fun q => s.abs.heap.get? q.1)) = fun _ => some ((K w.params).map fun q => some q.2)) (w : World) :
    (fun os : OsState => (topT treeTable p w m₀ ann N { bootT w.params with os := os } (topStub p)).map (fun s => Hook.obs (kHook K as e) s.abs)) = fun _ => some (Hook.val (kHook K as e) w) := by
  funext os
  have h1 := congrFun (h w) os
  obtain ⟨s, h2, h3⟩ := Option.map_eq_some_iff.mp h1
  rw [h2]
  show some (as.map s.abs.heap.get?) = some ((K w.params).map fun q => some q.2)
  rw [← h3, e w.params, List.map_map]
  rfl
end Mine
end

/-! HdQ -/
section
open PySem PySem.W PySem.Calls PyProof.Rows
set_option Elab.async false
set_option maxRecDepth 100000
set_option maxHeartbeats 0
namespace Mine
def vw : Program := view PySem.Challenge.pw_yb0003_01 [0, 2, 3, 5, 6, 7, 9, 10, 11]
theorem boot_size (P : Params) : ((boot_heap P).isNs mainGlobals, (boot_heap P).objs.size, (boot_heap P).nsMap mainGlobals "__annotations__") = (true, 11, some (Value.ref 6)) := by kernel_rfl
/-- the program's own quick twin is laid by this -/
theorem prime_pw : Nat.ble 0 PySem.Challenge.pw_yb0003_01.main.body.length = true := by k_qdec
/-- the top's run, said in the library's quick twins (each equal to its constant by the library's own equation) -/
noncomputable def topQ (w : World) (n₀ : Nat) (ann : Option Value) : Nat → SharedT → Thread → Option SharedT
  | 0, _, _ => none
  | n + 1, s, t => match through t with
    | true => some s
    | false => match PySem.W.Fast.tw6613529449190102663 n₀ ann t with
      | false => none
      | true => match PySem.W.Fast.tw10156331382660048174 (PySem.W.Fast.tw11892475500146522536 PySem.W.Fast.tw14364793385576792824) PySem.W.Fast.tw5744746567549936229 w s t with
        | some (s', t') => topQ w n₀ ann n s' t'
        | none => none
theorem topT_q (w : World) (n₀ : Nat) (ann : Option Value) : topT treeTable PySem.Challenge.pw_yb0003_01 w n₀ ann = topQ w n₀ ann := by
  funext n
  induction n with
  | zero => rfl
  | succ n ih =>
    funext s t
    unfold topT topQ
    rw [← PySem.W.Fast.te6613529449190102663, ← PySem.W.Fast.te10156331382660048174, ← PySem.W.Fast.te11892475500146522536, ← PySem.W.Fast.te14364793385576792824, ← PySem.W.Fast.te5744746567549936229, ih]
    try rfl
def lw : List PySem.Str := [PySem.Str.ofString "PolynomialRing", PySem.Str.ofString "PolynomialNTT"]
theorem run_seen (w : World) : (fun os : OsState => (topT treeTable PySem.Challenge.pw_yb0003_01 w 11 (some (Value.ref 6)) 6250 { bootT w.params with os := os } (topStub PySem.Challenge.pw_yb0003_01)).map (fun s =>
      ((staticsOk (importedModules PySem.Challenge.pw_yb0003_01.main.body) (boot_heap w.params) s.abs.heap && namesBound PySem.Challenge.pw_yb0003_01 s.abs.heap && gensDone s.abs && laidKept (boot_heap w.params) s.abs.heap), openSeen vw lw (importedModules PySem.Challenge.pw_yb0003_01.main.body) (fun s => xlAt vw [] s && recOk [] s) true s.abs))) = fun _ => some (true, openGood vw lw) := by
  rw [topT_q, PySem.W.Fast.te4187177175401517315, PySem.W.Fast.te5923862056798008813]
  kernel_rfl
local macro_rules | `(tactic| o_head $H) => `(tactic| (
  refine holds_open (q := vw) (loose := lw) (Xt := fun s => xlAt vw [] s && recOk [] s) (XP := XL vw []) (Yf := Hook.obs $H) (Ya := Hook.val $H) (YP := Hook.says $H) (N := 6250) ?hl (Hook.of $H) (Hook.keeps $H) (fun s e => xl_of s (Bool.and_eq_true_iff.mp e).1) XL.keeps (by rfl) (by rfl) (by rfl) (fun s e => recFacts_of (Bool.and_eq_true_iff.mp e).2) (by rfl) (by first | assumption | decide +kernel) (by decide +kernel) ⟨rfl, rfl, rfl, rfl, rfl, by decide +kernel⟩ ?hw ?hc
  (case hl =>
    refine left_tree (m₀ := 11) (ann := some (Value.ref 6)) (by kernel_rfl) (by decide) (fun _ => by kernel_rfl) boot_size run_seen (hook_of ?_)
    intro w
    show (fun os : OsState => (topT treeTable PySem.Challenge.pw_yb0003_01 w 11 (some (Value.ref 6)) 6250 { bootT w.params with os := os } (topStub PySem.Challenge.pw_yb0003_01)).map _) = _
    rw [topT_q]
    kernel_rfl)))
open_top hd for PySem.Challenge.rw_yb0003_01
def PropOf {p q : Prop} (_ : p → q) : Prop := p
end Mine
end

/-! Lem1 -/
section
open PySem PySem.W PySem.Calls PySem.NumText PyProof.Rows
set_option Elab.async false
set_option maxRecDepth 100000
set_option maxHeartbeats 8000000
namespace Mine

/-! ## the three built-ins of the ring's table -/
theorem bitAnd_small : ∀ k : Fin 128, Builtin.bitAnd ((k.val : Nat) : Int) (2 ^ Int.toNat 7 - 1) = ((k.val : Nat) : Int) := by decide +kernel
theorem bitAnd_of {k : Int} (h0 : 0 ≤ k) (h1 : k < 128) : Builtin.bitAnd k (2 ^ Int.toNat 7 - 1) = k := by
  have h := bitAnd_small ⟨k.toNat, by omega⟩
  simp only [Int.toNat_of_nonneg h0] at h
  exact h
/-- the text of bin(k) -/
def brT (k : Int) : Str := baseText "0b" 2 k
theorem brT_len : ∀ k : Fin 128, (brT ((k.val : Nat) : Int)).length ≤ 9 := by decide +kernel
theorem brT_le {k : Int} (h0 : 0 ≤ k) (h1 : k < 128) : (brT k).length ≤ 9 := by
  have h := brT_len ⟨k.toNat, by omega⟩
  simp only [Int.toNat_of_nonneg h0] at h
  exact h
section
variable {prog : Program} {w : World} {A : Around} {E : Value → Shared → Prop} {s : Shared} {Q : Value → Shared → Prop}
theorem my_bin {k : Int} {t : Tok} (h0 : 0 ≤ k) (h1 : k < 128) (h : ∀ t' n, Q (.str (brT k) t') { s with toks := n }) :
    wpAny (model prog w) A (call (.builtin "bin") [.int (Builtin.bitAnd k (2 ^ Int.toNat 7 - 1)) t]) Q E s := by
  rw [bitAnd_of h0 h1]
  refine P.bin_of_int (h _ _) ?_
  have h9 : (baseText "0b" 2 k).length ≤ 9 := brT_le h0 h1
  rw [sizeLine_eq]
  omega
end

/-! pow of three ints -/
theorem kind_pow : builtinKind "pow" = none := by decide +kernel
theorem plain_pow : plainId "pow" = true := by decide +kernel
theorem entry_pow : entryFor table "pow" = some Builtin.«pow» := entryFor_of_fast (by kernel_rfl)
theorem args_pow3 (a b c : Value) : argsOk "pow" ⟨[a, b, c], []⟩ := by unfold argsOk; kernel_rfl
theorem args_ipow3 (a b c : Value) : argsOk "int.__pow__" ⟨[a, b, c], []⟩ := by unfold argsOk; kernel_rfl

theorem gives_ipow3 {x e : Int} {t u v : Tok} (he : 0 ≤ e) :
    Gives (Builtin.«int.__pow__» ⟨[.int x t, .int e u, .int 3329 v], []⟩) (.int ((Builtin.powMod (x % 3329).toNat e.natAbs 3329 : Nat) : Int)) :=
  .of_wp fun M A E s Q h => by
    have hne : ¬ e < 0 := by omega
    show wpAny _ _ (if e < 0 then _ else _) _ _ _
    rw [if_neg hne]
    obtain ⟨hp, g, d, tk, os⟩ := s
    repeat (any_goals (first | assumption | wp_step))
    all_goals first | exact ⟨_, rfl, h⟩ | skip

theorem gives_ipow_inv {t u v : Tok} :
    Gives (Builtin.«int.__pow__» ⟨[.int 128 t, .int (-1) u, .int 3329 v], []⟩) (.int 3303) :=
  .of_wp fun M A E s Q h => by
    obtain ⟨hp, g, d, tk, os⟩ := s
    repeat (any_goals (first | assumption | wp_step))
    all_goals first | exact ⟨_, rfl, h⟩ | skip

section
variable {prog : Program} {w : World} {A : Around} {E : Value → Shared → Prop} {s : Shared} {Q : Value → Shared → Prop}
theorem my_pow_of {x e r : Int} {t u v : Tok} (g : Gives (Builtin.«int.__pow__» ⟨[.int x t, .int e u, .int 3329 v], []⟩) (.int r)) (h : ∀ t' n, Q (.int r t') { s with toks := n }) :
    wpAny (model prog w) A (call (.builtin "pow") [.int x t, .int e u, .int 3329 v]) Q E s := by
  refine call_function_entry kind_pow plain_pow entry_pow (args_pow3 _ _ _) ?_
  obtain ⟨hp, gg, d, tk, os⟩ := s
  have hT : (⟨hp, gg, d, tk, os⟩ : Shared).TypeIs (.int x t) "int" := rfl
  have f3 : typeLookup (.type "int") (Str.ofString "__pow__") = pure (some (.builtin "int.__pow__")) := slot_int_pow.lookup
  have f4 := slot_int_pow.bind (.int x t)
  repeat (any_goals (first | assumption | ((with_reducible show wpAny _ _ (call (Value.builtin "int.__pow__") _ _) _ _ _); refine call_gives slot_int_pow hT entry_int_pow (args_ipow3 _ _ _) g ?_; dsimp only [Made.post]) | wp_step))
  all_goals first | exact ⟨_, rfl, h _ _⟩ | exact h _ _ | skip
theorem my_pow {x e : Int} {t u v : Tok} (he : 0 ≤ e) (h : ∀ t' n, Q (.int ((Builtin.powMod (x % 3329).toNat e.natAbs 3329 : Nat) : Int) t') { s with toks := n }) :
    wpAny (model prog w) A (call (.builtin "pow") [.int x t, .int e u, .int 3329 v]) Q E s := my_pow_of (gives_ipow3 he) h
theorem my_pow_inv {t u v : Tok} (h : ∀ t' n, Q (.int 3303 t') { s with toks := n }) :
    wpAny (model prog w) A (call (.builtin "pow") [.int 128 t, .int (-1) u, .int 3329 v]) Q E s := my_pow_of gives_ipow_inv h
end
end Mine
end

/-! Lem2 -/
section
open PySem PySem.W PySem.Calls PySem.NumText PyProof.Rows
set_option Elab.async false
set_option maxRecDepth 100000
set_option maxHeartbeats 8000000
namespace Mine
theorem typeCall_int_2 (a b : Value) : checkTypeCall "int" ⟨[a, b], []⟩ = pure () := by kernel_rfl
theorem newCall_int_2 (a b : Value) : checkBuiltinCall "int.__new__" ⟨[.type "int", a, b], []⟩ = pure () := by kernel_rfl
theorem args_object_init_3 (a b c : Value) : argsOk "object.__init__" ⟨[a, b, c], []⟩ := by unfold argsOk; kernel_rfl

def bits2? (x : Str) : Option (Array Nat) := digits? 2 x.cps.toList
/-- a text of noughts and ones only, short: its worth -/
def text2 (x : Str) (n : Nat) : Bool :=
  decide (x.length ≤ 640) && ((numSeenOf x).length == (numTextOf x).length) && !(sign ((numSeenOf x).dropWhile blank)).1 &&
    (based 2 (sign ((numSeenOf x).dropWhile blank)).2).1 == 2 && !(based 2 (sign ((numSeenOf x).dropWhile blank)).2).2.1 &&
    (match digits? 2 (((based 2 (sign ((numSeenOf x).dropWhile blank)).2).2.2.reverse.dropWhile blank).reverse) with
     | some ds => decide (ds.foldl (fun acc d => acc * 2 + d) 0 = n)
     | none => false)
theorem read2 {x : Str} {n : Nat} (h : text2 x n = true) :
    (numSeenOf x).length ≤ 640 ∧ (int_private% "readNumeral") 0 2 (numSeenOf x) = (int_private% "Numeral.value") (n : Int) ∧ ((numSeenOf x).length == (numTextOf x).length) = true := by
  unfold text2 at h
  simp only [Bool.and_eq_true, decide_eq_true_eq] at h
  obtain ⟨⟨⟨⟨⟨h1, h2⟩, h3⟩, h4⟩, h5⟩, h6⟩ := h
  refine ⟨Nat.le_trans (seen_length x) h1, ?_, h2⟩
  rw [readNumeral_eq]
  have h4' := beq_iff_eq.mp h4
  cases hd : digits? 2 (((based 2 (sign ((numSeenOf x).dropWhile blank)).2).2.2.reverse.dropWhile blank).reverse) with
  | none => rw [hd] at h6; cases h6
  | some ds =>
    rw [hd] at h6
    have h6' := of_decide_eq_true h6
    have h3' : (sign ((numSeenOf x).dropWhile blank)).1 = false := by simpa using h3
    have h5' : (based 2 (sign ((numSeenOf x).dropWhile blank)).2).2.1 = false := by simpa using h5
    rw [h3', h4', h5', hd]
    unfold judge
    simp only [Bool.false_and, Bool.and_false, Bool.false_eq_true, if_false]
    rw [h6']
    rfl

theorem wp_text2 {M : Model} {A : Around} {E : Value → Shared → Prop} {s : Shared} {Q : Value → Shared → Prop} {v : Value} {text : List Nat} {n : Int}
    (hs : (text.takeWhile (· != 0)).length ≤ 640) (hr : (int_private% "readNumeral") 0 2 (text.takeWhile (· != 0)) = (int_private% "Numeral.value") n)
    (ha : ((text.takeWhile (· != 0)).length == text.length) = true) (h : Q (.int n s.toks) { s with toks := s.toks + 1 }) :
    wpAny M A ((int_private% "intFromText") v text 2) Q E s := by
  obtain ⟨hp, g, d, tk, os⟩ := s
  repeat (any_goals (first
    | assumption
    | (with_reducible refine wpAny_ite_true (decide_eq_true hs) ?_)
    | (with_reducible refine wpAny_ite_true (decide_eq_true ha) ?_)
    | wp_step))
  all_goals (try rw [hr])
  all_goals (try dsimp only)
  repeat (any_goals (first
    | assumption
    | (with_reducible refine wpAny_ite_true (decide_eq_true hs) ?_)
    | (with_reducible refine wpAny_ite_true (decide_eq_true ha) ?_)
    | wp_step))

theorem gives_text2 {x : PySem.Str} {u v : Tok} {n : Nat} (hx : text2 x n = true) : Gives (Builtin.«int.__new__» ⟨[.type "int", .str x u, .int 2 v], []⟩) (.int (n : Int)) :=
  .of_wp fun M A E s Q h => by
    obtain ⟨hp, g, d, tk, os⟩ := s
    have f1 := F.conv_sub_int
    have f2 := F.madeHere_int
    have f6 : typeOf (.str x u) = pure (.type "str") := rfl
    have hk := KIN.Hid.mk (read2 hx)
    clear hx
    repeat (any_goals (first
      | assumption
      | ((with_reducible show wpAny _ _ ((int_private% "intFromText") _ _ _) _ _ _); refine wp_text2 hk.out.1 hk.out.2.1 hk.out.2.2 ?_)
      | wp_step))
    all_goals first | exact ⟨_, rfl, h⟩ | skip
section
variable {prog : Program} {w : World} {A : Around} {E : Value → Shared → Prop} {s : Shared} {Q : Value → Shared → Prop}
theorem my_int2 {x : Str} {u v : Tok} {n : Nat} (hx : text2 x n = true) (h : ∀ t' k, Q (.int (n : Int) t') { s with toks := k }) :
    wpAny (model prog w) A (call (.type "int") [.str x u, .int 2 v]) Q E s :=
  callType_new F.called_int F.newNe_int (typeCall_int_2 _ _) (newCall_int_2 _ _) (fun obj => args_object_init_3 obj _ _) F.entry_int_new (gives_text2 hx).meets (show (Made.int _).post _ s from ⟨rfl, h _ _⟩)
end
end Mine
end

/-! Lem3 -/
section
open PySem PySem.W PySem.Calls PySem.NumText PySem.Builtin PySem.Builtin.Str PyProof.Rows
set_option Elab.async false
set_option maxRecDepth 100000
set_option maxHeartbeats 8000000
namespace Mine
def brS (k : Int) : Str := Txt.slice (brT k) (some 2) none
def brZ (k : Int) : Str := Txt.zfill (brS k) 7
def brR (k : Int) : Str := ⟨((strSliceIndices none none (-1) (brZ k).length).filterMap ((brZ k).cps[·]?)).toArray⟩
def brN (k : Int) : Nat :=
  (k.toNat % 2) * 64 + (k.toNat / 2 % 2) * 32 + (k.toNat / 4 % 2) * 16 + (k.toNat / 8 % 2) * 8 + (k.toNat / 16 % 2) * 4 + (k.toNat / 32 % 2) * 2 + k.toNat / 64 % 2
theorem br_all : ∀ k : Fin 128, (decide ((brZ ((k.val : Nat) : Int)).length ≤ 9) && decide ((brR ((k.val : Nat) : Int)).length ≤ 9) && text2 (brR ((k.val : Nat) : Int)) (brN ((k.val : Nat) : Int))) = true := by decide +kernel
theorem br_of {k : Int} (h0 : 0 ≤ k) (h1 : k < 128) : (brZ k).length ≤ 9 ∧ (brR k).length ≤ 9 ∧ text2 (brR k) (brN k) = true := by
  have h := br_all ⟨k.toNat, by omega⟩
  simp only [Int.toNat_of_nonneg h0, Bool.and_eq_true, decide_eq_true_eq] at h
  exact ⟨h.1.1, h.1.2, h.2⟩
section
variable {prog : Program} {w : World} {A : Around} {E : Value → Shared → Prop} {s : Shared} {value slice : Expr} {t : Tok} {h₀ : Heap} {L : Addr} {m : Str → Option Value} {news : List (Addr × Obj)} {Q : Value → Shared → Prop} {k : Int}
theorem my_slice2 {ui : Tok} (h0 : 0 ≤ k) (h1 : k < 128) (hF : Fr h₀ L s.heap m) (hN : News h₀ L s.heap news) (h : ∀ h' t' n, Fr h₀ L h' m → News h₀ L h' news → Q (.str (brS k) t') { s with heap := h', toks := n })
    (hs : subscripted slice false (.str (brT k) t) (.ref s.heap.objs.size) = operate [.ref s.heap.objs.size, .str (brT k) t] (getItem (.str (brT k) t) (.ref s.heap.objs.size)))
    (ht : ∀ r, letTemporaryGo value (.str (brT k) t) r = pure ()) :
    wpAny (model prog w) A (subscriptTail value slice (.str (brT k) t) (.ref s.heap.objs.size)) Q E { s with heap := s.heap.push { cls := .type "slice", data := .fields #[.int 2 ui, .none, .none] } } :=
  slice_strN_sn hF hN h hs ht (by have := brT_le h0 h1; rw [sizeLine_eq]; omega)
theorem my_zfill {u : Tok} (h : ∀ t' n, Q (.str (brZ k) t') { s with toks := n }) : wpAny (model prog w) A (call (.builtin "str.zfill") [.str (brS k) t, .int 7 u]) Q E s :=
  SC.zfill (padOk_of (by decide) (by decide)) h
theorem my_slice_rev {ui : Tok} (h0 : 0 ≤ k) (h1 : k < 128) (hF : Fr h₀ L s.heap m) (hN : News h₀ L s.heap news) (h : ∀ h' t' n, Fr h₀ L h' m → News h₀ L h' news → Q (.str (brR k) t') { s with heap := h', toks := n })
    (hs : subscripted slice false (.str (brZ k) t) (.ref s.heap.objs.size) = operate [.ref s.heap.objs.size, .str (brZ k) t] (getItem (.str (brZ k) t) (.ref s.heap.objs.size)))
    (ht : ∀ r, letTemporaryGo value (.str (brZ k) t) r = pure ()) :
    wpAny (model prog w) A (subscriptTail value slice (.str (brZ k) t) (.ref s.heap.objs.size)) Q E { s with heap := s.heap.push { cls := .type "slice", data := .fields #[.none, .none, .int (-1) ui] } } := by
  refine tail_of_ItemOn (Q := Q) ⟨"str", _, F.slot_str_getitem.lookup, typeIs_str _ _ _, wpAny_getItem_str_slice (l := none) (u := none) (st := some (-1, ui)) ⟨_, Heap.get?_push_size _ rfl, rfl, rfl⟩ rfl ?_⟩ hs ht
  have hb : (brR k).length ≤ sizeLine := by have := (br_of h0 h1).2.1; rw [sizeLine_eq]; omega
  show (if _ then _ else _ : Made).post _ _
  rw [if_neg (by simp)]
  exact ⟨hb, h _ _ _ (Fr.pushS hF _) (hN.pushKeep _)⟩
theorem my_br_int {u v : Tok} (h0 : 0 ≤ k) (h1 : k < 128) (h : ∀ t' n, Q (.int ((brN k : Nat) : Int) t') { s with toks := n }) :
    wpAny (model prog w) A (call (.type "int") [.str (brR k) u, .int 2 v]) Q E s := my_int2 (br_of h0 h1).2.2 h
end
end Mine
end

/-! Lem4 -/
section
open PySem PySem.W PySem.Calls PyProof.Rows
set_option Elab.async false
set_option maxRecDepth 100000
set_option maxHeartbeats 8000000
namespace Mine
/-- what a draw gives -/
def draw (script : List Int) (k : Int) : Int := if k < (script.length : Int) then script.getD k.toNat 0 else 62 + 11 * k + 23 * k * k
section
variable {prog : Program} {w : World} {A : Around} {E : Value → Shared → Prop} {s : Shared} {h₀ : Heap} {L : Addr} {m : Str → Option Value} {news : List (Addr × Obj)}
theorem my_min {a : Int} {t u : Tok} {Q : Value → Shared → Prop} (hh : A.handled = none) (F : Fr h₀ L s.heap m) (N : News h₀ L s.heap news)
    (h : ∀ v t' h' tk, Fr h₀ L h' m → News h₀ L h' news → 0 ≤ v → v ≤ 256 → Q (.int v t') { s with heap := h', toks := tk }) :
    wpAny (model prog w) A (call (.builtin "min") [.int (a.fmod 300) t, .int 256 u]) Q E s :=
  min_two_N hh F N fun h' tk F' N' => by
    have h0 := Int.fmod_nonneg_of_pos a (show (0 : Int) < 300 by decide)
    exact h _ _ h' tk F' N' (by split <;> omega) (by split <;> omega)
end
end Mine
end

/-! Plain1 -/
section
set_option Elab.async false
namespace Mine
/-! ## the plain law: lists of ints as functions of the place -/
/-- one butterfly, as the loop's body stores it -/
def butter (z l j : Int) (c : List Int) : List Int :=
  (c.set (j + l).toNat (c.getD j.toNat 0 - z * c.getD (j + l).toNat 0)).set j.toNat
    ((c.set (j + l).toNat (c.getD j.toNat 0 - z * c.getD (j + l).toNat 0)).getD j.toNat 0 + z * c.getD (j + l).toNat 0)
/-- n butterflies from a start -/
def block (z l start : Int) : Nat → List Int → List Int
  | 0, c => c
  | n + 1, c => butter z l (start + (n : Int)) (block z l start n c)
/-- m blocks of a layer -/
def layer (zs : List Int) (k0 l : Nat) : Nat → List Int → List Int
  | 0, c => c
  | m + 1, c => block (zs.getD (k0 + m) 0) (l : Int) ((2 * l * m : Nat) : Int) l (layer zs k0 l m c)
/-- d layers -/
def layers (zs : List Int) : Nat → List Int → List Int
  | 0, c => c
  | d + 1, c => layer zs (2 ^ d) (128 / 2 ^ d) (2 ^ d) (layers zs d c)

theorem getD_set (c : List Int) (i j : Nat) (v : Int) : (c.set i v).getD j 0 = if i = j ∧ j < c.length then v else c.getD j 0 := by
  rw [List.getD_eq_getElem?_getD, List.getD_eq_getElem?_getD, List.getElem?_set]
  by_cases h : i = j
  · subst h
    by_cases h2 : i < c.length
    · simp [h2]
    · simp [h2]
  · simp [h]
theorem butter_len (z l j : Int) (c : List Int) : (butter z l j c).length = c.length := by unfold butter; simp
theorem butter_at {z : Int} {l j : Nat} {c : List Int} (hl : 0 < l) (h : j + l < c.length) (x : Nat) :
    (butter z (l : Int) (j : Int) c).getD x 0 = if x = j then c.getD j 0 + z * c.getD (j + l) 0 else if x = j + l then c.getD j 0 - z * c.getD (j + l) 0 else c.getD x 0 := by
  unfold butter
  have e1 : ((j : Int) + (l : Int)).toNat = j + l := by omega
  have e2 : ((j : Int)).toNat = j := by omega
  rw [e1, e2, getD_set, getD_set, getD_set, List.length_set]
  have hj : ¬ (j + l = j ∧ j < c.length) := by omega
  rw [if_neg hj]
  by_cases h1 : x = j
  · subst h1
    rw [if_pos ⟨rfl, by omega⟩, if_pos rfl]
  · rw [if_neg (fun q => h1 q.1.symm), if_neg h1]
    by_cases h2 : x = j + l
    · subst h2
      rw [if_pos ⟨rfl, h⟩, if_pos rfl]
    · rw [if_neg (fun q => h2 q.1.symm), if_neg h2]
theorem block_len (z l s : Int) (n : Nat) (c : List Int) : (block z l s n c).length = c.length := by
  induction n with
  | zero => rfl
  | succ n ih => unfold block; rw [butter_len, ih]
theorem block_at {z : Int} {l s : Nat} {c : List Int} (h : s + 2 * l ≤ c.length) : ∀ n, n ≤ l → ∀ x,
    (block z (l : Int) (s : Int) n c).getD x 0 = if s ≤ x ∧ x < s + n then c.getD x 0 + z * c.getD (x + l) 0 else if s + l ≤ x ∧ x < s + l + n then c.getD (x - l) 0 - z * c.getD x 0 else c.getD x 0
  | 0, _, x => by
    unfold block
    rw [if_neg (by omega), if_neg (by omega)]
  | n + 1, hn, x => by
    have ih := block_at (z := z) (c := c) h n (by omega)
    unfold block
    have e : (s : Int) + (n : Int) = ((s + n : Nat) : Int) := by omega
    rw [e, butter_at (by omega) (by rw [block_len]; omega), ih, ih, ih]
    have a1 : ¬ (s ≤ s + n ∧ s + n < s + n) := by omega
    have a2 : ¬ (s + l ≤ s + n ∧ s + n < s + l + n) := by omega
    have b1 : ¬ (s ≤ s + n + l ∧ s + n + l < s + n) := by omega
    have b2 : ¬ (s + l ≤ s + n + l ∧ s + n + l < s + l + n) := by omega
    rw [if_neg a1, if_neg a2, if_neg b1, if_neg b2]
    by_cases h1 : x = s + n
    · subst h1
      rw [if_pos rfl, if_pos (by omega)]
    · rw [if_neg h1]
      by_cases h2 : x = s + n + l
      · subst h2
        have e3 : s + n + l - l = s + n := by omega
        rw [if_pos rfl, if_neg (by omega), if_pos (by omega), e3]
      · rw [if_neg h2]
        by_cases h3 : s ≤ x ∧ x < s + n
        · rw [if_pos h3, if_pos (by omega)]
        · rw [if_neg h3]
          by_cases h4 : s + l ≤ x ∧ x < s + l + n
          · rw [if_pos h4, if_neg (by omega), if_pos (by omega)]
          · rw [if_neg h4, if_neg (by omega), if_neg (by omega)]
theorem layer_len (zs : List Int) (k l m : Nat) (c : List Int) : (layer zs k l m c).length = c.length := by
  induction m with
  | zero => rfl
  | succ m ih => unfold layer; rw [block_len, ih]
theorem layers_len (zs : List Int) (d : Nat) (c : List Int) : (layers zs d c).length = c.length := by
  induction d with
  | zero => rfl
  | succ d ih => unfold layers; rw [layer_len, ih]
theorem mul_step {M i m : Nat} (h : i < m) : M * i + M ≤ M * m := by
  have h1 : M * (i + 1) ≤ M * m := Nat.mul_le_mul_left M h
  rw [Nat.mul_add, Nat.mul_one] at h1
  exact h1
theorem layer_at {zs : List Int} {k l : Nat} {c : List Int} (hl : 0 < l) : ∀ m, 2 * l * m ≤ c.length → ∀ i y, y < 2 * l →
    (layer zs k l m c).getD (2 * l * i + y) 0 =
      if i < m then (if y < l then c.getD (2 * l * i + y) 0 + zs.getD (k + i) 0 * c.getD (2 * l * i + y + l) 0 else c.getD (2 * l * i + y - l) 0 - zs.getD (k + i) 0 * c.getD (2 * l * i + y) 0)
      else c.getD (2 * l * i + y) 0
  | 0, _, i, y, _ => by
    unfold layer
    rw [if_neg (by omega)]
  | m + 1, hm, i, y, hy => by
    have hs : 2 * l * (m + 1) = 2 * l * m + 2 * l := by rw [Nat.mul_add, Nat.mul_one]
    have ih := layer_at (zs := zs) (k := k) (c := c) hl m (by omega)
    have ihy := ih i y hy
    unfold layer
    rw [block_at (c := layer zs k l m c) (s := 2 * l * m) (by rw [layer_len]; omega) l (Nat.le_refl l)]
    rcases Nat.lt_trichotomy i m with h | h | h
    · have h1 := mul_step (M := 2 * l) h
      rw [if_neg (by omega), if_neg (by omega), ihy, if_pos h, if_pos (show i < m + 1 by omega)]
    · subst h
      rw [if_pos (show i < i + 1 by omega)]
      rw [if_neg (Nat.lt_irrefl i)] at ihy
      by_cases h2 : y < l
      · have i2 := ih i (y + l) (by omega)
        rw [if_neg (Nat.lt_irrefl i), ← Nat.add_assoc] at i2
        rw [if_pos (by omega), if_pos h2, ihy, i2]
      · have i2 := ih i (y - l) (by omega)
        have e : 2 * l * i + (y - l) = 2 * l * i + y - l := by omega
        rw [if_neg (Nat.lt_irrefl i), e] at i2
        rw [if_neg (by omega), if_pos (by omega), if_neg h2, ihy, i2]
    · have h1 := mul_step (M := 2 * l) h
      rw [if_neg (by omega), if_neg (by omega), ihy, if_neg (show ¬ i < m by omega), if_neg (show ¬ i < m + 1 by omega)]
end Mine
end

/-! Plain2 -/
section
set_option Elab.async false
namespace Mine
/-- equal but for a multiple of 3329 -/
def Cg (a b : Int) : Prop := (3329 : Int) ∣ a - b
theorem Cg.refl (a : Int) : Cg a a := ⟨0, by omega⟩
theorem Cg.of_eq {a b : Int} (h : a = b) : Cg a b := h ▸ Cg.refl a
theorem Cg.symm {a b : Int} (h : Cg a b) : Cg b a := by obtain ⟨k, e⟩ := h; exact ⟨-k, by omega⟩
theorem Cg.trans {a b c : Int} (h : Cg a b) (h' : Cg b c) : Cg a c := by obtain ⟨k, e⟩ := h; obtain ⟨k', e'⟩ := h'; exact ⟨k + k', by omega⟩
theorem Cg.add {a b c d : Int} (h : Cg a b) (h' : Cg c d) : Cg (a + c) (b + d) := by obtain ⟨k, e⟩ := h; obtain ⟨k', e'⟩ := h'; exact ⟨k + k', by omega⟩
theorem Cg.sub {a b c d : Int} (h : Cg a b) (h' : Cg c d) : Cg (a - c) (b - d) := by obtain ⟨k, e⟩ := h; obtain ⟨k', e'⟩ := h'; exact ⟨k - k', by omega⟩
theorem Cg.mul {a b c d : Int} (h : Cg a b) (h' : Cg c d) : Cg (a * c) (b * d) := by
  obtain ⟨k, e⟩ := h; obtain ⟨k', e'⟩ := h'
  refine ⟨a * k' + k * d, ?_⟩
  have e1 : a * c - b * d = a * (c - d) + (a - b) * d := by rw [Int.mul_sub, Int.sub_mul]; omega
  rw [e1, e, e', Int.mul_add, ← Int.mul_assoc, ← Int.mul_assoc, ← Int.mul_assoc, Int.mul_comm a 3329]
theorem Cg.pow {a b : Int} (h : Cg a b) : ∀ n : Nat, Cg (a ^ n) (b ^ n)
  | 0 => by rw [Int.pow_zero, Int.pow_zero]; exact Cg.refl 1
  | n + 1 => by rw [Int.pow_succ, Int.pow_succ]; exact (Cg.pow h n).mul h
theorem Cg.emod (a : Int) : Cg (a % 3329) a := ⟨-(a / 3329), by have := Int.emod_add_mul_ediv a 3329; omega⟩
theorem Cg.eq {a b : Int} (h : Cg a b) : a % 3329 = b % 3329 := by obtain ⟨k, e⟩ := h; omega

/-- sum of row[y + M t] ρ^t, t < n -/
def S (row : List Int) (M y : Nat) (r : Int) : Nat → Int
  | 0 => 0
  | n + 1 => S row M y r n + row.getD (y + M * n) 0 * r ^ n
theorem S_cg {row : List Int} {M y : Nat} {a b : Int} (h : Cg a b) : ∀ n, Cg (S row M y a n) (S row M y b n)
  | 0 => Cg.refl _
  | n + 1 => (S_cg h n).add ((Cg.refl _).mul (h.pow n))
theorem S_split {row : List Int} {l y : Nat} {s : Int} : ∀ n, S row l y s (2 * n) = S row (2 * l) y (s * s) n + s * S row (2 * l) (y + l) (s * s) n
  | 0 => by show (0 : Int) = 0 + s * 0; omega
  | n + 1 => by
    have ih := S_split (row := row) (l := l) (y := y) (s := s) n
    have e : 2 * (n + 1) = 2 * n + 1 + 1 := by omega
    rw [e]
    show S row l y s (2 * n) + row.getD (y + l * (2 * n)) 0 * s ^ (2 * n) + row.getD (y + l * (2 * n + 1)) 0 * s ^ (2 * n + 1) =
      S row (2 * l) y (s * s) n + row.getD (y + 2 * l * n) 0 * (s * s) ^ n + s * (S row (2 * l) (y + l) (s * s) n + row.getD (y + l + 2 * l * n) 0 * (s * s) ^ n)
    rw [ih]
    have p : (s * s) ^ n = s ^ (2 * n) := by
      rw [show s * s = s ^ 2 by rw [Int.pow_succ, Int.pow_succ, Int.pow_zero, Int.one_mul], ← Int.pow_mul]
    have i1 : y + l * (2 * n) = y + 2 * l * n := by rw [← Nat.mul_assoc, Nat.mul_comm l 2]
    have i2 : y + l * (2 * n + 1) = y + l + 2 * l * n := by rw [Nat.mul_add, Nat.mul_one, ← Nat.mul_assoc, Nat.mul_comm l 2]; omega
    rw [p, i1, i2, Int.pow_succ, Int.mul_add]
    generalize s ^ (2 * n) = P
    generalize row.getD (y + l + 2 * l * n) 0 = A
    have q : s * (A * P) = A * (P * s) := by rw [Int.mul_comm s, Int.mul_assoc]
    rw [q]
    omega
theorem S_one (row : List Int) (M y : Nat) (r : Int) : S row M y r 1 = row.getD y 0 := by
  show 0 + row.getD (y + M * 0) 0 * r ^ 0 = row.getD y 0
  rw [Int.pow_zero, Nat.mul_zero, Nat.add_zero]
  omega
/-- the number that X^M is at block i of depth d -/
def rho (zs : List Int) (d i : Nat) : Int := if i % 2 = 0 then zs.getD (2 ^ (d - 1) + i / 2) 0 else - zs.getD (2 ^ (d - 1) + i / 2) 0
/-- what the table must bear: each entry's square is its parent, with the sign -/
def TabOk (zs : List Int) : Prop := ∀ d i : Nat, 1 ≤ d → d ≤ 6 → i < 2 ^ d → Cg (zs.getD (2 ^ d + i) 0 * zs.getD (2 ^ d + i) 0) (rho zs d i)
theorem two_pow_pos (d : Nat) : 0 < 2 ^ d := Nat.pow_pos (by decide)
theorem half {d : Nat} (h : d ≤ 6) : 256 / 2 ^ d = 2 * (128 / 2 ^ d) ∧ 2 ^ d * (2 * (128 / 2 ^ d)) = 256 ∧ 0 < 128 / 2 ^ d ∧ 256 / 2 ^ (d + 1) = 128 / 2 ^ d := by
  rcases d with _ | _ | _ | _ | _ | _ | _ | d
  all_goals first | decide | omega
theorem layers_at {zs c : List Int} (hc : c.length = 256) (ht : TabOk zs) : ∀ d, d ≤ 7 → ∀ i y, i < 2 ^ d → y < 256 / 2 ^ d →
    Cg ((layers zs d c).getD (256 / 2 ^ d * i + y) 0) (S c (256 / 2 ^ d) y (rho zs d i) (2 ^ d))
  | 0, _, i, y, hi, hy => by
    have e : i = 0 := by simpa using hi
    subst e
    refine Cg.of_eq ?_
    rw [Nat.pow_zero, S_one, Nat.mul_zero, Nat.zero_add]
    rfl
  | d + 1, hd, i, y, hi, hy => by
    obtain ⟨h1, h2, h3, h4⟩ := half (d := d) (by omega)
    rw [h4] at hy ⊢
    have ih := layers_at hc ht d (by omega)
    rw [h1] at ih
    generalize hl : 128 / 2 ^ d = l at *
    have hp : 2 ^ (d + 1) = 2 * 2 ^ d := by rw [Nat.pow_succ, Nat.mul_comm]
    have hj : i / 2 < 2 ^ d := by omega
    have key := layer_at (zs := zs) (k := 2 ^ d) (l := l) (c := layers zs d c) h3 (2 ^ d) (by rw [layers_len, hc, Nat.mul_comm]; omega) (i / 2)
    have hsq : d = 0 ∨ Cg (zs.getD (2 ^ d + i / 2) 0 * zs.getD (2 ^ d + i / 2) 0) (rho zs d (i / 2)) := by
      rcases Nat.eq_zero_or_pos d with h | h
      · exact .inl h
      · exact .inr (ht d (i / 2) h (by omega) hj)
    have hS : ∀ y', Cg (S c (2 * l) y' (rho zs d (i / 2)) (2 ^ d)) (S c (2 * l) y' (zs.getD (2 ^ d + i / 2) 0 * zs.getD (2 ^ d + i / 2) 0) (2 ^ d)) := by
      intro y'
      rcases hsq with h | h
      · subst h
        refine Cg.of_eq ?_
        rw [Nat.pow_zero, S_one, S_one]
      · exact S_cg h.symm _
    have eL : (layers zs (d + 1) c) = layer zs (2 ^ d) l (2 ^ d) (layers zs d c) := by
      show layer zs (2 ^ d) (128 / 2 ^ d) (2 ^ d) (layers zs d c) = _
      rw [hl]
    rw [eL, hp, S_split]
    have a1 := ih (i / 2) y hj (by omega)
    have a2 := ih (i / 2) (y + l) hj (by omega)
    have b1 := a1.trans (hS y)
    have b2 := a2.trans (hS (y + l))
    rw [← Nat.add_assoc] at b2
    have er : d + 1 - 1 = d := by omega
    rcases Nat.mod_two_eq_zero_or_one i with he | he
    · have ei : l * i + y = 2 * l * (i / 2) + y := by
        have : i = 2 * (i / 2) := by omega
        rw [Nat.mul_comm 2 l, Nat.mul_assoc, ← this]
      have hr : rho zs (d + 1) i = zs.getD (2 ^ d + i / 2) 0 := by unfold rho; rw [if_pos he, er]
      rw [ei, key y (by omega), if_pos hj, if_pos (by omega), hr]
      exact b1.add ((Cg.refl _).mul b2)
    · have ei : l * i + y = 2 * l * (i / 2) + (y + l) := by
        have h5 : i = 2 * (i / 2) + 1 := by omega
        have h6 : l * i = l * (2 * (i / 2) + 1) := by rw [← h5]
        rw [h6, Nat.mul_add, Nat.mul_one, Nat.mul_comm 2 l, Nat.mul_assoc]
        omega
      have hr : rho zs (d + 1) i = - zs.getD (2 ^ d + i / 2) 0 := by unfold rho; rw [if_neg (by omega), er]
      have e7 : 2 * l * (i / 2) + (y + l) - l = 2 * l * (i / 2) + y := by omega
      rw [ei, key (y + l) (by omega), if_pos hj, if_neg (by omega), hr, e7, Int.neg_mul_neg, Int.neg_mul, ← Int.sub_eq_add_neg]
      rw [Nat.add_assoc] at b2
      exact b1.sub ((Cg.refl _).mul b2)
end Mine
end

/-! Plain3 -/
section
open PySem PySem.W PyProof.Rows
set_option Elab.async false
set_option maxRecDepth 100000
set_option maxHeartbeats 4000000
namespace Mine
/-- an entry of the ring's table, as the walk says it -/
def zeta (k : Int) : Int := ((Builtin.powMod ((17 : Int) % 3329).toNat ((brN k : Nat) : Int).natAbs 3329 : Nat) : Int)
def zl : List Int := (rangeKs 0 (128 - 0 : Int).toNat).map zeta
theorem zl_all : (List.range 128).all (fun k => decide (k < 2) || decide ((zl.getD k 0 * zl.getD k 0 - (if k % 2 = 0 then zl.getD (k / 2) 0 else - zl.getD (k / 2) 0)) % 3329 = 0)) = true := by decide +kernel
theorem zl_ok : TabOk zl := by
  intro d i h1 h6 hi
  have hd : 2 ^ d = 2 * 2 ^ (d - 1) := by rw [← Nat.pow_succ']; congr 1; omega
  have h128 : 2 ^ d + i < 128 := by
    have : 2 ^ d ≤ 2 ^ 6 := Nat.pow_le_pow_right (by decide) h6
    have : (2 : Nat) ^ 6 = 64 := by decide
    omega
  have h := List.all_eq_true.mp zl_all (2 ^ d + i) (List.mem_range.mpr h128)
  have h2 : ¬ (2 ^ d + i < 2) := by have := two_pow_pos (d - 1); omega
  rw [decide_eq_false h2, Bool.false_or, decide_eq_true_eq] at h
  have e1 : (2 ^ d + i) / 2 = 2 ^ (d - 1) + i / 2 := by omega
  have e2 : (2 ^ d + i) % 2 = i % 2 := by omega
  rw [e1, e2] at h
  unfold rho
  exact Int.dvd_of_emod_eq_zero h
/-- the exponent that the law's halvings lead to: (e, step) turn by turn -/
def expo (p : Nat) : Nat → Nat × Nat
  | 0 => (128, 64)
  | n + 1 => ((expo p n).1 / 2 + (if p / (expo p n).2 % 2 = 1 then 128 else 0), (expo p n).2 / 2)
def rr (p : Nat) : Int := ((Builtin.powMod ((17 : Int) % 3329).toNat (expo p 7).1 3329 : Nat) : Int)
theorem rr_all : (List.range 128).all (fun p => decide ((rho zl 7 p - rr p) % 3329 = 0)) = true := by decide +kernel
theorem rr_ok {p : Nat} (h : p < 128) : Cg (rho zl 7 p) (rr p) := by
  have := List.all_eq_true.mp rr_all p (List.mem_range.mpr h)
  exact Int.dvd_of_emod_eq_zero (of_decide_eq_true this)
/-- one step of the school's division -/
def resStep (r : Int) (j : Int) (c : List Int) : List Int := c.set (j - 2).toNat ((c.getD (j - 2).toNat 0 + r * c.getD j.toNat 0).fmod 3329)
/-- n steps down from 255 -/
def res (r : Int) : Nat → List Int → List Int
  | 0, c => c
  | n + 1, c => resStep r (255 - (n : Int)) (res r n c)
theorem res_len (r : Int) (n : Nat) (c : List Int) : (res r n c).length = c.length := by
  induction n with
  | zero => rfl
  | succ n ih => unfold res resStep; rw [List.length_set, ih]
theorem S_head {row : List Int} {M y : Nat} {r : Int} : ∀ n, S row M y r (n + 1) = row.getD y 0 + r * S row M (y + M) r n
  | 0 => by rw [Nat.zero_add, S_one]; show _ = row.getD y 0 + r * 0; omega
  | n + 1 => by
    have ih := S_head (row := row) (M := M) (y := y) (r := r) n
    show S row M y r (n + 1) + row.getD (y + M * (n + 1)) 0 * r ^ (n + 1) = row.getD y 0 + r * (S row M (y + M) r n + row.getD (y + M + M * n) 0 * r ^ n)
    have e : y + M * (n + 1) = y + M + M * n := by rw [Nat.mul_add, Nat.mul_one]; omega
    rw [ih, e, Int.pow_succ, Int.mul_add]
    generalize row.getD (y + M + M * n) 0 = A
    have q : r * (A * r ^ n) = A * (r ^ n * r) := by rw [Int.mul_comm r, Int.mul_assoc]
    rw [q]
    omega
theorem Cg.fmod (a : Int) : Cg (a.fmod 3329) a := by
  have e : a.fmod 3329 = a % 3329 := Int.fmod_eq_emod_of_nonneg a (by decide)
  rw [e]; exact Cg.emod a
theorem res_at {r : Int} {c : List Int} (hc : c.length = 256) : ∀ n, n ≤ 254 → ∀ x, x < 256 →
    (if 256 ≤ x + 2 + n then Cg ((res r n c).getD x 0) (S c 2 x r ((257 - x) / 2)) else (res r n c).getD x 0 = c.getD x 0)
  | 0, _, x, hx => by
    by_cases h : 256 ≤ x + 2 + 0
    · rw [if_pos h]
      have e : (257 - x) / 2 = 1 := by omega
      rw [e, S_one]
      exact Cg.refl _
    · rw [if_neg h]; rfl
  | n + 1, hn, x, hx => by
    have ih := res_at (r := r) hc n (by omega)
    have ihx := ih x hx
    show (if 256 ≤ x + 2 + (n + 1) then Cg ((resStep r (255 - (n : Int)) (res r n c)).getD x 0) _ else (resStep r (255 - (n : Int)) (res r n c)).getD x 0 = _)
    unfold resStep
    have e1 : (255 - (n : Int) - 2).toNat = 253 - n := by omega
    have e2 : (255 - (n : Int)).toNat = 255 - n := by omega
    rw [e1, e2, getD_set, res_len, hc]
    by_cases h : 253 - n = x
    · subst h
      rw [if_pos (by omega), if_pos ⟨rfl, by omega⟩]
      rw [if_neg (by omega)] at ihx
      have i2 := ih (255 - n) (by omega)
      rw [if_pos (by omega)] at i2
      have e3 : (257 - (253 - n)) / 2 = (257 - (255 - n)) / 2 + 1 := by omega
      have e4 : 255 - n = 253 - n + 2 := by omega
      rw [e3, S_head]
      refine (Cg.fmod _).trans ?_
      rw [ihx]
      refine (Cg.refl _).add ((Cg.refl _).mul ?_)
      rw [← e4]
      exact i2
    · by_cases h2 : 256 ≤ x + 2 + n
      · rw [if_pos h2] at ihx
        rw [if_pos (show 256 ≤ x + 2 + (n + 1) by omega), if_neg (fun q => h q.1)]
        exact ihx
      · rw [if_neg h2] at ihx
        rw [if_neg (show ¬ 256 ≤ x + 2 + (n + 1) by omega), if_neg (fun q => h q.1)]
        exact ihx
/-- THE PLAIN LAW: what seven layers leave at a place is what the school's division leaves -/
theorem plain_law {c : List Int} (hc : c.length = 256) {p y : Nat} (hp : p < 128) (hy : y < 2) :
    ((layers zl 7 c).getD (2 * p + y) 0).fmod 3329 = ((res (rr p) 254 c).getD y 0).fmod 3329 := by
  have a := layers_at hc zl_ok 7 (by decide) p y (by omega) (by omega)
  have b := res_at (r := rr p) hc 254 (by decide) y (by omega)
  rw [if_pos (by omega)] at b
  have e : (257 - y) / 2 = 128 := by omega
  have e2 : 256 / 2 ^ 7 = 2 := by decide
  have e3 : 2 ^ 7 = 128 := by decide
  rw [e] at b
  rw [e2, e3] at a
  have g := (a.trans (S_cg (rr_ok hp) 128)).trans b.symm
  rw [Int.fmod_eq_emod_of_nonneg _ (by decide), Int.fmod_eq_emod_of_nonneg _ (by decide)]
  exact g.eq
end Mine
namespace Mine
theorem expo_step (p : Nat) : ∀ n, n ≤ 7 → (expo p n).2 = 64 / 2 ^ n
  | 0, _ => rfl
  | n + 1, h => by
    have ih := expo_step p n (by omega)
    show (expo p n).2 / 2 = _
    rw [ih, Nat.pow_succ, Nat.div_div_eq_div_mul]
theorem expo_pos {p n : Nat} (h : n < 7) : 0 < (expo p n).2 := by
  rw [expo_step p n (by omega)]
  rcases n with _ | _ | _ | _ | _ | _ | _ | n
  all_goals first | decide | omega
theorem expo_le {p n : Nat} (h : n < 7) : (expo p n).2 ≤ 64 := by
  rw [expo_step p n (by omega)]
  exact Nat.div_le_self ..
end Mine
end

/-! Plain4 -/
section
open PySem PySem.W PyProof.Rows
set_option Elab.async false
namespace Mine
theorem fdiv_nat {a : Int} {x y : Nat} (h : a = (x : Int)) : a.fdiv (y : Int) = ((x / y : Nat) : Int) := by
  rw [h, Int.fdiv_eq_ediv_of_nonneg _ (by omega)]; rfl
theorem fmod2_nat {x : Nat} : ((x : Int)).fmod 2 = ((x % 2 : Nat) : Int) := by
  rw [Int.fmod_eq_emod_of_nonneg _ (by decide)]; rfl
theorem expo_bit {p st : Int} {y : Nat} (h0 : 0 ≤ p) (hs : st = (y : Int)) : (p.fdiv st).fmod 2 = ((p.toNat / y % 2 : Nat) : Int) := by
  rw [hs, fdiv_nat (x := p.toNat) (by omega), fmod2_nat]
theorem expo_turn1 {p e st : Int} {n : Nat} (h0 : 0 ≤ p) (he : e = ((expo p.toNat n).1 : Int)) (hs : st = ((expo p.toNat n).2 : Int)) (hc : (p.fdiv st).fmod 2 = 1) :
    e.fdiv 2 + 128 = ((expo p.toNat (n + 1)).1 : Int) ∧ st.fdiv 2 = ((expo p.toNat (n + 1)).2 : Int) := by
  rw [expo_bit h0 hs] at hc
  have e2 : (2 : Int) = ((2 : Nat) : Int) := rfl
  rw [e2, fdiv_nat he, fdiv_nat hs]
  show _ = (((expo p.toNat n).1 / 2 + (if p.toNat / (expo p.toNat n).2 % 2 = 1 then 128 else 0) : Nat) : Int) ∧ _ = (((expo p.toNat n).2 / 2 : Nat) : Int)
  rw [if_pos (by omega)]
  exact ⟨by omega, rfl⟩
theorem expo_turn0 {p e st : Int} {n : Nat} (h0 : 0 ≤ p) (he : e = ((expo p.toNat n).1 : Int)) (hs : st = ((expo p.toNat n).2 : Int)) (hc : ¬ (p.fdiv st).fmod 2 = 1) :
    e.fdiv 2 = ((expo p.toNat (n + 1)).1 : Int) ∧ st.fdiv 2 = ((expo p.toNat (n + 1)).2 : Int) := by
  rw [expo_bit h0 hs] at hc
  have e2 : (2 : Int) = ((2 : Nat) : Int) := rfl
  rw [e2, fdiv_nat he, fdiv_nat hs]
  show _ = (((expo p.toNat n).1 / 2 + (if p.toNat / (expo p.toNat n).2 % 2 = 1 then 128 else 0) : Nat) : Int) ∧ _ = (((expo p.toNat n).2 / 2 : Nat) : Int)
  rw [if_neg (by omega)]
  exact ⟨by omega, rfl⟩
end Mine
namespace Mine
theorem res_turn {r r' k : Int} {n : Nat} {c ns : List Int} (hr : r = r') (hc : c = res r' n ns) (hk : k = 255 - (n : Int)) :
    c.set (k - 2).toNat ((c.getD (k - 2).toNat 0 + r * c.getD k.toNat 0).fmod 3329) = res r' (n + 1) ns := by
  subst hr; subst hk; subst hc; rfl
theorem rr_small : (List.range 128).all (fun p => decide (0 ≤ rr p ∧ rr p < 3329)) = true := by decide +kernel
theorem rr_bound {p : Nat} (h : p < 128) : 0 ≤ rr p ∧ rr p < 3329 := by
  have := List.all_eq_true.mp rr_small p (List.mem_range.mpr h)
  exact of_decide_eq_true this
theorem zl_small : (List.range 128).all (fun p => decide (0 ≤ zl.getD p 0 ∧ zl.getD p 0 < 3329)) = true := by decide +kernel
theorem zl_bound {p : Nat} (h : p < 128) : 0 ≤ zl.getD p 0 ∧ zl.getD p 0 < 3329 := by
  have := List.all_eq_true.mp zl_small p (List.mem_range.mpr h)
  exact of_decide_eq_true this
end Mine
namespace Mine
theorem res_turnL {r r' k : Int} {pre c ns : List Int} (hr : r = r') (hc : c = res r' pre.length ns) (hk : k = 255 - (pre.length : Int)) :
    c.set (k - 2).toNat ((c.getD (k - 2).toNat 0 + r * c.getD k.toNat 0).fmod 3329) = res r' (pre ++ [k]).length ns := by
  rw [List.length_append]; exact res_turn hr hc hk
theorem expo_turn1L {p e st k : Int} {pre : List Int} (h0 : 0 ≤ p) (he : e = ((expo p.toNat pre.length).1 : Int)) (hs : st = ((expo p.toNat pre.length).2 : Int)) (hc : (p.fdiv st).fmod 2 = 1) :
    e.fdiv 2 + 128 = ((expo p.toNat (pre ++ [k]).length).1 : Int) ∧ st.fdiv 2 = ((expo p.toNat (pre ++ [k]).length).2 : Int) := by
  rw [List.length_append]; exact expo_turn1 h0 he hs hc
theorem expo_turn0L {p e st k : Int} {pre : List Int} (h0 : 0 ≤ p) (he : e = ((expo p.toNat pre.length).1 : Int)) (hs : st = ((expo p.toNat pre.length).2 : Int)) (hc : ¬ (p.fdiv st).fmod 2 = 1) :
    e.fdiv 2 = ((expo p.toNat (pre ++ [k]).length).1 : Int) ∧ st.fdiv 2 = ((expo p.toNat (pre ++ [k]).length).2 : Int) := by
  rw [List.length_append]; exact expo_turn0 h0 he hs hc
theorem len_one {pre : List Int} {k : Int} {n : Nat} (h : pre.length + 1 ≤ n) : (pre ++ [k]).length ≤ n := by rw [List.length_append]; exact h
theorem set_len {c : List Int} {i n : Nat} {v : Int} (h : c.length = n) : (c.set i v).length = n := by rw [List.length_set]; exact h
end Mine
namespace Mine
theorem res_end {c ns : List Int} {r : Int} (h : c = res r (downKs 255 (255 - 1 : Int).toNat).length ns) : c = res r 254 ns := by rw [downKs_length] at h; exact h
theorem rest_news {h₀ : Heap} {L : Addr} {h : Heap} {a b c : Addr × Obj} {r : List (Addr × Obj)} (N : News h₀ L h (a :: b :: c :: r)) : News h₀ L h [a, c] := fun q hq => by
  rcases List.mem_cons.mp hq with rfl | hq
  · exact N _ (.head _)
  · rcases List.mem_cons.mp hq with rfl | hq
    · exact N _ (.tail _ (.tail _ (.head _)))
    · cases hq
end Mine
end

/-! Plain5 -/
section
open PySem PySem.W PyProof.Rows
set_option Elab.async false
namespace Mine
/-- the outer while's word: d layers are done -/
def Out (zs ns : List Int) (k l : Int) (c : List Int) : Prop :=
  ∃ d : Nat, d ≤ 7 ∧ k = ((2 ^ d : Nat) : Int) ∧ l = ((128 / 2 ^ d : Nat) : Int) ∧ c = layers zs d ns
/-- the inner while's word: i blocks of layer d are done -/
def Inn (zs ns : List Int) (d : Nat) (k start : Int) (c : List Int) : Prop :=
  ∃ i : Nat, i ≤ 2 ^ d ∧ k = ((2 ^ d + i : Nat) : Int) ∧ start = ((2 * (128 / 2 ^ d) * i : Nat) : Int) ∧ c = layer zs (2 ^ d) (128 / 2 ^ d) i (layers zs d ns)
theorem Out.zero {zs ns : List Int} : Out zs ns 1 128 ns := ⟨0, by omega, rfl, rfl, rfl⟩
theorem Inn.zero {zs ns : List Int} {d : Nat} {k : Int} {c : List Int} (hk : k = ((2 ^ d : Nat) : Int)) (hc : c = layers zs d ns) : Inn zs ns d k 0 c :=
  ⟨0, Nat.zero_le _, by rw [hk, Nat.add_zero], by rw [Nat.mul_zero]; rfl, hc⟩
theorem d_cases {d : Nat} (h : d ≤ 7) : d = 0 ∨ d = 1 ∨ d = 2 ∨ d = 3 ∨ d = 4 ∨ d = 5 ∨ d = 6 ∨ d = 7 := by omega
theorem d_six {d : Nat} {l : Int} (h7 : d ≤ 7) (hl : l = ((128 / 2 ^ d : Nat) : Int)) (h : l ≥ 2) : d ≤ 6 := by
  rcases d_cases h7 with h | h | h | h | h | h | h | h <;> subst h <;> simp at hl <;> omega
theorem d_seven {d : Nat} {l : Int} (h7 : d ≤ 7) (hl : l = ((128 / 2 ^ d : Nat) : Int)) (h : ¬ l ≥ 2) : d = 7 := by
  rcases d_cases h7 with h | h | h | h | h | h | h | h <;> subst h <;> simp at hl <;> omega
theorem Out.last {zs ns : List Int} {k l : Int} {c : List Int} (H : Out zs ns k l c) (h : ¬ l ≥ 2) : c = layers zs 7 ns := by
  obtain ⟨d, h7, _, hl, hc⟩ := H
  have := d_seven h7 hl h
  subst this; exact hc
theorem l_facts {d : Nat} {k l : Int} (h6 : d ≤ 6) (hk : k = ((2 ^ d : Nat) : Int)) (hl : l = ((128 / 2 ^ d : Nat) : Int)) : 1 ≤ k ∧ k ≤ 64 ∧ 2 ≤ l ∧ l ≤ 128 := by
  rcases d_cases (show d ≤ 7 by omega) with h | h | h | h | h | h | h | h <;> subst h <;> simp at hl hk <;> omega
theorem i_facts {d i : Nat} {k l start : Int} (h6 : d ≤ 6) (hl : l = ((128 / 2 ^ d : Nat) : Int)) (hi : i ≤ 2 ^ d) (hk : k = ((2 ^ d + i : Nat) : Int)) (hs : start = ((2 * (128 / 2 ^ d) * i : Nat) : Int)) (h : start < 256) :
    i < 2 ^ d ∧ 1 ≤ k ∧ k < 128 ∧ 2 ≤ l ∧ l ≤ 128 ∧ 0 ≤ start ∧ start + 2 * l ≤ 256 := by
  rcases d_cases (show d ≤ 7 by omega) with h | h | h | h | h | h | h | h <;> subst h <;> simp at hl hk hs hi ⊢ <;> omega
theorem Inn.turn {zs ns : List Int} {d i : Nat} {k l start start' : Int} {c c' : List Int} (hi : i < 2 ^ d) (hl : l = ((128 / 2 ^ d : Nat) : Int)) (hk : k = ((2 ^ d + i : Nat) : Int)) (hs : start = ((2 * (128 / 2 ^ d) * i : Nat) : Int))
    (hc : c = layer zs (2 ^ d) (128 / 2 ^ d) i (layers zs d ns)) (hc' : c' = block (zs.getD k.toNat 0) l start l.toNat c) (hs' : start' = start + 2 * l) : Inn zs ns d (k + 1) start' c' := by
  refine ⟨i + 1, hi, by rw [hk]; omega, ?_, ?_⟩
  · rw [hs', hs, hl, Nat.mul_add, Nat.mul_one]; omega
  · have e1 : k.toNat = 2 ^ d + i := by rw [hk]; rfl
    have e2 : l.toNat = 128 / 2 ^ d := by rw [hl]; rfl
    rw [hc', e1, e2, hl, hs, hc]; rfl
theorem halfL {d : Nat} {l l' : Int} (hl : l = ((128 / 2 ^ d : Nat) : Int)) (hl' : l' = l / 2) : l' = ((128 / 2 ^ (d + 1) : Nat) : Int) := by
  rw [hl', hl, Nat.pow_succ, ← Nat.div_div_eq_div_mul]; rfl
theorem Inn.done {zs ns : List Int} {d : Nat} {k l l' start : Int} {c : List Int} (h6 : d ≤ 6) (hl : l = ((128 / 2 ^ d : Nat) : Int)) (H : Inn zs ns d k start c) (h : ¬ start < 256) (hl' : l' = l / 2) : Out zs ns k l' c := by
  obtain ⟨i, hi, hk, hs, hc⟩ := H
  have e : i = 2 ^ d := by
    rcases d_cases (show d ≤ 7 by omega) with h | h | h | h | h | h | h | h <;> subst h <;> simp at hl hk hs hi ⊢ <;> omega
  subst e
  refine ⟨d + 1, by omega, ?_, halfL hl hl', ?_⟩
  · rw [hk, Nat.pow_succ]; omega
  · rw [hc]; rfl
end Mine
end

/-! Plain6 -/
section
open PySem PySem.W PyProof.Rows
set_option Elab.async false
namespace Mine
theorem z_facts {zs : List Int} {k : Int} (h : ∀ i, i < 128 → 0 ≤ zs.getD i 0 ∧ zs.getD i 0 < 3329) (h1 : 1 ≤ k) (h2 : k < 128) : 0 ≤ zs.getD k.toNat 0 ∧ zs.getD k.toNat 0 < 3329 := h _ (by omega)
theorem block_turn {z l s k : Int} {pre c c0 : List Int} (hc : c = block z l s pre.length c0) (hk : k = s + (pre.length : Int)) :
    (c.set (k + l).toNat (c.getD k.toNat 0 - z * c.getD (k + l).toNat 0)).set k.toNat ((c.set (k + l).toNat (c.getD k.toNat 0 - z * c.getD (k + l).toNat 0)).getD k.toNat 0 + z * c.getD (k + l).toNat 0) = block z l s (pre ++ [k]).length c0 := by
  subst hc; subst hk; rw [List.length_append]; rfl
theorem j_turn {s k : Int} {pre : List Int} (hk : k = s + (pre.length : Int)) : k + 1 = s + ((pre ++ [k]).length : Int) := by
  rw [List.length_append, hk]; show _ = s + ((pre.length + 1 : Nat) : Int); omega
theorem range_len {a l : Int} : (rangeKs a (a + l - a).toNat).length = l.toNat := by
  rw [rangeKs_length]; congr 1; omega
theorem j_end {s l j : Int} (h2 : 2 ≤ l) (h : (rangeKs s (s + l - s).toNat).length = 0 ∨ j + 1 = s + ((rangeKs s (s + l - s).toNat).length : Int)) : l + (j + 1) = s + 2 * l := by
  rw [range_len] at h
  omega
theorem block_end {z l s : Int} {c c0 : List Int} (h : c = block z l s (rangeKs s (s + l - s).toNat).length c0) : c = block z l s l.toNat c0 := by
  rw [range_len] at h; exact h
theorem half_shift (l : Int) : l.fdiv (2 ^ Int.toNat 1) = l / 2 := by
  rw [show (2 : Int) ^ Int.toNat 1 = 2 from rfl, Int.fdiv_eq_ediv_of_nonneg _ (by decide)]
/-- the first n items reduced -/
def modTo (n : Nat) (c : List Int) : List Int := (List.range n).foldl (fun c j => c.set j ((c.getD j 0).fmod 3329)) c
theorem modTo_succ (n : Nat) (c : List Int) : modTo (n + 1) c = (modTo n c).set n (((modTo n c).getD n 0).fmod 3329) := by
  unfold modTo; rw [List.range_succ, List.foldl_append]; rfl
theorem modTo_len (n : Nat) (c : List Int) : (modTo n c).length = c.length := by
  induction n with
  | zero => rfl
  | succ n ih => rw [modTo_succ, List.length_set, ih]
theorem modTo_get (n : Nat) (c : List Int) (i : Nat) : (modTo n c).getD i 0 = if i < n then (c.getD i 0).fmod 3329 else c.getD i 0 := by
  induction n with
  | zero => rw [if_neg (by omega)]; rfl
  | succ n ih =>
    rw [modTo_succ]
    simp only [List.getD_eq_getElem?_getD, List.getElem?_set, modTo_len] at ih ⊢
    by_cases h : n = i
    · subst h
      rw [if_neg (by omega)] at ih
      rw [if_pos rfl, if_pos (show n < n + 1 by omega)]
      by_cases h2 : n < c.length
      · rw [if_pos h2, ih]; rfl
      · rw [if_neg h2, List.getElem?_eq_none (by omega)]; rfl
    · rw [if_neg h, ih]
      by_cases h2 : i < n
      · rw [if_pos h2, if_pos (by omega)]
      · rw [if_neg h2, if_neg (by omega)]
theorem modTo_at {n i : Nat} {c : List Int} (h : i < n) : (modTo n c).getD i 0 = (c.getD i 0).fmod 3329 := by rw [modTo_get, if_pos h]
theorem mod_turn {pre c c0 : List Int} {k : Int} (hc : c = modTo pre.length c0) (hk : k = 0 + (pre.length : Int)) :
    c.set k.toNat ((c.getD k.toNat 0).fmod 3329) = modTo (pre ++ [k]).length c0 := by
  have e : k.toNat = pre.length := by omega
  rw [List.length_append, e, hc]; exact (modTo_succ _ _).symm
theorem mod_end {c c0 : List Int} {n : Nat} {a : Int} (h : c = modTo (rangeKs a n).length c0) : c = modTo n c0 := by rw [rangeKs_length] at h; exact h
end Mine
end

/-! KJ -/
section
open PySem PySem.W PySem.Spec PySem.Calls PyProof.Rows
set_option Elab.async false
set_option maxRecDepth 100000
namespace Mine
section
variable {prog : Program} {w : World} {A : Around} {E : Value → Shared → Prop} {s : Shared} {env : Env} {h₀ : Heap} {x : Str} {body : List Stmt} {Q : Flow → Shared → Prop}
/-- a loop over a written range whose own variable is a letter of the word: it is still known behind the loop -/
theorem my_rangeJ {σ : Type} {r : Addr} {a b : Int} {t₀ u₀ v₀ : Tok} {n : Nat} {m₀ : Str → Option Value} (Led : σ → List (Addr × Obj)) (ps : σ → List (Str × Value)) (Facts : σ → Prop) (stored : List Str) (P : List Int → σ → Prop) (c₀ : σ)
    (hh : A.handled = none) (hx : ∀ c, ∃ p ∈ ps c, p.1 = x) (hr : IsRange s.heap r a b 1 t₀ u₀ v₀) (hsm : Builtin.Range.small a b 1 = true) (hn : Builtin.Range.rangeSize a b 1 = (n : Int))
    (F : Fr h₀ env.locals s.heap m₀) (N : News h₀ env.locals s.heap (Led c₀)) (hf : Facts c₀) (hk : ∀ p ∈ ps c₀, m₀ p.1 = some p.2) (hp : P [] c₀)
    (turn : ∀ (c : σ) (pre : List Int) (k : Int) t (u : Str → Option Value) h tk own, k = a + (pre.length : Int) → pre.length < n → OwnOff own ((Led c₀).map (·.1)) → Facts c → P pre c →
      Fr h₀ env.locals h (fun y => if y = x then some (.int k t) else kstB (fun z => if stored.contains z then u z else m₀ z) (ps c) y) → News h₀ env.locals h (Led c ++ own) →
      wpAny (model prog w) A (execs body env) (InvPostN h₀ env.locals (KstS Led ps Facts x stored m₀ P (pre ++ [k])) own ((Led c₀).map (·.1)) { s with heap := h, toks := tk } Q) E { s with heap := h, toks := tk })
    (done : ∀ (c : σ) (u : Str → Option Value) h tk, Facts c → P (rangeKs a n) c → Fr h₀ env.locals h (kstB (fun z => if stored.contains z then u z else m₀ z) (ps c)) → News h₀ env.locals h (Led c) → Q .next { s with heap := h, toks := tk }) :
    wpAny (model prog w) A (pyIter (.ref r)) (fun it s₂ => LoopAtV prog w A h₀ env x body Q E it s₂) E s := by
  refine wpAny_pyIter_range hr hsm ?_
  have top : ∀ {y : Addr}, y = s.heap.objs.size → ¬ y < s.heap.objs.size := fun e h => absurd (e ▸ h) (Nat.lt_irrefl _)
  refine loop_invN (fun i m nx => KstS Led ps Facts x stored m₀ P ((rangeKs a n).take i) m nx) (Walks.range hh s.heap.objs.size a 1 n).bound ?_ ?_ ?_ ?_
    (by show IsRangeIter _ _ _ _ _; rw [hn]; simpa using Heap.get?_push_size _ rfl) (F.push _) (fun p hp => ⟨Heap.get?_push_of_some _ (N p hp).1, (N p hp).2⟩) ⟨c₀, rfl, hf, hk, fun _ _ _ _ => rfl, by simpa using hp⟩ ?_ ?_
  · exact fun hm => top (List.mem_singleton.mp hm) F.ns.lt
  · intro b hb
    rw [List.mem_singleton.mp hb]
    exact next_is_new F
  · exact fun p hp hI => top (List.mem_singleton.mp hI) (Heap.lt_size (N p hp).1)
  · exact fun p hp hI => top (List.mem_singleton.mp hI) (Heap.lt_size (N p hp).1)
  · rintro i v m₁ nx h tk own hi ⟨_, t, rfl⟩ _ hoff ⟨c, rfl, hf', h1, h2, hp'⟩ F₁ N₁
    have e1 : a + (i : Int) * 1 = a + (i : Int) := by omega
    rw [e1] at F₁
    have hg : (rangeKs a n)[i]? = some (a + (i : Int)) := by simp [rangeKs, hi]
    have hs : (rangeKs a n).take (i + 1) = (rangeKs a n).take i ++ [a + (i : Int)] := by rw [List.take_add_one, hg]; rfl
    have hl : ((rangeKs a n).take i).length = i := by rw [List.length_take, rangeKs_length]; omega
    rw [hs]
    exact turn c _ _ t m₁ h tk own (by rw [hl]) (by rw [hl]; exact hi) hoff hf' hp' (kst_fr h1 h2 F₁) N₁
  · rintro m₁ nx h tk ⟨c, rfl, hf', h1, h2, hp'⟩ F₁ N₁
    rw [List.take_of_length_le (Nat.le_of_eq (rangeKs_length _ _))] at hp'
    obtain ⟨p, hp, hpx⟩ := hx c
    exact done c m₁ h tk hf' hp' (ksw_fr h1 (fun z hz => h2 z (fun e => hz p hp (e.trans hpx.symm)) hz) F₁) N₁
end
end Mine
end

/-! Lem5 -/
section
open PySem PySem.W PyProof.Rows
set_option Elab.async false
namespace Mine
section
variable {prog : Program} {w : World} {A : Around} {E : Value → Shared → Prop} {s : Shared} {Q : Value → Shared → Prop}
theorem my_pow_e {p n : Nat} {e : Int} {t u v : Tok} (hp : p < 128) (he : e = ((expo p n).1 : Int)) (hn : n = 7) (h : ∀ r t' n, r = rr p → 0 ≤ r → r < 3329 → Q (.int r t') { s with toks := n }) :
    wpAny (model prog w) A (call (.builtin "pow") [.int 17 t, .int e u, .int 3329 v]) Q E s := by
  subst hn; subst he
  exact my_pow (by omega) fun t' n => h _ t' n rfl (rr_bound hp).1 (rr_bound hp).2
end
end Mine
end

/-! Lem6 -/
section
open PySem PySem.W PySem.Spec PySem.Calls PyProof.Rows
set_option Elab.async false
set_option maxRecDepth 100000
namespace Mine
section
variable {M : Model} {A : Around} {E : Value → Shared → Prop} {s : Shared} {env : Env} {pos : Pos} {first : List Value} {Q : Value → Shared → Prop}
/-- an object of an own class that is called with keywords -/
theorem my_callWith_kw {K : Frag} {x C : Addr} {ox : Obj} {od : Option Obj} {e : Expr} {rest : List Expr} {kws : List Keyword} (hd : ox.data = .plain)
    (hall : (backToKw pos (keywordEach kws env)).all (·.1.isSome) = true)
    (h : wpAny M A (spliced (backTo pos (starEach (e :: rest) env))) (fun vs s₁ => wpAny M A (evalAll ((backToKw pos (keywordEach kws env)).map (·.2)))
      (fun ks s₂ => kco_P K x C ox od s₂.heap ∧ wpAny M A (call (.ref x) (first ++ vs) (((backToKw pos (keywordEach kws env)).filterMap (·.1)).zip ks)) Q E s₂) E s₁) E s)
    (hplain : ((backTo pos (starEach (e :: rest) env)).any (·.1) || (backToKw pos (keywordEach kws env)).any (·.1.isNone)) = false := by rfl) (he : starEach (e :: rest) env = (false, eval e env) :: starEach rest env := by rfl) :
    wpAny M A (callWith pos (.ref x) first (backTo pos (starEach (e :: rest) env)) (backToKw pos (keywordEach kws env))) Q E s :=
  kco_callWith_of hplain hd (evalArgs_kw2 hall h he)
end
end Mine
end

/-! Rest2 -/
section
open PySem PySem.W PySem.Spec PySem.Calls PyProof.Rows
set_option Elab.async false
set_option maxRecDepth 100000
set_option maxHeartbeats 0
namespace Mine
local macro_rules | `(tactic| walk_at "call builtin:pow") => `(tactic| (k_here; (refine' my_pow_e ?k1 ?k2 ?k3 ?_; (case k2 => assumption); (case k1 => omega); (case k3 => exact rangeKs_length _ _)); intro _ _ _ _ _ _))
local macro_rules | `(tactic| walk_at "InvEndN") => `(tactic| (with_unfolding_all kst_close))
section
variable {prog : Program} {w : World} {A A₀ : Around} {E : Value → Shared → Prop} {s : Shared} {h₀ base : Heap} {L : Addr} {m mg mb : Str → Option Value} {K : Frag} {news : List (Addr × Obj)} {p : Program} {loose : List Str}
/-- a def of the text is entered where the top is known by reading alone (behind a generator expression) -/
theorem enter_read {env : Env} {outer : List Env} {Q : Value → Shared → Prop} {name qual : Str} {params : Arguments} {body : List Stmt} {scope : Scope} {dV kV doc pm cdv ct oc : Value} {an od : Option Addr} {osl : Array (Option Value)} {f : Addr} {vs : List Value} {binds : List (Str × Value)}
    (B : Below A₀ base outer h₀) (F : Fr h₀ L s.heap m) (X : K.In h₀) (N : News h₀ L s.heap news) (T : TopRead p loose mg mb h₀) (hA : A.frames = some (env :: outer)) (hf : env.frame = some L) (hke : env.scope.kind = .function)
    (ho : K.lookup f = some ⟨oc, od, .func (fnOf name qual params body scope dV kV doc pm an cdv ct), osl⟩) (hcd : codeIn K cdv qual = true) (hroom : A.depth < recursionLimit)
    (hbind : BindsTo s (fnOf name qual params body scope dV kV doc pm an cdv ct) ⟨vs, []⟩ binds) (hloc : ∀ y ∈ binds, scope.names.lookup y.1 = some .local)
    (hco : scope.isCoroutine = false) (hgen : scope.isGenerator = false) (hk : scope.kind = .function) (hcell : ∀ x ∈ scope.names, x.2 ≠ .cell)
    (h : ∀ g L' h₁, Fr h₀ L g m → Fr g L' h₁ (fun y => binds.reverse.lookup y) → News g L' h₁ news → Below A base (env :: outer) g → K.In g → TopRead p loose mg mb g →
      wpAny (model prog w) (A.deeper (envOf qual scope L' f cdv)) (execs body (envOf qual scope L' f cdv))
        (fun fl s' => LeaveK h₀ L m g (fun r s' => match r with | .ok (.ret v) => Q v s' | .ok _ => False | .error e => E e s') (match fl with | .ret v => v | _ => .none) s')
        (fun e s' => wpAny (model prog w) (A.deeper (envOf qual scope L' f cdv)) (leaving (envOf qual scope L' f cdv) e) (fun _ s'' => E e s'') (fun e' s'' => E e' s'') s')
        { s with heap := h₁, toks := s.toks + binds.length }) :
    wpAny (model prog w) A (call (.ref f) vs) Q E s :=
  wpAny_call (callX_plain (cl := []) B F N T.nolimit hA hf hke ((X.keeps F.keep) _ _ ho) rfl (codeRec_of (X.keeps F.keep) hcd) hroom hbind hloc (fun g L' h₁ FG F' N' B' st _ => h g L' h₁ FG F' N' B' (X.keeps st) (T.keeps st)) hcell hco hgen hk)
end
theorem rest_news2 {h₀ : Heap} {L : Addr} {h : Heap} {a b : Addr × Obj} {r : List (Addr × Obj)} (N : News h₀ L h (a :: b :: r)) : News h₀ L h (a :: r) := fun q hq => by
  rcases List.mem_cons.mp hq with rfl | hq
  · exact N _ (.head _)
  · exact N _ (.tail _ (.tail _ hq))
local macro_rules | `(tactic| walk_at "my step") => `(tactic| focus first | (k_unfold; (try dsimp only)) | (lge_end; wrow_closeG) | walk1 | (dsimp only; walk1) | (leave1; walk_say "STEP leave1"; try dsimp only) | wrow_closeG | fail "no step")
theorem rest_call {w : World} {p₀ : Program} {loose₀ : List Str} {mg mb : Str → Option Value} (dp un : Nat) (gd : Option (List Code)) (cn : Str) (cs : Scope) (a : Addr) (ccd : Value) (cl : List (Str × Addr)) (outer : List Env) (A₀ : Around) (base h₀ : Heap) (L : Addr) (m : Str → Option Value) (s : Shared) (Q E : Value → Shared → Prop)
    (l a1 a2 a3 a4 a5 a6 : Addr) (o1 o2 o3 o4 o5 o6 : Obj) (vs : List Value) (ns : List Int) (cnt : Nat) (p : Int) (tk : Tok)
    (B : Below A₀ base outer h₀) (F : Fr h₀ L s.heap m) (X : (hd.heap_39 w.params).In h₀) (N : News h₀ L s.heap [(l, listOf vs.toArray cnt), (a1, o1), (a2, o2), (a3, o3), (a4, o4), (a5, o5), (a6, o6)]) (T : TopRead p₀ loose₀ mg mb h₀) (hk : cs.kind = .function)
    (hi : IntsAre vs ns) (hlen : ns.length = 256) (hp0 : 0 ≤ p) (hp1 : p < 128) (hd : dp + 5 < recursionLimit) (hu : un + 20 < cLine)
    (hret : ∀ D t0 t1 c h' tk', Fr h₀ L h' m → News h₀ L h' [(D, listOf [Value.int (((res (rr p.toNat) 254 ns).getD 0 0).fmod 3329) t0, Value.int (((res (rr p.toNat) 254 ns).getD 1 0).fmod 3329) t1].toArray c), (l, listOf vs.toArray cnt), (a1, o1), (a2, o2), (a3, o3), (a4, o4), (a5, o5), (a6, o6)] → Q (.ref D) { s with heap := h', toks := tk' }) :
    wpAny (model PySem.Challenge.rw_yb0003_01.row.prog w) (ktrTop dp un gd cn cs L a ccd cl outer) (call (.ref 442) [.ref l, .int p tk]) Q E s := by
  k_with_none
  k_with "state" => (first | (have h9 := expo_turn1L (k := kN) (pre := kPre) (p := p) (by with_reducible assumption) (by with_reducible assumption) (by with_reducible assumption) (by with_reducible assumption); exact ⟨h9.1, h9.2, len_one (by omega)⟩) | (have h9 := expo_turn0L (k := kN) (pre := kPre) (p := p) (by with_reducible assumption) (by with_reducible assumption) (by with_reducible assumption) (by with_reducible assumption); exact ⟨h9.1, h9.2, len_one (by omega)⟩) | (refine ⟨res_turnL ?_ ?_ ?_, set_len ?_, len_one ?_⟩; (with_reducible assumption); (with_reducible assumption); (with_reducible assumption); (with_reducible assumption); omega))
  w_on
  revert X; k_fill; intro X
  k_dflt (refine' enter_read ?k1 ?k2 ?k3 ?k4 ?k5 ?kA ?kF ?kK ?k6 ?k7 ?k8 ?k9 ?kB ?c2 ?c3 ?c4 ?c5 ?_; (case kA => exact rfl); (case kF => exact rfl); (case kK => assumption); (case k1 => assumption); (case k2 => assumption); (case k3 => assumption); (case k4 => assumption); (case k5 => assumption); (case k6 => k_is); (case k7 => k_is); (case k8 => ktr_room); (case k9 => exact BindsTo.of_eq rfl); (case c5 => decide); (case kB => exact locs rfl); (case c2 => exact rfl); (case c3 => exact rfl); (case c4 => exact rfl); intro gR LR hR FGR FR NR BR XR TR; (try dsimp only); (try k_fold))
  iterate 18 walk_at "my step"
  k_state_short (fun pre e step => e = ((expo p.toNat pre.length).1 : Int) ∧ step = ((expo p.toNat pre.length).2 : Int) ∧ pre.length ≤ 7) "e" "step"
  all_goals (try ((have hs9 := expo_pos (p := p.toNat) kLt); (have hs8 := expo_le (p := p.toNat) kLt)))
  iterate 94 walk_at "my step"
  k_state (fun pre rest => rest = res (rr p.toNat) pre.length ns ∧ rest.length = 256 ∧ pre.length ≤ 254) "rest"
  iterate 53 walk_at "my step"
  rename News _ _ _ _ => nE
  rename Fr _ _ _ _ => fE
  dsimp only at nE fE
  with_reducible rename _ = res _ _ _ => hr9
  replace hr9 := res_end hr9
  rw [← hr9] at hret
  exact hret _ _ _ _ _ _ fE (rest_news2 nE)
end Mine
end

/-! Ntt -/
section
open PySem PySem.W PySem.Spec PySem.Calls PyProof.Rows
set_option Elab.async false
set_option maxRecDepth 100000
set_option maxHeartbeats 0
namespace Mine
local macro_rules | `(tactic| walk_at "InvEndN") => `(tactic| (with_unfolding_all kst_close))
local macro_rules | `(tactic| k_room) => `(tactic| ((try simp only [depth_mark, depth_under_make, depth_under_kw, depth_in1, depth_deeper, depth_caller]); omega))
local macro_rules | `(tactic| k_units) => `(tactic| ((try simp only [units_in1, units_deeper, Around.mark_units, units_caller]); omega))
theorem mod_fin {c c0 c1 : List Int} (h : c = modTo (rangeKs 0 (256 - 0 : Int).toNat).length c0) (h1 : c0 = c1) : c = modTo 256 c1 := by
  rw [rangeKs_length] at h; rw [h, h1]; rfl
theorem pick_ntt {h₀ : Heap} {L : Addr} {h : Heap} {a b c d e f g i j k : Addr × Obj} (N : News h₀ L h [a, b, c, d, e, f, g, i, j, k]) : News h₀ L h [a, b, e, j, k] := cb_drop N (fun p hp => by
  simp only [List.mem_cons, List.not_mem_nil, or_false] at hp ⊢
  rcases hp with h | h | h | h | h <;> simp [h])
theorem news_tail {h₀ : Heap} {L : Addr} {h : Heap} {p : Addr × Obj} {r : List (Addr × Obj)} (N : News h₀ L h (p :: r)) : News h₀ L h r := fun q hq => N q (.tail _ hq)
local macro_rules | `(tactic| walk_at "my step") => `(tactic| focus first | (k_unfold; (try dsimp only)) | (lge_end; wrow_closeG) | walk1 | (dsimp only; walk1) | (leave1; walk_say "STEP leave1"; try dsimp only) | wrow_closeG | fail "no step")
theorem ntt_call {w : World} {mean : ExcName → Option Value} {mg mb : Str → Option Value} (dp un : Nat) (gd : Option (List Code)) (cn : Str) (cs : Scope) (a : Addr) (ccd : Value) (cl : List (Str × Addr)) (outer : List Env) (A₀ : Around) (base h₀ : Heap) (L : Addr) (m : Str → Option Value) (s : Shared) (Q E : Value → Shared → Prop)
    (f fd c x d z ra pa : Addr) (cvs zvs rvs pvs : List Value) (ns zs : List Int) (cc zc rc pc n1 n2 : Nat) (fv : Int) (k1 k2 k3 k4 k5 k6 t1 t2 t3 : Tok)
    (B : Below A₀ base outer h₀) (F : Fr h₀ L s.heap m) (X : (hd.heap_39 w.params).In h₀)
    (N : News h₀ L s.heap [(f, instObj 350 fd),
      (fd, dictOf [{ hash := PyData.keyHash w.params (Str.ofString "parent"), key := Value.str (Str.ofString "parent") k1, val := Value.ref x }, { hash := PyData.keyHash w.params (Str.ofString "coeffs"), key := Value.str (Str.ofString "coeffs") k2, val := Value.ref c }] n1),
      (c, listOf cvs.toArray cc), (x, instObj 282 d),
      (d, dictOf [{ hash := PyData.keyHash w.params (Str.ofString "q"), key := Value.str (Str.ofString "q") k3, val := Value.int 3329 t1 }, { hash := PyData.keyHash w.params (Str.ofString "n"), key := Value.str (Str.ofString "n") k4, val := Value.int 256 t2 }, { hash := PyData.keyHash w.params (Str.ofString "ntt_zetas"), key := Value.str (Str.ofString "ntt_zetas") k5, val := Value.ref z }, { hash := PyData.keyHash w.params (Str.ofString "ntt_f"), key := Value.str (Str.ofString "ntt_f") k6, val := Value.int fv t3 }] n2),
      (z, listOf zvs.toArray zc), (ra, listOf rvs.toArray rc), (pa, listOf pvs.toArray pc)])
    (T : Top vw (looseW vw lw) mean mg mb h₀) (hk : cs.kind = .function)
    (hne : @Ne Nat c f ∧ @Ne Nat c fd ∧ @Ne Nat c x ∧ @Ne Nat c d ∧ @Ne Nat c z ∧ @Ne Nat c ra ∧ @Ne Nat c pa)
    (hi : IntsAre cvs ns) (hlen : ns.length = 256) (hzi : IntsAre zvs zs) (hzl : zs.length = 128) (hzb : ∀ i, i < 128 → 0 ≤ zs.getD i 0 ∧ zs.getD i 0 < 3329)
    (hdp : dp + 8 < recursionLimit) (hu : un + 30 < cLine)
    (hret : ∀ f' fd' cvs' ns' cc' n' k1' k2' h' tk', IntsAre cvs' ns' → ns' = modTo 256 (layers zs 7 ns) → Fr h₀ L h' m → News h₀ L h' [(f', instObj 426 fd'),
      (fd', dictOf [{ hash := PyData.keyHash w.params (Str.ofString "parent"), key := Value.str (Str.ofString "parent") k1', val := Value.ref x }, { hash := PyData.keyHash w.params (Str.ofString "coeffs"), key := Value.str (Str.ofString "coeffs") k2', val := Value.ref c }] n'),
      (c, listOf cvs'.toArray cc'), (ra, listOf rvs.toArray rc), (pa, listOf pvs.toArray pc)] → Q (.ref f') { s with heap := h', toks := tk' }) :
    wpAny (model PySem.Challenge.rw_yb0003_01.row.prog w) (ktrTop dp un gd cn cs L a ccd cl outer) (call (.ref 340) [.ref f]) Q E s := by
  k_with_none
  w_on
  revert X; k_fill; intro X
  refine wpAny_call ?_
  k_dflt cell_enter
  iterate 33 walk_at "my step"
  rename News _ _ _ _ => nT
  replace nT := news_tail nT
  k_with "state" => (first | exact ⟨Out.zero, hlen⟩)
  k_while (fun pre k l coeffs => Out zs ns k l coeffs ∧ coeffs.length = 256) (fun pre k l coeffs => l.toNat) "k" "l" "coeffs"
  rename_i k9 kt9 l9 lt9 cv9 cn9 cc9 hO hL9 _ _
  have hO2 := hO
  obtain ⟨d9, h7, hk9, hl9, hc9⟩ := hO2
  iterate 7 walk_at "my step"
  · have h6 := d_six h7 hl9 (by assumption)
    have hlf := l_facts h6 hk9 hl9
    iterate 5 walk_at "my step"
    k_with "state" => (first | exact ⟨Inn.zero hk9 hc9, by assumption⟩)
    k_while (fun pre k start coeffs => Inn zs ns d9 k start coeffs ∧ coeffs.length = 256) (fun pre k start coeffs => (256 - start).toNat) "k" "start" "coeffs"
    rename_i k8 kt8 s8 st8 cv8 cn8 cc8 hI hL8 _ _ _
    have hI2 := hI
    obtain ⟨i9, hi9, hk8, hs8, hc8⟩ := hI2
    iterate 7 walk_at "my step"
    · have hif := i_facts h6 hl9 hi9 hk8 hs8 (by assumption)
      have hzz := z_facts hzb hif.2.1 hif.2.2.1
      iterate 32 walk_at "my step"
      k_here
      rename Fr _ _ _ _ => lF'
      rename News _ _ _ _ => lN'
      rename IsRange _ _ _ _ _ _ _ _ => rgX
      with_unfolding_all refine' my_rangeJ (σ := List Value × List Int × Nat × Int × Tok) (fun q => [(f, instObj 350 fd), (fd, dictOf [{ hash := PyData.keyHash w.params (Str.ofString "parent"), key := Value.str (Str.ofString "parent") k1, val := Value.ref x }, { hash := PyData.keyHash w.params (Str.ofString "coeffs"), key := Value.str (Str.ofString "coeffs") k2, val := Value.ref c }] n1), (c, listOf q.1.toArray q.2.2.1), (x, instObj 282 d), (d, dictOf [{ hash := PyData.keyHash w.params (Str.ofString "q"), key := Value.str (Str.ofString "q") k3, val := Value.int 3329 t1 }, { hash := PyData.keyHash w.params (Str.ofString "n"), key := Value.str (Str.ofString "n") k4, val := Value.int 256 t2 }, { hash := PyData.keyHash w.params (Str.ofString "ntt_zetas"), key := Value.str (Str.ofString "ntt_zetas") k5, val := Value.ref z }, { hash := PyData.keyHash w.params (Str.ofString "ntt_f"), key := Value.str (Str.ofString "ntt_f") k6, val := Value.int fv t3 }] n2), (z, listOf zvs.toArray zc), (ra, listOf rvs.toArray rc), (pa, listOf pvs.toArray pc)]) (fun q => [(Str.ofString "j", .int q.2.2.2.1 q.2.2.2.2)]) (fun q => IntsAre q.1 q.2.1) [Str.ofString "t"] (fun pre q => q.2.1 = block (zs.getD k8.toNat 0) l9 s8 pre.length cn8 ∧ q.2.1.length = 256 ∧ (pre.length = 0 ∨ q.2.2.2.1 + 1 = s8 + (pre.length : Int)) ∧ pre.length ≤ l9.toNat) (cv8, cn8, cc8, s8, st8) (by rfl) (fun q => ⟨_, .head _, rfl⟩) rgX (small_one (by omega) (by omega) (by omega) (by omega)) (rangeSize_nat _ _) lF' ?kn ?kf ?kk ?kp ?_ ?_
      (case kn => (with_unfolding_all exact kst_newsOf lN' (by kst_inAny)))
      (case kf => kst_facts)
      (case kk => kst_all)
      (case kp => exact ⟨rfl, hL8, .inl rfl, Nat.zero_le _⟩)
      all_goals (clear lF' lN')
      · rintro ⟨cv7, cn7, cc7, j7, jt7⟩ kPre kN kT kU kH kTk kOwn kEq kLt kOff kFacts ⟨hb7, hL7, hj7, hp7⟩ kFr kNews
        have kMark := kstMark
        dsimp only [kstB] at kFr
        dsimp only at kNews kFacts kOff hb7 hL7 hj7 hp7
        simp only [List.nil_append, List.cons_append, List.append_nil] at kNews
        simp only [List.map_cons, List.map_nil] at kOff
        try k_fold
        k_with "state" => (refine ⟨block_turn (pre := kPre) (k := kN) hb7 kEq, set_len (set_len hL7), .inr (j_turn kEq), len_one (by omega)⟩)
        iterate 43 walk_at "my step"
      · rintro ⟨cv7, cn7, cc7, j7, jt7⟩ kU kH kTk kFacts ⟨hb7, hL7, hj7, _⟩ kFr kNews
        have kMark := kstMark
        dsimp only [kstB] at kFr
        dsimp only at kNews kFacts hb7 hL7 hj7
        have hj8 := j_end (by omega) hj7
        have hb8 := block_end hb7
        try k_fold
        k_with "state" => exact ⟨Inn.turn hif.1 hl9 hk8 hs8 hc8 hb8 hj8, hL7⟩
        iterate 13 walk_at "my step"
    · iterate 10 walk_at "my step"
      have hsh := half_shift l9
      k_with "state" => exact ⟨Inn.done h6 hl9 hI (by assumption) hsh, hL8⟩
      k_with "measure" => omega
      iterate 1 walk_at "my step"
  · clear hc9
    iterate 10 walk_at "my step"
    k_with "state" => exact ⟨mod_turn (pre := kPre) (k := kN) (by with_reducible assumption) (by with_reducible assumption), set_len (by with_reducible assumption), len_one (by omega)⟩
    k_with "state" => exact ⟨rfl, hL9, Nat.zero_le _⟩
    k_state (fun pre coeffs => coeffs = modTo pre.length cn9 ∧ coeffs.length = 256 ∧ pre.length ≤ 256) "coeffs"
    iterate 22 walk_at "my step"
    k_here
    refine' my_callWith_kw (K := Mine.hd.heap_39 w.params) (C := 282) (ox := instObj 282 d) (od := some (dictOf [{ hash := PyData.keyHash w.params (Str.ofString "q"), key := Value.str (Str.ofString "q") k3, val := Value.int 3329 t1 }, { hash := PyData.keyHash w.params (Str.ofString "n"), key := Value.str (Str.ofString "n") k4, val := Value.int 256 t2 }, { hash := PyData.keyHash w.params (Str.ofString "ntt_zetas"), key := Value.str (Str.ofString "ntt_zetas") k5, val := Value.ref z }, { hash := PyData.keyHash w.params (Str.ofString "ntt_f"), key := Value.str (Str.ofString "ntt_f") k6, val := Value.int fv t3 }] n2)) ?k1 ?k2 ?_
    (case k1 => rfl)
    (case k2 => rfl)
    iterate 8 walk_at "my step"
    k_here
    refine wpAny_call ?_
    refine' kco_code (K := Mine.hd.heap_39 w.params) (C := 282) (f := 279) (ox := instObj 282 d) (od := some (dictOf [{ hash := PyData.keyHash w.params (Str.ofString "q"), key := Value.str (Str.ofString "q") k3, val := Value.int 3329 t1 }, { hash := PyData.keyHash w.params (Str.ofString "n"), key := Value.str (Str.ofString "n") k4, val := Value.int 256 t2 }, { hash := PyData.keyHash w.params (Str.ofString "ntt_zetas"), key := Value.str (Str.ofString "ntt_zetas") k5, val := Value.ref z }, { hash := PyData.keyHash w.params (Str.ofString "ntt_f"), key := Value.str (Str.ofString "ntt_f") k6, val := Value.int fv t3 }] n2)) ?k1 ?k2 ?k3 ?k4 ?k5 ?k6 ?_
    (case k1 => k_in)
    (case k2 => k_inst)
    (case k3 => rfl)
    (case k4 => k_is)
    (case k5 => k_is)
    (case k6 => k_is)
    (try dsimp only)
    k_dflt k_enter
    iterate 121 walk_at "my step"
    rename News _ _ _ _ => nE
    rename Fr _ _ _ _ => fE
    dsimp only at nE fE
    with_reducible rename _ = modTo _ _ => hm9
    exact hret _ _ _ _ _ _ _ _ _ _ (by with_reducible assumption) (mod_fin hm9 (hO.last (by omega))) fE (pick_ntt nE)
end Mine
end

/-! Ring -/
section
open PySem PySem.W PySem.Spec PySem.Calls PyProof.Rows
set_option Elab.async false
set_option maxRecDepth 100000
set_option maxHeartbeats 0
namespace Mine
local macro_rules | `(tactic| k_room) => `(tactic| ((try simp only [depth_mark, depth_under_make, depth_under_kw, depth_in1, depth_deeper, depth_caller]); omega))
local macro_rules | `(tactic| k_units) => `(tactic| ((try simp only [units_in1, units_deeper, Around.mark_units, units_caller]); omega))
def pad (ns : List Int) : List Int := ns ++ List.replicate (256 - ns.length) 0
theorem pad_len {ns : List Int} (h : ns.length ≤ 256) : (pad ns).length = 256 := by
  unfold pad; rw [List.length_append, List.length_replicate]; omega
theorem pad_lt {ns : List Int} (_h : (ns.length : Int) < 256) : ns ++ List.map (fun _ => (0 : Int)) (rangeKs 0 (256 - (ns.length : Int) - 0).toNat) = pad ns := by
  unfold pad; congr 1
  rw [List.map_const', rangeKs_length]; congr 1; omega
theorem pad_ge {ns : List Int} (h : 256 ≤ (ns.length : Int)) : ns = pad ns := by
  unfold pad; rw [show 256 - ns.length = 0 by omega]; exact (List.append_nil _).symm
theorem pick_ring {h₀ : Heap} {L : Addr} {h : Heap} {a b c d e f g i j k : Addr × Obj} (N : News h₀ L h [a, b, c, d, e, f, g, i, j, k]) : News h₀ L h [c, d, a, f, g, i, j, k] := cb_drop N (fun p hp => by
  simp only [List.mem_cons, List.not_mem_nil, or_false] at hp ⊢
  rcases hp with h | h | h | h | h | h | h | h <;> simp [h])
theorem pick_ring2 {h₀ : Heap} {L : Addr} {h : Heap} {a c d f g i j k : Addr × Obj} (N : News h₀ L h [c, d, a, f, g, i, j, k]) : News h₀ L h [c, d, a, f, g, i, j, k] := N
local macro_rules | `(tactic| walk_at "my step") => `(tactic| focus first | (k_unfold; (try dsimp only)) | (lge_end; wrow_closeG) | walk1 | (dsimp only; walk1) | (leave1; walk_say "STEP leave1"; try dsimp only) | wrow_closeG | fail "no step")
theorem ring_call {w : World} {mean : ExcName → Option Value} {mg mb : Str → Option Value} (dp un : Nat) (gd : Option (List Code)) (cn : Str) (cs : Scope) (a : Addr) (ccd : Value) (cl : List (Str × Addr)) (outer : List Env) (A₀ : Around) (base h₀ : Heap) (L : Addr) (m : Str → Option Value) (s : Shared) (Q E : Value → Shared → Prop)
    (g x d z ra pa : Addr) (gvs zvs rvs pvs : List Value) (ns : List Int) (gc zc rc pc n2 : Nat) (fv : Int) (k3 k4 k5 k6 t1 t2 t3 : Tok)
    (B : Below A₀ base outer h₀) (F : Fr h₀ L s.heap m) (X : (hd.heap_39 w.params).In h₀)
    (N : News h₀ L s.heap [(g, listOf gvs.toArray gc), (x, instObj 282 d),
      (d, dictOf [{ hash := PyData.keyHash w.params (Str.ofString "q"), key := Value.str (Str.ofString "q") k3, val := Value.int 3329 t1 }, { hash := PyData.keyHash w.params (Str.ofString "n"), key := Value.str (Str.ofString "n") k4, val := Value.int 256 t2 }, { hash := PyData.keyHash w.params (Str.ofString "ntt_zetas"), key := Value.str (Str.ofString "ntt_zetas") k5, val := Value.ref z }, { hash := PyData.keyHash w.params (Str.ofString "ntt_f"), key := Value.str (Str.ofString "ntt_f") k6, val := Value.int fv t3 }] n2),
      (z, listOf zvs.toArray zc), (ra, listOf rvs.toArray rc), (pa, listOf pvs.toArray pc)])
    (T : Top vw (looseW vw lw) mean mg mb h₀) (hk : cs.kind = .function)
    (hi : IntsAre gvs ns) (hlen : ns.length ≤ 256)
    (hdp : dp + 8 < recursionLimit) (hu : un + 30 < cLine)
    (hne : @Ne Nat g x ∧ @Ne Nat g d ∧ @Ne Nat g z ∧ @Ne Nat g ra ∧ @Ne Nat g pa)
    (hret : ∀ f fd c cvs ns' cc n1 k1 k2 h' tk', IntsAre cvs ns' → ns' = pad ns → (@Ne Nat c f ∧ @Ne Nat c fd ∧ @Ne Nat c x ∧ @Ne Nat c d ∧ @Ne Nat c z ∧ @Ne Nat c ra ∧ @Ne Nat c pa) → Fr h₀ L h' m → News h₀ L h' [(f, instObj 350 fd),
      (fd, dictOf [{ hash := PyData.keyHash w.params (Str.ofString "parent"), key := Value.str (Str.ofString "parent") k1, val := Value.ref x }, { hash := PyData.keyHash w.params (Str.ofString "coeffs"), key := Value.str (Str.ofString "coeffs") k2, val := Value.ref c }] n1),
      (c, listOf cvs.toArray cc), (x, instObj 282 d),
      (d, dictOf [{ hash := PyData.keyHash w.params (Str.ofString "q"), key := Value.str (Str.ofString "q") k3, val := Value.int 3329 t1 }, { hash := PyData.keyHash w.params (Str.ofString "n"), key := Value.str (Str.ofString "n") k4, val := Value.int 256 t2 }, { hash := PyData.keyHash w.params (Str.ofString "ntt_zetas"), key := Value.str (Str.ofString "ntt_zetas") k5, val := Value.ref z }, { hash := PyData.keyHash w.params (Str.ofString "ntt_f"), key := Value.str (Str.ofString "ntt_f") k6, val := Value.int fv t3 }] n2),
      (z, listOf zvs.toArray zc), (ra, listOf rvs.toArray rc), (pa, listOf pvs.toArray pc)] → Q (.ref f) { s with heap := h', toks := tk' }) :
    wpAny (model PySem.Challenge.rw_yb0003_01.row.prog w) (ktrTop dp un gd cn cs L a ccd cl outer) (call (.ref x) [.ref g]) Q E s := by
  k_with_none
  w_on
  revert X; k_fill; intro X
  refine wpAny_call ?_
  refine' kco_code (K := Mine.hd.heap_39 w.params) (C := 282) (f := 279) (ox := instObj 282 d) (od := some (dictOf [{ hash := PyData.keyHash w.params (Str.ofString "q"), key := Value.str (Str.ofString "q") k3, val := Value.int 3329 t1 }, { hash := PyData.keyHash w.params (Str.ofString "n"), key := Value.str (Str.ofString "n") k4, val := Value.int 256 t2 }, { hash := PyData.keyHash w.params (Str.ofString "ntt_zetas"), key := Value.str (Str.ofString "ntt_zetas") k5, val := Value.ref z }, { hash := PyData.keyHash w.params (Str.ofString "ntt_f"), key := Value.str (Str.ofString "ntt_f") k6, val := Value.int fv t3 }] n2)) ?k1 ?k2 ?k3 ?k4 ?k5 ?k6 ?_
  (case k1 => k_in)
  (case k2 => k_inst)
  (case k3 => rfl)
  (case k4 => k_is)
  (case k5 => k_is)
  (case k6 => k_is)
  (try dsimp only)
  obtain ⟨ck, cnames, cg, cco⟩ := cs
  dsimp only at hk
  subst hk
  k_dflt k_enter
  iterate 134 walk_at "my step"
  · rename News _ _ _ _ => nE
    rename Fr _ _ _ _ => fE
    dsimp only at nE fE
    rename IntsAre _ (_ ++ _) => iE
    refine hret _ _ _ _ _ _ _ _ _ _ _ iE ?e1 ?e2 fE (pick_ring nE)
    (case e1 => exact pad_lt (by omega))
    (case e2 => omega)
  · iterate 15 walk_at "my step"
    rename News _ _ _ _ => nE
    rename Fr _ _ _ _ => fE
    dsimp only at nE fE
    refine hret _ _ _ _ _ _ _ _ _ _ _ (by with_reducible assumption) ?e1 ?e2 fE (pick_ring2 nE)
    (case e1 => exact pad_ge (by omega))
    (case e2 => omega)
end Mine
end

/-! Draw -/
section
open PySem PySem.W PySem.Spec PySem.Calls PyProof.Rows
set_option Elab.async false
set_option maxRecDepth 100000
set_option maxHeartbeats 0
namespace Mine
local macro_rules | `(tactic| walk_at "my step") => `(tactic| focus first | (k_unfold; (try dsimp only)) | (lge_end; wrow_closeG) | walk1 | (dsimp only; walk1) | (leave1; walk_say "STEP leave1"; try dsimp only) | wrow_closeG | fail "no step")
theorem draw_call {w : World} {mean : ExcName → Option Value} {mg mb : Str → Option Value} (dp un : Nat) (gd : Option (List Code)) (cn : Str) (cs : Scope) (a : Addr) (ccd : Value) (cl : List (Str × Addr)) (outer : List Env) (A₀ : Around) (base h₀ : Heap) (L : Addr) (m : Str → Option Value) (news : List (Addr × Obj)) (s : Shared) (Q E : Value → Shared → Prop)
    (l : Addr) (vs : List Value) (ns : List Int) (k : Int) (tk : Tok)
    (B : Below A₀ base outer h₀) (F : Fr h₀ L s.heap m) (X : (hd.heap_39 w.params).In h₀) (N : News h₀ L s.heap news) (T : Top vw (looseW vw lw) mean mg mb h₀) (hk : cs.kind = .function)
    (hl : base.IsList l vs.toArray) (hi : IntsAre vs ns) (hlen : ns.length < 2 ^ 62) (h0 : 0 ≤ k) (h1 : k ≤ 1000) (hdp : dp + 2 < recursionLimit) (hu : un + 12 < cLine)
    (hret : ∀ t h' tk', Fr h₀ L h' m → News h₀ L h' news → Q (.int (draw ns k) t) { s with heap := h', toks := tk' }) :
    wpAny (model PySem.Challenge.rw_yb0003_01.row.prog w) (ktrTop dp un gd cn cs L a ccd cl outer) (call (.ref 435) [.ref l, .int k tk]) Q E s := by
  k_with_none
  w_on
  revert X; k_fill; intro X
  refine wpAny_call ?_
  k_dflt cell_enter
  iterate 23 walk_at "my step"
  · rename News _ _ _ _ => nE
    rename Fr _ _ _ _ => fE
    dsimp only at nE fE
    unfold draw at hret
    rw [if_pos (by omega)] at hret
    exact hret _ _ _ fE nE
  · iterate 21 walk_at "my step"
    rename News _ _ _ _ => nE
    rename Fr _ _ _ _ => fE
    dsimp only at nE fE
    unfold draw at hret
    rw [if_neg (by omega)] at hret
    exact hret _ _ _ fE nE
end Mine
end

/-! Make -/
section
open PySem PySem.W PySem.Spec PySem.Calls PyProof.Rows
set_option Elab.async false
set_option maxRecDepth 100000
set_option maxHeartbeats 0
namespace Mine
local macro_rules | `(tactic| walk_at "call builtin:bin") => `(tactic| (k_here; with_unfolding_all refine' my_bin ?k1 ?k2 ?_; (case k1 => omega); (case k2 => omega); intro _ _))
local macro_rules | `(tactic| walk_at "call builtin:pow") => `(tactic| (k_here; first | (with_reducible refine my_pow_inv ?_; intro _ _) | (refine' my_pow ?k1 ?_; (case k1 => omega); intro _ _)))
local macro_rules | `(tactic| walk_at "subscriptTail Call Name cons nil Slice str ref") => `(tactic| (k_here; (with_reducible show wpAny _ _ (subscriptTail _ (Expr.Slice (some _) none none _) (Value.str (brT _) _) (Value.ref _)) _ _ _); (with_reducible rename Fr _ _ _ _ => F'); (with_reducible rename News _ _ _ _ => N'); (refine' my_slice2 (s := ⟨_, _, _, _, _⟩) ?k1 ?k2 F' N' ?_ ?k3 ?k4); (case k1 => omega); (case k2 => omega); (case k3 => with_unfolding_all rfl); (case k4 => intro _; with_unfolding_all rfl); intro _ _ _ _ _))
local macro_rules | `(tactic| walk_at "subscriptTail Name Slice str ref") => `(tactic| (k_here; (with_reducible show wpAny _ _ (subscriptTail _ (Expr.Slice (some _) none none _) (Value.str (brT _) _) (Value.ref _)) _ _ _); (with_reducible rename Fr _ _ _ _ => F'); (with_reducible rename News _ _ _ _ => N'); (refine' my_slice2 (s := ⟨_, _, _, _, _⟩) ?k1 ?k2 F' N' ?_ ?k3 ?k4); (case k1 => omega); (case k2 => omega); (case k3 => with_unfolding_all rfl); (case k4 => intro _; with_unfolding_all rfl); intro _ _ _ _ _))
local macro_rules | `(tactic| walk_at "subscriptTail Name Slice str ref") => `(tactic| (k_here; (with_reducible show wpAny _ _ (subscriptTail _ (Expr.Slice none none (some _) _) (Value.str (brZ _) _) (Value.ref _)) _ _ _); (with_reducible rename Fr _ _ _ _ => F'); (with_reducible rename News _ _ _ _ => N'); (refine' my_slice_rev (s := ⟨_, _, _, _, _⟩) ?k1 ?k2 F' N' ?_ ?k3 ?k4); (case k1 => omega); (case k2 => omega); (case k3 => with_unfolding_all rfl); (case k4 => intro _; with_unfolding_all rfl); intro _ _ _ _ _))
local macro_rules | `(tactic| walk_at "call builtin:str.zfill") => `(tactic| (k_here; (refine my_zfill ?_); intro _ _))
local macro_rules | `(tactic| walk_at "call type:int") => `(tactic| (k_here; (with_reducible show wpAny _ _ (call _ [Value.str (brR _) _, Value.int _ _]) _ _ _); with_unfolding_all refine' my_br_int ?k1 ?k2 ?_; (case k1 => omega); (case k2 => omega); intro _ _))
local macro_rules | `(tactic| k_room) => `(tactic| ((try simp only [depth_mark, depth_under_make, depth_under_kw, depth_in1, depth_deeper, depth_caller]); omega))
local macro_rules | `(tactic| k_units) => `(tactic| ((try simp only [units_in1, units_deeper, Around.mark_units, units_caller]); omega))
theorem pick_make {h₀ : Heap} {L : Addr} {h : Heap} {a b c d e f : Addr × Obj} (N : News h₀ L h [a, b, c, d, e, f]) : News h₀ L h [d, e, a, f] := cb_drop N (fun p hp => by
  simp only [List.mem_cons, List.not_mem_nil, or_false] at hp ⊢
  rcases hp with h | h | h | h <;> simp [h])
local macro_rules | `(tactic| walk_at "my step") => `(tactic| focus first | (k_unfold; (try dsimp only)) | (lge_end; wrow_closeG) | walk1 | (dsimp only; walk1) | (leave1; walk_say "STEP leave1"; try dsimp only) | wrow_closeG | fail "no step")
theorem make_call {w : World} {mean : ExcName → Option Value} {mg mb : Str → Option Value} (dp un : Nat) (gd : Option (List Code)) (cn : Str) (cs : Scope) (a : Addr) (ccd : Value) (cl : List (Str × Addr)) (outer : List Env) (A₀ : Around) (base h₀ : Heap) (L : Addr) (m : Str → Option Value) (s : Shared) (Q E : Value → Shared → Prop)
    (a1 : Addr) (o1 : Obj)
    (B : Below A₀ base outer h₀) (F : Fr h₀ L s.heap m) (X : (hd.heap_39 w.params).In h₀) (N : News h₀ L s.heap [(a1, o1)]) (T : Top vw (looseW vw lw) mean mg mb h₀) (hk : cs.kind = .function)
    (hdp : dp + 8 < recursionLimit) (hu : un + 30 < cLine)
    (hret : ∀ x d z zvs zc n2 k3 k4 k5 k6 t1 t2 t3 h' tk', IntsAre zvs zl → Fr h₀ L h' m → News h₀ L h' [(x, instObj 282 d),
      (d, dictOf [{ hash := PyData.keyHash w.params (Str.ofString "q"), key := Value.str (Str.ofString "q") k3, val := Value.int 3329 t1 }, { hash := PyData.keyHash w.params (Str.ofString "n"), key := Value.str (Str.ofString "n") k4, val := Value.int 256 t2 }, { hash := PyData.keyHash w.params (Str.ofString "ntt_zetas"), key := Value.str (Str.ofString "ntt_zetas") k5, val := Value.ref z }, { hash := PyData.keyHash w.params (Str.ofString "ntt_f"), key := Value.str (Str.ofString "ntt_f") k6, val := Value.int 3303 t3 }] n2),
      (z, listOf zvs.toArray zc), (a1, o1)] → Q (.ref x) { s with heap := h', toks := tk' }) :
    wpAny (model PySem.Challenge.rw_yb0003_01.row.prog w) (ktrTop dp un gd cn cs L a ccd cl outer) (call (.ref 282) []) Q E s := by
  k_with_none
  w_on
  revert X; k_fill; intro X
  obtain ⟨ck, cnames, cg, cco⟩ := cs
  dsimp only at hk
  subst hk
  iterate 130 walk_at "my step"
  rename News _ _ _ _ => nE
  rename Fr _ _ _ _ => fE
  dsimp only at nE fE
  rename IntsAre _ (List.map _ _) => iE
  refine hret _ _ _ _ _ _ _ _ _ _ _ _ _ _ _ ?e1 fE (pick_make nE)
  (case e1 => exact iE)
end Mine
end

/-! LawL -/
section
open PySem PySem.W PySem.Spec PySem.Calls PyProof.Rows
set_option Elab.async false
set_option maxRecDepth 100000
set_option maxHeartbeats 0
namespace Mine
theorem post_true (xs : List Int) : PySem.Challenge.rw_yb0003_01.row.claim.post [ofPy (PyData.list (List.map PyData.int xs))] (WData.bool true) [ofPy (PyData.list (List.map PyData.int xs))] = true := by
  exact postW_of (by wrow_shape) (by wtm_val) (by str_meet; first | done | w_fin)
theorem classed (P : Params) : kb_classed (hd.heap_39 P) = true := by kernel_rfl
theorem all_ok {ns : List Int} (h : ∀ k ∈ ns, 0 ≤ k ∧ k < 3329) : ((List.filter (fun _ => true) ns).all fun k => if 0 ≤ k then decide (k < 3329) else decide (0 ≤ k)) = true := by
  rw [List.all_eq_true]
  intro k hk
  have hk' := h k (List.mem_filter.mp hk).1
  rw [if_pos hk'.1]
  exact decide_eq_true hk'.2
theorem mod_all {c : List Int} (hl : c.length = 256) : ∀ k ∈ modTo 256 c, 0 ≤ k ∧ k < 3329 := by
  intro k hk
  obtain ⟨i, hi, e⟩ := List.getElem_of_mem hk
  have hi' : i < 256 := by rw [modTo_len, hl] at hi; exact hi
  have e2 : (modTo 256 c).getD i 0 = k := by
    rw [List.getD_eq_getElem?_getD, List.getElem?_eq_getElem hi]; exact e
  rw [modTo_at hi'] at e2
  rw [← e2]
  exact ⟨Int.fmod_nonneg_of_pos _ (by decide), Int.fmod_lt_of_pos _ (by decide)⟩
theorem zl_len : zl.length = 128 := by unfold zl; rw [List.length_map, rangeKs_length]; rfl
theorem given_len {f : Int → Int} {v : Int} (h1 : v ≤ 256) : (List.map f (rangeKs 0 (v - 0).toNat)).length ≤ 256 := by
  rw [List.length_map, rangeKs_length]; omega
theorem row_eq {f : Int → Int} {v : Int} (h0 : 0 ≤ v) (h1 : v ≤ 256) : List.map f (rangeKs 0 (v - 0).toNat) ++ (List.replicate (256 - v).toNat [(0 : Int)]).flatten = pad (List.map f (rangeKs 0 (v - 0).toNat)) := by
  unfold pad
  rw [List.length_map, rangeKs_length]
  have e : ∀ n : Nat, (List.replicate n [(0 : Int)]).flatten = List.replicate n 0 := by
    intro n
    induction n with
    | zero => rfl
    | succ n ih => rw [List.replicate_succ, List.flatten_cons, ih]; rfl
  rw [e]
  congr 2
  omega
theorem rowI_of {ws : List Value} {f : Int → Int} {v : Int} {ns9 : List Int} (h : IntsAre ws (List.map f (rangeKs 0 (v - 0).toNat) ++ (List.replicate (256 - v).toNat [(0 : Int)]).flatten)) (h0 : 0 ≤ v) (h1 : v ≤ 256) (e : ns9 = pad (List.map f (rangeKs 0 (v - 0).toNat))) : IntsAre ws ns9 := by
  rw [e, ← row_eq h0 h1]; exact h
theorem place_eq {ns8 ns9 : List Int} {p : Int} (e : ns8 = modTo 256 (layers zl 7 ns9)) (hl : ns9.length = 256) (hp : 0 ≤ p ∧ p < 128) :
    ((res (rr p.toNat) 254 ns9).getD 0 0).fmod 3329 = ns8.getD (2 * p).toNat 0 ∧ ((res (rr p.toNat) 254 ns9).getD 1 0).fmod 3329 = ns8.getD (2 * p + 1).toNat 0 := by
  obtain ⟨h0, h1⟩ := hp
  have e0 : (2 * p).toNat = 2 * p.toNat + 0 := by omega
  have e1 : (2 * p + 1).toNat = 2 * p.toNat + 1 := by omega
  have hp : p.toNat < 128 := by omega
  rw [e, e0, e1, modTo_at (by omega), modTo_at (by omega)]
  exact ⟨(plain_law hl hp (by decide)).symm, (plain_law hl hp (by decide)).symm⟩
theorem pick_rest {h₀ : Heap} {L : Addr} {h : Heap} {a b c d e f g : Addr × Obj} (N : News h₀ L h [a, b, c, d, e, f, g]) : News h₀ L h [f, a, b, c, d, e, g] := cb_drop N (fun p hp => by
  simp only [List.mem_cons, List.not_mem_nil, or_false] at hp ⊢
  rcases hp with h | h | h | h | h | h | h <;> simp [h])
theorem pick_rest1 {h₀ : Heap} {L : Addr} {h : Heap} {a b c d e f g x y : Addr × Obj} (N : News h₀ L h [a, b, x, y, c, d, e, f, g]) : News h₀ L h [f, a, b, c, d, e, g] := cb_drop N (fun p hp => by
  simp only [List.mem_cons, List.not_mem_nil, or_false] at hp ⊢
  rcases hp with h | h | h | h | h | h | h <;> simp [h])
theorem pick_rest2 {h₀ : Heap} {L : Addr} {h : Heap} {r a b c d e f g : Addr × Obj} (N : News h₀ L h [r, f, a, b, c, d, e, g]) : News h₀ L h [r, a, b, c, d, e, f, g] := cb_drop N (fun p hp => by
  simp only [List.mem_cons, List.not_mem_nil, or_false] at hp ⊢
  rcases hp with h | h | h | h | h | h | h | h <;> simp [h])
theorem pick_law {h₀ : Heap} {L : Addr} {h : Heap} {a b c d e f g i j : Addr × Obj} (N : News h₀ L h [a, b, c, d, e, f, g, i, j]) : News h₀ L h [d, f, g, i, a, e] := cb_drop N (fun p hp => by
  simp only [List.mem_cons, List.not_mem_nil, or_false] at hp ⊢
  rcases hp with h | h | h | h | h | h <;> simp [h])
theorem ne_law {g x d z ra pa u v w : Nat} {R : Prop} (o : pa ≠ g ∧ x ≠ g ∧ d ≠ g ∧ z ≠ g ∧ u ≠ g) (l : v < ra ∧ w < ra ∧ g < ra ∧ R) : @Ne Nat g x ∧ @Ne Nat g d ∧ @Ne Nat g z ∧ @Ne Nat g ra ∧ @Ne Nat g pa := by
  obtain ⟨o1, o2, o3, o4, _⟩ := o
  obtain ⟨_, _, l3, _⟩ := l
  exact ⟨by omega, by omega, by omega, by omega, by omega⟩
theorem fin_len {zs ns : List Int} (h : ns.length ≤ 256) : (modTo 256 (layers zs 7 (pad ns))).length = 256 := by
  rw [modTo_len, layers_len, pad_len h]
theorem ints3 {vs : List Value} {f : Int → Int} (h : IntsAre vs (List.map (fun k => (f k).fmod 128) (rangeKs 0 (3 - 0 : Int).toNat))) :
    ∃ p0 p1 p2 t0 t1 t2, (0 ≤ p0 ∧ p0 < 128) ∧ (0 ≤ p1 ∧ p1 < 128) ∧ (0 ≤ p2 ∧ p2 < 128) ∧ vs = [Value.int p0 t0, Value.int p1 t1, Value.int p2 t2] := by
  have b : ∀ x : Int, 0 ≤ x.fmod 128 ∧ x.fmod 128 < 128 := fun x => ⟨Int.fmod_nonneg_of_pos x (by decide), Int.fmod_lt_of_pos x (by decide)⟩
  have h' : IntsAre vs [(f 0).fmod 128, (f 1).fmod 128, (f 2).fmod 128] := h
  clear h
  rcases h' with _ | ⟨_, t0, h1⟩
  rcases h1 with _ | ⟨_, t1, h2⟩
  rcases h2 with _ | ⟨_, t2, h3⟩
  cases h3
  exact ⟨_, _, _, _, _, _, b _, b _, b _, rfl⟩
theorem ints_len {vs : List Value} {ns : List Int} {n : Nat} (h : IntsAre vs ns) (e : ns.length = n) : vs.length = n := h.length.trans e
end Mine
end

/-! W10 -/
section
open PySem PySem.W PySem.Spec PySem.Calls PyProof.Rows
set_option Elab.async false
set_option maxRecDepth 100000
set_option maxHeartbeats 0
namespace Mine
theorem ka1 {k : Int} (h : 0 ≤ k) : 0 ≤ 1 + k := by omega
theorem ka4 {k : Int} (h : 0 ≤ k) : 0 ≤ 4 + k := by omega
theorem kb1 {k : Int} (h : k < 0 + ((3 - 0 : Int).toNat : Int)) : 1 + k ≤ 1000 := by omega
theorem kb4 {k v : Int} (h : k < 0 + ((v - 0 : Int).toNat : Int)) (h0 : 0 ≤ v) (h1 : v ≤ 256) : 4 + k ≤ 1000 := by omega
local macro_rules | `(tactic| walk_at "call builtin:min") => `(tactic| (k_here; (rename Fr _ _ _ _ => F'); (rename News _ _ _ _ => N'); (with_unfolding_all refine' my_min ?k1 F' N' ?_); (case k1 => with_unfolding_all rfl); intro _ _ _ _ _ _ _ _))
local macro_rules | `(tactic| k_extra "room") => `(tactic| ((try simp only [depth_mark, depth_under_make, depth_under_kw, depth_in1, depth_deeper, depth_caller]); first | decide | omega))
local macro_rules | `(tactic| k_extra "units") => `(tactic| ((have hcL9 := cLine_is); (try simp only [units_in1, units_deeper, Around.mark_units, units_caller]); first | decide | omega))
local macro_rules | `(tactic| walk_at "call ref") => `(tactic| (k_here; k_dflt (refine' draw_call _ _ _ _ _ _ _ _ _ _ _ _ _ _ _ _ _ _ _ _ _ _ _ ?k1 ?k2 ?k3 ?k4 ?k5 ?k6 ?k7 ?k8 ?k9 ?ka ?kb ?kc ?kd ?_); (case k1 => k_asm); (case k2 => k_asm); (case k3 => k_asm); (case k4 => k_asm); (case k5 => k_asm); (case k6 => first | exact rfl | assumption); (case k7 => k_asm); (case k8 => l_ints); (case k9 => l_fit); (case ka => first | decide | exact ka1 (by with_reducible assumption) | exact ka4 (by with_reducible assumption) | omega); (case kb => first | decide | exact kb1 (by with_reducible assumption) | exact kb4 (by with_reducible assumption) (by with_reducible assumption) (by with_reducible assumption) | omega); (case kc => k_extra "room"); (case kd => k_extra "units"); intro t9 h9 tk9 F9 N9; (try dsimp only); (try k_fold)))
local macro_rules | `(tactic| walk_at "call ref") => `(tactic| (k_here; k_dflt (refine' make_call _ _ _ _ _ _ _ _ _ _ _ _ _ _ _ _ _ _ _ ?k1 ?k2 ?k3 ?k4 ?k5 ?k6 ?kc ?kd ?_); (case k1 => k_asm); (case k2 => k_asm); (case k3 => k_asm); (case k4 => k_asm); (case k5 => k_asm); (case k6 => first | exact rfl | assumption); (case kc => k_extra "room"); (case kd => k_extra "units"); intro x9 d9 z9 zvs9 zc9 n29 k39 k49 k59 k69 t19 t29 t39 h9 tk9 zI9 F9 N9; (try dsimp only); (try k_fold)))
local macro_rules | `(tactic| walk_at "my step") => `(tactic| focus first | (k_unfold; (try dsimp only)) | (lge_end; wrow_closeG) | walk1 | (dsimp only; walk1) | (leave1; walk_say "STEP leave1"; try dsimp only) | wrow_closeG | fail "no step")
theorem walkT : PropOf hd := by
  k_with_none
  delta PropOf
  k_with "tree" => simp only [draw]
  w_on
  lgec_go0
  (all_goals try k_fold)
  iterate 126 walk_at "my step"
  with_reducible rename News _ _ _ _ => nR
  with_reducible rename IntsAre _ (_ ++ _) => rowI
  with_reducible rename IntsAre _ (List.map (fun k' => draw _ (4 + k')) _) => givI
  with_reducible rename IntsAre _ (List.map (fun k' => (draw _ (1 + k')).fmod 128) _) => plaI
  (k_here; k_dflt (refine' ring_call _ _ _ _ _ _ _ _ _ _ _ _ _ _ _ _ _ _ _ _ _ _ _ _ _ _ _ _ _ _ _ _ _ _ _ _ _ _ _ _ _ ?k1 ?k2 ?k3 (pick_law nR) ?k5 ?k6 ?k7 ?k8 ?kc ?kd ?ke ?_))
  (case k1 => k_asm)
  (case k2 => k_asm)
  (case k3 => k_asm)
  (case k5 => k_asm)
  (case k6 => first | exact rfl | assumption)
  (case k7 => exact givI)
  (case k8 => exact given_len (by with_reducible assumption))
  (case kc => k_extra "room")
  (case kd => k_extra "units")
  (case ke => exact ne_law (by with_reducible assumption) (by with_reducible assumption))
  (intro f9 fd9 c9 cvs9 ns9 cc9 n19 k19 k29 h9 tk9 cI9 ce9 cne9 F9 N9)
  (try dsimp only)
  (try k_fold)
  iterate 3 walk_at "my step"
  (k_here; k_dflt (refine' ntt_call _ _ _ _ _ _ _ _ _ _ _ _ _ _ _ _ _ _ _ _ _ _ _ _ _ _ _ _ _ _ _ _ _ _ _ _ _ _ _ _ _ _ _ _ _ _ _ ?k1 ?k2 ?k3 N9 ?k5 ?k6 cne9 cI9 ?k8 ?k9 zl_len (fun i h => zl_bound h) ?kc ?kd ?_))
  (case k1 => k_asm)
  (case k2 => k_asm)
  (case k3 => k_asm)
  (case k5 => k_asm)
  (case k6 => first | exact rfl | assumption)
  (case k8 => (rw [ce9]; exact pad_len (given_len (by with_reducible assumption))))
  (case k9 => k_asm)
  (case kc => k_extra "room")
  (case kd => k_extra "units")
  (intro f8 fd8 cvs8 ns8 cc8 n18 k18 k28 h8 tk8 cI8 ce8 F8 N8)
  (try dsimp only)
  (try k_fold)
  have len8 : ns8.length = 256 := by rw [ce8, ce9]; exact fin_len (given_len (by with_reducible assumption))
  have vlen8 : cvs8.length = 256 := ints_len cI8 len8
  have hall8 : ∀ k ∈ ns8, 0 ≤ k ∧ k < 3329 := by rw [ce8]; exact mod_all (by rw [layers_len, ce9]; exact pad_len (given_len (by with_reducible assumption)))
  have len9 : ns9.length = 256 := by rw [ce9]; exact pad_len (given_len (by with_reducible assumption))
  have rowI9 := rowI_of rowI (by with_reducible assumption) (by with_reducible assumption) ce9
  obtain ⟨p0, p1, p2, pt0, pt1, pt2, hp0, hp1, hp2, ep⟩ := ints3 plaI
  subst ep
  clear cne9
  repeat (with_reducible rename (_ ≠ _ ∧ _) => hz; clear hz)
  repeat (with_reducible rename ((_ ≠ _ ∧ _) ∧ _) => hz; clear hz)
  repeat (with_reducible rename (@LT.lt Nat _ _ _ ∧ _) => hz; clear hz)
  repeat (with_reducible rename (@LT.lt Addr _ _ _ ∧ _) => hz; clear hz)
  iterate 34 walk_at "my step"
  (with_reducible rename ¬ (_ = _) => hq; exact absurd (by rw [len8]; decide) hq)
  iterate 36 walk_at "my step"
  iterate 4 walk_at "my step"
  (with_reducible rename Frag.In _ _ => kx9; have lgeK9 := LGeL.in_regrown (by with_reducible assumption) kx9 (topRead_of (by with_reducible assumption)) (by with_reducible assumption) (classed _))
  rotate_left
  (with_reducible rename _ = false => hq; exact absurd ((all_ok hall8).symm.trans hq) (by decide))
  iterate 44 walk_at "my step"
  with_reducible rename News _ _ _ _ => nR
  k_dflt (refine' rest_call _ _ _ _ _ _ _ _ _ _ _ _ _ _ _ _ _ _ _ _ _ _ _ _ _ _ _ _ _ _ _ _ _ _ _ ?k1 ?k2 ?k3 (pick_rest nR) ?k5 ?k6 rowI9 len9 ?k8 ?k9 ?kc ?kd ?_)
  (case k1 => k_asm)
  (case k2 => k_asm)
  (case k3 => k_asm)
  (case k5 => k_asm)
  (case k6 => first | exact rfl | assumption)
  (case k8 => exact And.left (by with_reducible assumption))
  (case k9 => exact And.right (by with_reducible assumption))
  (case kc => k_extra "room")
  (case kd => k_extra "units")
  intro D7 t7 u7 cc7 h7 tk7 F7 N7
  rw [(place_eq ce8 len9 (by with_reducible assumption)).1, (place_eq ce8 len9 (by with_reducible assumption)).2] at N7
  replace N7 := pick_rest2 N7
  (try dsimp only)
  (try k_fold)
  iterate 46 walk_at "my step"
  with_reducible rename News _ _ _ _ => nR
  k_dflt (refine' rest_call _ _ _ _ _ _ _ _ _ _ _ _ _ _ _ _ _ _ _ _ _ _ _ _ _ _ _ _ _ _ _ _ _ _ _ ?k1 ?k2 ?k3 (pick_rest1 nR) ?k5 ?k6 rowI9 len9 ?k8 ?k9 ?kc ?kd ?_)
  (case k1 => k_asm)
  (case k2 => k_asm)
  (case k3 => k_asm)
  (case k5 => k_asm)
  (case k6 => first | exact rfl | assumption)
  (case k8 => exact And.left (by with_reducible assumption))
  (case k9 => exact And.right (by with_reducible assumption))
  (case kc => k_extra "room")
  (case kd => k_extra "units")
  intro D7 t7 u7 cc7 h7 tk7 F7 N7
  rw [(place_eq ce8 len9 (by with_reducible assumption)).1, (place_eq ce8 len9 (by with_reducible assumption)).2] at N7
  replace N7 := pick_rest2 N7
  (try dsimp only)
  (try k_fold)
  iterate 46 walk_at "my step"
  with_reducible rename News _ _ _ _ => nR
  k_dflt (refine' rest_call _ _ _ _ _ _ _ _ _ _ _ _ _ _ _ _ _ _ _ _ _ _ _ _ _ _ _ _ _ _ _ _ _ _ _ ?k1 ?k2 ?k3 (pick_rest1 nR) ?k5 ?k6 rowI9 len9 ?k8 ?k9 ?kc ?kd ?_)
  (case k1 => k_asm)
  (case k2 => k_asm)
  (case k3 => k_asm)
  (case k5 => k_asm)
  (case k6 => first | exact rfl | assumption)
  (case k8 => exact And.left (by with_reducible assumption))
  (case k9 => exact And.right (by with_reducible assumption))
  (case kc => k_extra "room")
  (case kd => k_extra "units")
  intro D7 t7 u7 cc7 h7 tk7 F7 N7
  rw [(place_eq ce8 len9 (by with_reducible assumption)).1, (place_eq ce8 len9 (by with_reducible assumption)).2] at N7
  replace N7 := pick_rest2 N7
  (try dsimp only)
  (try k_fold)
  iterate 11 walk_at "my step"
  dsimp only
  refine' goodWG_reads ?e1 ?e2 ?e3 ?e4 ?e5 ?e6 ?e7 ?e10
  (case e2 => with_reducible assumption)
  (case e1 => with_reducible assumption)
  (case e3 => with_reducible assumption)
  (case e5 => exact ReadsW.bool _)
  (case e4 => exact raisesW_false (by wrow_none_raised))
  (case e6 => exact unshared_nil)
  (case e7 => exact post_true _)
  (case e10 => row_os)
end Mine
end

set_option maxRecDepth 100000 in
set_option maxHeartbeats 8000000 in
theorem PySem.Challenge.cw_yb0003_01_holds : PySem.Challenge.rw_yb0003_01.Holds :=
  Mine.hd Mine.walkT
